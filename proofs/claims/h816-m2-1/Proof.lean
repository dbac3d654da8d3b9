import JvmDerived
import JvmDerived.Pilot.@@N@@Statement
import JvmDerived.Pilot.@@N@@Code
set_option linter.unusedVariables false
set_option linter.unusedSimpArgs false
@@BLOCK:NumsL.lean.txt@@
namespace Jvm.Pilot.@@N@@
open Jvm Jvm.ClassFile Sem Op Lib Jvm.Free Jvm.Stand Jvm.LawKit Jvm.RoadKit Bundle Jvm.Pilot.@@N@@.Jvm.D
/-- from the state W the run comes to an end of which K holds -/
abbrev own_Gl (p : Program) (e : Env) (below : List Frame) (K : Outcome → State → Prop) (W : State) : Prop := ∃ s₂ o, Steps p.tables e below W s₂ ∧ s₂.status = .running ∧ Ended s₂ below o ∧ K o s₂
theorem own_by {p : Program} {e : Env} {below : List Frame} {K : Outcome → State → Prop} {W W' : State} (st : ∀ t, Steps p.tables e below W' t → Steps p.tables e below W t) (h : own_Gl p e below K W') : own_Gl p e below K W := by
  obtain ⟨s₂, o, h1, h2⟩ := h; exact ⟨s₂, o, st _ h1, h2⟩
theorem own_tr {p : Program} {e : Env} {below : List Frame} {K : Outcome → State → Prop} {W W' : State} (st : Steps p.tables e below W W') (h : own_Gl p e below K W') : own_Gl p e below K W := own_by (fun _ k => st.trans k) h
theorem own_w {Z : State} {a0 : Array Value} (hw : ∀ d ∈ tables_1, d.before a0 Z = true) (i : Nat) {d : Jvm.Cond} (h : tables_1[i]? = some d := by rfl) : d.before a0 Z = true := hw _ (List.mem_of_getElem? h)
theorem own_cat1 {v : Value} (h : v.isRef = true) : v.category = 1 := by cases v <;> first | rfl | cases h
theorem own_le {Z : State} {n0 : Nat} {h : Heap} (O : Old Z n0 h) : n0 ≤ h.size := O.1 ▸ O.2.1
theorem own_lclt {x y : Int64} (h : x < y) : ifCond.holds .lt (lcmpW x y) = true ∧ ifCond.holds .ge (lcmpW x y) = false := by
  have h1 : ¬ x > y := fun q => by rw [Int64.lt_iff_toInt_lt] at h; have q' : y < x := q; rw [Int64.lt_iff_toInt_lt] at q'; omega
  have h2 : ¬ x = y := fun q => by subst q; rw [Int64.lt_iff_toInt_lt] at h; omega
  rw [lcmpW, if_neg h1, if_neg h2]; exact ⟨by decide, by decide⟩
theorem own_lcnlt {x y : Int64} (h : ¬ x < y) : ifCond.holds .lt (lcmpW x y) = false ∧ ifCond.holds .ge (lcmpW x y) = true := by
  by_cases h1 : x > y
  · rw [lcmpW, if_pos h1]; exact ⟨by decide, by decide⟩
  · have h2 : x = y := by
      have q1 : ¬ y < x := h1
      rw [Int64.lt_iff_toInt_lt] at h q1; exact Int64.toInt_inj.mp (by omega)
    rw [lcmpW, if_neg h1, if_pos h2]; exact ⟨by decide, by decide⟩
theorem own_lcgt {x y : Int64} (h : y < x) : ifCond.holds .gt (lcmpW x y) = true ∧ ifCond.holds .le (lcmpW x y) = false := by
  have h1 : x > y := h
  rw [lcmpW, if_pos h1]; exact ⟨by decide, by decide⟩
theorem own_lcngt {x y : Int64} (h : ¬ y < x) : ifCond.holds .gt (lcmpW x y) = false ∧ ifCond.holds .le (lcmpW x y) = true := by
  have h1 : ¬ x > y := h
  rw [lcmpW, if_neg h1]
  by_cases h2 : x = y
  · rw [if_pos h2]; exact ⟨by decide, by decide⟩
  · rw [if_neg h2]; exact ⟨by decide, by decide⟩
theorem own_lceq {x y : Int64} (h : x = y) : ifCond.holds .eq (lcmpW x y) = true ∧ ifCond.holds .ne (lcmpW x y) = false := by
  subst h
  have h1 : ¬ x > x := fun q => by have q' : x < x := q; rw [Int64.lt_iff_toInt_lt] at q'; omega
  rw [lcmpW, if_neg h1, if_pos rfl]; exact ⟨by decide, by decide⟩
theorem own_lcne {x y : Int64} (h : ¬ x = y) : ifCond.holds .eq (lcmpW x y) = false ∧ ifCond.holds .ne (lcmpW x y) = true := by
  by_cases h1 : x > y
  · rw [lcmpW, if_pos h1]; exact ⟨by decide, by decide⟩
  · rw [lcmpW, if_neg h1, if_neg h]; exact ⟨by decide, by decide⟩
theorem own_sta {Z : State} {args : Array Value} {C n d K : String} (h : (Jvm.Cond.exactly (Jvm.Term.static C n d) K).value args Z none Z [] = some true) (hi : (Jvm.Cond.initializedFor C n d).before args Z = true ∨ ((Jvm.Cond.initialized C).before args Z = true ∧ (Jvm.Cond.laysStatic C n d).before args Z = true)) :
    ∃ a, (Jvm.Term.static C n d).eval args Z none [] Z = some (.ref a) ∧ Sta Z Z.heap C n d (.ref a) ∧ Exa Z Z.heap a K := by
  obtain ⟨a, ev⟩ := exa_v h
  exact ⟨a, ev, Sta.start ev hi, Exa.start ev h⟩
theorem own_fldI {Z : State} {args : Array Value} {t : Jvm.Term} {a : Addr} {C n d : String} {k : Int32} (ev : t.eval args Z none [] Z = some (.ref a)) (h : (Jvm.Cond.eq (Jvm.Term.field t C n d) (Jvm.Term.int k)).value args Z none Z [] = some true) : Fld Z Z.heap a C n d (.int k) := by
  obtain ⟨x, y, hx, hy, -, -⟩ := cmp_v (Or.inl h)
  cases Option.some.inj ((Term.int_eval k).symm.trans hy)
  refine Fld.start ?_
  rw [← fld_at ev, hx]
  cases x <;> simp_all [Cond.value, Term.eval]
theorem own_fldJ {Z : State} {args : Array Value} {t : Jvm.Term} {a : Addr} {C n d : String} {k : Int64} (ev : t.eval args Z none [] Z = some (.ref a)) (h : (Jvm.Cond.eq (Jvm.Term.field t C n d) (Jvm.Term.long k)).value args Z none Z [] = some true) : Fld Z Z.heap a C n d (.long k) := by
  obtain ⟨x, y, hx, hy, -, -⟩ := cmp_v (Or.inl h)
  have hy' : (Jvm.Term.long k).eval args Z none [] Z = some (.long k) := by simp [Term.eval]
  cases Option.some.inj (hy'.symm.trans hy)
  refine Fld.start ?_
  rw [← fld_at ev, hx]
  cases x <;> simp_all [Cond.value, Term.eval]
theorem own_len {Z : State} {args : Array Value} {t : Jvm.Term} {a : Addr} {cl : Cell} {ty : FieldType} {n : Int32} (ev : t.eval args Z none [] Z = some (.ref a)) (A : Arr Z Z.heap a cl ty) (h : (Jvm.Cond.eq (Jvm.Term.length t) (Jvm.Term.int n)).value args Z none Z [] = some true) : cl.slots.size < 2 ^ 31 ∧ cl.slots.size.toInt32 = n := by
  have ha : Z.arrayAt? a = some cl := Arr.fin (U := Z) (Vm.Alike.refl _) A
  by_cases hq : cl.slots.size < 2 ^ 31
  · refine ⟨hq, ?_⟩
    have e1 := len_f (args := args) (first := Z) (o := none) (idx := []) ev ha hq
    simpa [Cond.value, e1, Term.int_eval] using h
  · exfalso
    obtain ⟨x, y, hx, -⟩ := cmp_v (Or.inl h)
    simp [Term.eval, ev, ha] at hx
    omega
theorem own_elem {Z : State} {args : Array Value} {t u : Jvm.Term} {a w : Addr} {cl : Cell} {ty : FieldType} {j : Int32} (ev : t.eval args Z none [] Z = some (.ref a)) (A : Arr Z Z.heap a cl ty) (evu : u.eval args Z none [] Z = some (.ref w)) (h : (Jvm.Cond.eq (Jvm.Term.elem t (Jvm.Term.int j)) u).value args Z none Z [] = some true) : cl.slots[j.toNatClampNeg]? = some (.ref w) := by
  obtain ⟨x, y, hx, hy, k1, k2⟩ := cmp_v (Or.inl h)
  cases Option.some.inj (evu.symm.trans hy)
  have q := (elem_in hx ev (Term.int_eval j) A.1).2
  rw [q]
  cases x <;> simp [Cond.value, hx, evu] at h ⊢
  exact h
/-- a String whose bytes are told (Latin-1) -/
def own_St (Z : State) (h : Heap) (a : Addr) (n : Int32) (bs : List Value) : Prop := Exa Z h a "java/lang/String" ∧ Fld Z h a "java/lang/String" "coder" "B" (.int (0 : Int32)) ∧ ∃ (b : Addr) (k : ClassId), Fld Z h a "java/lang/String" "value" "[B" (.ref b) ∧ Arv Z h b k .byte n bs (.int (0 : Int32))
theorem own_St.ext {Z : State} {h h' : Heap} {a : Addr} {n : Int32} {bs : List Value} (F : own_St Z h a n bs) (E : Ext h h') : own_St Z h' a n bs := by
  obtain ⟨h1, h2, b, k, h3, h4⟩ := F
  exact ⟨h1.ext E, h2.ext E, b, k, h3.ext E, h4.ext E⟩
theorem own_St.keep0 {Z : State} {h h' : Heap} {a : Addr} {n : Int32} {bs : List Value} (F : own_St Z h a n bs) (K : Keep h h' []) : own_St Z h' a n bs := by
  obtain ⟨h1, h2, b, k, h3, h4⟩ := F
  exact ⟨h1.keep K, h2.keep K nin0, b, k, h3.keep K nin0, h4.keep K nin0⟩
theorem own_St.keep1 {Z : State} {h h' : Heap} {a u : Addr} {n : Int32} {bs : List Value} {a0 : Array Value} {U : String} {k0 : Nat} (F : own_St Z h a n bs) (K : Keep h h' [u]) (E : Exa Z h u U) (wi : (Jvm.Cond.instantiable U k0).before a0 Z = true) (hn : "java/lang/String" ≠ U) : own_St Z h' a n bs := by
  obtain ⟨h1, h2, b, k, h3, h4⟩ := F
  have n1 : a ≠ u := ne_exa h1 E hn
  have n2 : b ≠ u := by
    obtain ⟨cl, A, -⟩ := id h4
    exact (ne_arr E wi A).symm
  exact ⟨h1.keep K, h2.keep K (ninS n1 nin0), b, k, h3.keep K (ninS n1 nin0), h4.keep K (ninS n2 nin0)⟩
theorem own_fldeq {Z : State} {h : Heap} {a : Addr} {C n d : String} {v w : Value} (F : Fld Z h a C n d v) (G : Fld Z h a C n d w) : v = w := by
  obtain ⟨c1, cf, k, i, f, h1, h2, -, -, -, -, h7⟩ := F
  obtain ⟨c2, cf', k', i', f', g1, g2, -, -, -, -, g7⟩ := G
  cases h1.symm.trans g1
  cases h2.symm.trans g2
  exact Option.some.inj (h7.symm.trans g7)
theorem own_arveq {Z : State} {h : Heap} {b : Addr} {k k' : ClassId} {n n' : Int32} {bs bs' : List Value} {d : Value} (F : Arv Z h b k .byte n bs d) (G : Arv Z h b k' .byte n' bs' d) (hl : n.toNatClampNeg = bs.length) (hl' : n'.toNatClampNeg = bs'.length) : bs = bs' := by
  obtain ⟨cl, A, -, S, -, H, -⟩ := F
  obtain ⟨cl', A', -, S', -, H', -⟩ := G
  cases A.1.symm.trans A'.1
  have el : bs.length = bs'.length := by rw [← hl, ← hl', ← S, ← S']
  apply List.ext_getElem el
  intro i h1 h2
  have e1 := H i (by rw [S, hl]; exact h1)
  have e2 := H' i (by rw [S', hl']; exact h2)
  have e := Option.some.inj (e1.symm.trans e2)
  simpa [List.getD_eq_getElem?_getD, h1, h2] using e
theorem own_St.inj {Z : State} {h : Heap} {a : Addr} {n n' : Int32} {bs bs' : List Value} (F : own_St Z h a n bs) (G : own_St Z h a n' bs') (hl : n.toNatClampNeg = bs.length) (hl' : n'.toNatClampNeg = bs'.length) : bs = bs' := by
  obtain ⟨-, -, b, k, h3, h4⟩ := F
  obtain ⟨-, -, b', k', g3, g4⟩ := G
  cases own_fldeq h3 g3
  exact own_arveq h4 g4 hl hl'
theorem own_St.len {Z : State} {h : Heap} {a : Addr} {n n' : Int32} {bs bs' : List Value} (F : own_St Z h a n bs) (G : own_St Z h a n' bs') : n = n' := by
  obtain ⟨-, -, b, k, h3, cl, A, -, S, hn, -⟩ := F
  obtain ⟨-, -, b', k', g3, cl', A', -, S', hn', -⟩ := G
  cases own_fldeq h3 g3
  cases A.1.symm.trans A'.1
  apply Int32.toInt_inj.mp
  rw [nat_of hn, nat_of hn', ← S, ← S']

def own_Wd (Z : State) (wBOOLEAN : Addr) (wINTEGER : Addr) (wBITS : Addr) (wOCTETS : Addr) (wNULL : Addr) (wOBJECT_IDENTIFIER : Addr) (wTEXT : Addr) (wCOMPONENTS : Addr) (wELEMENTS : Addr) (wCHOICE : Addr) (wELEMENT : Addr) (cs : Int32) (wD : Addr) (kD : ClassId) (wC : Addr) (clC : Cell) : Prop := Sta Z Z.heap "com/example/tagwright/tagwright/typed/Form" "BOOLEAN" "Lcom/example/tagwright/tagwright/typed/Form;" (.ref wBOOLEAN) ∧ Exa Z Z.heap wBOOLEAN "com/example/tagwright/tagwright/typed/Form" ∧ Fld Z Z.heap wBOOLEAN "java/lang/Enum" "ordinal" "I" (.int (0 : Int32)) ∧ Sta Z Z.heap "com/example/tagwright/tagwright/typed/Form" "INTEGER" "Lcom/example/tagwright/tagwright/typed/Form;" (.ref wINTEGER) ∧ Exa Z Z.heap wINTEGER "com/example/tagwright/tagwright/typed/Form" ∧ Fld Z Z.heap wINTEGER "java/lang/Enum" "ordinal" "I" (.int (1 : Int32)) ∧ Sta Z Z.heap "com/example/tagwright/tagwright/typed/Form" "BITS" "Lcom/example/tagwright/tagwright/typed/Form;" (.ref wBITS) ∧ Exa Z Z.heap wBITS "com/example/tagwright/tagwright/typed/Form" ∧ Fld Z Z.heap wBITS "java/lang/Enum" "ordinal" "I" (.int (2 : Int32)) ∧ Sta Z Z.heap "com/example/tagwright/tagwright/typed/Form" "OCTETS" "Lcom/example/tagwright/tagwright/typed/Form;" (.ref wOCTETS) ∧ Exa Z Z.heap wOCTETS "com/example/tagwright/tagwright/typed/Form" ∧ Fld Z Z.heap wOCTETS "java/lang/Enum" "ordinal" "I" (.int (3 : Int32)) ∧ Sta Z Z.heap "com/example/tagwright/tagwright/typed/Form" "NULL" "Lcom/example/tagwright/tagwright/typed/Form;" (.ref wNULL) ∧ Exa Z Z.heap wNULL "com/example/tagwright/tagwright/typed/Form" ∧ Fld Z Z.heap wNULL "java/lang/Enum" "ordinal" "I" (.int (4 : Int32)) ∧ Sta Z Z.heap "com/example/tagwright/tagwright/typed/Form" "OBJECT_IDENTIFIER" "Lcom/example/tagwright/tagwright/typed/Form;" (.ref wOBJECT_IDENTIFIER) ∧ Exa Z Z.heap wOBJECT_IDENTIFIER "com/example/tagwright/tagwright/typed/Form" ∧ Fld Z Z.heap wOBJECT_IDENTIFIER "java/lang/Enum" "ordinal" "I" (.int (5 : Int32)) ∧ Sta Z Z.heap "com/example/tagwright/tagwright/typed/Form" "TEXT" "Lcom/example/tagwright/tagwright/typed/Form;" (.ref wTEXT) ∧ Exa Z Z.heap wTEXT "com/example/tagwright/tagwright/typed/Form" ∧ Fld Z Z.heap wTEXT "java/lang/Enum" "ordinal" "I" (.int (6 : Int32)) ∧ Sta Z Z.heap "com/example/tagwright/tagwright/typed/Form" "COMPONENTS" "Lcom/example/tagwright/tagwright/typed/Form;" (.ref wCOMPONENTS) ∧ Exa Z Z.heap wCOMPONENTS "com/example/tagwright/tagwright/typed/Form" ∧ Fld Z Z.heap wCOMPONENTS "java/lang/Enum" "ordinal" "I" (.int (7 : Int32)) ∧ Sta Z Z.heap "com/example/tagwright/tagwright/typed/Form" "ELEMENTS" "Lcom/example/tagwright/tagwright/typed/Form;" (.ref wELEMENTS) ∧ Exa Z Z.heap wELEMENTS "com/example/tagwright/tagwright/typed/Form" ∧ Fld Z Z.heap wELEMENTS "java/lang/Enum" "ordinal" "I" (.int (8 : Int32)) ∧ Sta Z Z.heap "com/example/tagwright/tagwright/typed/Form" "CHOICE" "Lcom/example/tagwright/tagwright/typed/Form;" (.ref wCHOICE) ∧ Exa Z Z.heap wCHOICE "com/example/tagwright/tagwright/typed/Form" ∧ Fld Z Z.heap wCHOICE "java/lang/Enum" "ordinal" "I" (.int (9 : Int32)) ∧ Sta Z Z.heap "com/example/tagwright/tagwright/typed/Form" "ELEMENT" "Lcom/example/tagwright/tagwright/typed/Form;" (.ref wELEMENT) ∧ Exa Z Z.heap wELEMENT "com/example/tagwright/tagwright/typed/Form" ∧ Fld Z Z.heap wELEMENT "java/lang/Enum" "ordinal" "I" (.int (10 : Int32)) ∧ Sta Z Z.heap "java/lang/String" "COMPACT_STRINGS" "Z" (.int cs) ∧ ¬ cs = (0 : Int32) ∧ Sta Z Z.heap "java/util/ArrayList" "DEFAULTCAPACITY_EMPTY_ELEMENTDATA" "[Ljava/lang/Object;" (.ref wD) ∧ Exa Z Z.heap wD "[Ljava/lang/Object;" ∧ Arv Z Z.heap wD kD (.object "java/lang/Object") (0 : Int32) [] .null ∧ Sta Z Z.heap "java/lang/Integer$IntegerCache" "high" "I" (.int (127 : Int32)) ∧ Sta Z Z.heap "java/lang/Integer$IntegerCache" "cache" "[Ljava/lang/Integer;" (.ref wC) ∧ Bxs Z wC clC "java/lang/Integer" "I" (256 : Int32) (fun j => .int (j - 128))
theorem own_wS {Z : State} {a0 : Array Value} (hw : ∀ d ∈ tables_1, d.before a0 Z = true) : ∀ a ∈ Bundle.stringAtoms, a.before a0 Z = true := by
  intro d hd
  simp only [Bundle.stringAtoms, List.mem_cons, List.not_mem_nil, or_false] at hd
  rcases hd with rfl | rfl | rfl | rfl | rfl | rfl | rfl
  · exact own_w hw 178
  · exact own_w hw 177
  · exact own_w hw 139
  · exact own_w hw 202
  · exact own_w hw 200
  · exact own_w hw 234
  · exact own_w hw 235
theorem own_EW {Z : State} {a0 : Array Value} (hw : ∀ d ∈ tables_1, d.before a0 Z = true) : EW Z a0 consts_1 := (EW.cons (own_w hw 233) (by decide +kernel) EW.nil)
theorem own_cw {s : State} {args : Array Value} (hsets : ∀ d ∈ jdkStatics_1, d.before args s = true) : Jvm.Lit.compactW.before args s = true := hsets _ (List.mem_of_getElem? (i := 19) rfl)
theorem own_and3 (p : Int32) : (p &&& 3) = (0 : Int32) ∨ (p &&& 3) = (1 : Int32) ∨ (p &&& 3) = (2 : Int32) ∨ (p &&& 3) = (3 : Int32) := by
  have e : (p &&& 3).toInt = p.toInt % 2 ^ 2 := Jvm.Kit.i32_mask p 3 (k := 2) (by decide) (by decide)
  have : (p &&& 3).toInt = 0 ∨ (p &&& 3).toInt = 1 ∨ (p &&& 3).toInt = 2 ∨ (p &&& 3).toInt = 3 := by omega
  rcases this with h | h | h | h
  · exact Or.inl (Int32.toInt_inj.mp h)
  · exact Or.inr (Or.inl (Int32.toInt_inj.mp h))
  · exact Or.inr (Or.inr (Or.inl (Int32.toInt_inj.mp h)))
  · exact Or.inr (Or.inr (Or.inr (Int32.toInt_inj.mp h)))
theorem own_and7 {p u : Int32} (h : (p &&& (7 : Int32)) = u) : ¬ u < (0 : Int32) ∧ ¬ (7 : Int32) < u := by
  subst h
  have e : (p &&& (7 : Int32)).toInt = p.toInt % 2 ^ 3 := Jvm.Kit.i32_mask p 7 (k := 3) (by decide) (by decide)
  have e7 : (7 : Int32).toInt = 7 := rfl
  have e0 : (0 : Int32).toInt = 0 := rfl
  constructor
  · rw [Int32.lt_iff_toInt_lt, e, e0]; omega
  · rw [Int32.lt_iff_toInt_lt, e, e7]; omega
theorem own_irr (x : Int32) : ¬ x < x := fun q => by rw [Int32.lt_iff_toInt_lt] at q; omega
theorem own_shr0 (z : Int32) : (z >>> ((0 : Int32) &&& 31)) = z := by
  rw [show ((0 : Int32) &&& 31) = 0 from rfl]; exact Int32.shiftRight_zero
theorem own_idxI {x : Int32} (h : ¬ x < (-128 : Int32)) (h2 : ¬ (127 : Int32) < x) : ¬ ((x + (128 : Int32)) < 0 ∨ (256 : Int32).toNatClampNeg ≤ (x + (128 : Int32)).toNatClampNeg) := by
  rw [Int32.lt_iff_toInt_lt] at h h2
  have e1 : (127 : Int32).toInt = 127 := rfl
  have e2 : (-128 : Int32).toInt = -128 := rfl
  have e3 : (128 : Int32).toInt = 128 := rfl
  have u : (x + (128 : Int32)).toInt = x.toInt + 128 := by rw [Jvm.Kit.i32_add (by omega) (by omega), e3]
  have e4 : (256 : Int32).toNatClampNeg = 256 := rfl
  intro q
  rcases q with q | q
  · rw [Int32.lt_iff_toInt_lt, u] at q
    have e5 : (0 : Int32).toInt = 0 := rfl
    omega
  · rw [e4] at q
    have : ((x + (128 : Int32)).toNatClampNeg : Int) = (x + (128 : Int32)).toInt.toNat := rfl
    omega
theorem own_bxs {Z : State} {args : Array Value} {a : Addr} {c : Cell} {C n d K : String} (ev : (Jvm.Term.static C n d).eval args Z none [] Z = some (.ref a)) (A : Arr Z Z.heap a c (.object K)) (q : c.slots.size < 2 ^ 31) (e : c.slots.size.toInt32 = (256 : Int32))
    (h : (Jvm.Cond.all (Jvm.Term.static C n d) (Jvm.Cond.and (Jvm.Cond.exactly (Jvm.Term.elem (Jvm.Term.static C n d) (Jvm.Term.index 0)) K) (Jvm.Cond.eq (Jvm.Term.field (Jvm.Term.elem (Jvm.Term.static C n d) (Jvm.Term.index 0)) K "value" "I") (Jvm.Term.sub (Jvm.Term.index 0) (Jvm.Term.int (128 : Int32)))))).value args Z none Z [] = some true) :
    Bxs Z a c K "I" (256 : Int32) (fun j => .int (j - 128)) := by
  refine Bxs.start (fun idx => ?_) A q e (by decide) h (fun X j nn hX => eqv_i ?_ hX)
  · simpa [Term.eval] using ev
  · have := idx_at (args := args) (s := Z) (first := Z) (o := none) nn
    simp [Term.eval] at this ⊢
    simp [this]
theorem own_staI {Z : State} {args : Array Value} {C n d : String} {k : Int32} (h : (Jvm.Cond.eq (Jvm.Term.static C n d) (Jvm.Term.int k)).value args Z none Z [] = some true) (hi : (Jvm.Cond.initializedFor C n d).before args Z = true) : Sta Z Z.heap C n d (.int k) := Sta.start (eqv_i (Term.int_eval k) h) (Or.inl hi)
/-- a char of 0 to 255 -/
def own_ch (c : Int32) : Prop := nar .char c = c ∧ ¬ (255 : Int32) < c
theorem own_ch256 : ∀ n : Fin 256, own_ch ((Int32.ofNat n.val).toUInt32.toUInt16.toUInt32.toInt32) := by
  unfold own_ch; decide +kernel
theorem own_ch_of {y : Int32} {c : Int32} (h : ((y &&& (255 : Int32)).toUInt32.toUInt16.toUInt32.toInt32) = c) : own_ch c := by
  subst h
  have e : (y &&& (255 : Int32)).toInt = y.toInt % 2 ^ 8 := Jvm.Kit.i32_mask y 255 (k := 8) (by decide) (by decide)
  obtain ⟨n, hn⟩ : ∃ n : Fin 256, (y &&& (255 : Int32)) = Int32.ofNat n.val := by
    refine ⟨⟨(y &&& (255 : Int32)).toInt.toNat, by omega⟩, Int32.toInt_inj.mp ?_⟩
    rw [Int32.toInt_ofNat_of_lt (by show (y &&& (255 : Int32)).toInt.toNat < _; omega)]
    show (y &&& (255 : Int32)).toInt = ((y &&& (255 : Int32)).toInt.toNat : Int)
    omega
  rw [hn]
  exact own_ch256 n
theorem own_rem11 (x : Int32) : ((x &&& (2147483647 : Int32)) % (11 : Int32)) = (0 : Int32) ∨ ((x &&& (2147483647 : Int32)) % (11 : Int32)) = (1 : Int32) ∨ ((x &&& (2147483647 : Int32)) % (11 : Int32)) = (2 : Int32) ∨ ((x &&& (2147483647 : Int32)) % (11 : Int32)) = (3 : Int32) ∨ ((x &&& (2147483647 : Int32)) % (11 : Int32)) = (4 : Int32) ∨ ((x &&& (2147483647 : Int32)) % (11 : Int32)) = (5 : Int32) ∨ ((x &&& (2147483647 : Int32)) % (11 : Int32)) = (6 : Int32) ∨ ((x &&& (2147483647 : Int32)) % (11 : Int32)) = (7 : Int32) ∨ ((x &&& (2147483647 : Int32)) % (11 : Int32)) = (8 : Int32) ∨ ((x &&& (2147483647 : Int32)) % (11 : Int32)) = (9 : Int32) ∨ ((x &&& (2147483647 : Int32)) % (11 : Int32)) = (10 : Int32) := by
  have e : (x &&& (2147483647 : Int32)).toInt = x.toInt % 2 ^ 31 := Jvm.Kit.i32_mask x 2147483647 (k := 31) (by decide) (by decide)
  have e2 : ((x &&& (2147483647 : Int32)) % (11 : Int32)).toInt = (x.toInt % 2 ^ 31) % 11 := by rw [Jvm.Kit.i32_rem_nonneg (by omega), e]; rfl
  generalize ((x &&& (2147483647 : Int32)) % (11 : Int32)) = r at e2 ⊢
  obtain ⟨m, hm⟩ : ∃ m : Fin 11, r = Int32.ofNat m.val := ⟨⟨r.toInt.toNat, by omega⟩, Int32.toInt_inj.mp (by rw [Int32.toInt_ofNat_of_lt (by show r.toInt.toNat < _; omega)]; show r.toInt = (r.toInt.toNat : Int); omega)⟩
  rw [hm]
  exact (by decide : ∀ m : Fin 11, (Int32.ofNat m.val) = (0 : Int32) ∨ (Int32.ofNat m.val) = (1 : Int32) ∨ (Int32.ofNat m.val) = (2 : Int32) ∨ (Int32.ofNat m.val) = (3 : Int32) ∨ (Int32.ofNat m.val) = (4 : Int32) ∨ (Int32.ofNat m.val) = (5 : Int32) ∨ (Int32.ofNat m.val) = (6 : Int32) ∨ (Int32.ofNat m.val) = (7 : Int32) ∨ (Int32.ofNat m.val) = (8 : Int32) ∨ (Int32.ofNat m.val) = (9 : Int32) ∨ (Int32.ofNat m.val) = (10 : Int32)) m

theorem dprog_31_6_0 : decode prog_31_method_6_code 0 = .ok (.aload_n 0, 1) := by decide +kernel
theorem dprog_31_6_1 : decode prog_31_method_6_code 1 = .ok (.getstatic 10, 3) := by decide +kernel
theorem dprog_31_6_4 : decode prog_31_method_6_code 4 = .ok (.if_acmp .eq 24, 3) := by decide +kernel
theorem dprog_31_6_7 : decode prog_31_method_6_code 7 = .ok (.aload_n 0, 1) := by decide +kernel
theorem dprog_31_6_8 : decode prog_31_method_6_code 8 = .ok (.getstatic 13, 3) := by decide +kernel
theorem dprog_31_6_11 : decode prog_31_method_6_code 11 = .ok (.if_acmp .eq 17, 3) := by decide +kernel
theorem dprog_31_6_14 : decode prog_31_method_6_code 14 = .ok (.aload_n 0, 1) := by decide +kernel
theorem dprog_31_6_15 : decode prog_31_method_6_code 15 = .ok (.getstatic 22, 3) := by decide +kernel
theorem dprog_31_6_18 : decode prog_31_method_6_code 18 = .ok (.if_acmp .eq 10, 3) := by decide +kernel
theorem dprog_31_6_21 : decode prog_31_method_6_code 21 = .ok (.aload_n 0, 1) := by decide +kernel
theorem dprog_31_6_22 : decode prog_31_method_6_code 22 = .ok (.getstatic 28, 3) := by decide +kernel
theorem dprog_31_6_25 : decode prog_31_method_6_code 25 = .ok (.if_acmp .ne 7, 3) := by decide +kernel
theorem dprog_31_6_28 : decode prog_31_method_6_code 28 = .ok (.iconst 1, 1) := by decide +kernel
theorem dprog_31_6_29 : decode prog_31_method_6_code 29 = .ok (.goto 4, 3) := by decide +kernel
theorem dprog_31_6_32 : decode prog_31_method_6_code 32 = .ok (.iconst 0, 1) := by decide +kernel
theorem dprog_31_6_33 : decode prog_31_method_6_code 33 = .ok (.ireturn, 1) := by decide +kernel
theorem pn_com_example_tagwright_tagwright_typed_Form : plainName "com/example/tagwright/tagwright/typed/Form" = true := by first | (simp [plainName, overriddenIn]; done) | decide +kernel
theorem ef1 (m : MethodId) (r0 : Addr) : entryFrame m #[(.ref r0)] 1 = mkF m 0 #[.val (.ref r0)] [] := by first | (simp [entryFrame, mkF, argsToLocals, Value.category]; done) | rfl
def F1 (r0 : Addr) (wBOOLEAN : Addr) (wINTEGER : Addr) (wBITS : Addr) (wOCTETS : Addr) (wNULL : Addr) (wOBJECT_IDENTIFIER : Addr) (wTEXT : Addr) (wCOMPONENTS : Addr) (wELEMENTS : Addr) (wCHOICE : Addr) (wELEMENT : Addr) (cs : Int32) (wD : Addr) (kD : ClassId) (wC : Addr) (clC : Cell) : Int32 := (if r0 = wBITS then (1 : Int32) else (if r0 = wOCTETS then (1 : Int32) else (if r0 = wTEXT then (1 : Int32) else (if r0 = wELEMENTS then (1 : Int32) else (0 : Int32)))))
def Q1 (Z : State) (r0 : Addr) (wBOOLEAN : Addr) (wINTEGER : Addr) (wBITS : Addr) (wOCTETS : Addr) (wNULL : Addr) (wOBJECT_IDENTIFIER : Addr) (wTEXT : Addr) (wCOMPONENTS : Addr) (wELEMENTS : Addr) (wCHOICE : Addr) (wELEMENT : Addr) (cs : Int32) (wD : Addr) (kD : ClassId) (wC : Addr) (clC : Cell) (h0 : Heap) (n0 : Nat) (v : Option Value) (h : Heap) (L : List Loc) : Prop := v = some (.int (F1 r0 wBOOLEAN wINTEGER wBITS wOCTETS wNULL wOBJECT_IDENTIFIER wTEXT wCOMPONENTS wELEMENTS wCHOICE wELEMENT cs wD kD wC clC)) ∧ Fr n0 L ∧ h = h0
abbrev own_K1 (Z : State) (r0 : Addr) (wBOOLEAN : Addr) (wINTEGER : Addr) (wBITS : Addr) (wOCTETS : Addr) (wNULL : Addr) (wOBJECT_IDENTIFIER : Addr) (wTEXT : Addr) (wCOMPONENTS : Addr) (wELEMENTS : Addr) (wCHOICE : Addr) (wELEMENT : Addr) (cs : Int32) (wD : Addr) (kD : ClassId) (wC : Addr) (clC : Cell) (h0 : Heap) (n0 : Nat) (s : State) : Outcome → State → Prop := fun o U' => ∃ v L, o = .returned v ∧ Q1 Z r0 wBOOLEAN wINTEGER wBITS wOCTETS wNULL wOBJECT_IDENTIFIER wTEXT wCOMPONENTS wELEMENTS wCHOICE wELEMENT cs wD kD wC clC h0 n0 v U'.heap L ∧ FrameEnd s o U' L ({ frames := 0, cells := 0, slots := 0, locals := 0 } : Room).cells ({ frames := 0, cells := 0, slots := 0, locals := 0 } : Room).slots
set_option maxRecDepth 65536 in
set_option maxHeartbeats 40000000 in
theorem rm1 (l : Launch) (Z : State) (a0 : Array Value) (hw : ∀ d ∈ tables_1, d.before a0 Z = true) (ws : List Jvm.Cond) (r0 : Addr) (wBOOLEAN : Addr) (wINTEGER : Addr) (wBITS : Addr) (wOCTETS : Addr) (wNULL : Addr) (wOBJECT_IDENTIFIER : Addr) (wTEXT : Addr) (wCOMPONENTS : Addr) (wELEMENTS : Addr) (wCHOICE : Addr) (wELEMENT : Addr) (cs : Int32) (wD : Addr) (kD : ClassId) (wC : Addr) (clC : Cell) (h0 : Heap) (n0 : Nat) (Z0 : n0 ≤ h0.size) (O0 : Old Z n0 h0) (HW : own_Wd Z wBOOLEAN wINTEGER wBITS wOCTETS wNULL wOBJECT_IDENTIFIER wTEXT wCOMPONENTS wELEMENTS wCHOICE wELEMENT cs wD kD wC clC) :
    MetFree l (⟨"com/example/tagwright/tagwright/typed/Form", "isSized", "()Z"⟩ : MethodName) (head1 (Jvm.Cond.code (⟨"com/example/tagwright/tagwright/typed/Form", "isSized", "()Z"⟩ : MethodName) prog_31_method_6_code 1 (some .boolean) :: ws) ({ frames := 0, cells := 0, slots := 0, locals := 0 } : Room)) (fun a U => a = #[(.ref r0)] ∧ Z.Warmed39 U.vm ∧ U.heap = h0) (fun _ _ _ _ _ => True) (fun _ U o U' => ∃ v L, o = .returned v ∧ Q1 Z r0 wBOOLEAN wINTEGER wBITS wOCTETS wNULL wOBJECT_IDENTIFIER wTEXT wCOMPONENTS wELEMENTS wCHOICE wELEMENT cs wD kD wC clC h0 n0 v U'.heap L ∧ FrameEnd U o U' L ({ frames := 0, cells := 0, slots := 0, locals := 0 } : Room).cells ({ frames := 0, cells := 0, slots := 0, locals := 0 } : Room).slots) := by
  refine MetFree.of_bodySF (plainFor_of_name pn_com_example_tagwright_tagwright_typed_Form) hisR ?_
  intro p e s m args below meth c s₁ Bd hml0 hP hK
  obtain ⟨rfl, hZ, hh⟩ := hP
  have hx := Bd.exec
  have hby := Bd.bytes
  have hml : c.maxLocals = 1 := hml0
  have hown : s.vm.findClass "com/example/tagwright/tagwright/typed/Form" = some m.cls := findClass_of_methodNamed Bd.named
  have hnm := (name_of_methodNamed Bd.named Bd.method).1
  have X0 : Stand p l e ({ frames := 0, cells := 0, slots := 0, locals := 0 } : Room) s m #[(.ref r0)] below meth c s₁ [] 0 0 := Stand.of_body Bd
  have e0 : s₁.heap = h0 := by rw [← hh, Bd.state]; rfl
  have N0 := Fr.nil n0
  refine own_by (p := p) (e := e) (below := below) (K := own_K1 Z r0 wBOOLEAN wINTEGER wBITS wOCTETS wNULL wOBJECT_IDENTIFIER wTEXT wCOMPONENTS wELEMENTS wCHOICE wELEMENT cs wD kD wC clC h0 n0 s) (W' := s₁.setTop (mkF m 0 #[.val (.ref r0)] [])) (fun t k => castTop (ef1 m r0) k) ?_
  obtain ⟨T21, X21, e21, st21⟩ := getS (host := "") X0 hx hZ hown (own_w hw 32) Via.refl e0 (HW.2.2.2.2.2.2.1.ext O0.2) (g := (mkF m 1 #[.val (.ref r0)] [(.ref r0)])) rfl (hb hby dprog_31_6_1)
  refine own_by (W' := (T21.setTop (mkF m 4 #[.val (.ref r0)] [(.ref wBITS), (.ref r0)]))) (fun t k => XS.aloadN X0.here hx rfl (hb hby dprog_31_6_0) rfl rfl (st21 _ k)) ?_
  by_cases hc22 : r0 = wBITS
  ·
    obtain ⟨fs, hr, hrun, hended, hW, hsame⟩ := X21.leave (v := some (.int (1 : Int32))) (fun h => by rw [Bd.returns] at h; cases h)
    refine own_by (W' := (T21.setTop (mkF m 33 #[.val (.ref r0)] [(.int (1 : Int32))]))) (fun t k => Jvm.RoadKit.acmp (g := (mkF m 4 #[.val (.ref r0)] [(.ref wBITS), (.ref r0)])) X21 hx rfl rfl rfl (pc0 := 4) (pc' := 28) (same := true) rfl (hb hby dprog_31_6_4) rfl (decide_eq_true (congrArg Value.ref hc22)) (by decide) (by decide) (XS.iconst X21.here hx rfl (hb hby dprog_31_6_28) (XS.goto X21.here hx rfl (pc0 := 29) (pc' := 33) rfl (hb hby dprog_31_6_29) (by decide) (by decide) k))) ?_
    refine ⟨_, _, retOut X21 hx Bd.returns rfl (Or.inl ⟨rfl, Or.inr (Or.inl rfl), _, rfl⟩) (hb hby dprog_31_6_33) hr, hrun, hended, _, _, rfl, ?_, ⟨_, rfl⟩, hW, hsame.mono (by decide) (by decide)⟩
    refine ⟨congrArg (fun z => some (Value.int z)) ?_, N0, e21⟩
    rw [F1, if_pos hc22]
  ·
    obtain ⟨T23, X23, e23, st23⟩ := getS (host := "") X21 hx hZ hown (own_w hw 33) Via.refl e21 (HW.2.2.2.2.2.2.2.2.2.1.ext O0.2) (g := (mkF m 8 #[.val (.ref r0)] [(.ref r0)])) rfl (hb hby dprog_31_6_8)
    refine own_by (W' := (T23.setTop (mkF m 11 #[.val (.ref r0)] [(.ref wOCTETS), (.ref r0)]))) (fun t k => Jvm.RoadKit.acmp (g := (mkF m 4 #[.val (.ref r0)] [(.ref wBITS), (.ref r0)])) X21 hx rfl rfl rfl (pc0 := 4) (pc' := 7) (same := false) rfl (hb hby dprog_31_6_4) rfl (decide_eq_false fun q => hc22 (Value.ref.inj q)) (by decide) (by decide) (XS.aloadN X21.here hx rfl (hb hby dprog_31_6_7) rfl rfl (st23 _ k))) ?_
    by_cases hc24 : r0 = wOCTETS
    ·
      obtain ⟨fs, hr, hrun, hended, hW, hsame⟩ := X23.leave (v := some (.int (1 : Int32))) (fun h => by rw [Bd.returns] at h; cases h)
      refine own_by (W' := (T23.setTop (mkF m 33 #[.val (.ref r0)] [(.int (1 : Int32))]))) (fun t k => Jvm.RoadKit.acmp (g := (mkF m 11 #[.val (.ref r0)] [(.ref wOCTETS), (.ref r0)])) X23 hx rfl rfl rfl (pc0 := 11) (pc' := 28) (same := true) rfl (hb hby dprog_31_6_11) rfl (decide_eq_true (congrArg Value.ref hc24)) (by decide) (by decide) (XS.iconst X23.here hx rfl (hb hby dprog_31_6_28) (XS.goto X23.here hx rfl (pc0 := 29) (pc' := 33) rfl (hb hby dprog_31_6_29) (by decide) (by decide) k))) ?_
      refine ⟨_, _, retOut X23 hx Bd.returns rfl (Or.inl ⟨rfl, Or.inr (Or.inl rfl), _, rfl⟩) (hb hby dprog_31_6_33) hr, hrun, hended, _, _, rfl, ?_, ⟨_, rfl⟩, hW, hsame.mono (by decide) (by decide)⟩
      refine ⟨congrArg (fun z => some (Value.int z)) ?_, N0, e23⟩
      rw [F1, if_neg hc22, if_pos hc24]
    ·
      obtain ⟨T25, X25, e25, st25⟩ := getS (host := "") X23 hx hZ hown (own_w hw 34) Via.refl e23 (HW.2.2.2.2.2.2.2.2.2.2.2.2.2.2.2.2.2.2.1.ext O0.2) (g := (mkF m 15 #[.val (.ref r0)] [(.ref r0)])) rfl (hb hby dprog_31_6_15)
      refine own_by (W' := (T25.setTop (mkF m 18 #[.val (.ref r0)] [(.ref wTEXT), (.ref r0)]))) (fun t k => Jvm.RoadKit.acmp (g := (mkF m 11 #[.val (.ref r0)] [(.ref wOCTETS), (.ref r0)])) X23 hx rfl rfl rfl (pc0 := 11) (pc' := 14) (same := false) rfl (hb hby dprog_31_6_11) rfl (decide_eq_false fun q => hc24 (Value.ref.inj q)) (by decide) (by decide) (XS.aloadN X23.here hx rfl (hb hby dprog_31_6_14) rfl rfl (st25 _ k))) ?_
      by_cases hc26 : r0 = wTEXT
      ·
        obtain ⟨fs, hr, hrun, hended, hW, hsame⟩ := X25.leave (v := some (.int (1 : Int32))) (fun h => by rw [Bd.returns] at h; cases h)
        refine own_by (W' := (T25.setTop (mkF m 33 #[.val (.ref r0)] [(.int (1 : Int32))]))) (fun t k => Jvm.RoadKit.acmp (g := (mkF m 18 #[.val (.ref r0)] [(.ref wTEXT), (.ref r0)])) X25 hx rfl rfl rfl (pc0 := 18) (pc' := 28) (same := true) rfl (hb hby dprog_31_6_18) rfl (decide_eq_true (congrArg Value.ref hc26)) (by decide) (by decide) (XS.iconst X25.here hx rfl (hb hby dprog_31_6_28) (XS.goto X25.here hx rfl (pc0 := 29) (pc' := 33) rfl (hb hby dprog_31_6_29) (by decide) (by decide) k))) ?_
        refine ⟨_, _, retOut X25 hx Bd.returns rfl (Or.inl ⟨rfl, Or.inr (Or.inl rfl), _, rfl⟩) (hb hby dprog_31_6_33) hr, hrun, hended, _, _, rfl, ?_, ⟨_, rfl⟩, hW, hsame.mono (by decide) (by decide)⟩
        refine ⟨congrArg (fun z => some (Value.int z)) ?_, N0, e25⟩
        rw [F1, if_neg hc22, if_neg hc24, if_pos hc26]
      ·
        obtain ⟨T27, X27, e27, st27⟩ := getS (host := "") X25 hx hZ hown (own_w hw 35) Via.refl e25 (HW.2.2.2.2.2.2.2.2.2.2.2.2.2.2.2.2.2.2.2.2.2.2.2.2.1.ext O0.2) (g := (mkF m 22 #[.val (.ref r0)] [(.ref r0)])) rfl (hb hby dprog_31_6_22)
        refine own_by (W' := (T27.setTop (mkF m 25 #[.val (.ref r0)] [(.ref wELEMENTS), (.ref r0)]))) (fun t k => Jvm.RoadKit.acmp (g := (mkF m 18 #[.val (.ref r0)] [(.ref wTEXT), (.ref r0)])) X25 hx rfl rfl rfl (pc0 := 18) (pc' := 21) (same := false) rfl (hb hby dprog_31_6_18) rfl (decide_eq_false fun q => hc26 (Value.ref.inj q)) (by decide) (by decide) (XS.aloadN X25.here hx rfl (hb hby dprog_31_6_21) rfl rfl (st27 _ k))) ?_
        by_cases hc28 : r0 = wELEMENTS
        ·
          obtain ⟨fs, hr, hrun, hended, hW, hsame⟩ := X27.leave (v := some (.int (1 : Int32))) (fun h => by rw [Bd.returns] at h; cases h)
          refine own_by (W' := (T27.setTop (mkF m 33 #[.val (.ref r0)] [(.int (1 : Int32))]))) (fun t k => Jvm.RoadKit.acmp (g := (mkF m 25 #[.val (.ref r0)] [(.ref wELEMENTS), (.ref r0)])) X27 hx rfl rfl rfl (pc0 := 25) (pc' := 28) (same := true) rfl (hb hby dprog_31_6_25) rfl (decide_eq_true (congrArg Value.ref hc28)) (by decide) (by decide) (XS.iconst X27.here hx rfl (hb hby dprog_31_6_28) (XS.goto X27.here hx rfl (pc0 := 29) (pc' := 33) rfl (hb hby dprog_31_6_29) (by decide) (by decide) k))) ?_
          refine ⟨_, _, retOut X27 hx Bd.returns rfl (Or.inl ⟨rfl, Or.inr (Or.inl rfl), _, rfl⟩) (hb hby dprog_31_6_33) hr, hrun, hended, _, _, rfl, ?_, ⟨_, rfl⟩, hW, hsame.mono (by decide) (by decide)⟩
          refine ⟨congrArg (fun z => some (Value.int z)) ?_, N0, e27⟩
          rw [F1, if_neg hc22, if_neg hc24, if_neg hc26, if_pos hc28]
        ·
          obtain ⟨fs, hr, hrun, hended, hW, hsame⟩ := X27.leave (v := some (.int (0 : Int32))) (fun h => by rw [Bd.returns] at h; cases h)
          refine own_by (W' := (T27.setTop (mkF m 33 #[.val (.ref r0)] [(.int (0 : Int32))]))) (fun t k => Jvm.RoadKit.acmp (g := (mkF m 25 #[.val (.ref r0)] [(.ref wELEMENTS), (.ref r0)])) X27 hx rfl rfl rfl (pc0 := 25) (pc' := 32) (same := false) rfl (hb hby dprog_31_6_25) rfl (decide_eq_false fun q => hc28 (Value.ref.inj q)) (by decide) (by decide) (XS.iconst X27.here hx rfl (hb hby dprog_31_6_32) k)) ?_
          refine ⟨_, _, retOut X27 hx Bd.returns rfl (Or.inl ⟨rfl, Or.inr (Or.inl rfl), _, rfl⟩) (hb hby dprog_31_6_33) hr, hrun, hended, _, _, rfl, ?_, ⟨_, rfl⟩, hW, hsame.mono (by decide) (by decide)⟩
          refine ⟨congrArg (fun z => some (Value.int z)) ?_, N0, e27⟩
          rw [F1, if_neg hc22, if_neg hc24, if_neg hc26, if_neg hc28]
theorem djdk_37_2_0 : decode jdk_37_method_2_code 0 = .ok (.aload_n 0, 1) := by decide +kernel
theorem djdk_37_2_1 : decode jdk_37_method_2_code 1 = .ok (.getfield 7, 3) := by decide +kernel
theorem djdk_37_2_4 : decode jdk_37_method_2_code 4 = .ok (.ireturn, 1) := by decide +kernel
theorem pn_java_lang_Enum : plainName "java/lang/Enum" = true := by first | (simp [plainName, overriddenIn]; done) | decide +kernel
theorem efO (m : MethodId) (r0 : Addr) : entryFrame m #[(.ref r0)] 1 = mkF m 0 #[.val (.ref r0)] [] := by first | (simp [entryFrame, mkF, argsToLocals, Value.category]; done) | rfl
def QO (Z : State) (r0 : Addr) (oi : Int32) (h0 : Heap) (n0 : Nat) (v : Option Value) (h : Heap) (L : List Loc) : Prop := v = some (.int oi) ∧ Fr n0 L ∧ h = h0
abbrev own_KO (Z : State) (r0 : Addr) (oi : Int32) (h0 : Heap) (n0 : Nat) (s : State) : Outcome → State → Prop := fun o U' => ∃ v L, o = .returned v ∧ QO Z r0 oi h0 n0 v U'.heap L ∧ FrameEnd s o U' L ({ frames := 0, cells := 0, slots := 0, locals := 0 } : Room).cells ({ frames := 0, cells := 0, slots := 0, locals := 0 } : Room).slots
set_option maxRecDepth 65536 in
set_option maxHeartbeats 40000000 in
theorem rmO (l : Launch) (Z : State) (a0 : Array Value) (hw : ∀ d ∈ tables_1, d.before a0 Z = true) (ws : List Jvm.Cond) (r0 : Addr) (oi : Int32) (h0 : Heap) (n0 : Nat) (Z0 : n0 ≤ h0.size) (Fo : Fld Z h0 r0 "java/lang/Enum" "ordinal" "I" (.int oi)) :
    MetFree l (⟨"java/lang/Enum", "ordinal", "()I"⟩ : MethodName) (head1 (Jvm.Cond.code (⟨"java/lang/Enum", "ordinal", "()I"⟩ : MethodName) jdk_37_method_2_code 1 (some .int) :: ws) ({ frames := 0, cells := 0, slots := 0, locals := 0 } : Room)) (fun a U => a = #[(.ref r0)] ∧ Z.Warmed39 U.vm ∧ U.heap = h0) (fun _ _ _ _ _ => True) (fun _ U o U' => ∃ v L, o = .returned v ∧ QO Z r0 oi h0 n0 v U'.heap L ∧ FrameEnd U o U' L ({ frames := 0, cells := 0, slots := 0, locals := 0 } : Room).cells ({ frames := 0, cells := 0, slots := 0, locals := 0 } : Room).slots) := by
  refine MetFree.of_bodySF (plainFor_of_name pn_java_lang_Enum) hisR ?_
  intro p e s m args below meth c s₁ Bd hml0 hP hK
  obtain ⟨rfl, hZ, hh⟩ := hP
  have hx := Bd.exec
  have hby := Bd.bytes
  have hml : c.maxLocals = 1 := hml0
  have hown : s.vm.findClass "java/lang/Enum" = some m.cls := findClass_of_methodNamed Bd.named
  have hnm := (name_of_methodNamed Bd.named Bd.method).1
  have X0 : Stand p l e ({ frames := 0, cells := 0, slots := 0, locals := 0 } : Room) s m #[(.ref r0)] below meth c s₁ [] 0 0 := Stand.of_body Bd
  have e0 : s₁.heap = h0 := by rw [← hh, Bd.state]; rfl
  have N0 := Fr.nil n0
  refine own_by (p := p) (e := e) (below := below) (K := own_KO Z r0 oi h0 n0 s) (W' := s₁.setTop (mkF m 0 #[.val (.ref r0)] [])) (fun t k => castTop (efO m r0) k) ?_
  obtain ⟨T21, X21, e21, st21⟩ := getF X0 hx hZ hown (host := "") (Or.inl (own_w hw 74)) Via.refl e0 Fo (g := (mkF m 1 #[.val (.ref r0)] [(.ref r0)])) rfl rfl (hb hby djdk_37_2_1)
  obtain ⟨fs, hr, hrun, hended, hW, hsame⟩ := X21.leave (v := some (.int oi)) (fun h => by rw [Bd.returns] at h; cases h)
  refine own_by (W' := (T21.setTop (mkF m 4 #[.val (.ref r0)] [(.int oi)]))) (fun t k => XS.aloadN X0.here hx rfl (hb hby djdk_37_2_0) rfl rfl (st21 _ k)) ?_
  refine ⟨_, _, retOut X21 hx Bd.returns rfl (Or.inl ⟨rfl, Or.inl rfl, _, rfl⟩) (hb hby djdk_37_2_4) hr, hrun, hended, _, _, rfl, ?_, ⟨_, rfl⟩, hW, hsame.mono (by decide) (by decide)⟩
  exact ⟨rfl, N0, e21⟩
theorem dprog_42_10_0 : decode prog_42_method_10_code 0 = .ok (.aconst_null, 1) := by decide +kernel
theorem dprog_42_10_1 : decode prog_42_method_10_code 1 = .ok (.astore_n 2, 1) := by decide +kernel
theorem dprog_42_10_2 : decode prog_42_method_10_code 2 = .ok (.iload_n 0, 1) := by decide +kernel
theorem dprog_42_10_3 : decode prog_42_method_10_code 3 = .ok (.ifCond .lt 9, 3) := by decide +kernel
theorem dprog_42_10_6 : decode prog_42_method_10_code 6 = .ok (.iload_n 0, 1) := by decide +kernel
theorem dprog_42_10_7 : decode prog_42_method_10_code 7 = .ok (.bipush 7, 2) := by decide +kernel
theorem dprog_42_10_9 : decode prog_42_method_10_code 9 = .ok (.if_icmp .le 13, 3) := by decide +kernel
theorem dprog_42_10_22 : decode prog_42_method_10_code 22 = .ok (.iload_n 0, 1) := by decide +kernel
theorem dprog_42_10_23 : decode prog_42_method_10_code 23 = .ok (.ifCond .le 14, 3) := by decide +kernel
theorem dprog_42_10_26 : decode prog_42_method_10_code 26 = .ok (.iload_n 1, 1) := by decide +kernel
theorem dprog_42_10_27 : decode prog_42_method_10_code 27 = .ok (.ifCond .ne 10, 3) := by decide +kernel
theorem dprog_42_10_37 : decode prog_42_method_10_code 37 = .ok (.aload_n 2, 1) := by decide +kernel
theorem dprog_42_10_38 : decode prog_42_method_10_code 38 = .ok (.areturn, 1) := by decide +kernel
theorem pn_com_example_tagwright_tagwright_universal_BitString : plainName "com/example/tagwright/tagwright/universal/BitString" = true := by first | (simp [plainName, overriddenIn]; done) | decide +kernel
theorem effG (m : MethodId) (p0 : Int32) (p1 : Int32) : entryFrame m #[(.int p0), (.int p1)] 3 = mkF m 0 #[.val (.int p0), .val (.int p1), .unset] [] := by first | (simp [entryFrame, mkF, argsToLocals, Value.category]; done) | rfl
def QfG (Z : State) (p0 : Int32) (p1 : Int32) (h0 : Heap) (n0 : Nat) (v : Option Value) (h : Heap) (L : List Loc) : Prop := v = some .null ∧ Fr n0 L ∧ h = h0
abbrev own_KfG (Z : State) (p0 : Int32) (p1 : Int32) (h0 : Heap) (n0 : Nat) (s : State) : Outcome → State → Prop := fun o U' => ∃ v L, o = .returned v ∧ QfG Z p0 p1 h0 n0 v U'.heap L ∧ FrameEnd s o U' L ({ frames := 0, cells := 0, slots := 0, locals := 0 } : Room).cells ({ frames := 0, cells := 0, slots := 0, locals := 0 } : Room).slots
set_option maxRecDepth 65536 in
set_option maxHeartbeats 40000000 in
theorem rmfG (l : Launch) (Z : State) (a0 : Array Value) (hw : ∀ d ∈ tables_1, d.before a0 Z = true) (ws : List Jvm.Cond) (p0 : Int32) (p1 : Int32) (h0 : Heap) (n0 : Nat) (Z0 : n0 ≤ h0.size) (hu1 : ¬ p0 < (0 : Int32)) (hu2 : ¬ (7 : Int32) < p0) (hz : ¬ p1 = (0 : Int32)) :
    MetFree l (⟨"com/example/tagwright/tagwright/universal/BitString", "fault", "(II)Ljava/lang/String;"⟩ : MethodName) (head1 (Jvm.Cond.code (⟨"com/example/tagwright/tagwright/universal/BitString", "fault", "(II)Ljava/lang/String;"⟩ : MethodName) prog_42_method_10_code 3 (some (.object "java/lang/String")) :: ws) ({ frames := 0, cells := 0, slots := 0, locals := 0 } : Room)) (fun a U => a = #[(.int p0), (.int p1)] ∧ Z.Warmed39 U.vm ∧ U.heap = h0) (fun _ _ _ _ _ => True) (fun _ U o U' => ∃ v L, o = .returned v ∧ QfG Z p0 p1 h0 n0 v U'.heap L ∧ FrameEnd U o U' L ({ frames := 0, cells := 0, slots := 0, locals := 0 } : Room).cells ({ frames := 0, cells := 0, slots := 0, locals := 0 } : Room).slots) := by
  refine MetFree.of_bodySF (plainFor_of_name pn_com_example_tagwright_tagwright_universal_BitString) hisR ?_
  intro p e s m args below meth c s₁ Bd hml0 hP hK
  obtain ⟨rfl, hZ, hh⟩ := hP
  have hx := Bd.exec
  have hby := Bd.bytes
  have hml : c.maxLocals = 3 := hml0
  have hown : s.vm.findClass "com/example/tagwright/tagwright/universal/BitString" = some m.cls := findClass_of_methodNamed Bd.named
  have hnm := (name_of_methodNamed Bd.named Bd.method).1
  have X0 : Stand p l e ({ frames := 0, cells := 0, slots := 0, locals := 0 } : Room) s m #[(.int p0), (.int p1)] below meth c s₁ [] 0 0 := Stand.of_body Bd
  have e0 : s₁.heap = h0 := by rw [← hh, Bd.state]; rfl
  have N0 := Fr.nil n0
  refine own_by (p := p) (e := e) (below := below) (K := own_KfG Z p0 p1 h0 n0 s) (W' := s₁.setTop (mkF m 0 #[.val (.int p0), .val (.int p1), .unset] [])) (fun t k => castTop (effG m p0 p1) k) ?_
  refine own_by (W' := (s₁.setTop (mkF m 9 #[.val (.int p0), .val (.int p1), .val .null] [(.int (7 : Int32)), (.int p0)]))) (fun t k => XS.aconstNull X0.here hx rfl (hb hby dprog_42_10_0) (XS.astoreN X0.here hx rfl (hb hby dprog_42_10_1) rfl rfl (l' := #[.val (.int p0), .val (.int p1), .val .null]) rfl (XS.iloadN X0.here hx rfl (hb hby dprog_42_10_2) rfl (XS.ifNo X0.here hx rfl (hb hby dprog_42_10_3) rfl ((if0 _ _).trans (flt hu1).1) (XS.iloadN X0.here hx rfl (hb hby dprog_42_10_6) rfl (XS.bipush X0.here hx rfl (hb hby dprog_42_10_7) k)))))) ?_
  refine own_by (W' := (s₁.setTop (mkF m 23 #[.val (.int p0), .val (.int p1), .val .null] [(.int p0)]))) (fun t k => XS.icmpYes X0.here hx rfl (pc0 := 9) (pc' := 22) rfl (hb hby dprog_42_10_9) rfl (flt hu2).2.2.2 (by decide) (by decide) (XS.iloadN X0.here hx rfl (hb hby dprog_42_10_22) rfl k)) ?_
  by_cases hc21 : (0 : Int32) < p0
  ·
    obtain ⟨fs, hr, hrun, hended, hW, hsame⟩ := X0.leave (v := some .null) (fun h => by rw [Bd.returns] at h; cases h)
    refine own_by (W' := (s₁.setTop (mkF m 38 #[.val (.int p0), .val (.int p1), .val .null] [.null]))) (fun t k => XS.ifNo X0.here hx rfl (hb hby dprog_42_10_23) rfl ((if0 _ _).trans (tlt hc21).2.2.2) (XS.iloadN X0.here hx rfl (hb hby dprog_42_10_26) rfl (XS.ifYes X0.here hx rfl (pc0 := 27) (pc' := 37) rfl (hb hby dprog_42_10_27) rfl ((if0 _ _).trans (feq hz).2) (by decide) (by decide) (XS.aloadN X0.here hx rfl (hb hby dprog_42_10_37) rfl rfl k)))) ?_
    refine ⟨_, _, retOut X0 hx Bd.returns rfl (Or.inr (Or.inr (Or.inr (Or.inr ⟨rfl, rfl, rfl⟩)))) (hb hby dprog_42_10_38) hr, hrun, hended, _, _, rfl, ?_, ⟨_, rfl⟩, hW, hsame.mono (by decide) (by decide)⟩
    exact ⟨rfl, N0, e0⟩
  ·
    obtain ⟨fs, hr, hrun, hended, hW, hsame⟩ := X0.leave (v := some .null) (fun h => by rw [Bd.returns] at h; cases h)
    refine own_by (W' := (s₁.setTop (mkF m 38 #[.val (.int p0), .val (.int p1), .val .null] [.null]))) (fun t k => XS.ifYes X0.here hx rfl (pc0 := 23) (pc' := 37) rfl (hb hby dprog_42_10_23) rfl ((if0 _ _).trans (flt hc21).2.2.2) (by decide) (by decide) (XS.aloadN X0.here hx rfl (hb hby dprog_42_10_37) rfl rfl k)) ?_
    refine ⟨_, _, retOut X0 hx Bd.returns rfl (Or.inr (Or.inr (Or.inr (Or.inr ⟨rfl, rfl, rfl⟩)))) (hb hby dprog_42_10_38) hr, hrun, hended, _, _, rfl, ?_, ⟨_, rfl⟩, hW, hsame.mono (by decide) (by decide)⟩
    exact ⟨rfl, N0, e0⟩
theorem eff0 (m : MethodId)  : entryFrame m #[(.int (0 : Int32)), (.int (0 : Int32))] 3 = mkF m 0 #[.val (.int (0 : Int32)), .val (.int (0 : Int32)), .unset] [] := by first | (simp [entryFrame, mkF, argsToLocals, Value.category]; done) | rfl
def Qf0 (Z : State)  (h0 : Heap) (n0 : Nat) (v : Option Value) (h : Heap) (L : List Loc) : Prop := v = some .null ∧ Fr n0 L ∧ h = h0
abbrev own_Kf0 (Z : State)  (h0 : Heap) (n0 : Nat) (s : State) : Outcome → State → Prop := fun o U' => ∃ v L, o = .returned v ∧ Qf0 Z  h0 n0 v U'.heap L ∧ FrameEnd s o U' L ({ frames := 0, cells := 0, slots := 0, locals := 0 } : Room).cells ({ frames := 0, cells := 0, slots := 0, locals := 0 } : Room).slots
set_option maxRecDepth 65536 in
set_option maxHeartbeats 40000000 in
theorem rmf0 (l : Launch) (Z : State) (a0 : Array Value) (hw : ∀ d ∈ tables_1, d.before a0 Z = true) (ws : List Jvm.Cond)  (h0 : Heap) (n0 : Nat) (Z0 : n0 ≤ h0.size) :
    MetFree l (⟨"com/example/tagwright/tagwright/universal/BitString", "fault", "(II)Ljava/lang/String;"⟩ : MethodName) (head1 (Jvm.Cond.code (⟨"com/example/tagwright/tagwright/universal/BitString", "fault", "(II)Ljava/lang/String;"⟩ : MethodName) prog_42_method_10_code 3 (some (.object "java/lang/String")) :: ws) ({ frames := 0, cells := 0, slots := 0, locals := 0 } : Room)) (fun a U => a = #[(.int (0 : Int32)), (.int (0 : Int32))] ∧ Z.Warmed39 U.vm ∧ U.heap = h0) (fun _ _ _ _ _ => True) (fun _ U o U' => ∃ v L, o = .returned v ∧ Qf0 Z  h0 n0 v U'.heap L ∧ FrameEnd U o U' L ({ frames := 0, cells := 0, slots := 0, locals := 0 } : Room).cells ({ frames := 0, cells := 0, slots := 0, locals := 0 } : Room).slots) := by
  refine MetFree.of_bodySF (plainFor_of_name pn_com_example_tagwright_tagwright_universal_BitString) hisR ?_
  intro p e s m args below meth c s₁ Bd hml0 hP hK
  obtain ⟨rfl, hZ, hh⟩ := hP
  have hx := Bd.exec
  have hby := Bd.bytes
  have hml : c.maxLocals = 3 := hml0
  have hown : s.vm.findClass "com/example/tagwright/tagwright/universal/BitString" = some m.cls := findClass_of_methodNamed Bd.named
  have hnm := (name_of_methodNamed Bd.named Bd.method).1
  have X0 : Stand p l e ({ frames := 0, cells := 0, slots := 0, locals := 0 } : Room) s m #[(.int (0 : Int32)), (.int (0 : Int32))] below meth c s₁ [] 0 0 := Stand.of_body Bd
  have e0 : s₁.heap = h0 := by rw [← hh, Bd.state]; rfl
  have N0 := Fr.nil n0
  refine own_by (p := p) (e := e) (below := below) (K := own_Kf0 Z  h0 n0 s) (W' := s₁.setTop (mkF m 0 #[.val (.int (0 : Int32)), .val (.int (0 : Int32)), .unset] [])) (fun t k => castTop (eff0 m ) k) ?_
  refine own_by (W' := (s₁.setTop (mkF m 9 #[.val (.int (0 : Int32)), .val (.int (0 : Int32)), .val .null] [(.int (7 : Int32)), (.int (0 : Int32))]))) (fun t k => XS.aconstNull X0.here hx rfl (hb hby dprog_42_10_0) (XS.astoreN X0.here hx rfl (hb hby dprog_42_10_1) rfl rfl (l' := #[.val (.int (0 : Int32)), .val (.int (0 : Int32)), .val .null]) rfl (XS.iloadN X0.here hx rfl (hb hby dprog_42_10_2) rfl (XS.ifNo X0.here hx rfl (hb hby dprog_42_10_3) rfl ((if0 _ _).trans (flt (by decide : ¬ ((0 : Int32) < (0 : Int32)))).1) (XS.iloadN X0.here hx rfl (hb hby dprog_42_10_6) rfl (XS.bipush X0.here hx rfl (hb hby dprog_42_10_7) k)))))) ?_
  obtain ⟨fs, hr, hrun, hended, hW, hsame⟩ := X0.leave (v := some .null) (fun h => by rw [Bd.returns] at h; cases h)
  refine own_by (W' := (s₁.setTop (mkF m 38 #[.val (.int (0 : Int32)), .val (.int (0 : Int32)), .val .null] [.null]))) (fun t k => XS.icmpYes X0.here hx rfl (pc0 := 9) (pc' := 22) rfl (hb hby dprog_42_10_9) rfl (flt (by decide : ¬ ((7 : Int32) < (0 : Int32)))).2.2.2 (by decide) (by decide) (XS.iloadN X0.here hx rfl (hb hby dprog_42_10_22) rfl (XS.ifYes X0.here hx rfl (pc0 := 23) (pc' := 37) rfl (hb hby dprog_42_10_23) rfl ((if0 _ _).trans (flt (by decide : ¬ ((0 : Int32) < (0 : Int32)))).2.2.2) (by decide) (by decide) (XS.aloadN X0.here hx rfl (hb hby dprog_42_10_37) rfl rfl k)))) ?_
  refine ⟨_, _, retOut X0 hx Bd.returns rfl (Or.inr (Or.inr (Or.inr (Or.inr ⟨rfl, rfl, rfl⟩)))) (hb hby dprog_42_10_38) hr, hrun, hended, _, _, rfl, ?_, ⟨_, rfl⟩, hW, hsame.mono (by decide) (by decide)⟩
  exact ⟨rfl, N0, e0⟩
theorem dprog_42_1_0 : decode prog_42_method_1_code 0 = .ok (.aload_n 0, 1) := by decide +kernel
theorem dprog_42_1_1 : decode prog_42_method_1_code 1 = .ok (.invokespecial 1, 3) := by decide +kernel
theorem dprog_42_1_4 : decode prog_42_method_1_code 4 = .ok (.aload_n 0, 1) := by decide +kernel
theorem dprog_42_1_5 : decode prog_42_method_1_code 5 = .ok (.iload_n 1, 1) := by decide +kernel
theorem dprog_42_1_6 : decode prog_42_method_1_code 6 = .ok (.putfield 7, 3) := by decide +kernel
theorem dprog_42_1_9 : decode prog_42_method_1_code 9 = .ok (.aload_n 0, 1) := by decide +kernel
theorem dprog_42_1_10 : decode prog_42_method_1_code 10 = .ok (.aload_n 2, 1) := by decide +kernel
theorem dprog_42_1_11 : decode prog_42_method_1_code 11 = .ok (.putfield 13, 3) := by decide +kernel
theorem dprog_42_1_14 : decode prog_42_method_1_code 14 = .ok (.return_, 1) := by decide +kernel
theorem efBI (m : MethodId) (r0 : Addr) (p1 : Int32) (r2 : Addr) : entryFrame m #[(.ref r0), (.int p1), (.ref r2)] 3 = mkF m 0 #[.val (.ref r0), .val (.int p1), .val (.ref r2)] [] := by first | (simp [entryFrame, mkF, argsToLocals, Value.category]; done) | rfl
def QBI (Z : State) (r0 : Addr) (p1 : Int32) (r2 : Addr) (h0 : Heap) (n0 : Nat) (v : Option Value) (h : Heap) (L : List Loc) : Prop := v = none ∧ Fr n0 L ∧ Keep h0 h [r0] ∧ Exa Z h r0 "com/example/tagwright/tagwright/universal/BitString" ∧ Fld Z h r0 "com/example/tagwright/tagwright/universal/BitString" "unusedBits" "I" (.int p1) ∧ Fld Z h r0 "com/example/tagwright/tagwright/universal/BitString" "octets" "[B" (.ref r2)
abbrev own_KBI (Z : State) (r0 : Addr) (p1 : Int32) (r2 : Addr) (h0 : Heap) (n0 : Nat) (s : State) : Outcome → State → Prop := fun o U' => ∃ v L, o = .returned v ∧ QBI Z r0 p1 r2 h0 n0 v U'.heap L ∧ FrameEnd s o U' L ({ frames := 1, cells := 0, slots := 0, locals := 12 } : Room).cells ({ frames := 1, cells := 0, slots := 0, locals := 12 } : Room).slots
set_option maxRecDepth 65536 in
set_option maxHeartbeats 40000000 in
theorem rmBI (l : Launch) (Z : State) (a0 : Array Value) (hw : ∀ d ∈ tables_1, d.before a0 Z = true) (ws : List Jvm.Cond) (r0 : Addr) (p1 : Int32) (r2 : Addr) (h0 : Heap) (n0 : Nat) (Z0 : n0 ≤ h0.size) (O0 : Old Z n0 h0) (E0 : Exa Z h0 r0 "com/example/tagwright/tagwright/universal/BitString") (g_r0 : n0 ≤ r0) (F_u : Fld Z h0 r0 "com/example/tagwright/tagwright/universal/BitString" "unusedBits" "I" (.int (0 : Int32))) (F_o : Fld Z h0 r0 "com/example/tagwright/tagwright/universal/BitString" "octets" "[B" .null) :
    MetFree l (⟨"com/example/tagwright/tagwright/universal/BitString", "<init>", "(I[B)V"⟩ : MethodName) (head1 (Jvm.Cond.code (⟨"com/example/tagwright/tagwright/universal/BitString", "<init>", "(I[B)V"⟩ : MethodName) prog_42_method_1_code 3 none :: ws) ({ frames := 1, cells := 0, slots := 0, locals := 12 } : Room)) (fun a U => a = #[(.ref r0), (.int p1), (.ref r2)] ∧ Z.Warmed39 U.vm ∧ U.heap = h0) (fun _ _ _ _ _ => True) (fun _ U o U' => ∃ v L, o = .returned v ∧ QBI Z r0 p1 r2 h0 n0 v U'.heap L ∧ FrameEnd U o U' L ({ frames := 1, cells := 0, slots := 0, locals := 12 } : Room).cells ({ frames := 1, cells := 0, slots := 0, locals := 12 } : Room).slots) := by
  refine MetFree.of_bodySF (plainFor_of_name pn_com_example_tagwright_tagwright_universal_BitString) hisR ?_
  intro p e s m args below meth c s₁ Bd hml0 hP hK
  obtain ⟨rfl, hZ, hh⟩ := hP
  have hx := Bd.exec
  have hby := Bd.bytes
  have hml : c.maxLocals = 3 := hml0
  have hown : s.vm.findClass "com/example/tagwright/tagwright/universal/BitString" = some m.cls := findClass_of_methodNamed Bd.named
  have hnm := (name_of_methodNamed Bd.named Bd.method).1
  have X0 : Stand p l e ({ frames := 1, cells := 0, slots := 0, locals := 12 } : Room) s m #[(.ref r0), (.int p1), (.ref r2)] below meth c s₁ [] 0 0 := Stand.of_body Bd
  have e0 : s₁.heap = h0 := by rw [← hh, Bd.state]; rfl
  have N0 := Fr.nil n0
  refine own_by (p := p) (e := e) (below := below) (K := own_KBI Z r0 p1 r2 h0 n0 s) (W' := s₁.setTop (mkF m 0 #[.val (.ref r0), .val (.int p1), .val (.ref r2)] [])) (fun t k => castTop (efBI m r0 p1 r2) k) ?_
  obtain ⟨T21, X21, e21, st21⟩ := initO X0 hx hZ hown (own_w hw 162) (own_w hw 55) (own_w hw 56) e0 (g := (mkF m 1 #[.val (.ref r0), .val (.int p1), .val (.ref r2)] [(.ref r0)])) rfl (by rw [hml]; rfl) rfl (hb hby dprog_42_1_1) (by decide) (W := 0) (by show 2 * 0 + _ ≤ _; exact Nat.le_of_eq rfl) (by decide)
  obtain ⟨T22, h22, X22, e22, W22, st22⟩ := putF X21 hx hZ hown (host := "") (Or.inl (own_w hw 163)) Via.refl e21 F_u E0 (Or.inr ⟨(own_w hw 164), rfl, hnm⟩) (own_w hw 150) (ty := .int) (by decide) rfl rfl (g := (mkF m 6 #[.val (.ref r0), .val (.int p1), .val (.ref r2)] [(.int p1), (.ref r0)])) rfl rfl (hb hby dprog_42_1_6)
  have Fw22 := F_u.same W22
  have O22 := Old.wr O0 W22 g_r0
  have N22 := Fr.snoc X22 N0 g_r0
  have K22 := Keep.wr (Keep.refl h0 [r0]) W22 (Or.inl (List.mem_of_getElem? (i := 0) rfl))
  refine own_by (W' := (T22.setTop (mkF m 10 #[.val (.ref r0), .val (.int p1), .val (.ref r2)] [(.ref r0)]))) (fun t k => XS.aloadN X0.here hx rfl (hb hby dprog_42_1_0) rfl rfl (st21 _ (XS.aloadN X21.here hx rfl (hb hby dprog_42_1_4) rfl rfl (XS.iloadN X21.here hx rfl (hb hby dprog_42_1_5) rfl (st22 _ (XS.aloadN X22.here hx rfl (hb hby dprog_42_1_9) rfl rfl k)))))) ?_
  obtain ⟨T23, h23, X23, e23, W23, st23⟩ := putF X22 hx hZ hown (host := "") (Or.inl (own_w hw 165)) Via.refl e22 (F_o.other W22 (Or.inr (slot_ne (Or.inr (own_w hw 166)) (Or.inr (own_w hw 164)) (by decide) (t := (.array .byte)) (t' := .int) (by decide) (by decide)))) (E0.wr W22) (Or.inr ⟨(own_w hw 166), rfl, hnm⟩) (own_w hw 150) (ty := (.array .byte)) (by decide) rfl rfl (g := (mkF m 11 #[.val (.ref r0), .val (.int p1), .val (.ref r2)] [(.ref r2), (.ref r0)])) rfl rfl (hb hby dprog_42_1_11)
  have Fw23 := (F_o.other W22 (Or.inr (slot_ne (Or.inr (own_w hw 166)) (Or.inr (own_w hw 164)) (by decide) (t := (.array .byte)) (t' := .int) (by decide) (by decide)))).same W23
  have O23 := Old.wr O22 W23 g_r0
  have N23 := Fr.snoc X23 N22 g_r0
  have K23 := Keep.wr K22 W23 (Or.inl (List.mem_of_getElem? (i := 0) rfl))
  obtain ⟨fs, hr, hrun, hended, hW, hsame⟩ := X23.leave (v := none) (fun _ => rfl)
  refine own_by (W' := (T23.setTop (mkF m 14 #[.val (.ref r0), .val (.int p1), .val (.ref r2)] []))) (fun t k => XS.aloadN X22.here hx rfl (hb hby dprog_42_1_10) rfl rfl (st23 _ k)) ?_
  refine ⟨_, _, X23.returnOut hx Bd.returns (hb hby dprog_42_1_14) hr, hrun, hended, _, _, rfl, ?_, ⟨_, rfl⟩, hW, hsame.mono (by decide) (by decide)⟩
  show QBI Z r0 p1 r2 h0 n0 _ T23.heap _
  rw [e23]
  exact ⟨rfl, N23, K23, ((E0.wr W22).wr W23), (Fw22.other W23 (Or.inr (slot_ne (Or.inr (own_w hw 164)) (Or.inr (own_w hw 166)) (by decide) (t := .int) (t' := (.array .byte)) (by decide) (by decide)))), Fw23⟩
theorem pd_1 : parseMethodDescriptor "(II)Ljava/lang/String;" = some ⟨[.int, .int], some (.object "java/lang/String")⟩ := by decide +kernel
theorem pd_2 : parseMethodDescriptor "(I[B)V" = some ⟨[.int, (.array .byte)], none⟩ := by decide +kernel
theorem dprog_42_2_0 : decode prog_42_method_2_code 0 = .ok (.iload_n 1, 1) := by decide +kernel
theorem dprog_42_2_1 : decode prog_42_method_2_code 1 = .ok (.aload_n 0, 1) := by decide +kernel
theorem dprog_42_2_2 : decode prog_42_method_2_code 2 = .ok (.arraylength, 1) := by decide +kernel
theorem dprog_42_2_3 : decode prog_42_method_2_code 3 = .ok (.invokestatic 17, 3) := by decide +kernel
theorem dprog_42_2_6 : decode prog_42_method_2_code 6 = .ok (.astore_n 2, 1) := by decide +kernel
theorem dprog_42_2_7 : decode prog_42_method_2_code 7 = .ok (.aload_n 2, 1) := by decide +kernel
theorem dprog_42_2_8 : decode prog_42_method_2_code 8 = .ok (.ifnull 12, 3) := by decide +kernel
theorem dprog_42_2_20 : decode prog_42_method_2_code 20 = .ok (.new 8, 3) := by decide +kernel
theorem dprog_42_2_23 : decode prog_42_method_2_code 23 = .ok (.dup, 1) := by decide +kernel
theorem dprog_42_2_24 : decode prog_42_method_2_code 24 = .ok (.iload_n 1, 1) := by decide +kernel
theorem dprog_42_2_25 : decode prog_42_method_2_code 25 = .ok (.aload_n 0, 1) := by decide +kernel
theorem dprog_42_2_26 : decode prog_42_method_2_code 26 = .ok (.invokevirtual 26, 3) := by decide +kernel
theorem dprog_42_2_29 : decode prog_42_method_2_code 29 = .ok (.checkcast 27, 3) := by decide +kernel
theorem dprog_42_2_32 : decode prog_42_method_2_code 32 = .ok (.invokespecial 31, 3) := by decide +kernel
theorem dprog_42_2_35 : decode prog_42_method_2_code 35 = .ok (.areturn, 1) := by decide +kernel
theorem efof0 (m : MethodId) (r0 : Addr) : entryFrame m #[(.ref r0), (.int (0 : Int32))] 3 = mkF m 0 #[.val (.ref r0), .val (.int (0 : Int32)), .unset] [] := by first | (simp [entryFrame, mkF, argsToLocals, Value.category]; done) | rfl
def Qof0 (Z : State) (r0 : Addr) (kB : ClassId) (h0 : Heap) (n0 : Nat) (v : Option Value) (h : Heap) (L : List Loc) : Prop := ∃ (q ob : Addr) (kb : ClassId), v = some (.ref q) ∧ Fr n0 L ∧ Keep h0 h [] ∧ Exa Z h q "com/example/tagwright/tagwright/universal/BitString" ∧ Fld Z h q "com/example/tagwright/tagwright/universal/BitString" "unusedBits" "I" (.int (0 : Int32)) ∧ Fld Z h q "com/example/tagwright/tagwright/universal/BitString" "octets" "[B" (.ref ob) ∧ Arv Z h ob kb .byte (0 : Int32) [] (.int (0 : Int32))
abbrev own_Kof0 (Z : State) (r0 : Addr) (kB : ClassId) (h0 : Heap) (n0 : Nat) (s : State) : Outcome → State → Prop := fun o U' => ∃ v L, o = .returned v ∧ Qof0 Z r0 kB h0 n0 v U'.heap L ∧ FrameEnd s o U' L ({ frames := 2, cells := 2, slots := 2, locals := 27 } : Room).cells ({ frames := 2, cells := 2, slots := 2, locals := 27 } : Room).slots
set_option maxRecDepth 65536 in
set_option maxHeartbeats 40000000 in
theorem rmof0 (l : Launch) (Z : State) (a0 : Array Value) (hw : ∀ d ∈ tables_1, d.before a0 Z = true) (ws : List Jvm.Cond) (r0 : Addr) (kB : ClassId) (h0 : Heap) (n0 : Nat) (Z0 : n0 ≤ h0.size) (O0 : Old Z n0 h0) (E0 : Exa Z h0 r0 "[B") (V0 : Arv Z h0 r0 kB .byte (0 : Int32) [] (.int (0 : Int32))) :
    MetFree l (⟨"com/example/tagwright/tagwright/universal/BitString", "of", "([BI)Lcom/example/tagwright/tagwright/universal/BitString;"⟩ : MethodName) (head1 (Jvm.Cond.code (⟨"com/example/tagwright/tagwright/universal/BitString", "of", "([BI)Lcom/example/tagwright/tagwright/universal/BitString;"⟩ : MethodName) prog_42_method_2_code 3 (some (.object "com/example/tagwright/tagwright/universal/BitString")) :: ws) ({ frames := 2, cells := 2, slots := 2, locals := 27 } : Room)) (fun a U => a = #[(.ref r0), (.int (0 : Int32))] ∧ Z.Warmed39 U.vm ∧ U.heap = h0) (fun _ _ _ _ _ => True) (fun _ U o U' => ∃ v L, o = .returned v ∧ Qof0 Z r0 kB h0 n0 v U'.heap L ∧ FrameEnd U o U' L ({ frames := 2, cells := 2, slots := 2, locals := 27 } : Room).cells ({ frames := 2, cells := 2, slots := 2, locals := 27 } : Room).slots) := by
  refine MetFree.of_bodySF (plainFor_of_name pn_com_example_tagwright_tagwright_universal_BitString) hisR ?_
  intro p e s m args below meth c s₁ Bd hml0 hP hK
  obtain ⟨rfl, hZ, hh⟩ := hP
  have hx := Bd.exec
  have hby := Bd.bytes
  have hml : c.maxLocals = 3 := hml0
  have hown : s.vm.findClass "com/example/tagwright/tagwright/universal/BitString" = some m.cls := findClass_of_methodNamed Bd.named
  have hnm := (name_of_methodNamed Bd.named Bd.method).1
  have X0 : Stand p l e ({ frames := 2, cells := 2, slots := 2, locals := 27 } : Room) s m #[(.ref r0), (.int (0 : Int32))] below meth c s₁ [] 0 0 := Stand.of_body Bd
  have e0 : s₁.heap = h0 := by rw [← hh, Bd.state]; rfl
  have N0 := Fr.nil n0
  refine own_by (p := p) (e := e) (below := below) (K := own_Kof0 Z r0 kB h0 n0 s) (W' := s₁.setTop (mkF m 0 #[.val (.ref r0), .val (.int (0 : Int32)), .unset] [])) (fun t k => castTop (efof0 m r0) k) ?_
  obtain ⟨clu21, Aru21, qu21, Su21, Ngu21, Hau21, Gau21⟩ := id V0
  refine own_by (W' := (s₁.setTop (mkF m 3 #[.val (.ref r0), .val (.int (0 : Int32)), .unset] [(.int clu21.slots.size.toInt32), (.int (0 : Int32))]))) (fun t k => XS.iloadN X0.here hx rfl (hb hby dprog_42_2_0) rfl (XS.aloadN X0.here hx rfl (hb hby dprog_42_2_1) rfl rfl ((X0.arraylength hx (by rw [e0]; exact Aru21.1) (State.isArrayOf_alike hZ.alike Aru21.2.1) (g := (mkF m 2 #[.val (.ref r0), .val (.int (0 : Int32)), .unset] [(.ref r0), (.int (0 : Int32))])) rfl rfl (hb hby dprog_42_2_2)) _ k))) ?_
  rw [len_of Su21 Ngu21]
  obtain ⟨_, _, ⟨T22, L22, k22, n22⟩, -, X22, ⟨Lc22, hQ22, l22, y22, z22⟩, st22⟩ := Jvm.LawKit.callS X0 hx (y := (⟨"com/example/tagwright/tagwright/universal/BitString", "fault", "(II)Ljava/lang/String;"⟩ : MethodName)) hown (mvT hZ (own_w hw 146)) (mvT hZ (own_w hw 147)) (mvT hZ (own_w hw 144)) (mvT hZ (own_w hw 148)) (by decide) (backOf (W := 0) (rmf0 l Z a0 hw []  h0 n0 Z0 ) hZ (own_w hw 148) (own_w hw 144) (by decide) (by decide)) (g := (mkF m 3 #[.val (.ref r0), .val (.int (0 : Int32)), .unset] [(.int (0 : Int32)), (.int (0 : Int32))])) rfl (by rw [hml]; rfl) (argsL := [(.int (0 : Int32)), (.int (0 : Int32))]) (rest := []) (lenOf pd_1 rfl) rfl (by show 2 * 0 + _ ≤ _; exact Nat.le_of_eq rfl) (hb hby dprog_42_2_3) (fun _ _ => ⟨rfl, e0, (by decide : 0 + 0 ≤ _), (by decide : 0 + 0 ≤ _)⟩)
  dsimp only [Pt.U, Pt.locs, Pt.cells, Pt.slots] at X22 l22 y22 z22 st22 hQ22
  subst l22 y22 z22
  obtain ⟨rfl, N22q, e22⟩ := hQ22
  have N22 := Fr.app N0 N22q
  obtain ⟨T23, h23, X23, e23, E23, A23, D23, -, st23⟩ := newO X22 hx hZ hown (own_w hw 149) (own_w hw 150) (own_w hw 144) e22 (g := (mkF m 20 #[.val (.ref r0), .val (.int (0 : Int32)), .val .null] [])) rfl (hb hby dprog_42_2_20) (by decide) (by decide)
  obtain ⟨b23, g23⟩ : ∃ z, z = h0.size := ⟨_, rfl⟩
  rw [← g23] at A23 D23 st23
  have g_b23 : n0 ≤ b23 := Nat.le_trans (own_le O0) (Nat.le_of_eq g23.symm)
  have sz_b23 : h0.size ≤ b23 := Nat.le_trans (Keep.refl h0 []).1 (Nat.le_of_eq g23.symm)
  have ne_r0_b23 : r0 ≠ b23 := Nat.ne_of_lt (Nat.lt_of_lt_of_le E0.lt (Nat.le_of_eq g23.symm))
  have O23 := O0.ext E23
  have K23 := Keep.ext (Keep.refl h0 []) E23
  have F_unusedBits_b23 : Fld Z h23 b23 "com/example/tagwright/tagwright/universal/BitString" "unusedBits" "I" (.int (0 : Int32)) := D23 (Or.inr (own_w hw 164)) (ty := .int) (by decide)
  have F_octets_b23 : Fld Z h23 b23 "com/example/tagwright/tagwright/universal/BitString" "octets" "[B" .null := D23 (Or.inr (own_w hw 166)) (ty := (.array .byte)) (by decide)
  refine own_by (W' := (T23.setTop (mkF m 24 #[.val (.ref r0), .val (.int (0 : Int32)), .val .null] [(.ref b23), (.ref b23)]))) (fun t k => st22 _ (XS.astoreN X22.here hx rfl (hb hby dprog_42_2_6) rfl rfl (l' := #[.val (.ref r0), .val (.int (0 : Int32)), .val .null]) rfl (XS.aloadN X22.here hx rfl (hb hby dprog_42_2_7) rfl rfl (XS.ifnullYes X22.here hx rfl (pc0 := 8) (pc' := 20) rfl (hb hby dprog_42_2_8) rfl (by decide) (by decide) (st23 _ (XS.dup X23.here hx rfl (hb hby dprog_42_2_23) rfl rfl k)))))) ?_
  obtain ⟨T24, h24, X24, e24, E24, A24, Ex24, st24⟩ := cloneH X23 hx hZ hown (own_w hw 151) (own_w hw 152) (own_w hw 156) (own_w hw 154) (own_w hw 155) (own_w hw 157) e23 (Arv.arh (V0.ext E23)) (E0.ext E23) (g := (mkF m 26 #[.val (.ref r0), .val (.int (0 : Int32)), .val .null] [(.ref r0), (.int (0 : Int32)), (.ref b23), (.ref b23)])) rfl (by rw [hml]; rfl) rfl (hb hby dprog_42_2_26) (by decide) (W := 3) (by show 2 * 0 + _ ≤ _; exact Nat.le_of_eq rfl) (by decide) (cap := 0) (by decide) (by decide) (by decide)
  obtain ⟨b24, g24⟩ : ∃ z, z = h23.size := ⟨_, rfl⟩
  rw [← g24] at A24 Ex24 st24
  have g_b24 : n0 ≤ b24 := Nat.le_trans (own_le O23) (Nat.le_of_eq g24.symm)
  have sz_b24 : h0.size ≤ b24 := Nat.le_trans K23.1 (Nat.le_of_eq g24.symm)
  have ne_r0_b24 : r0 ≠ b24 := Nat.ne_of_lt (Nat.lt_of_lt_of_le (E0.ext E23).lt (Nat.le_of_eq g24.symm))
  have ne_b23_b24 : b23 ≠ b24 := Nat.ne_of_lt (Nat.lt_of_lt_of_le A23.lt (Nat.le_of_eq g24.symm))
  have O24 := O23.ext E24
  have K24 := Keep.ext K23 E24
  have V_b24 : Arv Z h24 b24 kB .byte (0 : Int32) [] (.int (0 : Int32)) := A24
  obtain ⟨T25, X25, e25, st25⟩ := castY X24 hx hZ hown (own_w hw 158) e24 (Ins.self Ex24) (g := (mkF m 29 #[.val (.ref r0), .val (.int (0 : Int32)), .val .null] [(.ref b24), (.int (0 : Int32)), (.ref b23), (.ref b23)])) rfl rfl (hb hby dprog_42_2_29)
  obtain ⟨_, _, ⟨T26, L26, k26, n26⟩, -, X26, ⟨Lc26, hQ26, l26, y26, z26⟩, st26⟩ := X25.specialBack hx (y := (⟨"com/example/tagwright/tagwright/universal/BitString", "<init>", "(I[B)V"⟩ : MethodName)) rfl hown (mvT hZ (own_w hw 159)) (mvT hZ (own_w hw 160)) (mvT hZ (own_w hw 161)) (by decide) (backOf (W := 1) (rmBI l Z a0 hw [] b23 (0 : Int32) b24 h24 n0 (own_le O24) O24 (A23.ext E24) g_b23 (F_unusedBits_b23.ext E24) (F_octets_b23.ext E24)) hZ (own_w hw 161) (own_w hw 144) (by decide) (by decide)) (g := (mkF m 32 #[.val (.ref r0), .val (.int (0 : Int32)), .val .null] [(.ref b24), (.int (0 : Int32)), (.ref b23), (.ref b23)])) rfl (by rw [hml]; rfl) (Steps.refl _) (a := b23) (argsL := [(.int (0 : Int32)), (.ref b24)]) (rest := [(.ref b23)]) (lenOf pd_2 rfl) rfl (by show 2 * 0 + _ ≤ _; exact Nat.le_of_eq rfl) (hb hby dprog_42_2_32) (fun _ _ => ⟨rfl, e25, (by decide : 2 + 0 ≤ _), (by decide : 2 + 0 ≤ _)⟩)
  dsimp only [Pt.U, Pt.locs, Pt.cells, Pt.slots] at X26 l26 y26 z26 st26 hQ26
  subst l26 y26 z26
  obtain ⟨rfl, N26q, Kq26, Eq26, Fq26_u, Fq26_o⟩ := hQ26
  have O26 := Old.keep O24 Kq26 (allS g_b23 all0)
  have K26 := Keep.trans K24 Kq26 (allS (Or.inr sz_b23) all0)
  have N26 := Fr.app N22 N26q
  obtain ⟨fs, hr, hrun, hended, hW, hsame⟩ := X26.leave (v := some (.ref b23)) (fun h => by rw [Bd.returns] at h; cases h)
  refine own_by (W' := (T26.setTop (mkF m 35 #[.val (.ref r0), .val (.int (0 : Int32)), .val .null] [(.ref b23)]))) (fun t k => XS.iloadN X23.here hx rfl (hb hby dprog_42_2_24) rfl (XS.aloadN X23.here hx rfl (hb hby dprog_42_2_25) rfl rfl (st24 _ (st25 _ (Steps.trans st26 k))))) ?_
  refine ⟨_, _, retOut X26 hx Bd.returns rfl (Or.inr (Or.inr (Or.inr (Or.inr ⟨rfl, rfl, rfl⟩)))) (hb hby dprog_42_2_35) hr, hrun, hended, _, _, rfl, ?_, ⟨_, rfl⟩, hW, hsame.mono (by decide) (by decide)⟩
  show Qof0 Z r0 kB h0 n0 _ T26.heap _
  exact ⟨_, _, _, rfl, N26, K26, Eq26, Fq26_u, Fq26_o, (V_b24.keep Kq26 (ninS ne_b23_b24.symm nin0))⟩
theorem efof1 (m : MethodId) (r0 : Addr) (p1 : Int32) : entryFrame m #[(.ref r0), (.int p1)] 3 = mkF m 0 #[.val (.ref r0), .val (.int p1), .unset] [] := by first | (simp [entryFrame, mkF, argsToLocals, Value.category]; done) | rfl
def Qof1 (Z : State) (r0 : Addr) (p1 : Int32) (kB : ClassId) (h0 : Heap) (n0 : Nat) (v : Option Value) (h : Heap) (L : List Loc) : Prop := ∃ (q ob : Addr) (kb : ClassId), v = some (.ref q) ∧ Fr n0 L ∧ Keep h0 h [] ∧ Exa Z h q "com/example/tagwright/tagwright/universal/BitString" ∧ Fld Z h q "com/example/tagwright/tagwright/universal/BitString" "unusedBits" "I" (.int p1) ∧ Fld Z h q "com/example/tagwright/tagwright/universal/BitString" "octets" "[B" (.ref ob) ∧ Arv Z h ob kb .byte (1 : Int32) [(.int (0 : Int32))] (.int (0 : Int32))
abbrev own_Kof1 (Z : State) (r0 : Addr) (p1 : Int32) (kB : ClassId) (h0 : Heap) (n0 : Nat) (s : State) : Outcome → State → Prop := fun o U' => ∃ v L, o = .returned v ∧ Qof1 Z r0 p1 kB h0 n0 v U'.heap L ∧ FrameEnd s o U' L ({ frames := 2, cells := 2, slots := 3, locals := 27 } : Room).cells ({ frames := 2, cells := 2, slots := 3, locals := 27 } : Room).slots
set_option maxRecDepth 65536 in
set_option maxHeartbeats 40000000 in
theorem rmof1 (l : Launch) (Z : State) (a0 : Array Value) (hw : ∀ d ∈ tables_1, d.before a0 Z = true) (ws : List Jvm.Cond) (r0 : Addr) (p1 : Int32) (kB : ClassId) (h0 : Heap) (n0 : Nat) (Z0 : n0 ≤ h0.size) (O0 : Old Z n0 h0) (E0 : Exa Z h0 r0 "[B") (V0 : Arv Z h0 r0 kB .byte (1 : Int32) [(.int (0 : Int32))] (.int (0 : Int32))) (hu1 : ¬ p1 < (0 : Int32)) (hu2 : ¬ (7 : Int32) < p1) :
    MetFree l (⟨"com/example/tagwright/tagwright/universal/BitString", "of", "([BI)Lcom/example/tagwright/tagwright/universal/BitString;"⟩ : MethodName) (head1 (Jvm.Cond.code (⟨"com/example/tagwright/tagwright/universal/BitString", "of", "([BI)Lcom/example/tagwright/tagwright/universal/BitString;"⟩ : MethodName) prog_42_method_2_code 3 (some (.object "com/example/tagwright/tagwright/universal/BitString")) :: ws) ({ frames := 2, cells := 2, slots := 3, locals := 27 } : Room)) (fun a U => a = #[(.ref r0), (.int p1)] ∧ Z.Warmed39 U.vm ∧ U.heap = h0) (fun _ _ _ _ _ => True) (fun _ U o U' => ∃ v L, o = .returned v ∧ Qof1 Z r0 p1 kB h0 n0 v U'.heap L ∧ FrameEnd U o U' L ({ frames := 2, cells := 2, slots := 3, locals := 27 } : Room).cells ({ frames := 2, cells := 2, slots := 3, locals := 27 } : Room).slots) := by
  refine MetFree.of_bodySF (plainFor_of_name pn_com_example_tagwright_tagwright_universal_BitString) hisR ?_
  intro p e s m args below meth c s₁ Bd hml0 hP hK
  obtain ⟨rfl, hZ, hh⟩ := hP
  have hx := Bd.exec
  have hby := Bd.bytes
  have hml : c.maxLocals = 3 := hml0
  have hown : s.vm.findClass "com/example/tagwright/tagwright/universal/BitString" = some m.cls := findClass_of_methodNamed Bd.named
  have hnm := (name_of_methodNamed Bd.named Bd.method).1
  have X0 : Stand p l e ({ frames := 2, cells := 2, slots := 3, locals := 27 } : Room) s m #[(.ref r0), (.int p1)] below meth c s₁ [] 0 0 := Stand.of_body Bd
  have e0 : s₁.heap = h0 := by rw [← hh, Bd.state]; rfl
  have N0 := Fr.nil n0
  refine own_by (p := p) (e := e) (below := below) (K := own_Kof1 Z r0 p1 kB h0 n0 s) (W' := s₁.setTop (mkF m 0 #[.val (.ref r0), .val (.int p1), .unset] [])) (fun t k => castTop (efof1 m r0 p1) k) ?_
  obtain ⟨clu21, Aru21, qu21, Su21, Ngu21, Hau21, Gau21⟩ := id V0
  refine own_by (W' := (s₁.setTop (mkF m 3 #[.val (.ref r0), .val (.int p1), .unset] [(.int clu21.slots.size.toInt32), (.int p1)]))) (fun t k => XS.iloadN X0.here hx rfl (hb hby dprog_42_2_0) rfl (XS.aloadN X0.here hx rfl (hb hby dprog_42_2_1) rfl rfl ((X0.arraylength hx (by rw [e0]; exact Aru21.1) (State.isArrayOf_alike hZ.alike Aru21.2.1) (g := (mkF m 2 #[.val (.ref r0), .val (.int p1), .unset] [(.ref r0), (.int p1)])) rfl rfl (hb hby dprog_42_2_2)) _ k))) ?_
  rw [len_of Su21 Ngu21]
  obtain ⟨_, _, ⟨T22, L22, k22, n22⟩, -, X22, ⟨Lc22, hQ22, l22, y22, z22⟩, st22⟩ := Jvm.LawKit.callS X0 hx (y := (⟨"com/example/tagwright/tagwright/universal/BitString", "fault", "(II)Ljava/lang/String;"⟩ : MethodName)) hown (mvT hZ (own_w hw 146)) (mvT hZ (own_w hw 147)) (mvT hZ (own_w hw 144)) (mvT hZ (own_w hw 148)) (by decide) (backOf (W := 0) (rmfG l Z a0 hw [] p1 (1 : Int32) h0 n0 Z0 hu1 hu2 (by decide)) hZ (own_w hw 148) (own_w hw 144) (by decide) (by decide)) (g := (mkF m 3 #[.val (.ref r0), .val (.int p1), .unset] [(.int (1 : Int32)), (.int p1)])) rfl (by rw [hml]; rfl) (argsL := [(.int p1), (.int (1 : Int32))]) (rest := []) (lenOf pd_1 rfl) rfl (by show 2 * 0 + _ ≤ _; exact Nat.le_of_eq rfl) (hb hby dprog_42_2_3) (fun _ _ => ⟨rfl, e0, (by decide : 0 + 0 ≤ _), (by decide : 0 + 0 ≤ _)⟩)
  dsimp only [Pt.U, Pt.locs, Pt.cells, Pt.slots] at X22 l22 y22 z22 st22 hQ22
  subst l22 y22 z22
  obtain ⟨rfl, N22q, e22⟩ := hQ22
  have N22 := Fr.app N0 N22q
  obtain ⟨T23, h23, X23, e23, E23, A23, D23, -, st23⟩ := newO X22 hx hZ hown (own_w hw 149) (own_w hw 150) (own_w hw 144) e22 (g := (mkF m 20 #[.val (.ref r0), .val (.int p1), .val .null] [])) rfl (hb hby dprog_42_2_20) (by decide) (by decide)
  obtain ⟨b23, g23⟩ : ∃ z, z = h0.size := ⟨_, rfl⟩
  rw [← g23] at A23 D23 st23
  have g_b23 : n0 ≤ b23 := Nat.le_trans (own_le O0) (Nat.le_of_eq g23.symm)
  have sz_b23 : h0.size ≤ b23 := Nat.le_trans (Keep.refl h0 []).1 (Nat.le_of_eq g23.symm)
  have ne_r0_b23 : r0 ≠ b23 := Nat.ne_of_lt (Nat.lt_of_lt_of_le E0.lt (Nat.le_of_eq g23.symm))
  have O23 := O0.ext E23
  have K23 := Keep.ext (Keep.refl h0 []) E23
  have F_unusedBits_b23 : Fld Z h23 b23 "com/example/tagwright/tagwright/universal/BitString" "unusedBits" "I" (.int (0 : Int32)) := D23 (Or.inr (own_w hw 164)) (ty := .int) (by decide)
  have F_octets_b23 : Fld Z h23 b23 "com/example/tagwright/tagwright/universal/BitString" "octets" "[B" .null := D23 (Or.inr (own_w hw 166)) (ty := (.array .byte)) (by decide)
  refine own_by (W' := (T23.setTop (mkF m 24 #[.val (.ref r0), .val (.int p1), .val .null] [(.ref b23), (.ref b23)]))) (fun t k => st22 _ (XS.astoreN X22.here hx rfl (hb hby dprog_42_2_6) rfl rfl (l' := #[.val (.ref r0), .val (.int p1), .val .null]) rfl (XS.aloadN X22.here hx rfl (hb hby dprog_42_2_7) rfl rfl (XS.ifnullYes X22.here hx rfl (pc0 := 8) (pc' := 20) rfl (hb hby dprog_42_2_8) rfl (by decide) (by decide) (st23 _ (XS.dup X23.here hx rfl (hb hby dprog_42_2_23) rfl rfl k)))))) ?_
  obtain ⟨T24, h24, X24, e24, E24, A24, Ex24, st24⟩ := cloneH X23 hx hZ hown (own_w hw 151) (own_w hw 152) (own_w hw 156) (own_w hw 154) (own_w hw 155) (own_w hw 157) e23 (Arv.arh (V0.ext E23)) (E0.ext E23) (g := (mkF m 26 #[.val (.ref r0), .val (.int p1), .val .null] [(.ref r0), (.int p1), (.ref b23), (.ref b23)])) rfl (by rw [hml]; rfl) rfl (hb hby dprog_42_2_26) (by decide) (W := 3) (by show 2 * 0 + _ ≤ _; exact Nat.le_of_eq rfl) (by decide) (cap := 1) (by decide) (by decide) (by decide)
  obtain ⟨b24, g24⟩ : ∃ z, z = h23.size := ⟨_, rfl⟩
  rw [← g24] at A24 Ex24 st24
  have g_b24 : n0 ≤ b24 := Nat.le_trans (own_le O23) (Nat.le_of_eq g24.symm)
  have sz_b24 : h0.size ≤ b24 := Nat.le_trans K23.1 (Nat.le_of_eq g24.symm)
  have ne_r0_b24 : r0 ≠ b24 := Nat.ne_of_lt (Nat.lt_of_lt_of_le (E0.ext E23).lt (Nat.le_of_eq g24.symm))
  have ne_b23_b24 : b23 ≠ b24 := Nat.ne_of_lt (Nat.lt_of_lt_of_le A23.lt (Nat.le_of_eq g24.symm))
  have O24 := O23.ext E24
  have K24 := Keep.ext K23 E24
  have V_b24 : Arv Z h24 b24 kB .byte (1 : Int32) [(.int (0 : Int32))] (.int (0 : Int32)) := A24
  obtain ⟨T25, X25, e25, st25⟩ := castY X24 hx hZ hown (own_w hw 158) e24 (Ins.self Ex24) (g := (mkF m 29 #[.val (.ref r0), .val (.int p1), .val .null] [(.ref b24), (.int p1), (.ref b23), (.ref b23)])) rfl rfl (hb hby dprog_42_2_29)
  obtain ⟨_, _, ⟨T26, L26, k26, n26⟩, -, X26, ⟨Lc26, hQ26, l26, y26, z26⟩, st26⟩ := X25.specialBack hx (y := (⟨"com/example/tagwright/tagwright/universal/BitString", "<init>", "(I[B)V"⟩ : MethodName)) rfl hown (mvT hZ (own_w hw 159)) (mvT hZ (own_w hw 160)) (mvT hZ (own_w hw 161)) (by decide) (backOf (W := 1) (rmBI l Z a0 hw [] b23 p1 b24 h24 n0 (own_le O24) O24 (A23.ext E24) g_b23 (F_unusedBits_b23.ext E24) (F_octets_b23.ext E24)) hZ (own_w hw 161) (own_w hw 144) (by decide) (by decide)) (g := (mkF m 32 #[.val (.ref r0), .val (.int p1), .val .null] [(.ref b24), (.int p1), (.ref b23), (.ref b23)])) rfl (by rw [hml]; rfl) (Steps.refl _) (a := b23) (argsL := [(.int p1), (.ref b24)]) (rest := [(.ref b23)]) (lenOf pd_2 rfl) rfl (by show 2 * 0 + _ ≤ _; exact Nat.le_of_eq rfl) (hb hby dprog_42_2_32) (fun _ _ => ⟨rfl, e25, (by decide : 2 + 0 ≤ _), (by decide : 3 + 0 ≤ _)⟩)
  dsimp only [Pt.U, Pt.locs, Pt.cells, Pt.slots] at X26 l26 y26 z26 st26 hQ26
  subst l26 y26 z26
  obtain ⟨rfl, N26q, Kq26, Eq26, Fq26_u, Fq26_o⟩ := hQ26
  have O26 := Old.keep O24 Kq26 (allS g_b23 all0)
  have K26 := Keep.trans K24 Kq26 (allS (Or.inr sz_b23) all0)
  have N26 := Fr.app N22 N26q
  obtain ⟨fs, hr, hrun, hended, hW, hsame⟩ := X26.leave (v := some (.ref b23)) (fun h => by rw [Bd.returns] at h; cases h)
  refine own_by (W' := (T26.setTop (mkF m 35 #[.val (.ref r0), .val (.int p1), .val .null] [(.ref b23)]))) (fun t k => XS.iloadN X23.here hx rfl (hb hby dprog_42_2_24) rfl (XS.aloadN X23.here hx rfl (hb hby dprog_42_2_25) rfl rfl (st24 _ (st25 _ (Steps.trans st26 k))))) ?_
  refine ⟨_, _, retOut X26 hx Bd.returns rfl (Or.inr (Or.inr (Or.inr (Or.inr ⟨rfl, rfl, rfl⟩)))) (hb hby dprog_42_2_35) hr, hrun, hended, _, _, rfl, ?_, ⟨_, rfl⟩, hW, hsame.mono (by decide) (by decide)⟩
  show Qof1 Z r0 p1 kB h0 n0 _ T26.heap _
  exact ⟨_, _, _, rfl, N26, K26, Eq26, Fq26_u, Fq26_o, (V_b24.keep Kq26 (ninS ne_b23_b24.symm nin0))⟩
theorem efof2 (m : MethodId) (r0 : Addr) (p1 : Int32) : entryFrame m #[(.ref r0), (.int p1)] 3 = mkF m 0 #[.val (.ref r0), .val (.int p1), .unset] [] := by first | (simp [entryFrame, mkF, argsToLocals, Value.category]; done) | rfl
def Qof2 (Z : State) (r0 : Addr) (p1 : Int32) (kB : ClassId) (h0 : Heap) (n0 : Nat) (v : Option Value) (h : Heap) (L : List Loc) : Prop := ∃ (q ob : Addr) (kb : ClassId), v = some (.ref q) ∧ Fr n0 L ∧ Keep h0 h [] ∧ Exa Z h q "com/example/tagwright/tagwright/universal/BitString" ∧ Fld Z h q "com/example/tagwright/tagwright/universal/BitString" "unusedBits" "I" (.int p1) ∧ Fld Z h q "com/example/tagwright/tagwright/universal/BitString" "octets" "[B" (.ref ob) ∧ Arv Z h ob kb .byte (2 : Int32) [(.int (0 : Int32)), (.int (0 : Int32))] (.int (0 : Int32))
abbrev own_Kof2 (Z : State) (r0 : Addr) (p1 : Int32) (kB : ClassId) (h0 : Heap) (n0 : Nat) (s : State) : Outcome → State → Prop := fun o U' => ∃ v L, o = .returned v ∧ Qof2 Z r0 p1 kB h0 n0 v U'.heap L ∧ FrameEnd s o U' L ({ frames := 2, cells := 2, slots := 4, locals := 27 } : Room).cells ({ frames := 2, cells := 2, slots := 4, locals := 27 } : Room).slots
set_option maxRecDepth 65536 in
set_option maxHeartbeats 40000000 in
theorem rmof2 (l : Launch) (Z : State) (a0 : Array Value) (hw : ∀ d ∈ tables_1, d.before a0 Z = true) (ws : List Jvm.Cond) (r0 : Addr) (p1 : Int32) (kB : ClassId) (h0 : Heap) (n0 : Nat) (Z0 : n0 ≤ h0.size) (O0 : Old Z n0 h0) (E0 : Exa Z h0 r0 "[B") (V0 : Arv Z h0 r0 kB .byte (2 : Int32) [(.int (0 : Int32)), (.int (0 : Int32))] (.int (0 : Int32))) (hu1 : ¬ p1 < (0 : Int32)) (hu2 : ¬ (7 : Int32) < p1) :
    MetFree l (⟨"com/example/tagwright/tagwright/universal/BitString", "of", "([BI)Lcom/example/tagwright/tagwright/universal/BitString;"⟩ : MethodName) (head1 (Jvm.Cond.code (⟨"com/example/tagwright/tagwright/universal/BitString", "of", "([BI)Lcom/example/tagwright/tagwright/universal/BitString;"⟩ : MethodName) prog_42_method_2_code 3 (some (.object "com/example/tagwright/tagwright/universal/BitString")) :: ws) ({ frames := 2, cells := 2, slots := 4, locals := 27 } : Room)) (fun a U => a = #[(.ref r0), (.int p1)] ∧ Z.Warmed39 U.vm ∧ U.heap = h0) (fun _ _ _ _ _ => True) (fun _ U o U' => ∃ v L, o = .returned v ∧ Qof2 Z r0 p1 kB h0 n0 v U'.heap L ∧ FrameEnd U o U' L ({ frames := 2, cells := 2, slots := 4, locals := 27 } : Room).cells ({ frames := 2, cells := 2, slots := 4, locals := 27 } : Room).slots) := by
  refine MetFree.of_bodySF (plainFor_of_name pn_com_example_tagwright_tagwright_universal_BitString) hisR ?_
  intro p e s m args below meth c s₁ Bd hml0 hP hK
  obtain ⟨rfl, hZ, hh⟩ := hP
  have hx := Bd.exec
  have hby := Bd.bytes
  have hml : c.maxLocals = 3 := hml0
  have hown : s.vm.findClass "com/example/tagwright/tagwright/universal/BitString" = some m.cls := findClass_of_methodNamed Bd.named
  have hnm := (name_of_methodNamed Bd.named Bd.method).1
  have X0 : Stand p l e ({ frames := 2, cells := 2, slots := 4, locals := 27 } : Room) s m #[(.ref r0), (.int p1)] below meth c s₁ [] 0 0 := Stand.of_body Bd
  have e0 : s₁.heap = h0 := by rw [← hh, Bd.state]; rfl
  have N0 := Fr.nil n0
  refine own_by (p := p) (e := e) (below := below) (K := own_Kof2 Z r0 p1 kB h0 n0 s) (W' := s₁.setTop (mkF m 0 #[.val (.ref r0), .val (.int p1), .unset] [])) (fun t k => castTop (efof2 m r0 p1) k) ?_
  obtain ⟨clu21, Aru21, qu21, Su21, Ngu21, Hau21, Gau21⟩ := id V0
  refine own_by (W' := (s₁.setTop (mkF m 3 #[.val (.ref r0), .val (.int p1), .unset] [(.int clu21.slots.size.toInt32), (.int p1)]))) (fun t k => XS.iloadN X0.here hx rfl (hb hby dprog_42_2_0) rfl (XS.aloadN X0.here hx rfl (hb hby dprog_42_2_1) rfl rfl ((X0.arraylength hx (by rw [e0]; exact Aru21.1) (State.isArrayOf_alike hZ.alike Aru21.2.1) (g := (mkF m 2 #[.val (.ref r0), .val (.int p1), .unset] [(.ref r0), (.int p1)])) rfl rfl (hb hby dprog_42_2_2)) _ k))) ?_
  rw [len_of Su21 Ngu21]
  obtain ⟨_, _, ⟨T22, L22, k22, n22⟩, -, X22, ⟨Lc22, hQ22, l22, y22, z22⟩, st22⟩ := Jvm.LawKit.callS X0 hx (y := (⟨"com/example/tagwright/tagwright/universal/BitString", "fault", "(II)Ljava/lang/String;"⟩ : MethodName)) hown (mvT hZ (own_w hw 146)) (mvT hZ (own_w hw 147)) (mvT hZ (own_w hw 144)) (mvT hZ (own_w hw 148)) (by decide) (backOf (W := 0) (rmfG l Z a0 hw [] p1 (2 : Int32) h0 n0 Z0 hu1 hu2 (by decide)) hZ (own_w hw 148) (own_w hw 144) (by decide) (by decide)) (g := (mkF m 3 #[.val (.ref r0), .val (.int p1), .unset] [(.int (2 : Int32)), (.int p1)])) rfl (by rw [hml]; rfl) (argsL := [(.int p1), (.int (2 : Int32))]) (rest := []) (lenOf pd_1 rfl) rfl (by show 2 * 0 + _ ≤ _; exact Nat.le_of_eq rfl) (hb hby dprog_42_2_3) (fun _ _ => ⟨rfl, e0, (by decide : 0 + 0 ≤ _), (by decide : 0 + 0 ≤ _)⟩)
  dsimp only [Pt.U, Pt.locs, Pt.cells, Pt.slots] at X22 l22 y22 z22 st22 hQ22
  subst l22 y22 z22
  obtain ⟨rfl, N22q, e22⟩ := hQ22
  have N22 := Fr.app N0 N22q
  obtain ⟨T23, h23, X23, e23, E23, A23, D23, -, st23⟩ := newO X22 hx hZ hown (own_w hw 149) (own_w hw 150) (own_w hw 144) e22 (g := (mkF m 20 #[.val (.ref r0), .val (.int p1), .val .null] [])) rfl (hb hby dprog_42_2_20) (by decide) (by decide)
  obtain ⟨b23, g23⟩ : ∃ z, z = h0.size := ⟨_, rfl⟩
  rw [← g23] at A23 D23 st23
  have g_b23 : n0 ≤ b23 := Nat.le_trans (own_le O0) (Nat.le_of_eq g23.symm)
  have sz_b23 : h0.size ≤ b23 := Nat.le_trans (Keep.refl h0 []).1 (Nat.le_of_eq g23.symm)
  have ne_r0_b23 : r0 ≠ b23 := Nat.ne_of_lt (Nat.lt_of_lt_of_le E0.lt (Nat.le_of_eq g23.symm))
  have O23 := O0.ext E23
  have K23 := Keep.ext (Keep.refl h0 []) E23
  have F_unusedBits_b23 : Fld Z h23 b23 "com/example/tagwright/tagwright/universal/BitString" "unusedBits" "I" (.int (0 : Int32)) := D23 (Or.inr (own_w hw 164)) (ty := .int) (by decide)
  have F_octets_b23 : Fld Z h23 b23 "com/example/tagwright/tagwright/universal/BitString" "octets" "[B" .null := D23 (Or.inr (own_w hw 166)) (ty := (.array .byte)) (by decide)
  refine own_by (W' := (T23.setTop (mkF m 24 #[.val (.ref r0), .val (.int p1), .val .null] [(.ref b23), (.ref b23)]))) (fun t k => st22 _ (XS.astoreN X22.here hx rfl (hb hby dprog_42_2_6) rfl rfl (l' := #[.val (.ref r0), .val (.int p1), .val .null]) rfl (XS.aloadN X22.here hx rfl (hb hby dprog_42_2_7) rfl rfl (XS.ifnullYes X22.here hx rfl (pc0 := 8) (pc' := 20) rfl (hb hby dprog_42_2_8) rfl (by decide) (by decide) (st23 _ (XS.dup X23.here hx rfl (hb hby dprog_42_2_23) rfl rfl k)))))) ?_
  obtain ⟨T24, h24, X24, e24, E24, A24, Ex24, st24⟩ := cloneH X23 hx hZ hown (own_w hw 151) (own_w hw 152) (own_w hw 156) (own_w hw 154) (own_w hw 155) (own_w hw 157) e23 (Arv.arh (V0.ext E23)) (E0.ext E23) (g := (mkF m 26 #[.val (.ref r0), .val (.int p1), .val .null] [(.ref r0), (.int p1), (.ref b23), (.ref b23)])) rfl (by rw [hml]; rfl) rfl (hb hby dprog_42_2_26) (by decide) (W := 3) (by show 2 * 0 + _ ≤ _; exact Nat.le_of_eq rfl) (by decide) (cap := 2) (by decide) (by decide) (by decide)
  obtain ⟨b24, g24⟩ : ∃ z, z = h23.size := ⟨_, rfl⟩
  rw [← g24] at A24 Ex24 st24
  have g_b24 : n0 ≤ b24 := Nat.le_trans (own_le O23) (Nat.le_of_eq g24.symm)
  have sz_b24 : h0.size ≤ b24 := Nat.le_trans K23.1 (Nat.le_of_eq g24.symm)
  have ne_r0_b24 : r0 ≠ b24 := Nat.ne_of_lt (Nat.lt_of_lt_of_le (E0.ext E23).lt (Nat.le_of_eq g24.symm))
  have ne_b23_b24 : b23 ≠ b24 := Nat.ne_of_lt (Nat.lt_of_lt_of_le A23.lt (Nat.le_of_eq g24.symm))
  have O24 := O23.ext E24
  have K24 := Keep.ext K23 E24
  have V_b24 : Arv Z h24 b24 kB .byte (2 : Int32) [(.int (0 : Int32)), (.int (0 : Int32))] (.int (0 : Int32)) := A24
  obtain ⟨T25, X25, e25, st25⟩ := castY X24 hx hZ hown (own_w hw 158) e24 (Ins.self Ex24) (g := (mkF m 29 #[.val (.ref r0), .val (.int p1), .val .null] [(.ref b24), (.int p1), (.ref b23), (.ref b23)])) rfl rfl (hb hby dprog_42_2_29)
  obtain ⟨_, _, ⟨T26, L26, k26, n26⟩, -, X26, ⟨Lc26, hQ26, l26, y26, z26⟩, st26⟩ := X25.specialBack hx (y := (⟨"com/example/tagwright/tagwright/universal/BitString", "<init>", "(I[B)V"⟩ : MethodName)) rfl hown (mvT hZ (own_w hw 159)) (mvT hZ (own_w hw 160)) (mvT hZ (own_w hw 161)) (by decide) (backOf (W := 1) (rmBI l Z a0 hw [] b23 p1 b24 h24 n0 (own_le O24) O24 (A23.ext E24) g_b23 (F_unusedBits_b23.ext E24) (F_octets_b23.ext E24)) hZ (own_w hw 161) (own_w hw 144) (by decide) (by decide)) (g := (mkF m 32 #[.val (.ref r0), .val (.int p1), .val .null] [(.ref b24), (.int p1), (.ref b23), (.ref b23)])) rfl (by rw [hml]; rfl) (Steps.refl _) (a := b23) (argsL := [(.int p1), (.ref b24)]) (rest := [(.ref b23)]) (lenOf pd_2 rfl) rfl (by show 2 * 0 + _ ≤ _; exact Nat.le_of_eq rfl) (hb hby dprog_42_2_32) (fun _ _ => ⟨rfl, e25, (by decide : 2 + 0 ≤ _), (by decide : 4 + 0 ≤ _)⟩)
  dsimp only [Pt.U, Pt.locs, Pt.cells, Pt.slots] at X26 l26 y26 z26 st26 hQ26
  subst l26 y26 z26
  obtain ⟨rfl, N26q, Kq26, Eq26, Fq26_u, Fq26_o⟩ := hQ26
  have O26 := Old.keep O24 Kq26 (allS g_b23 all0)
  have K26 := Keep.trans K24 Kq26 (allS (Or.inr sz_b23) all0)
  have N26 := Fr.app N22 N26q
  obtain ⟨fs, hr, hrun, hended, hW, hsame⟩ := X26.leave (v := some (.ref b23)) (fun h => by rw [Bd.returns] at h; cases h)
  refine own_by (W' := (T26.setTop (mkF m 35 #[.val (.ref r0), .val (.int p1), .val .null] [(.ref b23)]))) (fun t k => XS.iloadN X23.here hx rfl (hb hby dprog_42_2_24) rfl (XS.aloadN X23.here hx rfl (hb hby dprog_42_2_25) rfl rfl (st24 _ (st25 _ (Steps.trans st26 k))))) ?_
  refine ⟨_, _, retOut X26 hx Bd.returns rfl (Or.inr (Or.inr (Or.inr (Or.inr ⟨rfl, rfl, rfl⟩)))) (hb hby dprog_42_2_35) hr, hrun, hended, _, _, rfl, ?_, ⟨_, rfl⟩, hW, hsame.mono (by decide) (by decide)⟩
  show Qof2 Z r0 p1 kB h0 n0 _ T26.heap _
  exact ⟨_, _, _, rfl, N26, K26, Eq26, Fq26_u, Fq26_o, (V_b24.keep Kq26 (ninS ne_b23_b24.symm nin0))⟩
theorem efof3 (m : MethodId) (r0 : Addr) (p1 : Int32) : entryFrame m #[(.ref r0), (.int p1)] 3 = mkF m 0 #[.val (.ref r0), .val (.int p1), .unset] [] := by first | (simp [entryFrame, mkF, argsToLocals, Value.category]; done) | rfl
def Qof3 (Z : State) (r0 : Addr) (p1 : Int32) (kB : ClassId) (h0 : Heap) (n0 : Nat) (v : Option Value) (h : Heap) (L : List Loc) : Prop := ∃ (q ob : Addr) (kb : ClassId), v = some (.ref q) ∧ Fr n0 L ∧ Keep h0 h [] ∧ Exa Z h q "com/example/tagwright/tagwright/universal/BitString" ∧ Fld Z h q "com/example/tagwright/tagwright/universal/BitString" "unusedBits" "I" (.int p1) ∧ Fld Z h q "com/example/tagwright/tagwright/universal/BitString" "octets" "[B" (.ref ob) ∧ Arv Z h ob kb .byte (3 : Int32) [(.int (0 : Int32)), (.int (0 : Int32)), (.int (0 : Int32))] (.int (0 : Int32))
abbrev own_Kof3 (Z : State) (r0 : Addr) (p1 : Int32) (kB : ClassId) (h0 : Heap) (n0 : Nat) (s : State) : Outcome → State → Prop := fun o U' => ∃ v L, o = .returned v ∧ Qof3 Z r0 p1 kB h0 n0 v U'.heap L ∧ FrameEnd s o U' L ({ frames := 2, cells := 2, slots := 5, locals := 27 } : Room).cells ({ frames := 2, cells := 2, slots := 5, locals := 27 } : Room).slots
set_option maxRecDepth 65536 in
set_option maxHeartbeats 40000000 in
theorem rmof3 (l : Launch) (Z : State) (a0 : Array Value) (hw : ∀ d ∈ tables_1, d.before a0 Z = true) (ws : List Jvm.Cond) (r0 : Addr) (p1 : Int32) (kB : ClassId) (h0 : Heap) (n0 : Nat) (Z0 : n0 ≤ h0.size) (O0 : Old Z n0 h0) (E0 : Exa Z h0 r0 "[B") (V0 : Arv Z h0 r0 kB .byte (3 : Int32) [(.int (0 : Int32)), (.int (0 : Int32)), (.int (0 : Int32))] (.int (0 : Int32))) (hu1 : ¬ p1 < (0 : Int32)) (hu2 : ¬ (7 : Int32) < p1) :
    MetFree l (⟨"com/example/tagwright/tagwright/universal/BitString", "of", "([BI)Lcom/example/tagwright/tagwright/universal/BitString;"⟩ : MethodName) (head1 (Jvm.Cond.code (⟨"com/example/tagwright/tagwright/universal/BitString", "of", "([BI)Lcom/example/tagwright/tagwright/universal/BitString;"⟩ : MethodName) prog_42_method_2_code 3 (some (.object "com/example/tagwright/tagwright/universal/BitString")) :: ws) ({ frames := 2, cells := 2, slots := 5, locals := 27 } : Room)) (fun a U => a = #[(.ref r0), (.int p1)] ∧ Z.Warmed39 U.vm ∧ U.heap = h0) (fun _ _ _ _ _ => True) (fun _ U o U' => ∃ v L, o = .returned v ∧ Qof3 Z r0 p1 kB h0 n0 v U'.heap L ∧ FrameEnd U o U' L ({ frames := 2, cells := 2, slots := 5, locals := 27 } : Room).cells ({ frames := 2, cells := 2, slots := 5, locals := 27 } : Room).slots) := by
  refine MetFree.of_bodySF (plainFor_of_name pn_com_example_tagwright_tagwright_universal_BitString) hisR ?_
  intro p e s m args below meth c s₁ Bd hml0 hP hK
  obtain ⟨rfl, hZ, hh⟩ := hP
  have hx := Bd.exec
  have hby := Bd.bytes
  have hml : c.maxLocals = 3 := hml0
  have hown : s.vm.findClass "com/example/tagwright/tagwright/universal/BitString" = some m.cls := findClass_of_methodNamed Bd.named
  have hnm := (name_of_methodNamed Bd.named Bd.method).1
  have X0 : Stand p l e ({ frames := 2, cells := 2, slots := 5, locals := 27 } : Room) s m #[(.ref r0), (.int p1)] below meth c s₁ [] 0 0 := Stand.of_body Bd
  have e0 : s₁.heap = h0 := by rw [← hh, Bd.state]; rfl
  have N0 := Fr.nil n0
  refine own_by (p := p) (e := e) (below := below) (K := own_Kof3 Z r0 p1 kB h0 n0 s) (W' := s₁.setTop (mkF m 0 #[.val (.ref r0), .val (.int p1), .unset] [])) (fun t k => castTop (efof3 m r0 p1) k) ?_
  obtain ⟨clu21, Aru21, qu21, Su21, Ngu21, Hau21, Gau21⟩ := id V0
  refine own_by (W' := (s₁.setTop (mkF m 3 #[.val (.ref r0), .val (.int p1), .unset] [(.int clu21.slots.size.toInt32), (.int p1)]))) (fun t k => XS.iloadN X0.here hx rfl (hb hby dprog_42_2_0) rfl (XS.aloadN X0.here hx rfl (hb hby dprog_42_2_1) rfl rfl ((X0.arraylength hx (by rw [e0]; exact Aru21.1) (State.isArrayOf_alike hZ.alike Aru21.2.1) (g := (mkF m 2 #[.val (.ref r0), .val (.int p1), .unset] [(.ref r0), (.int p1)])) rfl rfl (hb hby dprog_42_2_2)) _ k))) ?_
  rw [len_of Su21 Ngu21]
  obtain ⟨_, _, ⟨T22, L22, k22, n22⟩, -, X22, ⟨Lc22, hQ22, l22, y22, z22⟩, st22⟩ := Jvm.LawKit.callS X0 hx (y := (⟨"com/example/tagwright/tagwright/universal/BitString", "fault", "(II)Ljava/lang/String;"⟩ : MethodName)) hown (mvT hZ (own_w hw 146)) (mvT hZ (own_w hw 147)) (mvT hZ (own_w hw 144)) (mvT hZ (own_w hw 148)) (by decide) (backOf (W := 0) (rmfG l Z a0 hw [] p1 (3 : Int32) h0 n0 Z0 hu1 hu2 (by decide)) hZ (own_w hw 148) (own_w hw 144) (by decide) (by decide)) (g := (mkF m 3 #[.val (.ref r0), .val (.int p1), .unset] [(.int (3 : Int32)), (.int p1)])) rfl (by rw [hml]; rfl) (argsL := [(.int p1), (.int (3 : Int32))]) (rest := []) (lenOf pd_1 rfl) rfl (by show 2 * 0 + _ ≤ _; exact Nat.le_of_eq rfl) (hb hby dprog_42_2_3) (fun _ _ => ⟨rfl, e0, (by decide : 0 + 0 ≤ _), (by decide : 0 + 0 ≤ _)⟩)
  dsimp only [Pt.U, Pt.locs, Pt.cells, Pt.slots] at X22 l22 y22 z22 st22 hQ22
  subst l22 y22 z22
  obtain ⟨rfl, N22q, e22⟩ := hQ22
  have N22 := Fr.app N0 N22q
  obtain ⟨T23, h23, X23, e23, E23, A23, D23, -, st23⟩ := newO X22 hx hZ hown (own_w hw 149) (own_w hw 150) (own_w hw 144) e22 (g := (mkF m 20 #[.val (.ref r0), .val (.int p1), .val .null] [])) rfl (hb hby dprog_42_2_20) (by decide) (by decide)
  obtain ⟨b23, g23⟩ : ∃ z, z = h0.size := ⟨_, rfl⟩
  rw [← g23] at A23 D23 st23
  have g_b23 : n0 ≤ b23 := Nat.le_trans (own_le O0) (Nat.le_of_eq g23.symm)
  have sz_b23 : h0.size ≤ b23 := Nat.le_trans (Keep.refl h0 []).1 (Nat.le_of_eq g23.symm)
  have ne_r0_b23 : r0 ≠ b23 := Nat.ne_of_lt (Nat.lt_of_lt_of_le E0.lt (Nat.le_of_eq g23.symm))
  have O23 := O0.ext E23
  have K23 := Keep.ext (Keep.refl h0 []) E23
  have F_unusedBits_b23 : Fld Z h23 b23 "com/example/tagwright/tagwright/universal/BitString" "unusedBits" "I" (.int (0 : Int32)) := D23 (Or.inr (own_w hw 164)) (ty := .int) (by decide)
  have F_octets_b23 : Fld Z h23 b23 "com/example/tagwright/tagwright/universal/BitString" "octets" "[B" .null := D23 (Or.inr (own_w hw 166)) (ty := (.array .byte)) (by decide)
  refine own_by (W' := (T23.setTop (mkF m 24 #[.val (.ref r0), .val (.int p1), .val .null] [(.ref b23), (.ref b23)]))) (fun t k => st22 _ (XS.astoreN X22.here hx rfl (hb hby dprog_42_2_6) rfl rfl (l' := #[.val (.ref r0), .val (.int p1), .val .null]) rfl (XS.aloadN X22.here hx rfl (hb hby dprog_42_2_7) rfl rfl (XS.ifnullYes X22.here hx rfl (pc0 := 8) (pc' := 20) rfl (hb hby dprog_42_2_8) rfl (by decide) (by decide) (st23 _ (XS.dup X23.here hx rfl (hb hby dprog_42_2_23) rfl rfl k)))))) ?_
  obtain ⟨T24, h24, X24, e24, E24, A24, Ex24, st24⟩ := cloneH X23 hx hZ hown (own_w hw 151) (own_w hw 152) (own_w hw 156) (own_w hw 154) (own_w hw 155) (own_w hw 157) e23 (Arv.arh (V0.ext E23)) (E0.ext E23) (g := (mkF m 26 #[.val (.ref r0), .val (.int p1), .val .null] [(.ref r0), (.int p1), (.ref b23), (.ref b23)])) rfl (by rw [hml]; rfl) rfl (hb hby dprog_42_2_26) (by decide) (W := 3) (by show 2 * 0 + _ ≤ _; exact Nat.le_of_eq rfl) (by decide) (cap := 3) (by decide) (by decide) (by decide)
  obtain ⟨b24, g24⟩ : ∃ z, z = h23.size := ⟨_, rfl⟩
  rw [← g24] at A24 Ex24 st24
  have g_b24 : n0 ≤ b24 := Nat.le_trans (own_le O23) (Nat.le_of_eq g24.symm)
  have sz_b24 : h0.size ≤ b24 := Nat.le_trans K23.1 (Nat.le_of_eq g24.symm)
  have ne_r0_b24 : r0 ≠ b24 := Nat.ne_of_lt (Nat.lt_of_lt_of_le (E0.ext E23).lt (Nat.le_of_eq g24.symm))
  have ne_b23_b24 : b23 ≠ b24 := Nat.ne_of_lt (Nat.lt_of_lt_of_le A23.lt (Nat.le_of_eq g24.symm))
  have O24 := O23.ext E24
  have K24 := Keep.ext K23 E24
  have V_b24 : Arv Z h24 b24 kB .byte (3 : Int32) [(.int (0 : Int32)), (.int (0 : Int32)), (.int (0 : Int32))] (.int (0 : Int32)) := A24
  obtain ⟨T25, X25, e25, st25⟩ := castY X24 hx hZ hown (own_w hw 158) e24 (Ins.self Ex24) (g := (mkF m 29 #[.val (.ref r0), .val (.int p1), .val .null] [(.ref b24), (.int p1), (.ref b23), (.ref b23)])) rfl rfl (hb hby dprog_42_2_29)
  obtain ⟨_, _, ⟨T26, L26, k26, n26⟩, -, X26, ⟨Lc26, hQ26, l26, y26, z26⟩, st26⟩ := X25.specialBack hx (y := (⟨"com/example/tagwright/tagwright/universal/BitString", "<init>", "(I[B)V"⟩ : MethodName)) rfl hown (mvT hZ (own_w hw 159)) (mvT hZ (own_w hw 160)) (mvT hZ (own_w hw 161)) (by decide) (backOf (W := 1) (rmBI l Z a0 hw [] b23 p1 b24 h24 n0 (own_le O24) O24 (A23.ext E24) g_b23 (F_unusedBits_b23.ext E24) (F_octets_b23.ext E24)) hZ (own_w hw 161) (own_w hw 144) (by decide) (by decide)) (g := (mkF m 32 #[.val (.ref r0), .val (.int p1), .val .null] [(.ref b24), (.int p1), (.ref b23), (.ref b23)])) rfl (by rw [hml]; rfl) (Steps.refl _) (a := b23) (argsL := [(.int p1), (.ref b24)]) (rest := [(.ref b23)]) (lenOf pd_2 rfl) rfl (by show 2 * 0 + _ ≤ _; exact Nat.le_of_eq rfl) (hb hby dprog_42_2_32) (fun _ _ => ⟨rfl, e25, (by decide : 2 + 0 ≤ _), (by decide : 5 + 0 ≤ _)⟩)
  dsimp only [Pt.U, Pt.locs, Pt.cells, Pt.slots] at X26 l26 y26 z26 st26 hQ26
  subst l26 y26 z26
  obtain ⟨rfl, N26q, Kq26, Eq26, Fq26_u, Fq26_o⟩ := hQ26
  have O26 := Old.keep O24 Kq26 (allS g_b23 all0)
  have K26 := Keep.trans K24 Kq26 (allS (Or.inr sz_b23) all0)
  have N26 := Fr.app N22 N26q
  obtain ⟨fs, hr, hrun, hended, hW, hsame⟩ := X26.leave (v := some (.ref b23)) (fun h => by rw [Bd.returns] at h; cases h)
  refine own_by (W' := (T26.setTop (mkF m 35 #[.val (.ref r0), .val (.int p1), .val .null] [(.ref b23)]))) (fun t k => XS.iloadN X23.here hx rfl (hb hby dprog_42_2_24) rfl (XS.aloadN X23.here hx rfl (hb hby dprog_42_2_25) rfl rfl (st24 _ (st25 _ (Steps.trans st26 k))))) ?_
  refine ⟨_, _, retOut X26 hx Bd.returns rfl (Or.inr (Or.inr (Or.inr (Or.inr ⟨rfl, rfl, rfl⟩)))) (hb hby dprog_42_2_35) hr, hrun, hended, _, _, rfl, ?_, ⟨_, rfl⟩, hW, hsame.mono (by decide) (by decide)⟩
  show Qof3 Z r0 p1 kB h0 n0 _ T26.heap _
  exact ⟨_, _, _, rfl, N26, K26, Eq26, Fq26_u, Fq26_o, (V_b24.keep Kq26 (ninS ne_b23_b24.symm nin0))⟩
theorem dprog_42_6_0 : decode prog_42_method_6_code 0 = .ok (.aload_n 0, 1) := by decide +kernel
theorem dprog_42_6_1 : decode prog_42_method_6_code 1 = .ok (.getfield 13, 3) := by decide +kernel
theorem dprog_42_6_4 : decode prog_42_method_6_code 4 = .ok (.arraylength, 1) := by decide +kernel
theorem dprog_42_6_5 : decode prog_42_method_6_code 5 = .ok (.i2l, 1) := by decide +kernel
theorem dprog_42_6_6 : decode prog_42_method_6_code 6 = .ok (.ldc2_w 55, 3) := by decide +kernel
theorem dprog_42_6_9 : decode prog_42_method_6_code 9 = .ok (.lmul, 1) := by decide +kernel
theorem dprog_42_6_10 : decode prog_42_method_6_code 10 = .ok (.aload_n 0, 1) := by decide +kernel
theorem dprog_42_6_11 : decode prog_42_method_6_code 11 = .ok (.getfield 7, 3) := by decide +kernel
theorem dprog_42_6_14 : decode prog_42_method_6_code 14 = .ok (.i2l, 1) := by decide +kernel
theorem dprog_42_6_15 : decode prog_42_method_6_code 15 = .ok (.lsub, 1) := by decide +kernel
theorem dprog_42_6_16 : decode prog_42_method_6_code 16 = .ok (.lreturn, 1) := by decide +kernel
theorem efGL (m : MethodId) (r0 : Addr) : entryFrame m #[(.ref r0)] 1 = mkF m 0 #[.val (.ref r0)] [] := by first | (simp [entryFrame, mkF, argsToLocals, Value.category]; done) | rfl
def QGL (Z : State) (r0 : Addr) (uu : Int32) (ob : Addr) (kb : ClassId) (zz : Int32) (vl : List Value) (h0 : Heap) (n0 : Nat) (v : Option Value) (h : Heap) (L : List Loc) : Prop := v = some (.long (((zz.toInt64) * (8 : Int64)) - (uu.toInt64))) ∧ Fr n0 L ∧ h = h0
abbrev own_KGL (Z : State) (r0 : Addr) (uu : Int32) (ob : Addr) (kb : ClassId) (zz : Int32) (vl : List Value) (h0 : Heap) (n0 : Nat) (s : State) : Outcome → State → Prop := fun o U' => ∃ v L, o = .returned v ∧ QGL Z r0 uu ob kb zz vl h0 n0 v U'.heap L ∧ FrameEnd s o U' L ({ frames := 0, cells := 0, slots := 0, locals := 0 } : Room).cells ({ frames := 0, cells := 0, slots := 0, locals := 0 } : Room).slots
set_option maxRecDepth 65536 in
set_option maxHeartbeats 40000000 in
theorem rmGL (l : Launch) (Z : State) (a0 : Array Value) (hw : ∀ d ∈ tables_1, d.before a0 Z = true) (ws : List Jvm.Cond) (r0 : Addr) (uu : Int32) (ob : Addr) (kb : ClassId) (zz : Int32) (vl : List Value) (h0 : Heap) (n0 : Nat) (Z0 : n0 ≤ h0.size) (F_u : Fld Z h0 r0 "com/example/tagwright/tagwright/universal/BitString" "unusedBits" "I" (.int uu)) (F_o : Fld Z h0 r0 "com/example/tagwright/tagwright/universal/BitString" "octets" "[B" (.ref ob)) (Vo : Arv Z h0 ob kb .byte zz vl (.int (0 : Int32))) :
    MetFree l (⟨"com/example/tagwright/tagwright/universal/BitString", "getLength", "()J"⟩ : MethodName) (head1 (Jvm.Cond.code (⟨"com/example/tagwright/tagwright/universal/BitString", "getLength", "()J"⟩ : MethodName) prog_42_method_6_code 1 (some .long) :: ws) ({ frames := 0, cells := 0, slots := 0, locals := 0 } : Room)) (fun a U => a = #[(.ref r0)] ∧ Z.Warmed39 U.vm ∧ U.heap = h0) (fun _ _ _ _ _ => True) (fun _ U o U' => ∃ v L, o = .returned v ∧ QGL Z r0 uu ob kb zz vl h0 n0 v U'.heap L ∧ FrameEnd U o U' L ({ frames := 0, cells := 0, slots := 0, locals := 0 } : Room).cells ({ frames := 0, cells := 0, slots := 0, locals := 0 } : Room).slots) := by
  refine MetFree.of_bodySF (plainFor_of_name pn_com_example_tagwright_tagwright_universal_BitString) hisR ?_
  intro p e s m args below meth c s₁ Bd hml0 hP hK
  obtain ⟨rfl, hZ, hh⟩ := hP
  have hx := Bd.exec
  have hby := Bd.bytes
  have hml : c.maxLocals = 1 := hml0
  have hown : s.vm.findClass "com/example/tagwright/tagwright/universal/BitString" = some m.cls := findClass_of_methodNamed Bd.named
  have hnm := (name_of_methodNamed Bd.named Bd.method).1
  have X0 : Stand p l e ({ frames := 0, cells := 0, slots := 0, locals := 0 } : Room) s m #[(.ref r0)] below meth c s₁ [] 0 0 := Stand.of_body Bd
  have e0 : s₁.heap = h0 := by rw [← hh, Bd.state]; rfl
  have N0 := Fr.nil n0
  refine own_by (p := p) (e := e) (below := below) (K := own_KGL Z r0 uu ob kb zz vl h0 n0 s) (W' := s₁.setTop (mkF m 0 #[.val (.ref r0)] [])) (fun t k => castTop (efGL m r0) k) ?_
  obtain ⟨T21, X21, e21, st21⟩ := getF X0 hx hZ hown (host := "") (Or.inl (own_w hw 165)) Via.refl e0 F_o (g := (mkF m 1 #[.val (.ref r0)] [(.ref r0)])) rfl rfl (hb hby dprog_42_6_1)
  obtain ⟨clu22, Aru22, qu22, Su22, Ngu22, Hau22, Gau22⟩ := id Vo
  refine own_by (W' := (T21.setTop (mkF m 5 #[.val (.ref r0)] [(.int clu22.slots.size.toInt32)]))) (fun t k => XS.aloadN X0.here hx rfl (hb hby dprog_42_6_0) rfl rfl (st21 _ ((X21.arraylength hx (by rw [e21]; exact Aru22.1) (State.isArrayOf_alike hZ.alike Aru22.2.1) (g := (mkF m 4 #[.val (.ref r0)] [(.ref ob)])) rfl rfl (hb hby dprog_42_6_4)) _ k))) ?_
  rw [len_of Su22 Ngu22]
  obtain ⟨T23, X23, e23, st23⟩ := getF X21 hx hZ hown (host := "") (Or.inl (own_w hw 163)) Via.refl e21 F_u (g := (mkF m 11 #[.val (.ref r0)] [(.ref r0), (.long ((zz.toInt64) * (8 : Int64)))])) rfl rfl (hb hby dprog_42_6_11)
  refine own_by (W' := (T23.setTop (mkF m 15 #[.val (.ref r0)] [(.long (uu.toInt64)), (.long ((zz.toInt64) * (8 : Int64)))]))) (fun t k => XS.i2l X21.here hx rfl (hb hby dprog_42_6_5) rfl ((X21.ldc2Long hx hown (mvT hZ (own_w hw 175)) (g := (mkF m 6 #[.val (.ref r0)] [(.long (zz.toInt64))])) rfl (hb hby dprog_42_6_6)) _ (XS.lmul X21.here hx rfl (hb hby dprog_42_6_9) rfl (XS.aloadN X21.here hx rfl (hb hby dprog_42_6_10) rfl rfl (st23 _ (XS.i2l X23.here hx rfl (hb hby dprog_42_6_14) rfl k)))))) ?_
  obtain ⟨fs, hr, hrun, hended, hW, hsame⟩ := X23.leave (v := some (.long (((zz.toInt64) * (8 : Int64)) - (uu.toInt64)))) (fun h => by rw [Bd.returns] at h; cases h)
  refine own_by (W' := (T23.setTop (mkF m 16 #[.val (.ref r0)] [(.long (((zz.toInt64) * (8 : Int64)) - (uu.toInt64)))]))) (fun t k => XS.lsub X23.here hx rfl (hb hby dprog_42_6_15) rfl k) ?_
  refine ⟨_, _, retOut X23 hx Bd.returns rfl (Or.inr (Or.inl ⟨rfl, rfl, _, rfl⟩)) (hb hby dprog_42_6_16) hr, hrun, hended, _, _, rfl, ?_, ⟨_, rfl⟩, hW, hsame.mono (by decide) (by decide)⟩
  exact ⟨rfl, N0, e23⟩
theorem djdk_42_152_0 : decode jdk_42_method_152_code 0 = .ok (.getstatic 38, 3) := by decide +kernel
theorem djdk_42_152_3 : decode jdk_42_method_152_code 3 = .ok (.ifCond .eq 10, 3) := by decide +kernel
theorem djdk_42_152_6 : decode jdk_42_method_152_code 6 = .ok (.aload_n 0, 1) := by decide +kernel
theorem djdk_42_152_7 : decode jdk_42_method_152_code 7 = .ok (.getfield 15, 3) := by decide +kernel
theorem djdk_42_152_10 : decode jdk_42_method_152_code 10 = .ok (.goto 4, 3) := by decide +kernel
theorem djdk_42_152_14 : decode jdk_42_method_152_code 14 = .ok (.ireturn, 1) := by decide +kernel
theorem pn_java_lang_String : plainName "java/lang/String" = true := by first | (simp [plainName, overriddenIn]; done) | decide +kernel
theorem efSC (m : MethodId) (r0 : Addr) : entryFrame m #[(.ref r0)] 1 = mkF m 0 #[.val (.ref r0)] [] := by first | (simp [entryFrame, mkF, argsToLocals, Value.category]; done) | rfl
def QSC (Z : State) (r0 : Addr) (zz : Int32) (vl : List Value) (wBOOLEAN : Addr) (wINTEGER : Addr) (wBITS : Addr) (wOCTETS : Addr) (wNULL : Addr) (wOBJECT_IDENTIFIER : Addr) (wTEXT : Addr) (wCOMPONENTS : Addr) (wELEMENTS : Addr) (wCHOICE : Addr) (wELEMENT : Addr) (cs : Int32) (wD : Addr) (kD : ClassId) (wC : Addr) (clC : Cell) (h0 : Heap) (n0 : Nat) (v : Option Value) (h : Heap) (L : List Loc) : Prop := v = some (.int (0 : Int32)) ∧ Fr n0 L ∧ h = h0
abbrev own_KSC (Z : State) (r0 : Addr) (zz : Int32) (vl : List Value) (wBOOLEAN : Addr) (wINTEGER : Addr) (wBITS : Addr) (wOCTETS : Addr) (wNULL : Addr) (wOBJECT_IDENTIFIER : Addr) (wTEXT : Addr) (wCOMPONENTS : Addr) (wELEMENTS : Addr) (wCHOICE : Addr) (wELEMENT : Addr) (cs : Int32) (wD : Addr) (kD : ClassId) (wC : Addr) (clC : Cell) (h0 : Heap) (n0 : Nat) (s : State) : Outcome → State → Prop := fun o U' => ∃ v L, o = .returned v ∧ QSC Z r0 zz vl wBOOLEAN wINTEGER wBITS wOCTETS wNULL wOBJECT_IDENTIFIER wTEXT wCOMPONENTS wELEMENTS wCHOICE wELEMENT cs wD kD wC clC h0 n0 v U'.heap L ∧ FrameEnd s o U' L ({ frames := 0, cells := 0, slots := 0, locals := 0 } : Room).cells ({ frames := 0, cells := 0, slots := 0, locals := 0 } : Room).slots
set_option maxRecDepth 65536 in
set_option maxHeartbeats 40000000 in
theorem rmSC (l : Launch) (Z : State) (a0 : Array Value) (hw : ∀ d ∈ tables_1, d.before a0 Z = true) (ws : List Jvm.Cond) (r0 : Addr) (zz : Int32) (vl : List Value) (wBOOLEAN : Addr) (wINTEGER : Addr) (wBITS : Addr) (wOCTETS : Addr) (wNULL : Addr) (wOBJECT_IDENTIFIER : Addr) (wTEXT : Addr) (wCOMPONENTS : Addr) (wELEMENTS : Addr) (wCHOICE : Addr) (wELEMENT : Addr) (cs : Int32) (wD : Addr) (kD : ClassId) (wC : Addr) (clC : Cell) (h0 : Heap) (n0 : Nat) (Z0 : n0 ≤ h0.size) (O0 : Old Z n0 h0) (HW : own_Wd Z wBOOLEAN wINTEGER wBITS wOCTETS wNULL wOBJECT_IDENTIFIER wTEXT wCOMPONENTS wELEMENTS wCHOICE wELEMENT cs wD kD wC clC) (T_s : own_St Z h0 r0 zz vl) :
    MetFree l (⟨"java/lang/String", "coder", "()B"⟩ : MethodName) (head1 (Jvm.Cond.code (⟨"java/lang/String", "coder", "()B"⟩ : MethodName) jdk_42_method_152_code 1 (some .byte) :: ws) ({ frames := 0, cells := 0, slots := 0, locals := 0 } : Room)) (fun a U => a = #[(.ref r0)] ∧ Z.Warmed39 U.vm ∧ U.heap = h0) (fun _ _ _ _ _ => True) (fun _ U o U' => ∃ v L, o = .returned v ∧ QSC Z r0 zz vl wBOOLEAN wINTEGER wBITS wOCTETS wNULL wOBJECT_IDENTIFIER wTEXT wCOMPONENTS wELEMENTS wCHOICE wELEMENT cs wD kD wC clC h0 n0 v U'.heap L ∧ FrameEnd U o U' L ({ frames := 0, cells := 0, slots := 0, locals := 0 } : Room).cells ({ frames := 0, cells := 0, slots := 0, locals := 0 } : Room).slots) := by
  refine MetFree.of_bodySF (plainFor_of_name pn_java_lang_String) hisR ?_
  intro p e s m args below meth c s₁ Bd hml0 hP hK
  obtain ⟨rfl, hZ, hh⟩ := hP
  have hx := Bd.exec
  have hby := Bd.bytes
  have hml : c.maxLocals = 1 := hml0
  have hown : s.vm.findClass "java/lang/String" = some m.cls := findClass_of_methodNamed Bd.named
  have hnm := (name_of_methodNamed Bd.named Bd.method).1
  have X0 : Stand p l e ({ frames := 0, cells := 0, slots := 0, locals := 0 } : Room) s m #[(.ref r0)] below meth c s₁ [] 0 0 := Stand.of_body Bd
  have e0 : s₁.heap = h0 := by rw [← hh, Bd.state]; rfl
  have N0 := Fr.nil n0
  refine own_by (p := p) (e := e) (below := below) (K := own_KSC Z r0 zz vl wBOOLEAN wINTEGER wBITS wOCTETS wNULL wOBJECT_IDENTIFIER wTEXT wCOMPONENTS wELEMENTS wCHOICE wELEMENT cs wD kD wC clC h0 n0 s) (W' := s₁.setTop (mkF m 0 #[.val (.ref r0)] [])) (fun t k => castTop (efSC m r0) k) ?_
  obtain ⟨E_s, C_s, q_s, k_s, F_s, V_s⟩ := id T_s
  obtain ⟨cl_s, -, -, -, hz, -, -⟩ := id V_s
  obtain ⟨T21, X21, e21, st21⟩ := getS (host := "") X0 hx hZ hown (own_w hw 188) Via.refl e0 (HW.2.2.2.2.2.2.2.2.2.2.2.2.2.2.2.2.2.2.2.2.2.2.2.2.2.2.2.2.2.2.2.2.2.1.ext O0.2) (g := (mkF m 0 #[.val (.ref r0)] [])) rfl (hb hby djdk_42_152_0)
  obtain ⟨T22, X22, e22, st22⟩ := getF X21 hx hZ hown (host := "") (Or.inl (own_w hw 199)) Via.refl e21 C_s (g := (mkF m 7 #[.val (.ref r0)] [(.ref r0)])) rfl rfl (hb hby djdk_42_152_7)
  obtain ⟨fs, hr, hrun, hended, hW, hsame⟩ := X22.leave (v := some (.int (0 : Int32))) (fun h => by rw [Bd.returns] at h; cases h)
  refine own_by (W' := (T22.setTop (mkF m 14 #[.val (.ref r0)] [(.int (0 : Int32))]))) (fun t k => st21 _ (XS.ifNo X21.here hx rfl (hb hby djdk_42_152_3) rfl ((if0 _ _).trans (feq HW.2.2.2.2.2.2.2.2.2.2.2.2.2.2.2.2.2.2.2.2.2.2.2.2.2.2.2.2.2.2.2.2.2.2.1).1) (XS.aloadN X21.here hx rfl (hb hby djdk_42_152_6) rfl rfl (st22 _ (XS.goto X22.here hx rfl (pc0 := 10) (pc' := 14) rfl (hb hby djdk_42_152_10) (by decide) (by decide) k))))) ?_
  refine ⟨_, _, retOut X22 hx Bd.returns rfl (Or.inl ⟨rfl, Or.inr (Or.inr (Or.inl rfl)), _, rfl⟩) (hb hby djdk_42_152_14) hr, hrun, hended, _, _, rfl, ?_, ⟨_, rfl⟩, hW, hsame.mono (by decide) (by decide)⟩
  exact ⟨rfl, N0, e22⟩
theorem djdk_42_154_0 : decode jdk_42_method_154_code 0 = .ok (.getstatic 38, 3) := by decide +kernel
theorem djdk_42_154_3 : decode jdk_42_method_154_code 3 = .ok (.ifCond .eq 14, 3) := by decide +kernel
theorem djdk_42_154_6 : decode jdk_42_method_154_code 6 = .ok (.aload_n 0, 1) := by decide +kernel
theorem djdk_42_154_7 : decode jdk_42_method_154_code 7 = .ok (.getfield 15, 3) := by decide +kernel
theorem djdk_42_154_10 : decode jdk_42_method_154_code 10 = .ok (.ifCond .ne 7, 3) := by decide +kernel
theorem djdk_42_154_13 : decode jdk_42_method_154_code 13 = .ok (.iconst 1, 1) := by decide +kernel
theorem djdk_42_154_14 : decode jdk_42_method_154_code 14 = .ok (.goto 4, 3) := by decide +kernel
theorem djdk_42_154_18 : decode jdk_42_method_154_code 18 = .ok (.ireturn, 1) := by decide +kernel
theorem efSL (m : MethodId) (r0 : Addr) : entryFrame m #[(.ref r0)] 1 = mkF m 0 #[.val (.ref r0)] [] := by first | (simp [entryFrame, mkF, argsToLocals, Value.category]; done) | rfl
def QSL (Z : State) (r0 : Addr) (zz : Int32) (vl : List Value) (wBOOLEAN : Addr) (wINTEGER : Addr) (wBITS : Addr) (wOCTETS : Addr) (wNULL : Addr) (wOBJECT_IDENTIFIER : Addr) (wTEXT : Addr) (wCOMPONENTS : Addr) (wELEMENTS : Addr) (wCHOICE : Addr) (wELEMENT : Addr) (cs : Int32) (wD : Addr) (kD : ClassId) (wC : Addr) (clC : Cell) (h0 : Heap) (n0 : Nat) (v : Option Value) (h : Heap) (L : List Loc) : Prop := v = some (.int (1 : Int32)) ∧ Fr n0 L ∧ h = h0
abbrev own_KSL (Z : State) (r0 : Addr) (zz : Int32) (vl : List Value) (wBOOLEAN : Addr) (wINTEGER : Addr) (wBITS : Addr) (wOCTETS : Addr) (wNULL : Addr) (wOBJECT_IDENTIFIER : Addr) (wTEXT : Addr) (wCOMPONENTS : Addr) (wELEMENTS : Addr) (wCHOICE : Addr) (wELEMENT : Addr) (cs : Int32) (wD : Addr) (kD : ClassId) (wC : Addr) (clC : Cell) (h0 : Heap) (n0 : Nat) (s : State) : Outcome → State → Prop := fun o U' => ∃ v L, o = .returned v ∧ QSL Z r0 zz vl wBOOLEAN wINTEGER wBITS wOCTETS wNULL wOBJECT_IDENTIFIER wTEXT wCOMPONENTS wELEMENTS wCHOICE wELEMENT cs wD kD wC clC h0 n0 v U'.heap L ∧ FrameEnd s o U' L ({ frames := 0, cells := 0, slots := 0, locals := 0 } : Room).cells ({ frames := 0, cells := 0, slots := 0, locals := 0 } : Room).slots
set_option maxRecDepth 65536 in
set_option maxHeartbeats 40000000 in
theorem rmSL (l : Launch) (Z : State) (a0 : Array Value) (hw : ∀ d ∈ tables_1, d.before a0 Z = true) (ws : List Jvm.Cond) (r0 : Addr) (zz : Int32) (vl : List Value) (wBOOLEAN : Addr) (wINTEGER : Addr) (wBITS : Addr) (wOCTETS : Addr) (wNULL : Addr) (wOBJECT_IDENTIFIER : Addr) (wTEXT : Addr) (wCOMPONENTS : Addr) (wELEMENTS : Addr) (wCHOICE : Addr) (wELEMENT : Addr) (cs : Int32) (wD : Addr) (kD : ClassId) (wC : Addr) (clC : Cell) (h0 : Heap) (n0 : Nat) (Z0 : n0 ≤ h0.size) (O0 : Old Z n0 h0) (HW : own_Wd Z wBOOLEAN wINTEGER wBITS wOCTETS wNULL wOBJECT_IDENTIFIER wTEXT wCOMPONENTS wELEMENTS wCHOICE wELEMENT cs wD kD wC clC) (T_s : own_St Z h0 r0 zz vl) :
    MetFree l (⟨"java/lang/String", "isLatin1", "()Z"⟩ : MethodName) (head1 (Jvm.Cond.code (⟨"java/lang/String", "isLatin1", "()Z"⟩ : MethodName) jdk_42_method_154_code 1 (some .boolean) :: ws) ({ frames := 0, cells := 0, slots := 0, locals := 0 } : Room)) (fun a U => a = #[(.ref r0)] ∧ Z.Warmed39 U.vm ∧ U.heap = h0) (fun _ _ _ _ _ => True) (fun _ U o U' => ∃ v L, o = .returned v ∧ QSL Z r0 zz vl wBOOLEAN wINTEGER wBITS wOCTETS wNULL wOBJECT_IDENTIFIER wTEXT wCOMPONENTS wELEMENTS wCHOICE wELEMENT cs wD kD wC clC h0 n0 v U'.heap L ∧ FrameEnd U o U' L ({ frames := 0, cells := 0, slots := 0, locals := 0 } : Room).cells ({ frames := 0, cells := 0, slots := 0, locals := 0 } : Room).slots) := by
  refine MetFree.of_bodySF (plainFor_of_name pn_java_lang_String) hisR ?_
  intro p e s m args below meth c s₁ Bd hml0 hP hK
  obtain ⟨rfl, hZ, hh⟩ := hP
  have hx := Bd.exec
  have hby := Bd.bytes
  have hml : c.maxLocals = 1 := hml0
  have hown : s.vm.findClass "java/lang/String" = some m.cls := findClass_of_methodNamed Bd.named
  have hnm := (name_of_methodNamed Bd.named Bd.method).1
  have X0 : Stand p l e ({ frames := 0, cells := 0, slots := 0, locals := 0 } : Room) s m #[(.ref r0)] below meth c s₁ [] 0 0 := Stand.of_body Bd
  have e0 : s₁.heap = h0 := by rw [← hh, Bd.state]; rfl
  have N0 := Fr.nil n0
  refine own_by (p := p) (e := e) (below := below) (K := own_KSL Z r0 zz vl wBOOLEAN wINTEGER wBITS wOCTETS wNULL wOBJECT_IDENTIFIER wTEXT wCOMPONENTS wELEMENTS wCHOICE wELEMENT cs wD kD wC clC h0 n0 s) (W' := s₁.setTop (mkF m 0 #[.val (.ref r0)] [])) (fun t k => castTop (efSL m r0) k) ?_
  obtain ⟨E_s, C_s, q_s, k_s, F_s, V_s⟩ := id T_s
  obtain ⟨cl_s, -, -, -, hz, -, -⟩ := id V_s
  obtain ⟨T21, X21, e21, st21⟩ := getS (host := "") X0 hx hZ hown (own_w hw 188) Via.refl e0 (HW.2.2.2.2.2.2.2.2.2.2.2.2.2.2.2.2.2.2.2.2.2.2.2.2.2.2.2.2.2.2.2.2.2.1.ext O0.2) (g := (mkF m 0 #[.val (.ref r0)] [])) rfl (hb hby djdk_42_154_0)
  obtain ⟨T22, X22, e22, st22⟩ := getF X21 hx hZ hown (host := "") (Or.inl (own_w hw 199)) Via.refl e21 C_s (g := (mkF m 7 #[.val (.ref r0)] [(.ref r0)])) rfl rfl (hb hby djdk_42_154_7)
  refine own_by (W' := (T22.setTop (mkF m 14 #[.val (.ref r0)] [(.int (1 : Int32))]))) (fun t k => st21 _ (XS.ifNo X21.here hx rfl (hb hby djdk_42_154_3) rfl ((if0 _ _).trans (feq HW.2.2.2.2.2.2.2.2.2.2.2.2.2.2.2.2.2.2.2.2.2.2.2.2.2.2.2.2.2.2.2.2.2.2.1).1) (XS.aloadN X21.here hx rfl (hb hby djdk_42_154_6) rfl rfl (st22 _ (XS.ifNo X22.here hx rfl (hb hby djdk_42_154_10) rfl ((if0 _ _).trans (teq (rfl : (0 : Int32) = (0 : Int32))).2) (XS.iconst X22.here hx rfl (hb hby djdk_42_154_13) k)))))) ?_
  obtain ⟨fs, hr, hrun, hended, hW, hsame⟩ := X22.leave (v := some (.int (1 : Int32))) (fun h => by rw [Bd.returns] at h; cases h)
  refine own_by (W' := (T22.setTop (mkF m 18 #[.val (.ref r0)] [(.int (1 : Int32))]))) (fun t k => XS.goto X22.here hx rfl (pc0 := 14) (pc' := 18) rfl (hb hby djdk_42_154_14) (by decide) (by decide) k) ?_
  refine ⟨_, _, retOut X22 hx Bd.returns rfl (Or.inl ⟨rfl, Or.inr (Or.inl rfl), _, rfl⟩) (hb hby djdk_42_154_18) hr, hrun, hended, _, _, rfl, ?_, ⟨_, rfl⟩, hW, hsame.mono (by decide) (by decide)⟩
  exact ⟨rfl, N0, e22⟩
theorem pd_3 : parseMethodDescriptor "()B" = some ⟨[], some .byte⟩ := by decide +kernel
theorem djdk_42_54_0 : decode jdk_42_method_54_code 0 = .ok (.aload_n 0, 1) := by decide +kernel
theorem djdk_42_54_1 : decode jdk_42_method_54_code 1 = .ok (.getfield 9, 3) := by decide +kernel
theorem djdk_42_54_4 : decode jdk_42_method_54_code 4 = .ok (.arraylength, 1) := by decide +kernel
theorem djdk_42_54_5 : decode jdk_42_method_54_code 5 = .ok (.aload_n 0, 1) := by decide +kernel
theorem djdk_42_54_6 : decode jdk_42_method_54_code 6 = .ok (.invokevirtual 335, 3) := by decide +kernel
theorem djdk_42_54_9 : decode jdk_42_method_54_code 9 = .ok (.ishr, 1) := by decide +kernel
theorem djdk_42_54_10 : decode jdk_42_method_54_code 10 = .ok (.ireturn, 1) := by decide +kernel
theorem efSN (m : MethodId) (r0 : Addr) : entryFrame m #[(.ref r0)] 1 = mkF m 0 #[.val (.ref r0)] [] := by first | (simp [entryFrame, mkF, argsToLocals, Value.category]; done) | rfl
def QSN (Z : State) (r0 : Addr) (zz : Int32) (vl : List Value) (wBOOLEAN : Addr) (wINTEGER : Addr) (wBITS : Addr) (wOCTETS : Addr) (wNULL : Addr) (wOBJECT_IDENTIFIER : Addr) (wTEXT : Addr) (wCOMPONENTS : Addr) (wELEMENTS : Addr) (wCHOICE : Addr) (wELEMENT : Addr) (cs : Int32) (wD : Addr) (kD : ClassId) (wC : Addr) (clC : Cell) (h0 : Heap) (n0 : Nat) (v : Option Value) (h : Heap) (L : List Loc) : Prop := v = some (.int zz) ∧ Fr n0 L ∧ h = h0
abbrev own_KSN (Z : State) (r0 : Addr) (zz : Int32) (vl : List Value) (wBOOLEAN : Addr) (wINTEGER : Addr) (wBITS : Addr) (wOCTETS : Addr) (wNULL : Addr) (wOBJECT_IDENTIFIER : Addr) (wTEXT : Addr) (wCOMPONENTS : Addr) (wELEMENTS : Addr) (wCHOICE : Addr) (wELEMENT : Addr) (cs : Int32) (wD : Addr) (kD : ClassId) (wC : Addr) (clC : Cell) (h0 : Heap) (n0 : Nat) (s : State) : Outcome → State → Prop := fun o U' => ∃ v L, o = .returned v ∧ QSN Z r0 zz vl wBOOLEAN wINTEGER wBITS wOCTETS wNULL wOBJECT_IDENTIFIER wTEXT wCOMPONENTS wELEMENTS wCHOICE wELEMENT cs wD kD wC clC h0 n0 v U'.heap L ∧ FrameEnd s o U' L ({ frames := 1, cells := 0, slots := 0, locals := 13 } : Room).cells ({ frames := 1, cells := 0, slots := 0, locals := 13 } : Room).slots
set_option maxRecDepth 65536 in
set_option maxHeartbeats 40000000 in
theorem rmSN (l : Launch) (Z : State) (a0 : Array Value) (hw : ∀ d ∈ tables_1, d.before a0 Z = true) (ws : List Jvm.Cond) (r0 : Addr) (zz : Int32) (vl : List Value) (wBOOLEAN : Addr) (wINTEGER : Addr) (wBITS : Addr) (wOCTETS : Addr) (wNULL : Addr) (wOBJECT_IDENTIFIER : Addr) (wTEXT : Addr) (wCOMPONENTS : Addr) (wELEMENTS : Addr) (wCHOICE : Addr) (wELEMENT : Addr) (cs : Int32) (wD : Addr) (kD : ClassId) (wC : Addr) (clC : Cell) (h0 : Heap) (n0 : Nat) (Z0 : n0 ≤ h0.size) (O0 : Old Z n0 h0) (HW : own_Wd Z wBOOLEAN wINTEGER wBITS wOCTETS wNULL wOBJECT_IDENTIFIER wTEXT wCOMPONENTS wELEMENTS wCHOICE wELEMENT cs wD kD wC clC) (T_s : own_St Z h0 r0 zz vl) :
    MetFree l (⟨"java/lang/String", "length", "()I"⟩ : MethodName) (head1 (Jvm.Cond.code (⟨"java/lang/String", "length", "()I"⟩ : MethodName) jdk_42_method_54_code 1 (some .int) :: ws) ({ frames := 1, cells := 0, slots := 0, locals := 13 } : Room)) (fun a U => a = #[(.ref r0)] ∧ Z.Warmed39 U.vm ∧ U.heap = h0) (fun _ _ _ _ _ => True) (fun _ U o U' => ∃ v L, o = .returned v ∧ QSN Z r0 zz vl wBOOLEAN wINTEGER wBITS wOCTETS wNULL wOBJECT_IDENTIFIER wTEXT wCOMPONENTS wELEMENTS wCHOICE wELEMENT cs wD kD wC clC h0 n0 v U'.heap L ∧ FrameEnd U o U' L ({ frames := 1, cells := 0, slots := 0, locals := 13 } : Room).cells ({ frames := 1, cells := 0, slots := 0, locals := 13 } : Room).slots) := by
  refine MetFree.of_bodySF (plainFor_of_name pn_java_lang_String) hisR ?_
  intro p e s m args below meth c s₁ Bd hml0 hP hK
  obtain ⟨rfl, hZ, hh⟩ := hP
  have hx := Bd.exec
  have hby := Bd.bytes
  have hml : c.maxLocals = 1 := hml0
  have hown : s.vm.findClass "java/lang/String" = some m.cls := findClass_of_methodNamed Bd.named
  have hnm := (name_of_methodNamed Bd.named Bd.method).1
  have X0 : Stand p l e ({ frames := 1, cells := 0, slots := 0, locals := 13 } : Room) s m #[(.ref r0)] below meth c s₁ [] 0 0 := Stand.of_body Bd
  have e0 : s₁.heap = h0 := by rw [← hh, Bd.state]; rfl
  have N0 := Fr.nil n0
  refine own_by (p := p) (e := e) (below := below) (K := own_KSN Z r0 zz vl wBOOLEAN wINTEGER wBITS wOCTETS wNULL wOBJECT_IDENTIFIER wTEXT wCOMPONENTS wELEMENTS wCHOICE wELEMENT cs wD kD wC clC h0 n0 s) (W' := s₁.setTop (mkF m 0 #[.val (.ref r0)] [])) (fun t k => castTop (efSN m r0) k) ?_
  obtain ⟨E_s, C_s, q_s, k_s, F_s, V_s⟩ := id T_s
  obtain ⟨cl_s, -, -, -, hz, -, -⟩ := id V_s
  obtain ⟨T21, X21, e21, st21⟩ := getF X0 hx hZ hown (host := "") (Or.inl (own_w hw 201)) Via.refl e0 F_s (g := (mkF m 1 #[.val (.ref r0)] [(.ref r0)])) rfl rfl (hb hby djdk_42_54_1)
  obtain ⟨clu22, Aru22, qu22, Su22, Ngu22, Hau22, Gau22⟩ := id V_s
  refine own_by (W' := (T21.setTop (mkF m 5 #[.val (.ref r0)] [(.int clu22.slots.size.toInt32)]))) (fun t k => XS.aloadN X0.here hx rfl (hb hby djdk_42_54_0) rfl rfl (st21 _ ((X21.arraylength hx (by rw [e21]; exact Aru22.1) (State.isArrayOf_alike hZ.alike Aru22.2.1) (g := (mkF m 4 #[.val (.ref r0)] [(.ref q_s)])) rfl rfl (hb hby djdk_42_54_4)) _ k))) ?_
  rw [len_of Su22 Ngu22]
  obtain ⟨cq23, kq23, q23a, q23b, q23c⟩ := isOf hZ e21 E_s
  obtain ⟨_, _, ⟨T23, L23, k23, n23⟩, -, X23, ⟨Lc23, hQ23, l23, y23, z23⟩, st23⟩ := X21.virtualBack hx (y := (⟨"java/lang/String", "coder", "()B"⟩ : MethodName)) (z := (⟨"java/lang/String", "coder", "()B"⟩ : MethodName)) hown (mvT hZ (own_w hw 209)) (mvT hZ (own_w hw 210)) (notFace_of_selects (args := #[]) (mvT hZ (own_w hw 212))) (mvT hZ (own_w hw 212)) (mvT hZ (own_w hw 211)) (by decide) (backOf (W := 1) (rmSC l Z a0 hw [] r0 zz vl wBOOLEAN wINTEGER wBITS wOCTETS wNULL wOBJECT_IDENTIFIER wTEXT wCOMPONENTS wELEMENTS wCHOICE wELEMENT cs wD kD wC clC h0 n0 Z0 O0 HW T_s) hZ (own_w hw 213) (own_w hw 178) (by decide) (by decide)) q23a q23c (g := (mkF m 6 #[.val (.ref r0)] [(.ref r0), (.int zz)])) rfl (by rw [hml]; rfl) (Steps.refl _) (argsL := []) (rest := [(.int zz)]) (lenOf pd_3 rfl) rfl (by show 2 * 0 + _ ≤ _; exact Nat.le_of_eq rfl) (hb hby djdk_42_54_6) (fun _ _ => ⟨rfl, e21, (by decide : 0 + 0 ≤ _), (by decide : 0 + 0 ≤ _)⟩)
  dsimp only [Pt.U, Pt.locs, Pt.cells, Pt.slots] at X23 l23 y23 z23 st23 hQ23
  subst l23 y23 z23
  obtain ⟨rfl, N23q, e23⟩ := hQ23
  have N23 := Fr.app N0 N23q
  obtain ⟨fs, hr, hrun, hended, hW, hsame⟩ := X23.leave (v := some (.int (zz >>> ((0 : Int32) &&& 31)))) (fun h => by rw [Bd.returns] at h; cases h)
  refine own_by (W' := (T23.setTop (mkF m 10 #[.val (.ref r0)] [(.int (zz >>> ((0 : Int32) &&& 31)))]))) (fun t k => XS.aloadN X21.here hx rfl (hb hby djdk_42_54_5) rfl rfl (Steps.trans st23 (XS.ishr X23.here hx rfl (hb hby djdk_42_54_9) rfl k))) ?_
  refine ⟨_, _, retOut X23 hx Bd.returns rfl (Or.inl ⟨rfl, Or.inl rfl, _, rfl⟩) (hb hby djdk_42_54_10) hr, hrun, hended, _, _, rfl, ?_, ⟨_, rfl⟩, hW, hsame.mono (by decide) (by decide)⟩
  exact ⟨by rw [own_shr0], N23, e23⟩
theorem djdk_41_12_0 : decode jdk_41_method_12_code 0 = .ok (.iload_n 0, 1) := by decide +kernel
theorem djdk_41_12_1 : decode jdk_41_method_12_code 1 = .ok (.ifCond .lt 13, 3) := by decide +kernel
theorem djdk_41_12_4 : decode jdk_41_method_12_code 4 = .ok (.iload_n 0, 1) := by decide +kernel
theorem djdk_41_12_5 : decode jdk_41_method_12_code 5 = .ok (.iload_n 1, 1) := by decide +kernel
theorem djdk_41_12_6 : decode jdk_41_method_12_code 6 = .ok (.if_icmp .gt 8, 3) := by decide +kernel
theorem djdk_41_12_9 : decode jdk_41_method_12_code 9 = .ok (.iload_n 1, 1) := by decide +kernel
theorem djdk_41_12_10 : decode jdk_41_method_12_code 10 = .ok (.iload_n 2, 1) := by decide +kernel
theorem djdk_41_12_11 : decode jdk_41_method_12_code 11 = .ok (.if_icmp .le 11, 3) := by decide +kernel
theorem djdk_41_12_22 : decode jdk_41_method_12_code 22 = .ok (.iload_n 0, 1) := by decide +kernel
theorem djdk_41_12_23 : decode jdk_41_method_12_code 23 = .ok (.ireturn, 1) := by decide +kernel
theorem pn_jdk_internal_util_Preconditions : plainName "jdk/internal/util/Preconditions" = true := by first | (simp [plainName, overriddenIn]; done) | decide +kernel
theorem efPF (m : MethodId) (zz : Int32) : entryFrame m #[(.int (0 : Int32)), (.int zz), (.int zz), .null] 4 = mkF m 0 #[.val (.int (0 : Int32)), .val (.int zz), .val (.int zz), .val .null] [] := by first | (simp [entryFrame, mkF, argsToLocals, Value.category]; done) | rfl
def QPF (Z : State) (zz : Int32) (h0 : Heap) (n0 : Nat) (v : Option Value) (h : Heap) (L : List Loc) : Prop := v = some (.int (0 : Int32)) ∧ Fr n0 L ∧ h = h0
abbrev own_KPF (Z : State) (zz : Int32) (h0 : Heap) (n0 : Nat) (s : State) : Outcome → State → Prop := fun o U' => ∃ v L, o = .returned v ∧ QPF Z zz h0 n0 v U'.heap L ∧ FrameEnd s o U' L ({ frames := 0, cells := 0, slots := 0, locals := 0 } : Room).cells ({ frames := 0, cells := 0, slots := 0, locals := 0 } : Room).slots
set_option maxRecDepth 65536 in
set_option maxHeartbeats 40000000 in
theorem rmPF (l : Launch) (Z : State) (a0 : Array Value) (hw : ∀ d ∈ tables_1, d.before a0 Z = true) (ws : List Jvm.Cond) (zz : Int32) (h0 : Heap) (n0 : Nat) (Z0 : n0 ≤ h0.size) (hz : ¬ zz < (0 : Int32)) :
    MetFree l (⟨"jdk/internal/util/Preconditions", "checkFromToIndex", "(IIILjava/util/function/BiFunction;)I"⟩ : MethodName) (head1 (Jvm.Cond.code (⟨"jdk/internal/util/Preconditions", "checkFromToIndex", "(IIILjava/util/function/BiFunction;)I"⟩ : MethodName) jdk_41_method_12_code 4 (some .int) :: ws) ({ frames := 0, cells := 0, slots := 0, locals := 0 } : Room)) (fun a U => a = #[(.int (0 : Int32)), (.int zz), (.int zz), .null] ∧ Z.Warmed39 U.vm ∧ U.heap = h0) (fun _ _ _ _ _ => True) (fun _ U o U' => ∃ v L, o = .returned v ∧ QPF Z zz h0 n0 v U'.heap L ∧ FrameEnd U o U' L ({ frames := 0, cells := 0, slots := 0, locals := 0 } : Room).cells ({ frames := 0, cells := 0, slots := 0, locals := 0 } : Room).slots) := by
  refine MetFree.of_bodySF (plainFor_of_name pn_jdk_internal_util_Preconditions) hisR ?_
  intro p e s m args below meth c s₁ Bd hml0 hP hK
  obtain ⟨rfl, hZ, hh⟩ := hP
  have hx := Bd.exec
  have hby := Bd.bytes
  have hml : c.maxLocals = 4 := hml0
  have hown : s.vm.findClass "jdk/internal/util/Preconditions" = some m.cls := findClass_of_methodNamed Bd.named
  have hnm := (name_of_methodNamed Bd.named Bd.method).1
  have X0 : Stand p l e ({ frames := 0, cells := 0, slots := 0, locals := 0 } : Room) s m #[(.int (0 : Int32)), (.int zz), (.int zz), .null] below meth c s₁ [] 0 0 := Stand.of_body Bd
  have e0 : s₁.heap = h0 := by rw [← hh, Bd.state]; rfl
  have N0 := Fr.nil n0
  refine own_by (p := p) (e := e) (below := below) (K := own_KPF Z zz h0 n0 s) (W' := s₁.setTop (mkF m 0 #[.val (.int (0 : Int32)), .val (.int zz), .val (.int zz), .val .null] [])) (fun t k => castTop (efPF m zz) k) ?_
  refine own_by (W' := (s₁.setTop (mkF m 10 #[.val (.int (0 : Int32)), .val (.int zz), .val (.int zz), .val .null] [(.int zz)]))) (fun t k => XS.iloadN X0.here hx rfl (hb hby djdk_41_12_0) rfl (XS.ifNo X0.here hx rfl (hb hby djdk_41_12_1) rfl ((if0 _ _).trans (flt (by decide : ¬ ((0 : Int32) < (0 : Int32)))).1) (XS.iloadN X0.here hx rfl (hb hby djdk_41_12_4) rfl (XS.iloadN X0.here hx rfl (hb hby djdk_41_12_5) rfl (XS.icmpNo X0.here hx rfl (hb hby djdk_41_12_6) rfl (flt hz).2.2.1 (XS.iloadN X0.here hx rfl (hb hby djdk_41_12_9) rfl k)))))) ?_
  obtain ⟨fs, hr, hrun, hended, hW, hsame⟩ := X0.leave (v := some (.int (0 : Int32))) (fun h => by rw [Bd.returns] at h; cases h)
  refine own_by (W' := (s₁.setTop (mkF m 23 #[.val (.int (0 : Int32)), .val (.int zz), .val (.int zz), .val .null] [(.int (0 : Int32))]))) (fun t k => XS.iloadN X0.here hx rfl (hb hby djdk_41_12_10) rfl (XS.icmpYes X0.here hx rfl (pc0 := 11) (pc' := 22) rfl (hb hby djdk_41_12_11) rfl (flt (own_irr zz)).2.2.2 (by decide) (by decide) (XS.iloadN X0.here hx rfl (hb hby djdk_41_12_22) rfl k))) ?_
  refine ⟨_, _, retOut X0 hx Bd.returns rfl (Or.inl ⟨rfl, Or.inl rfl, _, rfl⟩) (hb hby djdk_41_12_23) hr, hrun, hended, _, _, rfl, ?_, ⟨_, rfl⟩, hW, hsame.mono (by decide) (by decide)⟩
  exact ⟨rfl, N0, e0⟩
theorem pd_4 : parseMethodDescriptor "(IIILjava/util/function/BiFunction;)I" = some ⟨[.int, .int, .int, (.object "java/util/function/BiFunction")], some .int⟩ := by decide +kernel
theorem djdk_31_18_0 : decode jdk_31_method_18_code 0 = .ok (.iload_n 0, 1) := by decide +kernel
theorem djdk_31_18_1 : decode jdk_31_method_18_code 1 = .ok (.iload_n 1, 1) := by decide +kernel
theorem djdk_31_18_2 : decode jdk_31_method_18_code 2 = .ok (.iload_n 2, 1) := by decide +kernel
theorem djdk_31_18_3 : decode jdk_31_method_18_code 3 = .ok (.aconst_null, 1) := by decide +kernel
theorem djdk_31_18_4 : decode jdk_31_method_18_code 4 = .ok (.invokestatic 111, 3) := by decide +kernel
theorem djdk_31_18_7 : decode jdk_31_method_18_code 7 = .ok (.ireturn, 1) := by decide +kernel
theorem pn_java_util_Objects : plainName "java/util/Objects" = true := by first | (simp [plainName, overriddenIn]; done) | decide +kernel
theorem efOF (m : MethodId) (zz : Int32) : entryFrame m #[(.int (0 : Int32)), (.int zz), (.int zz)] 3 = mkF m 0 #[.val (.int (0 : Int32)), .val (.int zz), .val (.int zz)] [] := by first | (simp [entryFrame, mkF, argsToLocals, Value.category]; done) | rfl
def QOF (Z : State) (zz : Int32) (h0 : Heap) (n0 : Nat) (v : Option Value) (h : Heap) (L : List Loc) : Prop := v = some (.int (0 : Int32)) ∧ Fr n0 L ∧ h = h0
abbrev own_KOF (Z : State) (zz : Int32) (h0 : Heap) (n0 : Nat) (s : State) : Outcome → State → Prop := fun o U' => ∃ v L, o = .returned v ∧ QOF Z zz h0 n0 v U'.heap L ∧ FrameEnd s o U' L ({ frames := 1, cells := 0, slots := 0, locals := 15 } : Room).cells ({ frames := 1, cells := 0, slots := 0, locals := 15 } : Room).slots
set_option maxRecDepth 65536 in
set_option maxHeartbeats 40000000 in
theorem rmOF (l : Launch) (Z : State) (a0 : Array Value) (hw : ∀ d ∈ tables_1, d.before a0 Z = true) (ws : List Jvm.Cond) (zz : Int32) (h0 : Heap) (n0 : Nat) (Z0 : n0 ≤ h0.size) (hz : ¬ zz < (0 : Int32)) :
    MetFree l (⟨"java/util/Objects", "checkFromToIndex", "(III)I"⟩ : MethodName) (head1 (Jvm.Cond.code (⟨"java/util/Objects", "checkFromToIndex", "(III)I"⟩ : MethodName) jdk_31_method_18_code 3 (some .int) :: ws) ({ frames := 1, cells := 0, slots := 0, locals := 15 } : Room)) (fun a U => a = #[(.int (0 : Int32)), (.int zz), (.int zz)] ∧ Z.Warmed39 U.vm ∧ U.heap = h0) (fun _ _ _ _ _ => True) (fun _ U o U' => ∃ v L, o = .returned v ∧ QOF Z zz h0 n0 v U'.heap L ∧ FrameEnd U o U' L ({ frames := 1, cells := 0, slots := 0, locals := 15 } : Room).cells ({ frames := 1, cells := 0, slots := 0, locals := 15 } : Room).slots) := by
  refine MetFree.of_bodySF (plainFor_of_name pn_java_util_Objects) hisR ?_
  intro p e s m args below meth c s₁ Bd hml0 hP hK
  obtain ⟨rfl, hZ, hh⟩ := hP
  have hx := Bd.exec
  have hby := Bd.bytes
  have hml : c.maxLocals = 3 := hml0
  have hown : s.vm.findClass "java/util/Objects" = some m.cls := findClass_of_methodNamed Bd.named
  have hnm := (name_of_methodNamed Bd.named Bd.method).1
  have X0 : Stand p l e ({ frames := 1, cells := 0, slots := 0, locals := 15 } : Room) s m #[(.int (0 : Int32)), (.int zz), (.int zz)] below meth c s₁ [] 0 0 := Stand.of_body Bd
  have e0 : s₁.heap = h0 := by rw [← hh, Bd.state]; rfl
  have N0 := Fr.nil n0
  refine own_by (p := p) (e := e) (below := below) (K := own_KOF Z zz h0 n0 s) (W' := s₁.setTop (mkF m 0 #[.val (.int (0 : Int32)), .val (.int zz), .val (.int zz)] [])) (fun t k => castTop (efOF m zz) k) ?_
  obtain ⟨_, _, ⟨T21, L21, k21, n21⟩, -, X21, ⟨Lc21, hQ21, l21, y21, z21⟩, st21⟩ := Jvm.LawKit.callS X0 hx (y := (⟨"jdk/internal/util/Preconditions", "checkFromToIndex", "(IIILjava/util/function/BiFunction;)I"⟩ : MethodName)) hown (mvT hZ (own_w hw 224)) (mvT hZ (own_w hw 225)) (mvT hZ (own_w hw 226)) (mvT hZ (own_w hw 227)) (by decide) (backOf (W := 0) (rmPF l Z a0 hw [] zz h0 n0 Z0 hz) hZ (own_w hw 227) (own_w hw 226) (by decide) (by decide)) (g := (mkF m 4 #[.val (.int (0 : Int32)), .val (.int zz), .val (.int zz)] [.null, (.int zz), (.int zz), (.int (0 : Int32))])) rfl (by rw [hml]; rfl) (argsL := [(.int (0 : Int32)), (.int zz), (.int zz), .null]) (rest := []) (lenOf pd_4 rfl) rfl (by show 2 * 0 + _ ≤ _; exact Nat.le_of_eq rfl) (hb hby djdk_31_18_4) (fun _ _ => ⟨rfl, e0, (by decide : 0 + 0 ≤ _), (by decide : 0 + 0 ≤ _)⟩)
  dsimp only [Pt.U, Pt.locs, Pt.cells, Pt.slots] at X21 l21 y21 z21 st21 hQ21
  subst l21 y21 z21
  obtain ⟨rfl, N21q, e21⟩ := hQ21
  have N21 := Fr.app N0 N21q
  obtain ⟨fs, hr, hrun, hended, hW, hsame⟩ := X21.leave (v := some (.int (0 : Int32))) (fun h => by rw [Bd.returns] at h; cases h)
  refine own_by (W' := (T21.setTop (mkF m 7 #[.val (.int (0 : Int32)), .val (.int zz), .val (.int zz)] [(.int (0 : Int32))]))) (fun t k => XS.iloadN X0.here hx rfl (hb hby djdk_31_18_0) rfl (XS.iloadN X0.here hx rfl (hb hby djdk_31_18_1) rfl (XS.iloadN X0.here hx rfl (hb hby djdk_31_18_2) rfl (XS.aconstNull X0.here hx rfl (hb hby djdk_31_18_3) (st21 _ k))))) ?_
  refine ⟨_, _, retOut X21 hx Bd.returns rfl (Or.inl ⟨rfl, Or.inl rfl, _, rfl⟩) (hb hby djdk_31_18_7) hr, hrun, hended, _, _, rfl, ?_, ⟨_, rfl⟩, hW, hsame.mono (by decide) (by decide)⟩
  exact ⟨rfl, N21, e21⟩
theorem pd_5 : parseMethodDescriptor "()I" = some ⟨[], some .int⟩ := by decide +kernel
theorem pd_6 : parseMethodDescriptor "(III)I" = some ⟨[.int, .int, .int], some .int⟩ := by decide +kernel
theorem pd_7 : parseMethodDescriptor "()Z" = some ⟨[], some .boolean⟩ := by decide +kernel
theorem djdk_42_59_0 : decode jdk_42_method_59_code 0 = .ok (.iload_n 1, 1) := by decide +kernel
theorem djdk_42_59_1 : decode jdk_42_method_59_code 1 = .ok (.iload_n 2, 1) := by decide +kernel
theorem djdk_42_59_2 : decode jdk_42_method_59_code 2 = .ok (.aload_n 0, 1) := by decide +kernel
theorem djdk_42_59_3 : decode jdk_42_method_59_code 3 = .ok (.invokevirtual 505, 3) := by decide +kernel
theorem djdk_42_59_6 : decode jdk_42_method_59_code 6 = .ok (.invokestatic 511, 3) := by decide +kernel
theorem djdk_42_59_9 : decode jdk_42_method_59_code 9 = .ok (.pop, 1) := by decide +kernel
theorem djdk_42_59_10 : decode jdk_42_method_59_code 10 = .ok (.aload_n 0, 1) := by decide +kernel
theorem djdk_42_59_11 : decode jdk_42_method_59_code 11 = .ok (.invokevirtual 492, 3) := by decide +kernel
theorem djdk_42_59_14 : decode jdk_42_method_59_code 14 = .ok (.ifCond .eq 7, 3) := by decide +kernel
theorem djdk_42_59_17 : decode jdk_42_method_59_code 17 = .ok (.iload_n 2, 1) := by decide +kernel
theorem djdk_42_59_18 : decode jdk_42_method_59_code 18 = .ok (.iload_n 1, 1) := by decide +kernel
theorem djdk_42_59_19 : decode jdk_42_method_59_code 19 = .ok (.isub, 1) := by decide +kernel
theorem djdk_42_59_20 : decode jdk_42_method_59_code 20 = .ok (.ireturn, 1) := by decide +kernel
theorem efCP (m : MethodId) (r0 : Addr) (zz : Int32) : entryFrame m #[(.ref r0), (.int (0 : Int32)), (.int zz)] 3 = mkF m 0 #[.val (.ref r0), .val (.int (0 : Int32)), .val (.int zz)] [] := by first | (simp [entryFrame, mkF, argsToLocals, Value.category]; done) | rfl
def QCP (Z : State) (r0 : Addr) (zz : Int32) (vl : List Value) (wBOOLEAN : Addr) (wINTEGER : Addr) (wBITS : Addr) (wOCTETS : Addr) (wNULL : Addr) (wOBJECT_IDENTIFIER : Addr) (wTEXT : Addr) (wCOMPONENTS : Addr) (wELEMENTS : Addr) (wCHOICE : Addr) (wELEMENT : Addr) (cs : Int32) (wD : Addr) (kD : ClassId) (wC : Addr) (clC : Cell) (h0 : Heap) (n0 : Nat) (v : Option Value) (h : Heap) (L : List Loc) : Prop := v = some (.int zz) ∧ Fr n0 L ∧ h = h0
abbrev own_KCP (Z : State) (r0 : Addr) (zz : Int32) (vl : List Value) (wBOOLEAN : Addr) (wINTEGER : Addr) (wBITS : Addr) (wOCTETS : Addr) (wNULL : Addr) (wOBJECT_IDENTIFIER : Addr) (wTEXT : Addr) (wCOMPONENTS : Addr) (wELEMENTS : Addr) (wCHOICE : Addr) (wELEMENT : Addr) (cs : Int32) (wD : Addr) (kD : ClassId) (wC : Addr) (clC : Cell) (h0 : Heap) (n0 : Nat) (s : State) : Outcome → State → Prop := fun o U' => ∃ v L, o = .returned v ∧ QCP Z r0 zz vl wBOOLEAN wINTEGER wBITS wOCTETS wNULL wOBJECT_IDENTIFIER wTEXT wCOMPONENTS wELEMENTS wCHOICE wELEMENT cs wD kD wC clC h0 n0 v U'.heap L ∧ FrameEnd s o U' L ({ frames := 2, cells := 0, slots := 0, locals := 29 } : Room).cells ({ frames := 2, cells := 0, slots := 0, locals := 29 } : Room).slots
set_option maxRecDepth 65536 in
set_option maxHeartbeats 40000000 in
theorem rmCP (l : Launch) (Z : State) (a0 : Array Value) (hw : ∀ d ∈ tables_1, d.before a0 Z = true) (ws : List Jvm.Cond) (r0 : Addr) (zz : Int32) (vl : List Value) (wBOOLEAN : Addr) (wINTEGER : Addr) (wBITS : Addr) (wOCTETS : Addr) (wNULL : Addr) (wOBJECT_IDENTIFIER : Addr) (wTEXT : Addr) (wCOMPONENTS : Addr) (wELEMENTS : Addr) (wCHOICE : Addr) (wELEMENT : Addr) (cs : Int32) (wD : Addr) (kD : ClassId) (wC : Addr) (clC : Cell) (h0 : Heap) (n0 : Nat) (Z0 : n0 ≤ h0.size) (O0 : Old Z n0 h0) (HW : own_Wd Z wBOOLEAN wINTEGER wBITS wOCTETS wNULL wOBJECT_IDENTIFIER wTEXT wCOMPONENTS wELEMENTS wCHOICE wELEMENT cs wD kD wC clC) (T_s : own_St Z h0 r0 zz vl) :
    MetFree l (⟨"java/lang/String", "codePointCount", "(II)I"⟩ : MethodName) (head1 (Jvm.Cond.code (⟨"java/lang/String", "codePointCount", "(II)I"⟩ : MethodName) jdk_42_method_59_code 3 (some .int) :: ws) ({ frames := 2, cells := 0, slots := 0, locals := 29 } : Room)) (fun a U => a = #[(.ref r0), (.int (0 : Int32)), (.int zz)] ∧ Z.Warmed39 U.vm ∧ U.heap = h0) (fun _ _ _ _ _ => True) (fun _ U o U' => ∃ v L, o = .returned v ∧ QCP Z r0 zz vl wBOOLEAN wINTEGER wBITS wOCTETS wNULL wOBJECT_IDENTIFIER wTEXT wCOMPONENTS wELEMENTS wCHOICE wELEMENT cs wD kD wC clC h0 n0 v U'.heap L ∧ FrameEnd U o U' L ({ frames := 2, cells := 0, slots := 0, locals := 29 } : Room).cells ({ frames := 2, cells := 0, slots := 0, locals := 29 } : Room).slots) := by
  refine MetFree.of_bodySF (plainFor_of_name pn_java_lang_String) hisR ?_
  intro p e s m args below meth c s₁ Bd hml0 hP hK
  obtain ⟨rfl, hZ, hh⟩ := hP
  have hx := Bd.exec
  have hby := Bd.bytes
  have hml : c.maxLocals = 3 := hml0
  have hown : s.vm.findClass "java/lang/String" = some m.cls := findClass_of_methodNamed Bd.named
  have hnm := (name_of_methodNamed Bd.named Bd.method).1
  have X0 : Stand p l e ({ frames := 2, cells := 0, slots := 0, locals := 29 } : Room) s m #[(.ref r0), (.int (0 : Int32)), (.int zz)] below meth c s₁ [] 0 0 := Stand.of_body Bd
  have e0 : s₁.heap = h0 := by rw [← hh, Bd.state]; rfl
  have N0 := Fr.nil n0
  refine own_by (p := p) (e := e) (below := below) (K := own_KCP Z r0 zz vl wBOOLEAN wINTEGER wBITS wOCTETS wNULL wOBJECT_IDENTIFIER wTEXT wCOMPONENTS wELEMENTS wCHOICE wELEMENT cs wD kD wC clC h0 n0 s) (W' := s₁.setTop (mkF m 0 #[.val (.ref r0), .val (.int (0 : Int32)), .val (.int zz)] [])) (fun t k => castTop (efCP m r0 zz) k) ?_
  obtain ⟨E_s, C_s, q_s, k_s, F_s, V_s⟩ := id T_s
  obtain ⟨cl_s, -, -, -, hz, -, -⟩ := id V_s
  obtain ⟨cq21, kq21, q21a, q21b, q21c⟩ := isOf hZ e0 E_s
  obtain ⟨_, _, ⟨T21, L21, k21, n21⟩, -, X21, ⟨Lc21, hQ21, l21, y21, z21⟩, st21⟩ := X0.virtualBack hx (y := (⟨"java/lang/String", "length", "()I"⟩ : MethodName)) (z := (⟨"java/lang/String", "length", "()I"⟩ : MethodName)) hown (mvT hZ (own_w hw 219)) (mvT hZ (own_w hw 205)) (notFace_of_selects (args := #[]) (mvT hZ (own_w hw 207))) (mvT hZ (own_w hw 207)) (mvT hZ (own_w hw 206)) (by decide) (backOf (W := 2) (rmSN l Z a0 hw [] r0 zz vl wBOOLEAN wINTEGER wBITS wOCTETS wNULL wOBJECT_IDENTIFIER wTEXT wCOMPONENTS wELEMENTS wCHOICE wELEMENT cs wD kD wC clC h0 n0 Z0 O0 HW T_s) hZ (own_w hw 208) (own_w hw 178) (by decide) (by decide)) q21a q21c (g := (mkF m 3 #[.val (.ref r0), .val (.int (0 : Int32)), .val (.int zz)] [(.ref r0), (.int zz), (.int (0 : Int32))])) rfl (by rw [hml]; rfl) (Steps.refl _) (argsL := []) (rest := [(.int zz), (.int (0 : Int32))]) (lenOf pd_5 rfl) rfl (by show 2 * 0 + _ ≤ _; exact Nat.le_of_eq rfl) (hb hby djdk_42_59_3) (fun _ _ => ⟨rfl, e0, (by decide : 0 + 0 ≤ _), (by decide : 0 + 0 ≤ _)⟩)
  dsimp only [Pt.U, Pt.locs, Pt.cells, Pt.slots] at X21 l21 y21 z21 st21 hQ21
  subst l21 y21 z21
  obtain ⟨rfl, N21q, e21⟩ := hQ21
  have N21 := Fr.app N0 N21q
  obtain ⟨_, _, ⟨T22, L22, k22, n22⟩, -, X22, ⟨Lc22, hQ22, l22, y22, z22⟩, st22⟩ := Jvm.LawKit.callS X21 hx (y := (⟨"java/util/Objects", "checkFromToIndex", "(III)I"⟩ : MethodName)) hown (mvT hZ (own_w hw 220)) (mvT hZ (own_w hw 221)) (mvT hZ (own_w hw 222)) (mvT hZ (own_w hw 223)) (by decide) (backOf (W := 0) (rmOF l Z a0 hw [] zz h0 n0 Z0 hz) hZ (own_w hw 223) (own_w hw 222) (by decide) (by decide)) (g := (mkF m 6 #[.val (.ref r0), .val (.int (0 : Int32)), .val (.int zz)] [(.int zz), (.int zz), (.int (0 : Int32))])) rfl (by rw [hml]; rfl) (argsL := [(.int (0 : Int32)), (.int zz), (.int zz)]) (rest := []) (lenOf pd_6 rfl) rfl (by show 2 * 0 + _ ≤ _; exact Nat.le_of_eq rfl) (hb hby djdk_42_59_6) (fun _ _ => ⟨rfl, e21, (by decide : 0 + 0 ≤ _), (by decide : 0 + 0 ≤ _)⟩)
  dsimp only [Pt.U, Pt.locs, Pt.cells, Pt.slots] at X22 l22 y22 z22 st22 hQ22
  subst l22 y22 z22
  obtain ⟨rfl, N22q, e22⟩ := hQ22
  have N22 := Fr.app N21 N22q
  refine own_by (W' := (T22.setTop (mkF m 10 #[.val (.ref r0), .val (.int (0 : Int32)), .val (.int zz)] []))) (fun t k => XS.iloadN X0.here hx rfl (hb hby djdk_42_59_0) rfl (XS.iloadN X0.here hx rfl (hb hby djdk_42_59_1) rfl (XS.aloadN X0.here hx rfl (hb hby djdk_42_59_2) rfl rfl (Steps.trans st21 (st22 _ (XS.pop X22.here hx rfl (hb hby djdk_42_59_9) rfl rfl k)))))) ?_
  obtain ⟨cq23, kq23, q23a, q23b, q23c⟩ := isOf hZ e22 E_s
  obtain ⟨_, _, ⟨T23, L23, k23, n23⟩, -, X23, ⟨Lc23, hQ23, l23, y23, z23⟩, st23⟩ := X22.virtualBack hx (y := (⟨"java/lang/String", "isLatin1", "()Z"⟩ : MethodName)) (z := (⟨"java/lang/String", "isLatin1", "()Z"⟩ : MethodName)) hown (mvT hZ (own_w hw 228)) (mvT hZ (own_w hw 229)) (notFace_of_selects (args := #[]) (mvT hZ (own_w hw 231))) (mvT hZ (own_w hw 231)) (mvT hZ (own_w hw 230)) (by decide) (backOf (W := 0) (rmSL l Z a0 hw [] r0 zz vl wBOOLEAN wINTEGER wBITS wOCTETS wNULL wOBJECT_IDENTIFIER wTEXT wCOMPONENTS wELEMENTS wCHOICE wELEMENT cs wD kD wC clC h0 n0 Z0 O0 HW T_s) hZ (own_w hw 232) (own_w hw 178) (by decide) (by decide)) q23a q23c (g := (mkF m 11 #[.val (.ref r0), .val (.int (0 : Int32)), .val (.int zz)] [(.ref r0)])) rfl (by rw [hml]; rfl) (Steps.refl _) (argsL := []) (rest := []) (lenOf pd_7 rfl) rfl (by show 2 * 0 + _ ≤ _; exact Nat.le_of_eq rfl) (hb hby djdk_42_59_11) (fun _ _ => ⟨rfl, e22, (by decide : 0 + 0 ≤ _), (by decide : 0 + 0 ≤ _)⟩)
  dsimp only [Pt.U, Pt.locs, Pt.cells, Pt.slots] at X23 l23 y23 z23 st23 hQ23
  subst l23 y23 z23
  obtain ⟨rfl, N23q, e23⟩ := hQ23
  have N23 := Fr.app N22 N23q
  refine own_by (W' := (T23.setTop (mkF m 20 #[.val (.ref r0), .val (.int (0 : Int32)), .val (.int zz)] [(.int (zz - (0 : Int32)))]))) (fun t k => XS.aloadN X22.here hx rfl (hb hby djdk_42_59_10) rfl rfl (Steps.trans st23 (XS.ifNo X23.here hx rfl (hb hby djdk_42_59_14) rfl ((if0 _ _).trans (feq (by decide : ¬ ((1 : Int32) = (0 : Int32)))).1) (XS.iloadN X23.here hx rfl (hb hby djdk_42_59_17) rfl (XS.iloadN X23.here hx rfl (hb hby djdk_42_59_18) rfl (XS.isub X23.here hx rfl (hb hby djdk_42_59_19) rfl k)))))) ?_
  obtain ⟨fs, hr, hrun, hended, hW, hsame⟩ := X23.leave (v := some (.int (zz - (0 : Int32)))) (fun h => by rw [Bd.returns] at h; cases h)
  refine ⟨_, _, retOut X23 hx Bd.returns rfl (Or.inl ⟨rfl, Or.inl rfl, _, rfl⟩) (hb hby djdk_42_59_20) hr, hrun, hended, _, _, rfl, ?_, ⟨_, rfl⟩, hW, hsame.mono (by decide) (by decide)⟩
  exact ⟨by rw [Int32.sub_zero], N23, e23⟩
theorem djdk_38_8_0 : decode jdk_38_method_8_code 0 = .ok (.aload_n 0, 1) := by decide +kernel
theorem djdk_38_8_1 : decode jdk_38_method_8_code 1 = .ok (.getfield 48, 3) := by decide +kernel
theorem djdk_38_8_4 : decode jdk_38_method_8_code 4 = .ok (.ireturn, 1) := by decide +kernel
theorem pn_java_util_ArrayList : plainName "java/util/ArrayList" = true := by first | (simp [plainName, overriddenIn]; done) | decide +kernel
theorem efAZ (m : MethodId) (r0 : Addr) : entryFrame m #[(.ref r0)] 1 = mkF m 0 #[.val (.ref r0)] [] := by first | (simp [entryFrame, mkF, argsToLocals, Value.category]; done) | rfl
def QAZ (Z : State) (r0 : Addr) (zz : Int32) (h0 : Heap) (n0 : Nat) (v : Option Value) (h : Heap) (L : List Loc) : Prop := v = some (.int zz) ∧ Fr n0 L ∧ h = h0
abbrev own_KAZ (Z : State) (r0 : Addr) (zz : Int32) (h0 : Heap) (n0 : Nat) (s : State) : Outcome → State → Prop := fun o U' => ∃ v L, o = .returned v ∧ QAZ Z r0 zz h0 n0 v U'.heap L ∧ FrameEnd s o U' L ({ frames := 0, cells := 0, slots := 0, locals := 0 } : Room).cells ({ frames := 0, cells := 0, slots := 0, locals := 0 } : Room).slots
set_option maxRecDepth 65536 in
set_option maxHeartbeats 40000000 in
theorem rmAZ (l : Launch) (Z : State) (a0 : Array Value) (hw : ∀ d ∈ tables_1, d.before a0 Z = true) (ws : List Jvm.Cond) (r0 : Addr) (zz : Int32) (h0 : Heap) (n0 : Nat) (Z0 : n0 ≤ h0.size) (Fz : Fld Z h0 r0 "java/util/ArrayList" "size" "I" (.int zz)) :
    MetFree l (⟨"java/util/ArrayList", "size", "()I"⟩ : MethodName) (head1 (Jvm.Cond.code (⟨"java/util/ArrayList", "size", "()I"⟩ : MethodName) jdk_38_method_8_code 1 (some .int) :: ws) ({ frames := 0, cells := 0, slots := 0, locals := 0 } : Room)) (fun a U => a = #[(.ref r0)] ∧ Z.Warmed39 U.vm ∧ U.heap = h0) (fun _ _ _ _ _ => True) (fun _ U o U' => ∃ v L, o = .returned v ∧ QAZ Z r0 zz h0 n0 v U'.heap L ∧ FrameEnd U o U' L ({ frames := 0, cells := 0, slots := 0, locals := 0 } : Room).cells ({ frames := 0, cells := 0, slots := 0, locals := 0 } : Room).slots) := by
  refine MetFree.of_bodySF (plainFor_of_name pn_java_util_ArrayList) hisR ?_
  intro p e s m args below meth c s₁ Bd hml0 hP hK
  obtain ⟨rfl, hZ, hh⟩ := hP
  have hx := Bd.exec
  have hby := Bd.bytes
  have hml : c.maxLocals = 1 := hml0
  have hown : s.vm.findClass "java/util/ArrayList" = some m.cls := findClass_of_methodNamed Bd.named
  have hnm := (name_of_methodNamed Bd.named Bd.method).1
  have X0 : Stand p l e ({ frames := 0, cells := 0, slots := 0, locals := 0 } : Room) s m #[(.ref r0)] below meth c s₁ [] 0 0 := Stand.of_body Bd
  have e0 : s₁.heap = h0 := by rw [← hh, Bd.state]; rfl
  have N0 := Fr.nil n0
  refine own_by (p := p) (e := e) (below := below) (K := own_KAZ Z r0 zz h0 n0 s) (W' := s₁.setTop (mkF m 0 #[.val (.ref r0)] [])) (fun t k => castTop (efAZ m r0) k) ?_
  obtain ⟨T21, X21, e21, st21⟩ := getF X0 hx hZ hown (host := "") (Or.inl (own_w hw 86)) Via.refl e0 Fz (g := (mkF m 1 #[.val (.ref r0)] [(.ref r0)])) rfl rfl (hb hby djdk_38_8_1)
  obtain ⟨fs, hr, hrun, hended, hW, hsame⟩ := X21.leave (v := some (.int zz)) (fun h => by rw [Bd.returns] at h; cases h)
  refine own_by (W' := (T21.setTop (mkF m 4 #[.val (.ref r0)] [(.int zz)]))) (fun t k => XS.aloadN X0.here hx rfl (hb hby djdk_38_8_0) rfl rfl (st21 _ k)) ?_
  refine ⟨_, _, retOut X21 hx Bd.returns rfl (Or.inl ⟨rfl, Or.inl rfl, _, rfl⟩) (hb hby djdk_38_8_4) hr, hrun, hended, _, _, rfl, ?_, ⟨_, rfl⟩, hW, hsame.mono (by decide) (by decide)⟩
  exact ⟨rfl, N0, e21⟩
theorem pd_8 : parseMethodDescriptor "()J" = some ⟨[], some .long⟩ := by decide +kernel
theorem dprog_31_7_0 : decode prog_31_method_7_code 0 = .ok (.aload_n 0, 1) := by decide +kernel
theorem dprog_31_7_1 : decode prog_31_method_7_code 1 = .ok (.invokevirtual 99, 3) := by decide +kernel
theorem dprog_31_7_4 : decode prog_31_method_7_code 4 = .ok (.tableswitch 99 2 8 #[44, 55, 99, 99, 65, 99, 85], 44) := by decide +kernel
theorem dprog_31_7_48 : decode prog_31_method_7_code 48 = .ok (.aload_n 1, 1) := by decide +kernel
theorem dprog_31_7_49 : decode prog_31_method_7_code 49 = .ok (.checkcast 100, 3) := by decide +kernel
theorem dprog_31_7_52 : decode prog_31_method_7_code 52 = .ok (.invokevirtual 102, 3) := by decide +kernel
theorem dprog_31_7_55 : decode prog_31_method_7_code 55 = .ok (.lstore_n 2, 1) := by decide +kernel
theorem dprog_31_7_56 : decode prog_31_method_7_code 56 = .ok (.goto 64, 3) := by decide +kernel
theorem dprog_31_7_120 : decode prog_31_method_7_code 120 = .ok (.lload_n 2, 1) := by decide +kernel
theorem dprog_31_7_121 : decode prog_31_method_7_code 121 = .ok (.lreturn, 1) := by decide +kernel
theorem efZBITS (m : MethodId) (wBITS : Addr) (r1 : Addr) : entryFrame m #[(.ref wBITS), (.ref r1)] 4 = mkF m 0 #[.val (.ref wBITS), .val (.ref r1), .unset, .unset] [] := by first | (simp [entryFrame, mkF, argsToLocals, Value.category]; done) | rfl
def QZBITS (Z : State) (r1 : Addr) (uu : Int32) (ob : Addr) (kb : ClassId) (zz : Int32) (vl : List Value) (wBOOLEAN : Addr) (wINTEGER : Addr) (wBITS : Addr) (wOCTETS : Addr) (wNULL : Addr) (wOBJECT_IDENTIFIER : Addr) (wTEXT : Addr) (wCOMPONENTS : Addr) (wELEMENTS : Addr) (wCHOICE : Addr) (wELEMENT : Addr) (cs : Int32) (wD : Addr) (kD : ClassId) (wC : Addr) (clC : Cell) (h0 : Heap) (n0 : Nat) (v : Option Value) (h : Heap) (L : List Loc) : Prop := v = some (.long (((zz.toInt64) * (8 : Int64)) - (uu.toInt64))) ∧ Fr n0 L ∧ h = h0
abbrev own_KZBITS (Z : State) (r1 : Addr) (uu : Int32) (ob : Addr) (kb : ClassId) (zz : Int32) (vl : List Value) (wBOOLEAN : Addr) (wINTEGER : Addr) (wBITS : Addr) (wOCTETS : Addr) (wNULL : Addr) (wOBJECT_IDENTIFIER : Addr) (wTEXT : Addr) (wCOMPONENTS : Addr) (wELEMENTS : Addr) (wCHOICE : Addr) (wELEMENT : Addr) (cs : Int32) (wD : Addr) (kD : ClassId) (wC : Addr) (clC : Cell) (h0 : Heap) (n0 : Nat) (s : State) : Outcome → State → Prop := fun o U' => ∃ v L, o = .returned v ∧ QZBITS Z r1 uu ob kb zz vl wBOOLEAN wINTEGER wBITS wOCTETS wNULL wOBJECT_IDENTIFIER wTEXT wCOMPONENTS wELEMENTS wCHOICE wELEMENT cs wD kD wC clC h0 n0 v U'.heap L ∧ FrameEnd s o U' L ({ frames := 1, cells := 0, slots := 0, locals := 12 } : Room).cells ({ frames := 1, cells := 0, slots := 0, locals := 12 } : Room).slots
set_option maxRecDepth 65536 in
set_option maxHeartbeats 40000000 in
theorem rmZBITS (l : Launch) (Z : State) (a0 : Array Value) (hw : ∀ d ∈ tables_1, d.before a0 Z = true) (ws : List Jvm.Cond) (r1 : Addr) (uu : Int32) (ob : Addr) (kb : ClassId) (zz : Int32) (vl : List Value) (wBOOLEAN : Addr) (wINTEGER : Addr) (wBITS : Addr) (wOCTETS : Addr) (wNULL : Addr) (wOBJECT_IDENTIFIER : Addr) (wTEXT : Addr) (wCOMPONENTS : Addr) (wELEMENTS : Addr) (wCHOICE : Addr) (wELEMENT : Addr) (cs : Int32) (wD : Addr) (kD : ClassId) (wC : Addr) (clC : Cell) (h0 : Heap) (n0 : Nat) (Z0 : n0 ≤ h0.size) (O0 : Old Z n0 h0) (HW : own_Wd Z wBOOLEAN wINTEGER wBITS wOCTETS wNULL wOBJECT_IDENTIFIER wTEXT wCOMPONENTS wELEMENTS wCHOICE wELEMENT cs wD kD wC clC) (E1 : Exa Z h0 r1 "com/example/tagwright/tagwright/universal/BitString") (F_u : Fld Z h0 r1 "com/example/tagwright/tagwright/universal/BitString" "unusedBits" "I" (.int uu)) (F_o : Fld Z h0 r1 "com/example/tagwright/tagwright/universal/BitString" "octets" "[B" (.ref ob)) (Vo : Arv Z h0 ob kb .byte zz vl (.int (0 : Int32))) :
    MetFree l (⟨"com/example/tagwright/tagwright/typed/Form", "sizeOf", "(Ljava/lang/Object;)J"⟩ : MethodName) (head1 (Jvm.Cond.code (⟨"com/example/tagwright/tagwright/typed/Form", "sizeOf", "(Ljava/lang/Object;)J"⟩ : MethodName) prog_31_method_7_code 4 (some .long) :: ws) ({ frames := 1, cells := 0, slots := 0, locals := 12 } : Room)) (fun a U => a = #[(.ref wBITS), (.ref r1)] ∧ Z.Warmed39 U.vm ∧ U.heap = h0) (fun _ _ _ _ _ => True) (fun _ U o U' => ∃ v L, o = .returned v ∧ QZBITS Z r1 uu ob kb zz vl wBOOLEAN wINTEGER wBITS wOCTETS wNULL wOBJECT_IDENTIFIER wTEXT wCOMPONENTS wELEMENTS wCHOICE wELEMENT cs wD kD wC clC h0 n0 v U'.heap L ∧ FrameEnd U o U' L ({ frames := 1, cells := 0, slots := 0, locals := 12 } : Room).cells ({ frames := 1, cells := 0, slots := 0, locals := 12 } : Room).slots) := by
  refine MetFree.of_bodySF (plainFor_of_name pn_com_example_tagwright_tagwright_typed_Form) hisR ?_
  intro p e s m args below meth c s₁ Bd hml0 hP hK
  obtain ⟨rfl, hZ, hh⟩ := hP
  have hx := Bd.exec
  have hby := Bd.bytes
  have hml : c.maxLocals = 4 := hml0
  have hown : s.vm.findClass "com/example/tagwright/tagwright/typed/Form" = some m.cls := findClass_of_methodNamed Bd.named
  have hnm := (name_of_methodNamed Bd.named Bd.method).1
  have X0 : Stand p l e ({ frames := 1, cells := 0, slots := 0, locals := 12 } : Room) s m #[(.ref wBITS), (.ref r1)] below meth c s₁ [] 0 0 := Stand.of_body Bd
  have e0 : s₁.heap = h0 := by rw [← hh, Bd.state]; rfl
  have N0 := Fr.nil n0
  refine own_by (p := p) (e := e) (below := below) (K := own_KZBITS Z r1 uu ob kb zz vl wBOOLEAN wINTEGER wBITS wOCTETS wNULL wOBJECT_IDENTIFIER wTEXT wCOMPONENTS wELEMENTS wCHOICE wELEMENT cs wD kD wC clC h0 n0 s) (W' := s₁.setTop (mkF m 0 #[.val (.ref wBITS), .val (.ref r1), .unset, .unset] [])) (fun t k => castTop (efZBITS m wBITS r1) k) ?_
  obtain ⟨cq21, kq21, q21a, q21b, q21c⟩ := isOf hZ e0 (HW.2.2.2.2.2.2.2.1.ext O0.2)
  obtain ⟨_, _, ⟨T21, L21, k21, n21⟩, -, X21, ⟨Lc21, hQ21, l21, y21, z21⟩, st21⟩ := X0.virtualBackUp hx (x := (⟨"com/example/tagwright/tagwright/typed/Form", "ordinal", "()I"⟩ : MethodName)) (y := (⟨"java/lang/Enum", "ordinal", "()I"⟩ : MethodName)) (owner := "java/lang/Enum") hown (mvT hZ (own_w hw 67)) (mvT hZ (own_w hw 68)) (mvT hZ (own_w hw 69)) (by decide) (mvT hZ (own_w hw 71)) (mvT hZ (own_w hw 70)) (backOf (W := 0) (rmO l Z a0 hw [] wBITS (2 : Int32) h0 n0 Z0 (HW.2.2.2.2.2.2.2.2.1.ext O0.2)) hZ (own_w hw 73) (own_w hw 72) (by decide) (by decide)) q21a q21c (g := (mkF m 1 #[.val (.ref wBITS), .val (.ref r1), .unset, .unset] [(.ref wBITS)])) rfl (by rw [hml]; rfl) (Steps.refl _) (argsL := []) (rest := []) (lenOf pd_5 rfl) rfl (by show 2 * 0 + _ ≤ _; exact Nat.le_of_eq rfl) (hb hby dprog_31_7_1) (fun _ _ => ⟨rfl, e0, (by decide : 0 + 0 ≤ _), (by decide : 0 + 0 ≤ _)⟩)
  dsimp only [Pt.U, Pt.locs, Pt.cells, Pt.slots] at X21 l21 y21 z21 st21 hQ21
  subst l21 y21 z21
  obtain ⟨rfl, N21q, e21⟩ := hQ21
  have N21 := Fr.app N0 N21q
  obtain ⟨T22, X22, e22, st22⟩ := castY X21 hx hZ hown (own_w hw 168) e21 (Ins.self E1) (g := (mkF m 49 #[.val (.ref wBITS), .val (.ref r1), .unset, .unset] [(.ref r1)])) rfl rfl (hb hby dprog_31_7_49)
  obtain ⟨cq23, kq23, q23a, q23b, q23c⟩ := isOf hZ e22 E1
  obtain ⟨_, _, ⟨T23, L23, k23, n23⟩, -, X23, ⟨Lc23, hQ23, l23, y23, z23⟩, st23⟩ := X22.virtualBack hx (y := (⟨"com/example/tagwright/tagwright/universal/BitString", "getLength", "()J"⟩ : MethodName)) (z := (⟨"com/example/tagwright/tagwright/universal/BitString", "getLength", "()J"⟩ : MethodName)) hown (mvT hZ (own_w hw 170)) (mvT hZ (own_w hw 171)) (notFace_of_selects (args := #[]) (mvT hZ (own_w hw 173))) (mvT hZ (own_w hw 173)) (mvT hZ (own_w hw 172)) (by decide) (backOf (W := 0) (rmGL l Z a0 hw [] r1 uu ob kb zz vl h0 n0 Z0 F_u F_o Vo) hZ (own_w hw 174) (own_w hw 144) (by decide) (by decide)) q23a q23c (g := (mkF m 52 #[.val (.ref wBITS), .val (.ref r1), .unset, .unset] [(.ref r1)])) rfl (by rw [hml]; rfl) (Steps.refl _) (argsL := []) (rest := []) (lenOf pd_8 rfl) rfl (by show 2 * 0 + _ ≤ _; exact Nat.le_of_eq rfl) (hb hby dprog_31_7_52) (fun _ _ => ⟨rfl, e22, (by decide : 0 + 0 ≤ _), (by decide : 0 + 0 ≤ _)⟩)
  dsimp only [Pt.U, Pt.locs, Pt.cells, Pt.slots] at X23 l23 y23 z23 st23 hQ23
  subst l23 y23 z23
  obtain ⟨rfl, N23q, e23⟩ := hQ23
  have N23 := Fr.app N21 N23q
  refine own_by (W' := (T23.setTop (mkF m 55 #[.val (.ref wBITS), .val (.ref r1), .unset, .unset] [(.long (((zz.toInt64) * (8 : Int64)) - (uu.toInt64)))]))) (fun t k => XS.aloadN X0.here hx rfl (hb hby dprog_31_7_0) rfl rfl (Steps.trans st21 (XS.tswIn X21.here hx rfl (pc0 := 4) (pc' := 48) (o := 44) rfl (hb hby dprog_31_7_4) rfl (by decide) rfl (by decide) (by decide) (XS.aloadN X21.here hx rfl (hb hby dprog_31_7_48) rfl rfl (st22 _ (Steps.trans st23 k)))))) ?_
  obtain ⟨fs, hr, hrun, hended, hW, hsame⟩ := X23.leave (v := some (.long (((zz.toInt64) * (8 : Int64)) - (uu.toInt64)))) (fun h => by rw [Bd.returns] at h; cases h)
  refine own_by (W' := (T23.setTop (mkF m 121 #[.val (.ref wBITS), .val (.ref r1), .val (.long (((zz.toInt64) * (8 : Int64)) - (uu.toInt64))), .second] [(.long (((zz.toInt64) * (8 : Int64)) - (uu.toInt64)))]))) (fun t k => XS.lstoreN X23.here hx rfl (hb hby dprog_31_7_55) rfl (l' := #[.val (.ref wBITS), .val (.ref r1), .val (.long (((zz.toInt64) * (8 : Int64)) - (uu.toInt64))), .second]) rfl (XS.goto X23.here hx rfl (pc0 := 56) (pc' := 120) rfl (hb hby dprog_31_7_56) (by decide) (by decide) (XS.lloadN X23.here hx rfl (hb hby dprog_31_7_120) rfl k))) ?_
  refine ⟨_, _, retOut X23 hx Bd.returns rfl (Or.inr (Or.inl ⟨rfl, rfl, _, rfl⟩)) (hb hby dprog_31_7_121) hr, hrun, hended, _, _, rfl, ?_, ⟨_, rfl⟩, hW, hsame.mono (by decide) (by decide)⟩
  exact ⟨rfl, N23, e23⟩
theorem dprog_31_7_59 : decode prog_31_method_7_code 59 = .ok (.aload_n 1, 1) := by decide +kernel
theorem dprog_31_7_60 : decode prog_31_method_7_code 60 = .ok (.checkcast 106, 3) := by decide +kernel
theorem dprog_31_7_63 : decode prog_31_method_7_code 63 = .ok (.arraylength, 1) := by decide +kernel
theorem dprog_31_7_64 : decode prog_31_method_7_code 64 = .ok (.i2l, 1) := by decide +kernel
theorem dprog_31_7_65 : decode prog_31_method_7_code 65 = .ok (.lstore_n 2, 1) := by decide +kernel
theorem dprog_31_7_66 : decode prog_31_method_7_code 66 = .ok (.goto 54, 3) := by decide +kernel
theorem efZOCTETS (m : MethodId) (wOCTETS : Addr) (r1 : Addr) : entryFrame m #[(.ref wOCTETS), (.ref r1)] 4 = mkF m 0 #[.val (.ref wOCTETS), .val (.ref r1), .unset, .unset] [] := by first | (simp [entryFrame, mkF, argsToLocals, Value.category]; done) | rfl
def QZOCTETS (Z : State) (r1 : Addr) (kb : ClassId) (zz : Int32) (vl : List Value) (wBOOLEAN : Addr) (wINTEGER : Addr) (wBITS : Addr) (wOCTETS : Addr) (wNULL : Addr) (wOBJECT_IDENTIFIER : Addr) (wTEXT : Addr) (wCOMPONENTS : Addr) (wELEMENTS : Addr) (wCHOICE : Addr) (wELEMENT : Addr) (cs : Int32) (wD : Addr) (kD : ClassId) (wC : Addr) (clC : Cell) (h0 : Heap) (n0 : Nat) (v : Option Value) (h : Heap) (L : List Loc) : Prop := v = some (.long (zz.toInt64)) ∧ Fr n0 L ∧ h = h0
abbrev own_KZOCTETS (Z : State) (r1 : Addr) (kb : ClassId) (zz : Int32) (vl : List Value) (wBOOLEAN : Addr) (wINTEGER : Addr) (wBITS : Addr) (wOCTETS : Addr) (wNULL : Addr) (wOBJECT_IDENTIFIER : Addr) (wTEXT : Addr) (wCOMPONENTS : Addr) (wELEMENTS : Addr) (wCHOICE : Addr) (wELEMENT : Addr) (cs : Int32) (wD : Addr) (kD : ClassId) (wC : Addr) (clC : Cell) (h0 : Heap) (n0 : Nat) (s : State) : Outcome → State → Prop := fun o U' => ∃ v L, o = .returned v ∧ QZOCTETS Z r1 kb zz vl wBOOLEAN wINTEGER wBITS wOCTETS wNULL wOBJECT_IDENTIFIER wTEXT wCOMPONENTS wELEMENTS wCHOICE wELEMENT cs wD kD wC clC h0 n0 v U'.heap L ∧ FrameEnd s o U' L ({ frames := 1, cells := 0, slots := 0, locals := 12 } : Room).cells ({ frames := 1, cells := 0, slots := 0, locals := 12 } : Room).slots
set_option maxRecDepth 65536 in
set_option maxHeartbeats 40000000 in
theorem rmZOCTETS (l : Launch) (Z : State) (a0 : Array Value) (hw : ∀ d ∈ tables_1, d.before a0 Z = true) (ws : List Jvm.Cond) (r1 : Addr) (kb : ClassId) (zz : Int32) (vl : List Value) (wBOOLEAN : Addr) (wINTEGER : Addr) (wBITS : Addr) (wOCTETS : Addr) (wNULL : Addr) (wOBJECT_IDENTIFIER : Addr) (wTEXT : Addr) (wCOMPONENTS : Addr) (wELEMENTS : Addr) (wCHOICE : Addr) (wELEMENT : Addr) (cs : Int32) (wD : Addr) (kD : ClassId) (wC : Addr) (clC : Cell) (h0 : Heap) (n0 : Nat) (Z0 : n0 ≤ h0.size) (O0 : Old Z n0 h0) (HW : own_Wd Z wBOOLEAN wINTEGER wBITS wOCTETS wNULL wOBJECT_IDENTIFIER wTEXT wCOMPONENTS wELEMENTS wCHOICE wELEMENT cs wD kD wC clC) (E1 : Exa Z h0 r1 "[B") (V1 : Arv Z h0 r1 kb .byte zz vl (.int (0 : Int32))) :
    MetFree l (⟨"com/example/tagwright/tagwright/typed/Form", "sizeOf", "(Ljava/lang/Object;)J"⟩ : MethodName) (head1 (Jvm.Cond.code (⟨"com/example/tagwright/tagwright/typed/Form", "sizeOf", "(Ljava/lang/Object;)J"⟩ : MethodName) prog_31_method_7_code 4 (some .long) :: ws) ({ frames := 1, cells := 0, slots := 0, locals := 12 } : Room)) (fun a U => a = #[(.ref wOCTETS), (.ref r1)] ∧ Z.Warmed39 U.vm ∧ U.heap = h0) (fun _ _ _ _ _ => True) (fun _ U o U' => ∃ v L, o = .returned v ∧ QZOCTETS Z r1 kb zz vl wBOOLEAN wINTEGER wBITS wOCTETS wNULL wOBJECT_IDENTIFIER wTEXT wCOMPONENTS wELEMENTS wCHOICE wELEMENT cs wD kD wC clC h0 n0 v U'.heap L ∧ FrameEnd U o U' L ({ frames := 1, cells := 0, slots := 0, locals := 12 } : Room).cells ({ frames := 1, cells := 0, slots := 0, locals := 12 } : Room).slots) := by
  refine MetFree.of_bodySF (plainFor_of_name pn_com_example_tagwright_tagwright_typed_Form) hisR ?_
  intro p e s m args below meth c s₁ Bd hml0 hP hK
  obtain ⟨rfl, hZ, hh⟩ := hP
  have hx := Bd.exec
  have hby := Bd.bytes
  have hml : c.maxLocals = 4 := hml0
  have hown : s.vm.findClass "com/example/tagwright/tagwright/typed/Form" = some m.cls := findClass_of_methodNamed Bd.named
  have hnm := (name_of_methodNamed Bd.named Bd.method).1
  have X0 : Stand p l e ({ frames := 1, cells := 0, slots := 0, locals := 12 } : Room) s m #[(.ref wOCTETS), (.ref r1)] below meth c s₁ [] 0 0 := Stand.of_body Bd
  have e0 : s₁.heap = h0 := by rw [← hh, Bd.state]; rfl
  have N0 := Fr.nil n0
  refine own_by (p := p) (e := e) (below := below) (K := own_KZOCTETS Z r1 kb zz vl wBOOLEAN wINTEGER wBITS wOCTETS wNULL wOBJECT_IDENTIFIER wTEXT wCOMPONENTS wELEMENTS wCHOICE wELEMENT cs wD kD wC clC h0 n0 s) (W' := s₁.setTop (mkF m 0 #[.val (.ref wOCTETS), .val (.ref r1), .unset, .unset] [])) (fun t k => castTop (efZOCTETS m wOCTETS r1) k) ?_
  obtain ⟨cq21, kq21, q21a, q21b, q21c⟩ := isOf hZ e0 (HW.2.2.2.2.2.2.2.2.2.2.1.ext O0.2)
  obtain ⟨_, _, ⟨T21, L21, k21, n21⟩, -, X21, ⟨Lc21, hQ21, l21, y21, z21⟩, st21⟩ := X0.virtualBackUp hx (x := (⟨"com/example/tagwright/tagwright/typed/Form", "ordinal", "()I"⟩ : MethodName)) (y := (⟨"java/lang/Enum", "ordinal", "()I"⟩ : MethodName)) (owner := "java/lang/Enum") hown (mvT hZ (own_w hw 67)) (mvT hZ (own_w hw 68)) (mvT hZ (own_w hw 69)) (by decide) (mvT hZ (own_w hw 71)) (mvT hZ (own_w hw 70)) (backOf (W := 0) (rmO l Z a0 hw [] wOCTETS (3 : Int32) h0 n0 Z0 (HW.2.2.2.2.2.2.2.2.2.2.2.1.ext O0.2)) hZ (own_w hw 73) (own_w hw 72) (by decide) (by decide)) q21a q21c (g := (mkF m 1 #[.val (.ref wOCTETS), .val (.ref r1), .unset, .unset] [(.ref wOCTETS)])) rfl (by rw [hml]; rfl) (Steps.refl _) (argsL := []) (rest := []) (lenOf pd_5 rfl) rfl (by show 2 * 0 + _ ≤ _; exact Nat.le_of_eq rfl) (hb hby dprog_31_7_1) (fun _ _ => ⟨rfl, e0, (by decide : 0 + 0 ≤ _), (by decide : 0 + 0 ≤ _)⟩)
  dsimp only [Pt.U, Pt.locs, Pt.cells, Pt.slots] at X21 l21 y21 z21 st21 hQ21
  subst l21 y21 z21
  obtain ⟨rfl, N21q, e21⟩ := hQ21
  have N21 := Fr.app N0 N21q
  obtain ⟨T22, X22, e22, st22⟩ := castY X21 hx hZ hown (own_w hw 140) e21 (Ins.self E1) (g := (mkF m 60 #[.val (.ref wOCTETS), .val (.ref r1), .unset, .unset] [(.ref r1)])) rfl rfl (hb hby dprog_31_7_60)
  obtain ⟨clu23, Aru23, qu23, Su23, Ngu23, Hau23, Gau23⟩ := id V1
  refine own_by (W' := (T22.setTop (mkF m 64 #[.val (.ref wOCTETS), .val (.ref r1), .unset, .unset] [(.int clu23.slots.size.toInt32)]))) (fun t k => XS.aloadN X0.here hx rfl (hb hby dprog_31_7_0) rfl rfl (Steps.trans st21 (XS.tswIn X21.here hx rfl (pc0 := 4) (pc' := 59) (o := 55) rfl (hb hby dprog_31_7_4) rfl (by decide) rfl (by decide) (by decide) (XS.aloadN X21.here hx rfl (hb hby dprog_31_7_59) rfl rfl (st22 _ ((X22.arraylength hx (by rw [e22]; exact Aru23.1) (State.isArrayOf_alike hZ.alike Aru23.2.1) (g := (mkF m 63 #[.val (.ref wOCTETS), .val (.ref r1), .unset, .unset] [(.ref r1)])) rfl rfl (hb hby dprog_31_7_63)) _ k)))))) ?_
  rw [len_of Su23 Ngu23]
  obtain ⟨fs, hr, hrun, hended, hW, hsame⟩ := X22.leave (v := some (.long (zz.toInt64))) (fun h => by rw [Bd.returns] at h; cases h)
  refine own_by (W' := (T22.setTop (mkF m 121 #[.val (.ref wOCTETS), .val (.ref r1), .val (.long (zz.toInt64)), .second] [(.long (zz.toInt64))]))) (fun t k => XS.i2l X22.here hx rfl (hb hby dprog_31_7_64) rfl (XS.lstoreN X22.here hx rfl (hb hby dprog_31_7_65) rfl (l' := #[.val (.ref wOCTETS), .val (.ref r1), .val (.long (zz.toInt64)), .second]) rfl (XS.goto X22.here hx rfl (pc0 := 66) (pc' := 120) rfl (hb hby dprog_31_7_66) (by decide) (by decide) (XS.lloadN X22.here hx rfl (hb hby dprog_31_7_120) rfl k)))) ?_
  refine ⟨_, _, retOut X22 hx Bd.returns rfl (Or.inr (Or.inl ⟨rfl, rfl, _, rfl⟩)) (hb hby dprog_31_7_121) hr, hrun, hended, _, _, rfl, ?_, ⟨_, rfl⟩, hW, hsame.mono (by decide) (by decide)⟩
  exact ⟨rfl, N21, e22⟩
theorem pd_9 : parseMethodDescriptor "(II)I" = some ⟨[.int, .int], some .int⟩ := by decide +kernel
theorem dprog_31_7_69 : decode prog_31_method_7_code 69 = .ok (.aload_n 1, 1) := by decide +kernel
theorem dprog_31_7_70 : decode prog_31_method_7_code 70 = .ok (.checkcast 108, 3) := by decide +kernel
theorem dprog_31_7_73 : decode prog_31_method_7_code 73 = .ok (.iconst 0, 1) := by decide +kernel
theorem dprog_31_7_74 : decode prog_31_method_7_code 74 = .ok (.aload_n 1, 1) := by decide +kernel
theorem dprog_31_7_75 : decode prog_31_method_7_code 75 = .ok (.checkcast 108, 3) := by decide +kernel
theorem dprog_31_7_78 : decode prog_31_method_7_code 78 = .ok (.invokevirtual 110, 3) := by decide +kernel
theorem dprog_31_7_81 : decode prog_31_method_7_code 81 = .ok (.invokevirtual 113, 3) := by decide +kernel
theorem dprog_31_7_84 : decode prog_31_method_7_code 84 = .ok (.i2l, 1) := by decide +kernel
theorem dprog_31_7_85 : decode prog_31_method_7_code 85 = .ok (.lstore_n 2, 1) := by decide +kernel
theorem dprog_31_7_86 : decode prog_31_method_7_code 86 = .ok (.goto 34, 3) := by decide +kernel
theorem efZTEXT (m : MethodId) (wTEXT : Addr) (r1 : Addr) : entryFrame m #[(.ref wTEXT), (.ref r1)] 4 = mkF m 0 #[.val (.ref wTEXT), .val (.ref r1), .unset, .unset] [] := by first | (simp [entryFrame, mkF, argsToLocals, Value.category]; done) | rfl
def QZTEXT (Z : State) (r1 : Addr) (zz : Int32) (vl : List Value) (wBOOLEAN : Addr) (wINTEGER : Addr) (wBITS : Addr) (wOCTETS : Addr) (wNULL : Addr) (wOBJECT_IDENTIFIER : Addr) (wTEXT : Addr) (wCOMPONENTS : Addr) (wELEMENTS : Addr) (wCHOICE : Addr) (wELEMENT : Addr) (cs : Int32) (wD : Addr) (kD : ClassId) (wC : Addr) (clC : Cell) (h0 : Heap) (n0 : Nat) (v : Option Value) (h : Heap) (L : List Loc) : Prop := v = some (.long (zz.toInt64)) ∧ Fr n0 L ∧ h = h0
abbrev own_KZTEXT (Z : State) (r1 : Addr) (zz : Int32) (vl : List Value) (wBOOLEAN : Addr) (wINTEGER : Addr) (wBITS : Addr) (wOCTETS : Addr) (wNULL : Addr) (wOBJECT_IDENTIFIER : Addr) (wTEXT : Addr) (wCOMPONENTS : Addr) (wELEMENTS : Addr) (wCHOICE : Addr) (wELEMENT : Addr) (cs : Int32) (wD : Addr) (kD : ClassId) (wC : Addr) (clC : Cell) (h0 : Heap) (n0 : Nat) (s : State) : Outcome → State → Prop := fun o U' => ∃ v L, o = .returned v ∧ QZTEXT Z r1 zz vl wBOOLEAN wINTEGER wBITS wOCTETS wNULL wOBJECT_IDENTIFIER wTEXT wCOMPONENTS wELEMENTS wCHOICE wELEMENT cs wD kD wC clC h0 n0 v U'.heap L ∧ FrameEnd s o U' L ({ frames := 3, cells := 0, slots := 0, locals := 43 } : Room).cells ({ frames := 3, cells := 0, slots := 0, locals := 43 } : Room).slots
set_option maxRecDepth 65536 in
set_option maxHeartbeats 40000000 in
theorem rmZTEXT (l : Launch) (Z : State) (a0 : Array Value) (hw : ∀ d ∈ tables_1, d.before a0 Z = true) (ws : List Jvm.Cond) (r1 : Addr) (zz : Int32) (vl : List Value) (wBOOLEAN : Addr) (wINTEGER : Addr) (wBITS : Addr) (wOCTETS : Addr) (wNULL : Addr) (wOBJECT_IDENTIFIER : Addr) (wTEXT : Addr) (wCOMPONENTS : Addr) (wELEMENTS : Addr) (wCHOICE : Addr) (wELEMENT : Addr) (cs : Int32) (wD : Addr) (kD : ClassId) (wC : Addr) (clC : Cell) (h0 : Heap) (n0 : Nat) (Z0 : n0 ≤ h0.size) (O0 : Old Z n0 h0) (HW : own_Wd Z wBOOLEAN wINTEGER wBITS wOCTETS wNULL wOBJECT_IDENTIFIER wTEXT wCOMPONENTS wELEMENTS wCHOICE wELEMENT cs wD kD wC clC) (T_s : own_St Z h0 r1 zz vl) :
    MetFree l (⟨"com/example/tagwright/tagwright/typed/Form", "sizeOf", "(Ljava/lang/Object;)J"⟩ : MethodName) (head1 (Jvm.Cond.code (⟨"com/example/tagwright/tagwright/typed/Form", "sizeOf", "(Ljava/lang/Object;)J"⟩ : MethodName) prog_31_method_7_code 4 (some .long) :: ws) ({ frames := 3, cells := 0, slots := 0, locals := 43 } : Room)) (fun a U => a = #[(.ref wTEXT), (.ref r1)] ∧ Z.Warmed39 U.vm ∧ U.heap = h0) (fun _ _ _ _ _ => True) (fun _ U o U' => ∃ v L, o = .returned v ∧ QZTEXT Z r1 zz vl wBOOLEAN wINTEGER wBITS wOCTETS wNULL wOBJECT_IDENTIFIER wTEXT wCOMPONENTS wELEMENTS wCHOICE wELEMENT cs wD kD wC clC h0 n0 v U'.heap L ∧ FrameEnd U o U' L ({ frames := 3, cells := 0, slots := 0, locals := 43 } : Room).cells ({ frames := 3, cells := 0, slots := 0, locals := 43 } : Room).slots) := by
  refine MetFree.of_bodySF (plainFor_of_name pn_com_example_tagwright_tagwright_typed_Form) hisR ?_
  intro p e s m args below meth c s₁ Bd hml0 hP hK
  obtain ⟨rfl, hZ, hh⟩ := hP
  have hx := Bd.exec
  have hby := Bd.bytes
  have hml : c.maxLocals = 4 := hml0
  have hown : s.vm.findClass "com/example/tagwright/tagwright/typed/Form" = some m.cls := findClass_of_methodNamed Bd.named
  have hnm := (name_of_methodNamed Bd.named Bd.method).1
  have X0 : Stand p l e ({ frames := 3, cells := 0, slots := 0, locals := 43 } : Room) s m #[(.ref wTEXT), (.ref r1)] below meth c s₁ [] 0 0 := Stand.of_body Bd
  have e0 : s₁.heap = h0 := by rw [← hh, Bd.state]; rfl
  have N0 := Fr.nil n0
  refine own_by (p := p) (e := e) (below := below) (K := own_KZTEXT Z r1 zz vl wBOOLEAN wINTEGER wBITS wOCTETS wNULL wOBJECT_IDENTIFIER wTEXT wCOMPONENTS wELEMENTS wCHOICE wELEMENT cs wD kD wC clC h0 n0 s) (W' := s₁.setTop (mkF m 0 #[.val (.ref wTEXT), .val (.ref r1), .unset, .unset] [])) (fun t k => castTop (efZTEXT m wTEXT r1) k) ?_
  obtain ⟨E_s, C_s, q_s, k_s, F_s, V_s⟩ := id T_s
  obtain ⟨cl_s, -, -, -, hz, -, -⟩ := id V_s
  obtain ⟨cq21, kq21, q21a, q21b, q21c⟩ := isOf hZ e0 (HW.2.2.2.2.2.2.2.2.2.2.2.2.2.2.2.2.2.2.2.1.ext O0.2)
  obtain ⟨_, _, ⟨T21, L21, k21, n21⟩, -, X21, ⟨Lc21, hQ21, l21, y21, z21⟩, st21⟩ := X0.virtualBackUp hx (x := (⟨"com/example/tagwright/tagwright/typed/Form", "ordinal", "()I"⟩ : MethodName)) (y := (⟨"java/lang/Enum", "ordinal", "()I"⟩ : MethodName)) (owner := "java/lang/Enum") hown (mvT hZ (own_w hw 67)) (mvT hZ (own_w hw 68)) (mvT hZ (own_w hw 69)) (by decide) (mvT hZ (own_w hw 71)) (mvT hZ (own_w hw 70)) (backOf (W := 0) (rmO l Z a0 hw [] wTEXT (6 : Int32) h0 n0 Z0 (HW.2.2.2.2.2.2.2.2.2.2.2.2.2.2.2.2.2.2.2.2.1.ext O0.2)) hZ (own_w hw 73) (own_w hw 72) (by decide) (by decide)) q21a q21c (g := (mkF m 1 #[.val (.ref wTEXT), .val (.ref r1), .unset, .unset] [(.ref wTEXT)])) rfl (by rw [hml]; rfl) (Steps.refl _) (argsL := []) (rest := []) (lenOf pd_5 rfl) rfl (by show 2 * 0 + _ ≤ _; exact Nat.le_of_eq rfl) (hb hby dprog_31_7_1) (fun _ _ => ⟨rfl, e0, (by decide : 0 + 0 ≤ _), (by decide : 0 + 0 ≤ _)⟩)
  dsimp only [Pt.U, Pt.locs, Pt.cells, Pt.slots] at X21 l21 y21 z21 st21 hQ21
  subst l21 y21 z21
  obtain ⟨rfl, N21q, e21⟩ := hQ21
  have N21 := Fr.app N0 N21q
  obtain ⟨T22, X22, e22, st22⟩ := castY X21 hx hZ hown (own_w hw 203) e21 (Ins.self E_s) (g := (mkF m 70 #[.val (.ref wTEXT), .val (.ref r1), .unset, .unset] [(.ref r1)])) rfl rfl (hb hby dprog_31_7_70)
  refine own_by (W' := (T22.setTop (mkF m 74 #[.val (.ref wTEXT), .val (.ref r1), .unset, .unset] [(.int (0 : Int32)), (.ref r1)]))) (fun t k => XS.aloadN X0.here hx rfl (hb hby dprog_31_7_0) rfl rfl (Steps.trans st21 (XS.tswIn X21.here hx rfl (pc0 := 4) (pc' := 69) (o := 65) rfl (hb hby dprog_31_7_4) rfl (by decide) rfl (by decide) (by decide) (XS.aloadN X21.here hx rfl (hb hby dprog_31_7_69) rfl rfl (st22 _ (XS.iconst X22.here hx rfl (hb hby dprog_31_7_73) k)))))) ?_
  obtain ⟨T23, X23, e23, st23⟩ := castY X22 hx hZ hown (own_w hw 203) e22 (Ins.self E_s) (g := (mkF m 75 #[.val (.ref wTEXT), .val (.ref r1), .unset, .unset] [(.ref r1), (.int (0 : Int32)), (.ref r1)])) rfl rfl (hb hby dprog_31_7_75)
  obtain ⟨cq24, kq24, q24a, q24b, q24c⟩ := isOf hZ e23 E_s
  obtain ⟨_, _, ⟨T24, L24, k24, n24⟩, -, X24, ⟨Lc24, hQ24, l24, y24, z24⟩, st24⟩ := X23.virtualBack hx (y := (⟨"java/lang/String", "length", "()I"⟩ : MethodName)) (z := (⟨"java/lang/String", "length", "()I"⟩ : MethodName)) hown (mvT hZ (own_w hw 204)) (mvT hZ (own_w hw 205)) (notFace_of_selects (args := #[]) (mvT hZ (own_w hw 207))) (mvT hZ (own_w hw 207)) (mvT hZ (own_w hw 206)) (by decide) (backOf (W := 2) (rmSN l Z a0 hw [] r1 zz vl wBOOLEAN wINTEGER wBITS wOCTETS wNULL wOBJECT_IDENTIFIER wTEXT wCOMPONENTS wELEMENTS wCHOICE wELEMENT cs wD kD wC clC h0 n0 Z0 O0 HW T_s) hZ (own_w hw 208) (own_w hw 178) (by decide) (by decide)) q24a q24c (g := (mkF m 78 #[.val (.ref wTEXT), .val (.ref r1), .unset, .unset] [(.ref r1), (.int (0 : Int32)), (.ref r1)])) rfl (by rw [hml]; rfl) (Steps.refl _) (argsL := []) (rest := [(.int (0 : Int32)), (.ref r1)]) (lenOf pd_5 rfl) rfl (by show 2 * 0 + _ ≤ _; exact Nat.le_of_eq rfl) (hb hby dprog_31_7_78) (fun _ _ => ⟨rfl, e23, (by decide : 0 + 0 ≤ _), (by decide : 0 + 0 ≤ _)⟩)
  dsimp only [Pt.U, Pt.locs, Pt.cells, Pt.slots] at X24 l24 y24 z24 st24 hQ24
  subst l24 y24 z24
  obtain ⟨rfl, N24q, e24⟩ := hQ24
  have N24 := Fr.app N21 N24q
  obtain ⟨cq25, kq25, q25a, q25b, q25c⟩ := isOf hZ e24 E_s
  obtain ⟨_, _, ⟨T25, L25, k25, n25⟩, -, X25, ⟨Lc25, hQ25, l25, y25, z25⟩, st25⟩ := X24.virtualBack hx (y := (⟨"java/lang/String", "codePointCount", "(II)I"⟩ : MethodName)) (z := (⟨"java/lang/String", "codePointCount", "(II)I"⟩ : MethodName)) hown (mvT hZ (own_w hw 214)) (mvT hZ (own_w hw 215)) (notFace_of_selects (args := #[]) (mvT hZ (own_w hw 217))) (mvT hZ (own_w hw 217)) (mvT hZ (own_w hw 216)) (by decide) (backOf (W := 0) (rmCP l Z a0 hw [] r1 zz vl wBOOLEAN wINTEGER wBITS wOCTETS wNULL wOBJECT_IDENTIFIER wTEXT wCOMPONENTS wELEMENTS wCHOICE wELEMENT cs wD kD wC clC h0 n0 Z0 O0 HW T_s) hZ (own_w hw 218) (own_w hw 178) (by decide) (by decide)) q25a q25c (g := (mkF m 81 #[.val (.ref wTEXT), .val (.ref r1), .unset, .unset] [(.int zz), (.int (0 : Int32)), (.ref r1)])) rfl (by rw [hml]; rfl) (Steps.refl _) (argsL := [(.int (0 : Int32)), (.int zz)]) (rest := []) (lenOf pd_9 rfl) rfl (by show 2 * 0 + _ ≤ _; exact Nat.le_of_eq rfl) (hb hby dprog_31_7_81) (fun _ _ => ⟨rfl, e24, (by decide : 0 + 0 ≤ _), (by decide : 0 + 0 ≤ _)⟩)
  dsimp only [Pt.U, Pt.locs, Pt.cells, Pt.slots] at X25 l25 y25 z25 st25 hQ25
  subst l25 y25 z25
  obtain ⟨rfl, N25q, e25⟩ := hQ25
  have N25 := Fr.app N24 N25q
  refine own_by (W' := (T25.setTop (mkF m 86 #[.val (.ref wTEXT), .val (.ref r1), .val (.long (zz.toInt64)), .second] []))) (fun t k => XS.aloadN X22.here hx rfl (hb hby dprog_31_7_74) rfl rfl (st23 _ (Steps.trans st24 (Steps.trans st25 (XS.i2l X25.here hx rfl (hb hby dprog_31_7_84) rfl (XS.lstoreN X25.here hx rfl (hb hby dprog_31_7_85) rfl (l' := #[.val (.ref wTEXT), .val (.ref r1), .val (.long (zz.toInt64)), .second]) rfl k)))))) ?_
  obtain ⟨fs, hr, hrun, hended, hW, hsame⟩ := X25.leave (v := some (.long (zz.toInt64))) (fun h => by rw [Bd.returns] at h; cases h)
  refine own_by (W' := (T25.setTop (mkF m 121 #[.val (.ref wTEXT), .val (.ref r1), .val (.long (zz.toInt64)), .second] [(.long (zz.toInt64))]))) (fun t k => XS.goto X25.here hx rfl (pc0 := 86) (pc' := 120) rfl (hb hby dprog_31_7_86) (by decide) (by decide) (XS.lloadN X25.here hx rfl (hb hby dprog_31_7_120) rfl k)) ?_
  refine ⟨_, _, retOut X25 hx Bd.returns rfl (Or.inr (Or.inl ⟨rfl, rfl, _, rfl⟩)) (hb hby dprog_31_7_121) hr, hrun, hended, _, _, rfl, ?_, ⟨_, rfl⟩, hW, hsame.mono (by decide) (by decide)⟩
  exact ⟨rfl, N25, e25⟩
theorem dprog_31_7_89 : decode prog_31_method_7_code 89 = .ok (.aload_n 1, 1) := by decide +kernel
theorem dprog_31_7_90 : decode prog_31_method_7_code 90 = .ok (.checkcast 117, 3) := by decide +kernel
theorem dprog_31_7_93 : decode prog_31_method_7_code 93 = .ok (.invokeinterface 119 1, 5) := by decide +kernel
theorem dprog_31_7_98 : decode prog_31_method_7_code 98 = .ok (.i2l, 1) := by decide +kernel
theorem dprog_31_7_99 : decode prog_31_method_7_code 99 = .ok (.lstore_n 2, 1) := by decide +kernel
theorem dprog_31_7_100 : decode prog_31_method_7_code 100 = .ok (.goto 20, 3) := by decide +kernel
theorem efZELEMENTS (m : MethodId) (wELEMENTS : Addr) (r1 : Addr) : entryFrame m #[(.ref wELEMENTS), (.ref r1)] 4 = mkF m 0 #[.val (.ref wELEMENTS), .val (.ref r1), .unset, .unset] [] := by first | (simp [entryFrame, mkF, argsToLocals, Value.category]; done) | rfl
def QZELEMENTS (Z : State) (r1 : Addr) (zz : Int32) (wBOOLEAN : Addr) (wINTEGER : Addr) (wBITS : Addr) (wOCTETS : Addr) (wNULL : Addr) (wOBJECT_IDENTIFIER : Addr) (wTEXT : Addr) (wCOMPONENTS : Addr) (wELEMENTS : Addr) (wCHOICE : Addr) (wELEMENT : Addr) (cs : Int32) (wD : Addr) (kD : ClassId) (wC : Addr) (clC : Cell) (h0 : Heap) (n0 : Nat) (v : Option Value) (h : Heap) (L : List Loc) : Prop := v = some (.long (zz.toInt64)) ∧ Fr n0 L ∧ h = h0
abbrev own_KZELEMENTS (Z : State) (r1 : Addr) (zz : Int32) (wBOOLEAN : Addr) (wINTEGER : Addr) (wBITS : Addr) (wOCTETS : Addr) (wNULL : Addr) (wOBJECT_IDENTIFIER : Addr) (wTEXT : Addr) (wCOMPONENTS : Addr) (wELEMENTS : Addr) (wCHOICE : Addr) (wELEMENT : Addr) (cs : Int32) (wD : Addr) (kD : ClassId) (wC : Addr) (clC : Cell) (h0 : Heap) (n0 : Nat) (s : State) : Outcome → State → Prop := fun o U' => ∃ v L, o = .returned v ∧ QZELEMENTS Z r1 zz wBOOLEAN wINTEGER wBITS wOCTETS wNULL wOBJECT_IDENTIFIER wTEXT wCOMPONENTS wELEMENTS wCHOICE wELEMENT cs wD kD wC clC h0 n0 v U'.heap L ∧ FrameEnd s o U' L ({ frames := 1, cells := 0, slots := 0, locals := 12 } : Room).cells ({ frames := 1, cells := 0, slots := 0, locals := 12 } : Room).slots
set_option maxRecDepth 65536 in
set_option maxHeartbeats 40000000 in
theorem rmZELEMENTS (l : Launch) (Z : State) (a0 : Array Value) (hw : ∀ d ∈ tables_1, d.before a0 Z = true) (ws : List Jvm.Cond) (r1 : Addr) (zz : Int32) (wBOOLEAN : Addr) (wINTEGER : Addr) (wBITS : Addr) (wOCTETS : Addr) (wNULL : Addr) (wOBJECT_IDENTIFIER : Addr) (wTEXT : Addr) (wCOMPONENTS : Addr) (wELEMENTS : Addr) (wCHOICE : Addr) (wELEMENT : Addr) (cs : Int32) (wD : Addr) (kD : ClassId) (wC : Addr) (clC : Cell) (h0 : Heap) (n0 : Nat) (Z0 : n0 ≤ h0.size) (O0 : Old Z n0 h0) (HW : own_Wd Z wBOOLEAN wINTEGER wBITS wOCTETS wNULL wOBJECT_IDENTIFIER wTEXT wCOMPONENTS wELEMENTS wCHOICE wELEMENT cs wD kD wC clC) (E1 : Exa Z h0 r1 "java/util/ArrayList") (Fz : Fld Z h0 r1 "java/util/ArrayList" "size" "I" (.int zz)) :
    MetFree l (⟨"com/example/tagwright/tagwright/typed/Form", "sizeOf", "(Ljava/lang/Object;)J"⟩ : MethodName) (head1 (Jvm.Cond.code (⟨"com/example/tagwright/tagwright/typed/Form", "sizeOf", "(Ljava/lang/Object;)J"⟩ : MethodName) prog_31_method_7_code 4 (some .long) :: ws) ({ frames := 1, cells := 0, slots := 0, locals := 12 } : Room)) (fun a U => a = #[(.ref wELEMENTS), (.ref r1)] ∧ Z.Warmed39 U.vm ∧ U.heap = h0) (fun _ _ _ _ _ => True) (fun _ U o U' => ∃ v L, o = .returned v ∧ QZELEMENTS Z r1 zz wBOOLEAN wINTEGER wBITS wOCTETS wNULL wOBJECT_IDENTIFIER wTEXT wCOMPONENTS wELEMENTS wCHOICE wELEMENT cs wD kD wC clC h0 n0 v U'.heap L ∧ FrameEnd U o U' L ({ frames := 1, cells := 0, slots := 0, locals := 12 } : Room).cells ({ frames := 1, cells := 0, slots := 0, locals := 12 } : Room).slots) := by
  refine MetFree.of_bodySF (plainFor_of_name pn_com_example_tagwright_tagwright_typed_Form) hisR ?_
  intro p e s m args below meth c s₁ Bd hml0 hP hK
  obtain ⟨rfl, hZ, hh⟩ := hP
  have hx := Bd.exec
  have hby := Bd.bytes
  have hml : c.maxLocals = 4 := hml0
  have hown : s.vm.findClass "com/example/tagwright/tagwright/typed/Form" = some m.cls := findClass_of_methodNamed Bd.named
  have hnm := (name_of_methodNamed Bd.named Bd.method).1
  have X0 : Stand p l e ({ frames := 1, cells := 0, slots := 0, locals := 12 } : Room) s m #[(.ref wELEMENTS), (.ref r1)] below meth c s₁ [] 0 0 := Stand.of_body Bd
  have e0 : s₁.heap = h0 := by rw [← hh, Bd.state]; rfl
  have N0 := Fr.nil n0
  refine own_by (p := p) (e := e) (below := below) (K := own_KZELEMENTS Z r1 zz wBOOLEAN wINTEGER wBITS wOCTETS wNULL wOBJECT_IDENTIFIER wTEXT wCOMPONENTS wELEMENTS wCHOICE wELEMENT cs wD kD wC clC h0 n0 s) (W' := s₁.setTop (mkF m 0 #[.val (.ref wELEMENTS), .val (.ref r1), .unset, .unset] [])) (fun t k => castTop (efZELEMENTS m wELEMENTS r1) k) ?_
  obtain ⟨cq21, kq21, q21a, q21b, q21c⟩ := isOf hZ e0 (HW.2.2.2.2.2.2.2.2.2.2.2.2.2.2.2.2.2.2.2.2.2.2.2.2.2.1.ext O0.2)
  obtain ⟨_, _, ⟨T21, L21, k21, n21⟩, -, X21, ⟨Lc21, hQ21, l21, y21, z21⟩, st21⟩ := X0.virtualBackUp hx (x := (⟨"com/example/tagwright/tagwright/typed/Form", "ordinal", "()I"⟩ : MethodName)) (y := (⟨"java/lang/Enum", "ordinal", "()I"⟩ : MethodName)) (owner := "java/lang/Enum") hown (mvT hZ (own_w hw 67)) (mvT hZ (own_w hw 68)) (mvT hZ (own_w hw 69)) (by decide) (mvT hZ (own_w hw 71)) (mvT hZ (own_w hw 70)) (backOf (W := 0) (rmO l Z a0 hw [] wELEMENTS (8 : Int32) h0 n0 Z0 (HW.2.2.2.2.2.2.2.2.2.2.2.2.2.2.2.2.2.2.2.2.2.2.2.2.2.2.1.ext O0.2)) hZ (own_w hw 73) (own_w hw 72) (by decide) (by decide)) q21a q21c (g := (mkF m 1 #[.val (.ref wELEMENTS), .val (.ref r1), .unset, .unset] [(.ref wELEMENTS)])) rfl (by rw [hml]; rfl) (Steps.refl _) (argsL := []) (rest := []) (lenOf pd_5 rfl) rfl (by show 2 * 0 + _ ≤ _; exact Nat.le_of_eq rfl) (hb hby dprog_31_7_1) (fun _ _ => ⟨rfl, e0, (by decide : 0 + 0 ≤ _), (by decide : 0 + 0 ≤ _)⟩)
  dsimp only [Pt.U, Pt.locs, Pt.cells, Pt.slots] at X21 l21 y21 z21 st21 hQ21
  subst l21 y21 z21
  obtain ⟨rfl, N21q, e21⟩ := hQ21
  have N21 := Fr.app N0 N21q
  obtain ⟨T22, X22, e22, st22⟩ := castY X21 hx hZ hown (own_w hw 76) e21 (Ins.of_exa E1 (own_w hw 77)) (g := (mkF m 90 #[.val (.ref wELEMENTS), .val (.ref r1), .unset, .unset] [(.ref r1)])) rfl rfl (hb hby dprog_31_7_90)
  obtain ⟨cq23, kq23, q23a, q23b, q23c⟩ := isOf hZ e22 E1
  obtain ⟨_, _, ⟨T23, L23, k23, n23⟩, -, X23, ⟨Lc23, hQ23, l23, y23, z23⟩, st23⟩ := X22.interfaceBack hx (xi := (⟨"java/util/List", "size", "()I"⟩ : MethodName)) (y := (⟨"java/util/ArrayList", "size", "()I"⟩ : MethodName)) hown (mvT hZ (own_w hw 78)) (mvT hZ (own_w hw 79)) (mvT hZ (own_w hw 80)) (mvT hZ (own_w hw 81)) (mvT hZ (own_w hw 82)) (mvT hZ (own_w hw 83)) (mvT hZ (own_w hw 84)) (mvT hZ (own_w hw 77)) (by decide) (backOf (W := 0) (rmAZ l Z a0 hw [] r1 zz h0 n0 Z0 Fz) hZ (own_w hw 85) (own_w hw 38) (by decide) (by decide)) q23a q23b q23c (g := (mkF m 93 #[.val (.ref wELEMENTS), .val (.ref r1), .unset, .unset] [(.ref r1)])) rfl (by rw [hml]; rfl) (Steps.refl _) (argsL := []) (rest := []) (lenOf pd_5 rfl) rfl (by show 2 * 0 + _ ≤ _; exact Nat.le_of_eq rfl) (hb hby dprog_31_7_93) (fun _ _ => ⟨rfl, e22, (by decide : 0 + 0 ≤ _), (by decide : 0 + 0 ≤ _)⟩)
  dsimp only [Pt.U, Pt.locs, Pt.cells, Pt.slots] at X23 l23 y23 z23 st23 hQ23
  subst l23 y23 z23
  obtain ⟨rfl, N23q, e23⟩ := hQ23
  have N23 := Fr.app N21 N23q
  refine own_by (W' := (T23.setTop (mkF m 98 #[.val (.ref wELEMENTS), .val (.ref r1), .unset, .unset] [(.int zz)]))) (fun t k => XS.aloadN X0.here hx rfl (hb hby dprog_31_7_0) rfl rfl (Steps.trans st21 (XS.tswIn X21.here hx rfl (pc0 := 4) (pc' := 89) (o := 85) rfl (hb hby dprog_31_7_4) rfl (by decide) rfl (by decide) (by decide) (XS.aloadN X21.here hx rfl (hb hby dprog_31_7_89) rfl rfl (st22 _ (Steps.trans st23 k)))))) ?_
  obtain ⟨fs, hr, hrun, hended, hW, hsame⟩ := X23.leave (v := some (.long (zz.toInt64))) (fun h => by rw [Bd.returns] at h; cases h)
  refine own_by (W' := (T23.setTop (mkF m 121 #[.val (.ref wELEMENTS), .val (.ref r1), .val (.long (zz.toInt64)), .second] [(.long (zz.toInt64))]))) (fun t k => XS.i2l X23.here hx rfl (hb hby dprog_31_7_98) rfl (XS.lstoreN X23.here hx rfl (hb hby dprog_31_7_99) rfl (l' := #[.val (.ref wELEMENTS), .val (.ref r1), .val (.long (zz.toInt64)), .second]) rfl (XS.goto X23.here hx rfl (pc0 := 100) (pc' := 120) rfl (hb hby dprog_31_7_100) (by decide) (by decide) (XS.lloadN X23.here hx rfl (hb hby dprog_31_7_120) rfl k)))) ?_
  refine ⟨_, _, retOut X23 hx Bd.returns rfl (Or.inr (Or.inl ⟨rfl, rfl, _, rfl⟩)) (hb hby dprog_31_7_121) hr, hrun, hended, _, _, rfl, ?_, ⟨_, rfl⟩, hW, hsame.mono (by decide) (by decide)⟩
  exact ⟨rfl, N23, e23⟩
theorem djdk_43_3_0 : decode jdk_43_method_3_code 0 = .ok (.iload_n 0, 1) := by decide +kernel
theorem djdk_43_3_1 : decode jdk_43_method_3_code 1 = .ok (.sipush 255, 3) := by decide +kernel
theorem djdk_43_3_4 : decode jdk_43_method_3_code 4 = .ok (.if_icmp .gt 7, 3) := by decide +kernel
theorem djdk_43_3_7 : decode jdk_43_method_3_code 7 = .ok (.iconst 1, 1) := by decide +kernel
theorem djdk_43_3_8 : decode jdk_43_method_3_code 8 = .ok (.goto 4, 3) := by decide +kernel
theorem djdk_43_3_12 : decode jdk_43_method_3_code 12 = .ok (.ireturn, 1) := by decide +kernel
theorem pn_java_lang_StringLatin1 : plainName "java/lang/StringLatin1" = true := by first | (simp [plainName, overriddenIn]; done) | decide +kernel
theorem efCE (m : MethodId) (p0 : Int32) : entryFrame m #[(.int p0)] 1 = mkF m 0 #[.val (.int p0)] [] := by first | (simp [entryFrame, mkF, argsToLocals, Value.category]; done) | rfl
def QCE (Z : State) (p0 : Int32) (h0 : Heap) (n0 : Nat) (v : Option Value) (h : Heap) (L : List Loc) : Prop := v = some (.int (1 : Int32)) ∧ Fr n0 L ∧ h = h0
abbrev own_KCE (Z : State) (p0 : Int32) (h0 : Heap) (n0 : Nat) (s : State) : Outcome → State → Prop := fun o U' => ∃ v L, o = .returned v ∧ QCE Z p0 h0 n0 v U'.heap L ∧ FrameEnd s o U' L ({ frames := 0, cells := 0, slots := 0, locals := 0 } : Room).cells ({ frames := 0, cells := 0, slots := 0, locals := 0 } : Room).slots
set_option maxRecDepth 65536 in
set_option maxHeartbeats 40000000 in
theorem rmCE (l : Launch) (Z : State) (a0 : Array Value) (hw : ∀ d ∈ tables_1, d.before a0 Z = true) (ws : List Jvm.Cond) (p0 : Int32) (h0 : Heap) (n0 : Nat) (Z0 : n0 ≤ h0.size) (hc : ¬ (255 : Int32) < p0) :
    MetFree l (⟨"java/lang/StringLatin1", "canEncode", "(C)Z"⟩ : MethodName) (head1 (Jvm.Cond.code (⟨"java/lang/StringLatin1", "canEncode", "(C)Z"⟩ : MethodName) jdk_43_method_3_code 1 (some .boolean) :: ws) ({ frames := 0, cells := 0, slots := 0, locals := 0 } : Room)) (fun a U => a = #[(.int p0)] ∧ Z.Warmed39 U.vm ∧ U.heap = h0) (fun _ _ _ _ _ => True) (fun _ U o U' => ∃ v L, o = .returned v ∧ QCE Z p0 h0 n0 v U'.heap L ∧ FrameEnd U o U' L ({ frames := 0, cells := 0, slots := 0, locals := 0 } : Room).cells ({ frames := 0, cells := 0, slots := 0, locals := 0 } : Room).slots) := by
  refine MetFree.of_bodySF (plainFor_of_name pn_java_lang_StringLatin1) hisR ?_
  intro p e s m args below meth c s₁ Bd hml0 hP hK
  obtain ⟨rfl, hZ, hh⟩ := hP
  have hx := Bd.exec
  have hby := Bd.bytes
  have hml : c.maxLocals = 1 := hml0
  have hown : s.vm.findClass "java/lang/StringLatin1" = some m.cls := findClass_of_methodNamed Bd.named
  have hnm := (name_of_methodNamed Bd.named Bd.method).1
  have X0 : Stand p l e ({ frames := 0, cells := 0, slots := 0, locals := 0 } : Room) s m #[(.int p0)] below meth c s₁ [] 0 0 := Stand.of_body Bd
  have e0 : s₁.heap = h0 := by rw [← hh, Bd.state]; rfl
  have N0 := Fr.nil n0
  refine own_by (p := p) (e := e) (below := below) (K := own_KCE Z p0 h0 n0 s) (W' := s₁.setTop (mkF m 0 #[.val (.int p0)] [])) (fun t k => castTop (efCE m p0) k) ?_
  obtain ⟨fs, hr, hrun, hended, hW, hsame⟩ := X0.leave (v := some (.int (1 : Int32))) (fun h => by rw [Bd.returns] at h; cases h)
  refine own_by (W' := (s₁.setTop (mkF m 12 #[.val (.int p0)] [(.int (1 : Int32))]))) (fun t k => XS.iloadN X0.here hx rfl (hb hby djdk_43_3_0) rfl (XS.sipush X0.here hx rfl (hb hby djdk_43_3_1) (XS.icmpNo X0.here hx rfl (hb hby djdk_43_3_4) rfl (flt hc).2.2.1 (XS.iconst X0.here hx rfl (hb hby djdk_43_3_7) (XS.goto X0.here hx rfl (pc0 := 8) (pc' := 12) rfl (hb hby djdk_43_3_8) (by decide) (by decide) k))))) ?_
  refine ⟨_, _, retOut X0 hx Bd.returns rfl (Or.inl ⟨rfl, Or.inr (Or.inl rfl), _, rfl⟩) (hb hby djdk_43_3_12) hr, hrun, hended, _, _, rfl, ?_, ⟨_, rfl⟩, hW, hsame.mono (by decide) (by decide)⟩
  exact ⟨rfl, N0, e0⟩
theorem djdk_43_46_0 : decode jdk_43_method_46_code 0 = .ok (.iconst 1, 1) := by decide +kernel
theorem djdk_43_46_1 : decode jdk_43_method_46_code 1 = .ok (.newarray .byte, 2) := by decide +kernel
theorem djdk_43_46_3 : decode jdk_43_method_46_code 3 = .ok (.dup, 1) := by decide +kernel
theorem djdk_43_46_4 : decode jdk_43_method_46_code 4 = .ok (.iconst 0, 1) := by decide +kernel
theorem djdk_43_46_5 : decode jdk_43_method_46_code 5 = .ok (.iload_n 0, 1) := by decide +kernel
theorem djdk_43_46_6 : decode jdk_43_method_46_code 6 = .ok (.i2b, 1) := by decide +kernel
theorem djdk_43_46_7 : decode jdk_43_method_46_code 7 = .ok (.bastore, 1) := by decide +kernel
theorem djdk_43_46_8 : decode jdk_43_method_46_code 8 = .ok (.areturn, 1) := by decide +kernel
theorem efTB (m : MethodId) (p0 : Int32) : entryFrame m #[(.int p0)] 1 = mkF m 0 #[.val (.int p0)] [] := by first | (simp [entryFrame, mkF, argsToLocals, Value.category]; done) | rfl
def QTB (Z : State) (p0 : Int32) (h0 : Heap) (n0 : Nat) (v : Option Value) (h : Heap) (L : List Loc) : Prop := ∃ (q : Addr) (kq : ClassId), v = some (.ref q) ∧ Fr n0 L ∧ Keep h0 h [] ∧ h0.size ≤ q ∧ Arv Z h q kq .byte (1 : Int32) [(.int (nar .byte (p0.toInt8.toInt32)))] (.int (0 : Int32))
abbrev own_KTB (Z : State) (p0 : Int32) (h0 : Heap) (n0 : Nat) (s : State) : Outcome → State → Prop := fun o U' => ∃ v L, o = .returned v ∧ QTB Z p0 h0 n0 v U'.heap L ∧ FrameEnd s o U' L ({ frames := 0, cells := 1, slots := 1, locals := 0 } : Room).cells ({ frames := 0, cells := 1, slots := 1, locals := 0 } : Room).slots
set_option maxRecDepth 65536 in
set_option maxHeartbeats 40000000 in
theorem rmTB (l : Launch) (Z : State) (a0 : Array Value) (hw : ∀ d ∈ tables_1, d.before a0 Z = true) (ws : List Jvm.Cond) (p0 : Int32) (h0 : Heap) (n0 : Nat) (Z0 : n0 ≤ h0.size) (O0 : Old Z n0 h0) :
    MetFree l (⟨"java/lang/StringLatin1", "toBytes", "(C)[B"⟩ : MethodName) (head1 (Jvm.Cond.code (⟨"java/lang/StringLatin1", "toBytes", "(C)[B"⟩ : MethodName) jdk_43_method_46_code 1 (some (.array .byte)) :: ws) ({ frames := 0, cells := 1, slots := 1, locals := 0 } : Room)) (fun a U => a = #[(.int p0)] ∧ Z.Warmed39 U.vm ∧ U.heap = h0) (fun _ _ _ _ _ => True) (fun _ U o U' => ∃ v L, o = .returned v ∧ QTB Z p0 h0 n0 v U'.heap L ∧ FrameEnd U o U' L ({ frames := 0, cells := 1, slots := 1, locals := 0 } : Room).cells ({ frames := 0, cells := 1, slots := 1, locals := 0 } : Room).slots) := by
  refine MetFree.of_bodySF (plainFor_of_name pn_java_lang_StringLatin1) hisR ?_
  intro p e s m args below meth c s₁ Bd hml0 hP hK
  obtain ⟨rfl, hZ, hh⟩ := hP
  have hx := Bd.exec
  have hby := Bd.bytes
  have hml : c.maxLocals = 1 := hml0
  have hown : s.vm.findClass "java/lang/StringLatin1" = some m.cls := findClass_of_methodNamed Bd.named
  have hnm := (name_of_methodNamed Bd.named Bd.method).1
  have X0 : Stand p l e ({ frames := 0, cells := 1, slots := 1, locals := 0 } : Room) s m #[(.int p0)] below meth c s₁ [] 0 0 := Stand.of_body Bd
  have e0 : s₁.heap = h0 := by rw [← hh, Bd.state]; rfl
  have N0 := Fr.nil n0
  refine own_by (p := p) (e := e) (below := below) (K := own_KTB Z p0 h0 n0 s) (W' := s₁.setTop (mkF m 0 #[.val (.int p0)] [])) (fun t k => castTop (efTB m p0) k) ?_
  obtain ⟨T21, h21, k21, X21, e21, E21, A21, st21⟩ := newP X0 hx hZ (own_w hw 139) e0 (g := (mkF m 1 #[.val (.int p0)] [(.int (1 : Int32))])) rfl (hb hby djdk_43_46_1) rfl (by decide) (cap := 1) (by decide) (by decide) (by decide) (by decide)
  obtain ⟨b21, g21⟩ : ∃ z, z = h0.size := ⟨_, rfl⟩
  rw [← g21] at A21 st21
  have g_b21 : n0 ≤ b21 := Nat.le_trans (own_le O0) (Nat.le_of_eq g21.symm)
  have sz_b21 : h0.size ≤ b21 := Nat.le_trans (Keep.refl h0 []).1 (Nat.le_of_eq g21.symm)
  have O21 := O0.ext E21
  have K21 := Keep.ext (Keep.refl h0 []) E21
  have V_b21 : Arv Z h21 b21 k21 .byte (1 : Int32) [(.int (0 : Int32))] (.int (0 : Int32)) := (Arv.new A21 (by decide)).pad (pad_rep [] (.int (0 : Int32)) 1)
  refine own_by (W' := (T21.setTop (mkF m 7 #[.val (.int p0)] [(.int (p0.toInt8.toInt32)), (.int (0 : Int32)), (.ref b21), (.ref b21)]))) (fun t k => XS.iconst X0.here hx rfl (hb hby djdk_43_46_0) (st21 _ (XS.dup X21.here hx rfl (hb hby djdk_43_46_3) rfl rfl (XS.iconst X21.here hx rfl (hb hby djdk_43_46_4) (XS.iloadN X21.here hx rfl (hb hby djdk_43_46_5) rfl (XS.i2b X21.here hx rfl (hb hby djdk_43_46_6) rfl k)))))) ?_
  obtain ⟨clu22, Aru22, qu22, Su22, Ngu22, Hau22, Gau22⟩ := id V_b21
  have hinu22 : ¬ ((0 : Int32) < 0 ∨ clu22.slots.size ≤ ((0 : Int32)).toNatClampNeg) := inb_of Su22 ⟨by decide, by decide⟩
  obtain ⟨T23, h23, X23, e23, W23, st23⟩ := stB X21 hx hZ e21 Aru22 (j := (0 : Int32)) hinu22 (g := (mkF m 7 #[.val (.int p0)] [(.int (p0.toInt8.toInt32)), (.int (0 : Int32)), (.ref b21), (.ref b21)])) rfl rfl (hb hby djdk_43_46_7)
  have Vu22 : Arv Z h23 b21 k21 .byte (1 : Int32) [(.int (nar .byte (p0.toInt8.toInt32)))] (.int (0 : Int32)) := Arv.set Aru22 qu22 Su22 Ngu22 Hau22 Gau22 (fits_nar_byte _) W23 0 rfl (Nat.le_of_ble_eq_true rfl)
  have O23 := Old.wr O21 W23 g_b21
  have N23 := Fr.snoc X23 N0 g_b21
  have K23 := Keep.wr K21 W23 (Or.inr sz_b21)
  obtain ⟨fs, hr, hrun, hended, hW, hsame⟩ := X23.leave (v := some (.ref b21)) (fun h => by rw [Bd.returns] at h; cases h)
  refine own_by (W' := (T23.setTop (mkF m 8 #[.val (.int p0)] [(.ref b21)]))) (fun t k => st23 _ k) ?_
  refine ⟨_, _, retOut X23 hx Bd.returns rfl (Or.inr (Or.inr (Or.inr (Or.inr ⟨rfl, rfl, rfl⟩)))) (hb hby djdk_43_46_8) hr, hrun, hended, _, _, rfl, ?_, ⟨_, rfl⟩, hW, hsame.mono (by decide) (by decide)⟩
  show QTB Z p0 h0 n0 _ T23.heap _
  rw [e23]
  exact ⟨_, _, rfl, N23, K23, sz_b21, Vu22⟩
theorem djdk_42_151_0 : decode jdk_42_method_151_code 0 = .ok (.aload_n 0, 1) := by decide +kernel
theorem djdk_42_151_1 : decode jdk_42_method_151_code 1 = .ok (.invokespecial 1, 3) := by decide +kernel
theorem djdk_42_151_4 : decode jdk_42_method_151_code 4 = .ok (.aload_n 0, 1) := by decide +kernel
theorem djdk_42_151_5 : decode jdk_42_method_151_code 5 = .ok (.aload_n 1, 1) := by decide +kernel
theorem djdk_42_151_6 : decode jdk_42_method_151_code 6 = .ok (.putfield 9, 3) := by decide +kernel
theorem djdk_42_151_9 : decode jdk_42_method_151_code 9 = .ok (.aload_n 0, 1) := by decide +kernel
theorem djdk_42_151_10 : decode jdk_42_method_151_code 10 = .ok (.iload_n 2, 1) := by decide +kernel
theorem djdk_42_151_11 : decode jdk_42_method_151_code 11 = .ok (.putfield 15, 3) := by decide +kernel
theorem djdk_42_151_14 : decode jdk_42_method_151_code 14 = .ok (.return_, 1) := by decide +kernel
theorem efSI (m : MethodId) (r0 : Addr) (r1 : Addr) : entryFrame m #[(.ref r0), (.ref r1), (.int (0 : Int32))] 3 = mkF m 0 #[.val (.ref r0), .val (.ref r1), .val (.int (0 : Int32))] [] := by first | (simp [entryFrame, mkF, argsToLocals, Value.category]; done) | rfl
def QSI (Z : State) (r0 : Addr) (r1 : Addr) (kb : ClassId) (zz : Int32) (vl : List Value) (h0 : Heap) (n0 : Nat) (v : Option Value) (h : Heap) (L : List Loc) : Prop := v = none ∧ Fr n0 L ∧ Keep h0 h [r0] ∧ own_St Z h r0 zz vl
abbrev own_KSI (Z : State) (r0 : Addr) (r1 : Addr) (kb : ClassId) (zz : Int32) (vl : List Value) (h0 : Heap) (n0 : Nat) (s : State) : Outcome → State → Prop := fun o U' => ∃ v L, o = .returned v ∧ QSI Z r0 r1 kb zz vl h0 n0 v U'.heap L ∧ FrameEnd s o U' L ({ frames := 1, cells := 0, slots := 0, locals := 12 } : Room).cells ({ frames := 1, cells := 0, slots := 0, locals := 12 } : Room).slots
set_option maxRecDepth 65536 in
set_option maxHeartbeats 40000000 in
theorem rmSI (l : Launch) (Z : State) (a0 : Array Value) (hw : ∀ d ∈ tables_1, d.before a0 Z = true) (ws : List Jvm.Cond) (r0 : Addr) (r1 : Addr) (kb : ClassId) (zz : Int32) (vl : List Value) (h0 : Heap) (n0 : Nat) (Z0 : n0 ≤ h0.size) (O0 : Old Z n0 h0) (E0 : Exa Z h0 r0 "java/lang/String") (g_r0 : n0 ≤ r0) (F_value : Fld Z h0 r0 "java/lang/String" "value" "[B" .null) (F_coder : Fld Z h0 r0 "java/lang/String" "coder" "B" (.int (0 : Int32))) (V1 : Arv Z h0 r1 kb .byte zz vl (.int (0 : Int32))) (hne : r1 ≠ r0) :
    MetFree l (⟨"java/lang/String", "<init>", "([BB)V"⟩ : MethodName) (head1 (Jvm.Cond.code (⟨"java/lang/String", "<init>", "([BB)V"⟩ : MethodName) jdk_42_method_151_code 3 none :: ws) ({ frames := 1, cells := 0, slots := 0, locals := 12 } : Room)) (fun a U => a = #[(.ref r0), (.ref r1), (.int (0 : Int32))] ∧ Z.Warmed39 U.vm ∧ U.heap = h0) (fun _ _ _ _ _ => True) (fun _ U o U' => ∃ v L, o = .returned v ∧ QSI Z r0 r1 kb zz vl h0 n0 v U'.heap L ∧ FrameEnd U o U' L ({ frames := 1, cells := 0, slots := 0, locals := 12 } : Room).cells ({ frames := 1, cells := 0, slots := 0, locals := 12 } : Room).slots) := by
  refine MetFree.of_bodySF (plainFor_of_name pn_java_lang_String) hisR ?_
  intro p e s m args below meth c s₁ Bd hml0 hP hK
  obtain ⟨rfl, hZ, hh⟩ := hP
  have hx := Bd.exec
  have hby := Bd.bytes
  have hml : c.maxLocals = 3 := hml0
  have hown : s.vm.findClass "java/lang/String" = some m.cls := findClass_of_methodNamed Bd.named
  have hnm := (name_of_methodNamed Bd.named Bd.method).1
  have X0 : Stand p l e ({ frames := 1, cells := 0, slots := 0, locals := 12 } : Room) s m #[(.ref r0), (.ref r1), (.int (0 : Int32))] below meth c s₁ [] 0 0 := Stand.of_body Bd
  have e0 : s₁.heap = h0 := by rw [← hh, Bd.state]; rfl
  have N0 := Fr.nil n0
  refine own_by (p := p) (e := e) (below := below) (K := own_KSI Z r0 r1 kb zz vl h0 n0 s) (W' := s₁.setTop (mkF m 0 #[.val (.ref r0), .val (.ref r1), .val (.int (0 : Int32))] [])) (fun t k => castTop (efSI m r0 r1) k) ?_
  obtain ⟨T21, X21, e21, st21⟩ := initO X0 hx hZ hown (own_w hw 187) (own_w hw 55) (own_w hw 56) e0 (g := (mkF m 1 #[.val (.ref r0), .val (.ref r1), .val (.int (0 : Int32))] [(.ref r0)])) rfl (by rw [hml]; rfl) rfl (hb hby djdk_42_151_1) (by decide) (W := 0) (by show 2 * 0 + _ ≤ _; exact Nat.le_of_eq rfl) (by decide)
  obtain ⟨T22, h22, X22, e22, W22, st22⟩ := putF X21 hx hZ hown (host := "") (Or.inl (own_w hw 201)) Via.refl e21 F_value E0 (Or.inr ⟨(own_w hw 202), rfl, hnm⟩) (own_w hw 177) (ty := (.array .byte)) (by decide) rfl rfl (g := (mkF m 6 #[.val (.ref r0), .val (.ref r1), .val (.int (0 : Int32))] [(.ref r1), (.ref r0)])) rfl rfl (hb hby djdk_42_151_6)
  have Fw22 := F_value.same W22
  have O22 := Old.wr O0 W22 g_r0
  have N22 := Fr.snoc X22 N0 g_r0
  have K22 := Keep.wr (Keep.refl h0 [r0]) W22 (Or.inl (List.mem_of_getElem? (i := 0) rfl))
  refine own_by (W' := (T22.setTop (mkF m 10 #[.val (.ref r0), .val (.ref r1), .val (.int (0 : Int32))] [(.ref r0)]))) (fun t k => XS.aloadN X0.here hx rfl (hb hby djdk_42_151_0) rfl rfl (st21 _ (XS.aloadN X21.here hx rfl (hb hby djdk_42_151_4) rfl rfl (XS.aloadN X21.here hx rfl (hb hby djdk_42_151_5) rfl rfl (st22 _ (XS.aloadN X22.here hx rfl (hb hby djdk_42_151_9) rfl rfl k)))))) ?_
  obtain ⟨T23, h23, X23, e23, W23, st23⟩ := putFN X22 hx hZ hown (own_w hw 199) Via.refl e22 (F_coder.other W22 (Or.inr (slot_ne (Or.inr (own_w hw 200)) (Or.inr (own_w hw 202)) (by decide) (t := .byte) (t' := (.array .byte)) (by decide) (by decide)))) (E0.wr W22) (Or.inr ⟨(own_w hw 200), rfl, hnm⟩) (own_w hw 177) (ty := .byte) (v' := .int (0 : Int32)) (by decide) rfl (by decide) (g := (mkF m 11 #[.val (.ref r0), .val (.ref r1), .val (.int (0 : Int32))] [(.int (0 : Int32)), (.ref r0)])) rfl rfl (hb hby djdk_42_151_11)
  have Fw23 := (F_coder.other W22 (Or.inr (slot_ne (Or.inr (own_w hw 200)) (Or.inr (own_w hw 202)) (by decide) (t := .byte) (t' := (.array .byte)) (by decide) (by decide)))).same W23
  have O23 := Old.wr O22 W23 g_r0
  have N23 := Fr.snoc X23 N22 g_r0
  have K23 := Keep.wr K22 W23 (Or.inl (List.mem_of_getElem? (i := 0) rfl))
  obtain ⟨fs, hr, hrun, hended, hW, hsame⟩ := X23.leave (v := none) (fun _ => rfl)
  refine own_by (W' := (T23.setTop (mkF m 14 #[.val (.ref r0), .val (.ref r1), .val (.int (0 : Int32))] []))) (fun t k => XS.iloadN X22.here hx rfl (hb hby djdk_42_151_10) rfl (st23 _ k)) ?_
  refine ⟨_, _, X23.returnOut hx Bd.returns (hb hby djdk_42_151_14) hr, hrun, hended, _, _, rfl, ?_, ⟨_, rfl⟩, hW, hsame.mono (by decide) (by decide)⟩
  show QSI Z r0 r1 kb zz vl h0 n0 _ T23.heap _
  rw [e23]
  exact ⟨rfl, N23, K23, ((E0.wr W22).wr W23), Fw23, _, _, (Fw22.other W23 (Or.inr (slot_ne (Or.inr (own_w hw 202)) (Or.inr (own_w hw 200)) (by decide) (t := (.array .byte)) (t' := .byte) (by decide) (by decide)))), ((V1.other W22 hne).other W23 hne)⟩
theorem pd_10 : parseMethodDescriptor "(C)Z" = some ⟨[.char], some .boolean⟩ := by decide +kernel
theorem pd_11 : parseMethodDescriptor "(C)[B" = some ⟨[.char], some (.array .byte)⟩ := by decide +kernel
theorem pd_12 : parseMethodDescriptor "([BB)V" = some ⟨[(.array .byte), .byte], none⟩ := by decide +kernel
theorem djdk_42_139_0 : decode jdk_42_method_139_code 0 = .ok (.getstatic 38, 3) := by decide +kernel
theorem djdk_42_139_3 : decode jdk_42_method_139_code 3 = .ok (.ifCond .eq 23, 3) := by decide +kernel
theorem djdk_42_139_6 : decode jdk_42_method_139_code 6 = .ok (.iload_n 0, 1) := by decide +kernel
theorem djdk_42_139_7 : decode jdk_42_method_139_code 7 = .ok (.invokestatic 1015, 3) := by decide +kernel
theorem djdk_42_139_10 : decode jdk_42_method_139_code 10 = .ok (.ifCond .eq 16, 3) := by decide +kernel
theorem djdk_42_139_13 : decode jdk_42_method_139_code 13 = .ok (.new 10, 3) := by decide +kernel
theorem djdk_42_139_16 : decode jdk_42_method_139_code 16 = .ok (.dup, 1) := by decide +kernel
theorem djdk_42_139_17 : decode jdk_42_method_139_code 17 = .ok (.iload_n 0, 1) := by decide +kernel
theorem djdk_42_139_18 : decode jdk_42_method_139_code 18 = .ok (.invokestatic 1018, 3) := by decide +kernel
theorem djdk_42_139_21 : decode jdk_42_method_139_code 21 = .ok (.iconst 0, 1) := by decide +kernel
theorem djdk_42_139_22 : decode jdk_42_method_139_code 22 = .ok (.invokespecial 209, 3) := by decide +kernel
theorem djdk_42_139_25 : decode jdk_42_method_139_code 25 = .ok (.areturn, 1) := by decide +kernel
theorem efVC (m : MethodId) (p0 : Int32) : entryFrame m #[(.int p0)] 1 = mkF m 0 #[.val (.int p0)] [] := by first | (simp [entryFrame, mkF, argsToLocals, Value.category]; done) | rfl
def QVC (Z : State) (p0 : Int32) (wBOOLEAN : Addr) (wINTEGER : Addr) (wBITS : Addr) (wOCTETS : Addr) (wNULL : Addr) (wOBJECT_IDENTIFIER : Addr) (wTEXT : Addr) (wCOMPONENTS : Addr) (wELEMENTS : Addr) (wCHOICE : Addr) (wELEMENT : Addr) (cs : Int32) (wD : Addr) (kD : ClassId) (wC : Addr) (clC : Cell) (h0 : Heap) (n0 : Nat) (v : Option Value) (h : Heap) (L : List Loc) : Prop := ∃ q : Addr, v = some (.ref q) ∧ Fr n0 L ∧ Keep h0 h [] ∧ own_St Z h q (1 : Int32) [(.int (nar .byte (p0.toInt8.toInt32)))]
abbrev own_KVC (Z : State) (p0 : Int32) (wBOOLEAN : Addr) (wINTEGER : Addr) (wBITS : Addr) (wOCTETS : Addr) (wNULL : Addr) (wOBJECT_IDENTIFIER : Addr) (wTEXT : Addr) (wCOMPONENTS : Addr) (wELEMENTS : Addr) (wCHOICE : Addr) (wELEMENT : Addr) (cs : Int32) (wD : Addr) (kD : ClassId) (wC : Addr) (clC : Cell) (h0 : Heap) (n0 : Nat) (s : State) : Outcome → State → Prop := fun o U' => ∃ v L, o = .returned v ∧ QVC Z p0 wBOOLEAN wINTEGER wBITS wOCTETS wNULL wOBJECT_IDENTIFIER wTEXT wCOMPONENTS wELEMENTS wCHOICE wELEMENT cs wD kD wC clC h0 n0 v U'.heap L ∧ FrameEnd s o U' L ({ frames := 2, cells := 2, slots := 5, locals := 27 } : Room).cells ({ frames := 2, cells := 2, slots := 5, locals := 27 } : Room).slots
set_option maxRecDepth 65536 in
set_option maxHeartbeats 40000000 in
theorem rmVC (l : Launch) (Z : State) (a0 : Array Value) (hw : ∀ d ∈ tables_1, d.before a0 Z = true) (ws : List Jvm.Cond) (p0 : Int32) (wBOOLEAN : Addr) (wINTEGER : Addr) (wBITS : Addr) (wOCTETS : Addr) (wNULL : Addr) (wOBJECT_IDENTIFIER : Addr) (wTEXT : Addr) (wCOMPONENTS : Addr) (wELEMENTS : Addr) (wCHOICE : Addr) (wELEMENT : Addr) (cs : Int32) (wD : Addr) (kD : ClassId) (wC : Addr) (clC : Cell) (h0 : Heap) (n0 : Nat) (Z0 : n0 ≤ h0.size) (O0 : Old Z n0 h0) (HW : own_Wd Z wBOOLEAN wINTEGER wBITS wOCTETS wNULL wOBJECT_IDENTIFIER wTEXT wCOMPONENTS wELEMENTS wCHOICE wELEMENT cs wD kD wC clC) (hc : ¬ (255 : Int32) < p0) :
    MetFree l (⟨"java/lang/String", "valueOf", "(C)Ljava/lang/String;"⟩ : MethodName) (head1 (Jvm.Cond.code (⟨"java/lang/String", "valueOf", "(C)Ljava/lang/String;"⟩ : MethodName) jdk_42_method_139_code 1 (some (.object "java/lang/String")) :: ws) ({ frames := 2, cells := 2, slots := 5, locals := 27 } : Room)) (fun a U => a = #[(.int p0)] ∧ Z.Warmed39 U.vm ∧ U.heap = h0) (fun _ _ _ _ _ => True) (fun _ U o U' => ∃ v L, o = .returned v ∧ QVC Z p0 wBOOLEAN wINTEGER wBITS wOCTETS wNULL wOBJECT_IDENTIFIER wTEXT wCOMPONENTS wELEMENTS wCHOICE wELEMENT cs wD kD wC clC h0 n0 v U'.heap L ∧ FrameEnd U o U' L ({ frames := 2, cells := 2, slots := 5, locals := 27 } : Room).cells ({ frames := 2, cells := 2, slots := 5, locals := 27 } : Room).slots) := by
  refine MetFree.of_bodySF (plainFor_of_name pn_java_lang_String) hisR ?_
  intro p e s m args below meth c s₁ Bd hml0 hP hK
  obtain ⟨rfl, hZ, hh⟩ := hP
  have hx := Bd.exec
  have hby := Bd.bytes
  have hml : c.maxLocals = 1 := hml0
  have hown : s.vm.findClass "java/lang/String" = some m.cls := findClass_of_methodNamed Bd.named
  have hnm := (name_of_methodNamed Bd.named Bd.method).1
  have X0 : Stand p l e ({ frames := 2, cells := 2, slots := 5, locals := 27 } : Room) s m #[(.int p0)] below meth c s₁ [] 0 0 := Stand.of_body Bd
  have e0 : s₁.heap = h0 := by rw [← hh, Bd.state]; rfl
  have N0 := Fr.nil n0
  refine own_by (p := p) (e := e) (below := below) (K := own_KVC Z p0 wBOOLEAN wINTEGER wBITS wOCTETS wNULL wOBJECT_IDENTIFIER wTEXT wCOMPONENTS wELEMENTS wCHOICE wELEMENT cs wD kD wC clC h0 n0 s) (W' := s₁.setTop (mkF m 0 #[.val (.int p0)] [])) (fun t k => castTop (efVC m p0) k) ?_
  obtain ⟨T21, X21, e21, st21⟩ := getS (host := "") X0 hx hZ hown (own_w hw 188) Via.refl e0 (HW.2.2.2.2.2.2.2.2.2.2.2.2.2.2.2.2.2.2.2.2.2.2.2.2.2.2.2.2.2.2.2.2.2.1.ext O0.2) (g := (mkF m 0 #[.val (.int p0)] [])) rfl (hb hby djdk_42_139_0)
  obtain ⟨_, _, ⟨T22, L22, k22, n22⟩, -, X22, ⟨Lc22, hQ22, l22, y22, z22⟩, st22⟩ := Jvm.LawKit.callS X21 hx (y := (⟨"java/lang/StringLatin1", "canEncode", "(C)Z"⟩ : MethodName)) hown (mvT hZ (own_w hw 239)) (mvT hZ (own_w hw 240)) (mvT hZ (own_w hw 241)) (mvT hZ (own_w hw 242)) (by decide) (backOf (W := 0) (rmCE l Z a0 hw [] p0 h0 n0 Z0 hc) hZ (own_w hw 242) (own_w hw 241) (by decide) (by decide)) (g := (mkF m 7 #[.val (.int p0)] [(.int p0)])) rfl (by rw [hml]; rfl) (argsL := [(.int p0)]) (rest := []) (lenOf pd_10 rfl) rfl (by show 2 * 0 + _ ≤ _; exact Nat.le_of_eq rfl) (hb hby djdk_42_139_7) (fun _ _ => ⟨rfl, e21, (by decide : 0 + 0 ≤ _), (by decide : 0 + 0 ≤ _)⟩)
  dsimp only [Pt.U, Pt.locs, Pt.cells, Pt.slots] at X22 l22 y22 z22 st22 hQ22
  subst l22 y22 z22
  obtain ⟨rfl, N22q, e22⟩ := hQ22
  have N22 := Fr.app N0 N22q
  obtain ⟨T23, h23, X23, e23, E23, A23, D23, -, st23⟩ := newO X22 hx hZ hown (own_w hw 243) (own_w hw 177) (own_w hw 178) e22 (g := (mkF m 13 #[.val (.int p0)] [])) rfl (hb hby djdk_42_139_13) (by decide) (by decide)
  obtain ⟨b23, g23⟩ : ∃ z, z = h0.size := ⟨_, rfl⟩
  rw [← g23] at A23 D23 st23
  have g_b23 : n0 ≤ b23 := Nat.le_trans (own_le O0) (Nat.le_of_eq g23.symm)
  have sz_b23 : h0.size ≤ b23 := Nat.le_trans (Keep.refl h0 []).1 (Nat.le_of_eq g23.symm)
  have O23 := O0.ext E23
  have K23 := Keep.ext (Keep.refl h0 []) E23
  have F_coder_b23 : Fld Z h23 b23 "java/lang/String" "coder" "B" (.int (0 : Int32)) := D23 (Or.inr (own_w hw 200)) (ty := .byte) (by decide)
  have F_value_b23 : Fld Z h23 b23 "java/lang/String" "value" "[B" .null := D23 (Or.inr (own_w hw 202)) (ty := (.array .byte)) (by decide)
  refine own_by (W' := (T23.setTop (mkF m 16 #[.val (.int p0)] [(.ref b23)]))) (fun t k => st21 _ (XS.ifNo X21.here hx rfl (hb hby djdk_42_139_3) rfl ((if0 _ _).trans (feq HW.2.2.2.2.2.2.2.2.2.2.2.2.2.2.2.2.2.2.2.2.2.2.2.2.2.2.2.2.2.2.2.2.2.2.1).1) (XS.iloadN X21.here hx rfl (hb hby djdk_42_139_6) rfl (st22 _ (XS.ifNo X22.here hx rfl (hb hby djdk_42_139_10) rfl ((if0 _ _).trans (feq (by decide : ¬ ((1 : Int32) = (0 : Int32)))).1) (st23 _ k)))))) ?_
  obtain ⟨_, _, ⟨T24, L24, k24, n24⟩, -, X24, ⟨Lc24, hQ24, l24, y24, z24⟩, st24⟩ := Jvm.LawKit.callS X23 hx (y := (⟨"java/lang/StringLatin1", "toBytes", "(C)[B"⟩ : MethodName)) hown (mvT hZ (own_w hw 244)) (mvT hZ (own_w hw 245)) (mvT hZ (own_w hw 241)) (mvT hZ (own_w hw 246)) (by decide) (backOf (W := 2) (rmTB l Z a0 hw [] p0 h23 n0 (own_le O23) O23) hZ (own_w hw 246) (own_w hw 241) (by decide) (by decide)) (g := (mkF m 18 #[.val (.int p0)] [(.int p0), (.ref b23), (.ref b23)])) rfl (by rw [hml]; rfl) (argsL := [(.int p0)]) (rest := [(.ref b23), (.ref b23)]) (lenOf pd_11 rfl) rfl (by show 2 * 0 + _ ≤ _; exact Nat.le_of_eq rfl) (hb hby djdk_42_139_18) (fun _ _ => ⟨rfl, e23, (by decide : 1 + 1 ≤ _), (by decide : 4 + 1 ≤ _)⟩)
  dsimp only [Pt.U, Pt.locs, Pt.cells, Pt.slots] at X24 l24 y24 z24 st24 hQ24
  subst l24 y24 z24
  obtain ⟨fb24, kb24, rfl, N24q, Kq24, hsz24, Vq24⟩ := hQ24
  have ne_b23_fb24 : b23 ≠ fb24 := Nat.ne_of_lt (Nat.lt_of_lt_of_le A23.lt hsz24)
  have O24 := Old.keep O23 Kq24 all0
  have K24 := Keep.trans K23 Kq24 all0
  have N24 := Fr.app N22 N24q
  obtain ⟨_, _, ⟨T25, L25, k25, n25⟩, -, X25, ⟨Lc25, hQ25, l25, y25, z25⟩, st25⟩ := X24.specialBack hx (y := (⟨"java/lang/String", "<init>", "([BB)V"⟩ : MethodName)) rfl hown (mvT hZ (own_w hw 247)) (mvT hZ (own_w hw 248)) (mvT hZ (own_w hw 249)) (by decide) (backOf (W := 1) (rmSI l Z a0 hw [] b23 fb24 kb24 (1 : Int32) [(.int (nar .byte (p0.toInt8.toInt32)))] T24.heap n0 (own_le O24) O24 (A23.keep Kq24) g_b23 (F_value_b23.keep Kq24 nin0) (F_coder_b23.keep Kq24 nin0) Vq24 ne_b23_fb24.symm) hZ (own_w hw 249) (own_w hw 178) (by decide) (by decide)) (g := (mkF m 22 #[.val (.int p0)] [(.int (0 : Int32)), (.ref fb24), (.ref b23), (.ref b23)])) rfl (by rw [hml]; rfl) (Steps.refl _) (a := b23) (argsL := [(.ref fb24), (.int (0 : Int32))]) (rest := [(.ref b23)]) (lenOf pd_12 rfl) rfl (by show 2 * 0 + _ ≤ _; exact Nat.le_of_eq rfl) (hb hby djdk_42_139_22) (fun _ _ => ⟨rfl, rfl, (by decide : 2 + 0 ≤ _), (by decide : 5 + 0 ≤ _)⟩)
  dsimp only [Pt.U, Pt.locs, Pt.cells, Pt.slots] at X25 l25 y25 z25 st25 hQ25
  subst l25 y25 z25
  obtain ⟨rfl, N25q, Kq25, Tq25⟩ := hQ25
  have O25 := Old.keep O24 Kq25 (allS g_b23 all0)
  have K25 := Keep.trans K24 Kq25 (allS (Or.inr sz_b23) all0)
  have N25 := Fr.app N24 N25q
  obtain ⟨fs, hr, hrun, hended, hW, hsame⟩ := X25.leave (v := some (.ref b23)) (fun h => by rw [Bd.returns] at h; cases h)
  refine own_by (W' := (T25.setTop (mkF m 25 #[.val (.int p0)] [(.ref b23)]))) (fun t k => XS.dup X23.here hx rfl (hb hby djdk_42_139_16) rfl rfl (XS.iloadN X23.here hx rfl (hb hby djdk_42_139_17) rfl (st24 _ (XS.iconst X24.here hx rfl (hb hby djdk_42_139_21) (Steps.trans st25 k))))) ?_
  refine ⟨_, _, retOut X25 hx Bd.returns rfl (Or.inr (Or.inr (Or.inr (Or.inr ⟨rfl, rfl, rfl⟩)))) (hb hby djdk_42_139_25) hr, hrun, hended, _, _, rfl, ?_, ⟨_, rfl⟩, hW, hsame.mono (by decide) (by decide)⟩
  show QVC Z p0 wBOOLEAN wINTEGER wBITS wOCTETS wNULL wOBJECT_IDENTIFIER wTEXT wCOMPONENTS wELEMENTS wCHOICE wELEMENT cs wD kD wC clC h0 n0 _ T25.heap _
  exact ⟨_, rfl, N25, K25, Tq25⟩
theorem djdk_18_1_0 : decode jdk_18_method_1_code 0 = .ok (.aload_n 0, 1) := by decide +kernel
theorem djdk_18_1_1 : decode jdk_18_method_1_code 1 = .ok (.invokespecial 1, 3) := by decide +kernel
theorem djdk_18_1_4 : decode jdk_18_method_1_code 4 = .ok (.return_, 1) := by decide +kernel
theorem pn_java_lang_Number : plainName "java/lang/Number" = true := by first | (simp [plainName, overriddenIn]; done) | decide +kernel
theorem efM (m : MethodId) (r0 : Addr) : entryFrame m #[(.ref r0)] 1 = mkF m 0 #[.val (.ref r0)] [] := by first | (simp [entryFrame, mkF, argsToLocals, Value.category]; done) | rfl
def QM (Z : State) (r0 : Addr) (h0 : Heap) (n0 : Nat) (v : Option Value) (h : Heap) (L : List Loc) : Prop := v = none ∧ Fr n0 L ∧ h = h0
abbrev own_KM (Z : State) (r0 : Addr) (h0 : Heap) (n0 : Nat) (s : State) : Outcome → State → Prop := fun o U' => ∃ v L, o = .returned v ∧ QM Z r0 h0 n0 v U'.heap L ∧ FrameEnd s o U' L ({ frames := 1, cells := 0, slots := 0, locals := 12 } : Room).cells ({ frames := 1, cells := 0, slots := 0, locals := 12 } : Room).slots
set_option maxRecDepth 65536 in
set_option maxHeartbeats 40000000 in
theorem rmM (l : Launch) (Z : State) (a0 : Array Value) (hw : ∀ d ∈ tables_1, d.before a0 Z = true) (ws : List Jvm.Cond) (r0 : Addr) (h0 : Heap) (n0 : Nat) (Z0 : n0 ≤ h0.size) :
    MetFree l (⟨"java/lang/Number", "<init>", "()V"⟩ : MethodName) (head1 (Jvm.Cond.code (⟨"java/lang/Number", "<init>", "()V"⟩ : MethodName) jdk_18_method_1_code 1 none :: ws) ({ frames := 1, cells := 0, slots := 0, locals := 12 } : Room)) (fun a U => a = #[(.ref r0)] ∧ Z.Warmed39 U.vm ∧ U.heap = h0) (fun _ _ _ _ _ => True) (fun _ U o U' => ∃ v L, o = .returned v ∧ QM Z r0 h0 n0 v U'.heap L ∧ FrameEnd U o U' L ({ frames := 1, cells := 0, slots := 0, locals := 12 } : Room).cells ({ frames := 1, cells := 0, slots := 0, locals := 12 } : Room).slots) := by
  refine MetFree.of_bodySF (plainFor_of_name pn_java_lang_Number) hisR ?_
  intro p e s m args below meth c s₁ Bd hml0 hP hK
  obtain ⟨rfl, hZ, hh⟩ := hP
  have hx := Bd.exec
  have hby := Bd.bytes
  have hml : c.maxLocals = 1 := hml0
  have hown : s.vm.findClass "java/lang/Number" = some m.cls := findClass_of_methodNamed Bd.named
  have hnm := (name_of_methodNamed Bd.named Bd.method).1
  have X0 : Stand p l e ({ frames := 1, cells := 0, slots := 0, locals := 12 } : Room) s m #[(.ref r0)] below meth c s₁ [] 0 0 := Stand.of_body Bd
  have e0 : s₁.heap = h0 := by rw [← hh, Bd.state]; rfl
  have N0 := Fr.nil n0
  refine own_by (p := p) (e := e) (below := below) (K := own_KM Z r0 h0 n0 s) (W' := s₁.setTop (mkF m 0 #[.val (.ref r0)] [])) (fun t k => castTop (efM m r0) k) ?_
  obtain ⟨T21, X21, e21, st21⟩ := initO X0 hx hZ hown (own_w hw 104) (own_w hw 55) (own_w hw 56) e0 (g := (mkF m 1 #[.val (.ref r0)] [(.ref r0)])) rfl (by rw [hml]; rfl) rfl (hb hby djdk_18_1_1) (by decide) (W := 0) (by show 2 * 0 + _ ≤ _; exact Nat.le_of_eq rfl) (by decide)
  obtain ⟨fs, hr, hrun, hended, hW, hsame⟩ := X21.leave (v := none) (fun _ => rfl)
  refine own_by (W' := (T21.setTop (mkF m 4 #[.val (.ref r0)] []))) (fun t k => XS.aloadN X0.here hx rfl (hb hby djdk_18_1_0) rfl rfl (st21 _ k)) ?_
  refine ⟨_, _, X21.returnOut hx Bd.returns (hb hby djdk_18_1_4) hr, hrun, hended, _, _, rfl, ?_, ⟨_, rfl⟩, hW, hsame.mono (by decide) (by decide)⟩
  exact ⟨rfl, N0, e21⟩
theorem pd_13 : parseMethodDescriptor "()V" = some ⟨[], none⟩ := by decide +kernel
theorem djdk_33_23_0 : decode jdk_33_method_23_code 0 = .ok (.aload_n 0, 1) := by decide +kernel
theorem djdk_33_23_1 : decode jdk_33_method_23_code 1 = .ok (.invokespecial 202, 3) := by decide +kernel
theorem djdk_33_23_4 : decode jdk_33_method_23_code 4 = .ok (.aload_n 0, 1) := by decide +kernel
theorem djdk_33_23_5 : decode jdk_33_method_23_code 5 = .ok (.iload_n 1, 1) := by decide +kernel
theorem djdk_33_23_6 : decode jdk_33_method_23_code 6 = .ok (.putfield 205, 3) := by decide +kernel
theorem djdk_33_23_9 : decode jdk_33_method_23_code 9 = .ok (.return_, 1) := by decide +kernel
theorem pn_java_lang_Integer : plainName "java/lang/Integer" = true := by first | (simp [plainName, overriddenIn]; done) | decide +kernel
theorem efJ (m : MethodId) (r0 : Addr) (p1 : Int32) : entryFrame m #[(.ref r0), (.int p1)] 2 = mkF m 0 #[.val (.ref r0), .val (.int p1)] [] := by first | (simp [entryFrame, mkF, argsToLocals, Value.category]; done) | rfl
def QJ (Z : State) (r0 : Addr) (p1 : Int32) (h0 : Heap) (n0 : Nat) (v : Option Value) (h : Heap) (L : List Loc) : Prop := v = none ∧ Fr n0 L ∧ Keep h0 h [r0] ∧ Exa Z h r0 "java/lang/Integer"
abbrev own_KJ (Z : State) (r0 : Addr) (p1 : Int32) (h0 : Heap) (n0 : Nat) (s : State) : Outcome → State → Prop := fun o U' => ∃ v L, o = .returned v ∧ QJ Z r0 p1 h0 n0 v U'.heap L ∧ FrameEnd s o U' L ({ frames := 2, cells := 0, slots := 0, locals := 24 } : Room).cells ({ frames := 2, cells := 0, slots := 0, locals := 24 } : Room).slots
set_option maxRecDepth 65536 in
set_option maxHeartbeats 40000000 in
theorem rmJ (l : Launch) (Z : State) (a0 : Array Value) (hw : ∀ d ∈ tables_1, d.before a0 Z = true) (ws : List Jvm.Cond) (r0 : Addr) (p1 : Int32) (h0 : Heap) (n0 : Nat) (Z0 : n0 ≤ h0.size) (O0 : Old Z n0 h0) (E0 : Exa Z h0 r0 "java/lang/Integer") (g_r0 : n0 ≤ r0) (F_value : Fld Z h0 r0 "java/lang/Integer" "value" "I" (.int (0 : Int32))) :
    MetFree l (⟨"java/lang/Integer", "<init>", "(I)V"⟩ : MethodName) (head1 (Jvm.Cond.code (⟨"java/lang/Integer", "<init>", "(I)V"⟩ : MethodName) jdk_33_method_23_code 2 none :: ws) ({ frames := 2, cells := 0, slots := 0, locals := 24 } : Room)) (fun a U => a = #[(.ref r0), (.int p1)] ∧ Z.Warmed39 U.vm ∧ U.heap = h0) (fun _ _ _ _ _ => True) (fun _ U o U' => ∃ v L, o = .returned v ∧ QJ Z r0 p1 h0 n0 v U'.heap L ∧ FrameEnd U o U' L ({ frames := 2, cells := 0, slots := 0, locals := 24 } : Room).cells ({ frames := 2, cells := 0, slots := 0, locals := 24 } : Room).slots) := by
  refine MetFree.of_bodySF (plainFor_of_name pn_java_lang_Integer) hisR ?_
  intro p e s m args below meth c s₁ Bd hml0 hP hK
  obtain ⟨rfl, hZ, hh⟩ := hP
  have hx := Bd.exec
  have hby := Bd.bytes
  have hml : c.maxLocals = 2 := hml0
  have hown : s.vm.findClass "java/lang/Integer" = some m.cls := findClass_of_methodNamed Bd.named
  have hnm := (name_of_methodNamed Bd.named Bd.method).1
  have X0 : Stand p l e ({ frames := 2, cells := 0, slots := 0, locals := 24 } : Room) s m #[(.ref r0), (.int p1)] below meth c s₁ [] 0 0 := Stand.of_body Bd
  have e0 : s₁.heap = h0 := by rw [← hh, Bd.state]; rfl
  have N0 := Fr.nil n0
  refine own_by (p := p) (e := e) (below := below) (K := own_KJ Z r0 p1 h0 n0 s) (W' := s₁.setTop (mkF m 0 #[.val (.ref r0), .val (.int p1)] [])) (fun t k => castTop (efJ m r0 p1) k) ?_
  obtain ⟨_, _, ⟨T21, L21, k21, n21⟩, -, X21, ⟨Lc21, hQ21, l21, y21, z21⟩, st21⟩ := X0.specialBack hx (y := (⟨"java/lang/Number", "<init>", "()V"⟩ : MethodName)) rfl hown (mvT hZ (own_w hw 98)) (mvT hZ (own_w hw 99)) (mvT hZ (own_w hw 103)) (by decide) (backOf (W := 0) (rmM l Z a0 hw [] r0 h0 n0 Z0 ) hZ (own_w hw 103) (own_w hw 102) (by decide) (by decide)) (g := (mkF m 1 #[.val (.ref r0), .val (.int p1)] [(.ref r0)])) rfl (by rw [hml]; rfl) (Steps.refl _) (a := r0) (argsL := []) (rest := []) (lenOf pd_13 rfl) rfl (by show 2 * 0 + _ ≤ _; exact Nat.le_of_eq rfl) (hb hby djdk_33_23_1) (fun _ _ => ⟨rfl, e0, (by decide : 0 + 0 ≤ _), (by decide : 0 + 0 ≤ _)⟩)
  dsimp only [Pt.U, Pt.locs, Pt.cells, Pt.slots] at X21 l21 y21 z21 st21 hQ21
  subst l21 y21 z21
  obtain ⟨rfl, N21q, e21⟩ := hQ21
  have N21 := Fr.app N0 N21q
  obtain ⟨T22, h22, X22, e22, W22, st22⟩ := putF X21 hx hZ hown (host := "") (Or.inl (own_w hw 105)) Via.refl e21 F_value E0 (Or.inr ⟨(own_w hw 106), rfl, hnm⟩) (own_w hw 93) (ty := .int) (by decide) rfl rfl (g := (mkF m 6 #[.val (.ref r0), .val (.int p1)] [(.int p1), (.ref r0)])) rfl rfl (hb hby djdk_33_23_6)
  have Fw22 := F_value.same W22
  have O22 := Old.wr O0 W22 g_r0
  have N22 := Fr.snoc X22 N21 g_r0
  have K22 := Keep.wr (Keep.refl h0 [r0]) W22 (Or.inl (List.mem_of_getElem? (i := 0) rfl))
  obtain ⟨fs, hr, hrun, hended, hW, hsame⟩ := X22.leave (v := none) (fun _ => rfl)
  refine own_by (W' := (T22.setTop (mkF m 9 #[.val (.ref r0), .val (.int p1)] []))) (fun t k => XS.aloadN X0.here hx rfl (hb hby djdk_33_23_0) rfl rfl (Steps.trans st21 (XS.aloadN X21.here hx rfl (hb hby djdk_33_23_4) rfl rfl (XS.iloadN X21.here hx rfl (hb hby djdk_33_23_5) rfl (st22 _ k))))) ?_
  refine ⟨_, _, X22.returnOut hx Bd.returns (hb hby djdk_33_23_9) hr, hrun, hended, _, _, rfl, ?_, ⟨_, rfl⟩, hW, hsame.mono (by decide) (by decide)⟩
  show QJ Z r0 p1 h0 n0 _ T22.heap _
  rw [e22]
  exact ⟨rfl, N22, K22, (E0.wr W22)⟩
theorem pd_14 : parseMethodDescriptor "(I)V" = some ⟨[.int], none⟩ := by decide +kernel
theorem djdk_33_22_0 : decode jdk_33_method_22_code 0 = .ok (.iload_n 0, 1) := by decide +kernel
theorem djdk_33_22_1 : decode jdk_33_method_22_code 1 = .ok (.bipush (-128), 2) := by decide +kernel
theorem djdk_33_22_3 : decode jdk_33_method_22_code 3 = .ok (.if_icmp .lt 20, 3) := by decide +kernel
theorem djdk_33_22_6 : decode jdk_33_method_22_code 6 = .ok (.iload_n 0, 1) := by decide +kernel
theorem djdk_33_22_7 : decode jdk_33_method_22_code 7 = .ok (.getstatic 191, 3) := by decide +kernel
theorem djdk_33_22_10 : decode jdk_33_method_22_code 10 = .ok (.if_icmp .gt 13, 3) := by decide +kernel
theorem djdk_33_22_13 : decode jdk_33_method_22_code 13 = .ok (.getstatic 195, 3) := by decide +kernel
theorem djdk_33_22_16 : decode jdk_33_method_22_code 16 = .ok (.iload_n 0, 1) := by decide +kernel
theorem djdk_33_22_17 : decode jdk_33_method_22_code 17 = .ok (.sipush 128, 3) := by decide +kernel
theorem djdk_33_22_20 : decode jdk_33_method_22_code 20 = .ok (.iadd, 1) := by decide +kernel
theorem djdk_33_22_21 : decode jdk_33_method_22_code 21 = .ok (.aaload, 1) := by decide +kernel
theorem djdk_33_22_22 : decode jdk_33_method_22_code 22 = .ok (.areturn, 1) := by decide +kernel
theorem djdk_33_22_23 : decode jdk_33_method_22_code 23 = .ok (.new 1, 3) := by decide +kernel
theorem djdk_33_22_26 : decode jdk_33_method_22_code 26 = .ok (.dup, 1) := by decide +kernel
theorem djdk_33_22_27 : decode jdk_33_method_22_code 27 = .ok (.iload_n 0, 1) := by decide +kernel
theorem djdk_33_22_28 : decode jdk_33_method_22_code 28 = .ok (.invokespecial 199, 3) := by decide +kernel
theorem djdk_33_22_31 : decode jdk_33_method_22_code 31 = .ok (.areturn, 1) := by decide +kernel
theorem efV (m : MethodId) (p0 : Int32) : entryFrame m #[(.int p0)] 1 = mkF m 0 #[.val (.int p0)] [] := by first | (simp [entryFrame, mkF, argsToLocals, Value.category]; done) | rfl
def QV (Z : State) (p0 : Int32) (wBOOLEAN : Addr) (wINTEGER : Addr) (wBITS : Addr) (wOCTETS : Addr) (wNULL : Addr) (wOBJECT_IDENTIFIER : Addr) (wTEXT : Addr) (wCOMPONENTS : Addr) (wELEMENTS : Addr) (wCHOICE : Addr) (wELEMENT : Addr) (cs : Int32) (wD : Addr) (kD : ClassId) (wC : Addr) (clC : Cell) (h0 : Heap) (n0 : Nat) (v : Option Value) (h : Heap) (L : List Loc) : Prop := ∃ q : Addr, v = some (.ref q) ∧ Fr n0 L ∧ Keep h0 h [] ∧ Exa Z h q "java/lang/Integer"
abbrev own_KV (Z : State) (p0 : Int32) (wBOOLEAN : Addr) (wINTEGER : Addr) (wBITS : Addr) (wOCTETS : Addr) (wNULL : Addr) (wOBJECT_IDENTIFIER : Addr) (wTEXT : Addr) (wCOMPONENTS : Addr) (wELEMENTS : Addr) (wCHOICE : Addr) (wELEMENT : Addr) (cs : Int32) (wD : Addr) (kD : ClassId) (wC : Addr) (clC : Cell) (h0 : Heap) (n0 : Nat) (s : State) : Outcome → State → Prop := fun o U' => ∃ v L, o = .returned v ∧ QV Z p0 wBOOLEAN wINTEGER wBITS wOCTETS wNULL wOBJECT_IDENTIFIER wTEXT wCOMPONENTS wELEMENTS wCHOICE wELEMENT cs wD kD wC clC h0 n0 v U'.heap L ∧ FrameEnd s o U' L ({ frames := 3, cells := 1, slots := 1, locals := 38 } : Room).cells ({ frames := 3, cells := 1, slots := 1, locals := 38 } : Room).slots
set_option maxRecDepth 65536 in
set_option maxHeartbeats 40000000 in
theorem rmV (l : Launch) (Z : State) (a0 : Array Value) (hw : ∀ d ∈ tables_1, d.before a0 Z = true) (ws : List Jvm.Cond) (p0 : Int32) (wBOOLEAN : Addr) (wINTEGER : Addr) (wBITS : Addr) (wOCTETS : Addr) (wNULL : Addr) (wOBJECT_IDENTIFIER : Addr) (wTEXT : Addr) (wCOMPONENTS : Addr) (wELEMENTS : Addr) (wCHOICE : Addr) (wELEMENT : Addr) (cs : Int32) (wD : Addr) (kD : ClassId) (wC : Addr) (clC : Cell) (h0 : Heap) (n0 : Nat) (Z0 : n0 ≤ h0.size) (O0 : Old Z n0 h0) (HW : own_Wd Z wBOOLEAN wINTEGER wBITS wOCTETS wNULL wOBJECT_IDENTIFIER wTEXT wCOMPONENTS wELEMENTS wCHOICE wELEMENT cs wD kD wC clC) :
    MetFree l (⟨"java/lang/Integer", "valueOf", "(I)Ljava/lang/Integer;"⟩ : MethodName) (head1 (Jvm.Cond.code (⟨"java/lang/Integer", "valueOf", "(I)Ljava/lang/Integer;"⟩ : MethodName) jdk_33_method_22_code 1 (some (.object "java/lang/Integer")) :: ws) ({ frames := 3, cells := 1, slots := 1, locals := 38 } : Room)) (fun a U => a = #[(.int p0)] ∧ Z.Warmed39 U.vm ∧ U.heap = h0) (fun _ _ _ _ _ => True) (fun _ U o U' => ∃ v L, o = .returned v ∧ QV Z p0 wBOOLEAN wINTEGER wBITS wOCTETS wNULL wOBJECT_IDENTIFIER wTEXT wCOMPONENTS wELEMENTS wCHOICE wELEMENT cs wD kD wC clC h0 n0 v U'.heap L ∧ FrameEnd U o U' L ({ frames := 3, cells := 1, slots := 1, locals := 38 } : Room).cells ({ frames := 3, cells := 1, slots := 1, locals := 38 } : Room).slots) := by
  refine MetFree.of_bodySF (plainFor_of_name pn_java_lang_Integer) hisR ?_
  intro p e s m args below meth c s₁ Bd hml0 hP hK
  obtain ⟨rfl, hZ, hh⟩ := hP
  have hx := Bd.exec
  have hby := Bd.bytes
  have hml : c.maxLocals = 1 := hml0
  have hown : s.vm.findClass "java/lang/Integer" = some m.cls := findClass_of_methodNamed Bd.named
  have hnm := (name_of_methodNamed Bd.named Bd.method).1
  have X0 : Stand p l e ({ frames := 3, cells := 1, slots := 1, locals := 38 } : Room) s m #[(.int p0)] below meth c s₁ [] 0 0 := Stand.of_body Bd
  have e0 : s₁.heap = h0 := by rw [← hh, Bd.state]; rfl
  have N0 := Fr.nil n0
  refine own_by (p := p) (e := e) (below := below) (K := own_KV Z p0 wBOOLEAN wINTEGER wBITS wOCTETS wNULL wOBJECT_IDENTIFIER wTEXT wCOMPONENTS wELEMENTS wCHOICE wELEMENT cs wD kD wC clC h0 n0 s) (W' := s₁.setTop (mkF m 0 #[.val (.int p0)] [])) (fun t k => castTop (efV m p0) k) ?_
  refine own_by (W' := (s₁.setTop (mkF m 3 #[.val (.int p0)] [(.int (-128 : Int32)), (.int p0)]))) (fun t k => XS.iloadN X0.here hx rfl (hb hby djdk_33_22_0) rfl (XS.bipush X0.here hx rfl (hb hby djdk_33_22_1) k)) ?_
  by_cases hc21 : p0 < (-128 : Int32)
  ·
    obtain ⟨T22, h22, X22, e22, E22, A22, D22, -, st22⟩ := newO X0 hx hZ hown (own_w hw 92) (own_w hw 93) (own_w hw 90) e0 (g := (mkF m 23 #[.val (.int p0)] [])) rfl (hb hby djdk_33_22_23) (by decide) (by decide)
    obtain ⟨b22, g22⟩ : ∃ z, z = h0.size := ⟨_, rfl⟩
    rw [← g22] at A22 D22 st22
    have g_b22 : n0 ≤ b22 := Nat.le_trans (own_le O0) (Nat.le_of_eq g22.symm)
    have sz_b22 : h0.size ≤ b22 := Nat.le_trans (Keep.refl h0 []).1 (Nat.le_of_eq g22.symm)
    have O22 := O0.ext E22
    have K22 := Keep.ext (Keep.refl h0 []) E22
    have F_value_b22 : Fld Z h22 b22 "java/lang/Integer" "value" "I" (.int (0 : Int32)) := D22 (Or.inr (own_w hw 106)) (ty := .int) (by decide)
    obtain ⟨_, _, ⟨T23, L23, k23, n23⟩, -, X23, ⟨Lc23, hQ23, l23, y23, z23⟩, st23⟩ := X22.specialBack hx (y := (⟨"java/lang/Integer", "<init>", "(I)V"⟩ : MethodName)) rfl hown (mvT hZ (own_w hw 94)) (mvT hZ (own_w hw 95)) (mvT hZ (own_w hw 97)) (by decide) (backOf (W := 1) (rmJ l Z a0 hw [] b22 p0 h22 n0 (own_le O22) O22 A22 g_b22 F_value_b22) hZ (own_w hw 97) (own_w hw 90) (by decide) (by decide)) (g := (mkF m 28 #[.val (.int p0)] [(.int p0), (.ref b22), (.ref b22)])) rfl (by rw [hml]; rfl) (Steps.refl _) (a := b22) (argsL := [(.int p0)]) (rest := [(.ref b22)]) (lenOf pd_14 rfl) rfl (by show 2 * 0 + _ ≤ _; exact Nat.le_of_eq rfl) (hb hby djdk_33_22_28) (fun _ _ => ⟨rfl, e22, (by decide : 1 + 0 ≤ _), (by decide : 1 + 0 ≤ _)⟩)
    dsimp only [Pt.U, Pt.locs, Pt.cells, Pt.slots] at X23 l23 y23 z23 st23 hQ23
    subst l23 y23 z23
    obtain ⟨rfl, N23q, Kq23, Eq23⟩ := hQ23
    have O23 := Old.keep O22 Kq23 (allS g_b22 all0)
    have K23 := Keep.trans K22 Kq23 (allS (Or.inr sz_b22) all0)
    have N23 := Fr.app N0 N23q
    obtain ⟨fs, hr, hrun, hended, hW, hsame⟩ := X23.leave (v := some (.ref b22)) (fun h => by rw [Bd.returns] at h; cases h)
    refine own_by (W' := (T23.setTop (mkF m 31 #[.val (.int p0)] [(.ref b22)]))) (fun t k => XS.icmpYes X0.here hx rfl (pc0 := 3) (pc' := 23) rfl (hb hby djdk_33_22_3) rfl (tlt hc21).1 (by decide) (by decide) (st22 _ (XS.dup X22.here hx rfl (hb hby djdk_33_22_26) rfl rfl (XS.iloadN X22.here hx rfl (hb hby djdk_33_22_27) rfl (Steps.trans st23 k))))) ?_
    refine ⟨_, _, retOut X23 hx Bd.returns rfl (Or.inr (Or.inr (Or.inr (Or.inr ⟨rfl, rfl, rfl⟩)))) (hb hby djdk_33_22_31) hr, hrun, hended, _, _, rfl, ?_, ⟨_, rfl⟩, hW, hsame.mono (by decide) (by decide)⟩
    show QV Z p0 wBOOLEAN wINTEGER wBITS wOCTETS wNULL wOBJECT_IDENTIFIER wTEXT wCOMPONENTS wELEMENTS wCHOICE wELEMENT cs wD kD wC clC h0 n0 _ T23.heap _
    exact ⟨_, rfl, N23, K23, Eq23⟩
  ·
    obtain ⟨T24, X24, e24, st24⟩ := getS (host := "") X0 hx hZ hown (own_w hw 136) Via.refl e0 (HW.2.2.2.2.2.2.2.2.2.2.2.2.2.2.2.2.2.2.2.2.2.2.2.2.2.2.2.2.2.2.2.2.2.2.2.2.2.2.1.ext O0.2) (g := (mkF m 7 #[.val (.int p0)] [(.int p0)])) rfl (hb hby djdk_33_22_7)
    refine own_by (W' := (T24.setTop (mkF m 10 #[.val (.int p0)] [(.int (127 : Int32)), (.int p0)]))) (fun t k => XS.icmpNo X0.here hx rfl (hb hby djdk_33_22_3) rfl (flt hc21).1 (XS.iloadN X0.here hx rfl (hb hby djdk_33_22_6) rfl (st24 _ k))) ?_
    by_cases hc25 : (127 : Int32) < p0
    ·
      obtain ⟨T26, h26, X26, e26, E26, A26, D26, -, st26⟩ := newO X24 hx hZ hown (own_w hw 92) (own_w hw 93) (own_w hw 90) e24 (g := (mkF m 23 #[.val (.int p0)] [])) rfl (hb hby djdk_33_22_23) (by decide) (by decide)
      obtain ⟨b26, g26⟩ : ∃ z, z = h0.size := ⟨_, rfl⟩
      rw [← g26] at A26 D26 st26
      have g_b26 : n0 ≤ b26 := Nat.le_trans (own_le O0) (Nat.le_of_eq g26.symm)
      have sz_b26 : h0.size ≤ b26 := Nat.le_trans (Keep.refl h0 []).1 (Nat.le_of_eq g26.symm)
      have O26 := O0.ext E26
      have K26 := Keep.ext (Keep.refl h0 []) E26
      have F_value_b26 : Fld Z h26 b26 "java/lang/Integer" "value" "I" (.int (0 : Int32)) := D26 (Or.inr (own_w hw 106)) (ty := .int) (by decide)
      obtain ⟨_, _, ⟨T27, L27, k27, n27⟩, -, X27, ⟨Lc27, hQ27, l27, y27, z27⟩, st27⟩ := X26.specialBack hx (y := (⟨"java/lang/Integer", "<init>", "(I)V"⟩ : MethodName)) rfl hown (mvT hZ (own_w hw 94)) (mvT hZ (own_w hw 95)) (mvT hZ (own_w hw 97)) (by decide) (backOf (W := 1) (rmJ l Z a0 hw [] b26 p0 h26 n0 (own_le O26) O26 A26 g_b26 F_value_b26) hZ (own_w hw 97) (own_w hw 90) (by decide) (by decide)) (g := (mkF m 28 #[.val (.int p0)] [(.int p0), (.ref b26), (.ref b26)])) rfl (by rw [hml]; rfl) (Steps.refl _) (a := b26) (argsL := [(.int p0)]) (rest := [(.ref b26)]) (lenOf pd_14 rfl) rfl (by show 2 * 0 + _ ≤ _; exact Nat.le_of_eq rfl) (hb hby djdk_33_22_28) (fun _ _ => ⟨rfl, e26, (by decide : 1 + 0 ≤ _), (by decide : 1 + 0 ≤ _)⟩)
      dsimp only [Pt.U, Pt.locs, Pt.cells, Pt.slots] at X27 l27 y27 z27 st27 hQ27
      subst l27 y27 z27
      obtain ⟨rfl, N27q, Kq27, Eq27⟩ := hQ27
      have O27 := Old.keep O26 Kq27 (allS g_b26 all0)
      have K27 := Keep.trans K26 Kq27 (allS (Or.inr sz_b26) all0)
      have N27 := Fr.app N0 N27q
      obtain ⟨fs, hr, hrun, hended, hW, hsame⟩ := X27.leave (v := some (.ref b26)) (fun h => by rw [Bd.returns] at h; cases h)
      refine own_by (W' := (T27.setTop (mkF m 31 #[.val (.int p0)] [(.ref b26)]))) (fun t k => XS.icmpYes X24.here hx rfl (pc0 := 10) (pc' := 23) rfl (hb hby djdk_33_22_10) rfl (tlt hc25).2.2.1 (by decide) (by decide) (st26 _ (XS.dup X26.here hx rfl (hb hby djdk_33_22_26) rfl rfl (XS.iloadN X26.here hx rfl (hb hby djdk_33_22_27) rfl (Steps.trans st27 k))))) ?_
      refine ⟨_, _, retOut X27 hx Bd.returns rfl (Or.inr (Or.inr (Or.inr (Or.inr ⟨rfl, rfl, rfl⟩)))) (hb hby djdk_33_22_31) hr, hrun, hended, _, _, rfl, ?_, ⟨_, rfl⟩, hW, hsame.mono (by decide) (by decide)⟩
      show QV Z p0 wBOOLEAN wINTEGER wBITS wOCTETS wNULL wOBJECT_IDENTIFIER wTEXT wCOMPONENTS wELEMENTS wCHOICE wELEMENT cs wD kD wC clC h0 n0 _ T27.heap _
      exact ⟨_, rfl, N27, K27, Eq27⟩
    ·
      obtain ⟨T28, X28, e28, st28⟩ := getS (host := "") X24 hx hZ hown (own_w hw 138) Via.refl e24 (HW.2.2.2.2.2.2.2.2.2.2.2.2.2.2.2.2.2.2.2.2.2.2.2.2.2.2.2.2.2.2.2.2.2.2.2.2.2.2.2.1.ext O0.2) (g := (mkF m 13 #[.val (.int p0)] [])) rfl (hb hby djdk_33_22_13)
      obtain ⟨ArC, szC, -⟩ := Bxs.ext (HW.2.2.2.2.2.2.2.2.2.2.2.2.2.2.2.2.2.2.2.2.2.2.2.2.2.2.2.2.2.2.2.2.2.2.2.2.2.2.2.2) O0.2
      have hinC : ¬ ((p0 + (128 : Int32)) < 0 ∨ clC.slots.size ≤ ((p0 + (128 : Int32))).toNatClampNeg) := by rw [szC]; exact own_idxI hc21 hc25
      obtain ⟨bx, hatC, EbC, -⟩ := (HW.2.2.2.2.2.2.2.2.2.2.2.2.2.2.2.2.2.2.2.2.2.2.2.2.2.2.2.2.2.2.2.2.2.2.2.2.2.2.2.2).2.2.2 (p0 + (128 : Int32)) hinC
      refine own_by (W' := (T28.setTop (mkF m 22 #[.val (.int p0)] [(.ref bx)]))) (fun t k => XS.icmpNo X24.here hx rfl (hb hby djdk_33_22_10) rfl (flt hc25).2.2.1 (st28 _ (XS.iloadN X28.here hx rfl (hb hby djdk_33_22_16) rfl (XS.sipush X28.here hx rfl (hb hby djdk_33_22_17) (XS.iadd X28.here hx rfl (hb hby djdk_33_22_20) rfl ((X28.aaload hx (j := (p0 + (128 : Int32))) (v := (.ref bx)) (by rw [e28]; exact ArC.1) (State.isArrayOf_alike hZ.alike ArC.2.1) rfl ArC.2.2 hinC hatC (g := (mkF m 21 #[.val (.int p0)] [(.int (p0 + (128 : Int32))), (.ref wC)])) rfl rfl (hb hby djdk_33_22_21)) _ k)))))) ?_
      obtain ⟨fs, hr, hrun, hended, hW, hsame⟩ := X28.leave (v := some (.ref bx)) (fun h => by rw [Bd.returns] at h; cases h)
      refine ⟨_, _, retOut X28 hx Bd.returns rfl (Or.inr (Or.inr (Or.inr (Or.inr ⟨rfl, rfl, rfl⟩)))) (hb hby djdk_33_22_22) hr, hrun, hended, _, _, rfl, ?_, ⟨_, rfl⟩, hW, hsame.mono (by decide) (by decide)⟩
      show QV Z p0 wBOOLEAN wINTEGER wBITS wOCTETS wNULL wOBJECT_IDENTIFIER wTEXT wCOMPONENTS wELEMENTS wCHOICE wELEMENT cs wD kD wC clC h0 n0 _ T28.heap _
      rw [e28]
      exact ⟨_, rfl, N0, (Keep.refl h0 []), (EbC.ext O0.2)⟩
theorem djdk_22_1_0 : decode jdk_22_method_1_code 0 = .ok (.aload_n 0, 1) := by decide +kernel
theorem djdk_22_1_1 : decode jdk_22_method_1_code 1 = .ok (.invokespecial 1, 3) := by decide +kernel
theorem djdk_22_1_4 : decode jdk_22_method_1_code 4 = .ok (.return_, 1) := by decide +kernel
theorem pn_java_util_AbstractCollection : plainName "java/util/AbstractCollection" = true := by first | (simp [plainName, overriddenIn]; done) | decide +kernel
theorem efAC (m : MethodId) (r0 : Addr) : entryFrame m #[(.ref r0)] 1 = mkF m 0 #[.val (.ref r0)] [] := by first | (simp [entryFrame, mkF, argsToLocals, Value.category]; done) | rfl
def QAC (Z : State) (r0 : Addr) (h0 : Heap) (n0 : Nat) (v : Option Value) (h : Heap) (L : List Loc) : Prop := v = none ∧ Fr n0 L ∧ h = h0
abbrev own_KAC (Z : State) (r0 : Addr) (h0 : Heap) (n0 : Nat) (s : State) : Outcome → State → Prop := fun o U' => ∃ v L, o = .returned v ∧ QAC Z r0 h0 n0 v U'.heap L ∧ FrameEnd s o U' L ({ frames := 1, cells := 0, slots := 0, locals := 12 } : Room).cells ({ frames := 1, cells := 0, slots := 0, locals := 12 } : Room).slots
set_option maxRecDepth 65536 in
set_option maxHeartbeats 40000000 in
theorem rmAC (l : Launch) (Z : State) (a0 : Array Value) (hw : ∀ d ∈ tables_1, d.before a0 Z = true) (ws : List Jvm.Cond) (r0 : Addr) (h0 : Heap) (n0 : Nat) (Z0 : n0 ≤ h0.size) :
    MetFree l (⟨"java/util/AbstractCollection", "<init>", "()V"⟩ : MethodName) (head1 (Jvm.Cond.code (⟨"java/util/AbstractCollection", "<init>", "()V"⟩ : MethodName) jdk_22_method_1_code 1 none :: ws) ({ frames := 1, cells := 0, slots := 0, locals := 12 } : Room)) (fun a U => a = #[(.ref r0)] ∧ Z.Warmed39 U.vm ∧ U.heap = h0) (fun _ _ _ _ _ => True) (fun _ U o U' => ∃ v L, o = .returned v ∧ QAC Z r0 h0 n0 v U'.heap L ∧ FrameEnd U o U' L ({ frames := 1, cells := 0, slots := 0, locals := 12 } : Room).cells ({ frames := 1, cells := 0, slots := 0, locals := 12 } : Room).slots) := by
  refine MetFree.of_bodySF (plainFor_of_name pn_java_util_AbstractCollection) hisR ?_
  intro p e s m args below meth c s₁ Bd hml0 hP hK
  obtain ⟨rfl, hZ, hh⟩ := hP
  have hx := Bd.exec
  have hby := Bd.bytes
  have hml : c.maxLocals = 1 := hml0
  have hown : s.vm.findClass "java/util/AbstractCollection" = some m.cls := findClass_of_methodNamed Bd.named
  have hnm := (name_of_methodNamed Bd.named Bd.method).1
  have X0 : Stand p l e ({ frames := 1, cells := 0, slots := 0, locals := 12 } : Room) s m #[(.ref r0)] below meth c s₁ [] 0 0 := Stand.of_body Bd
  have e0 : s₁.heap = h0 := by rw [← hh, Bd.state]; rfl
  have N0 := Fr.nil n0
  refine own_by (p := p) (e := e) (below := below) (K := own_KAC Z r0 h0 n0 s) (W' := s₁.setTop (mkF m 0 #[.val (.ref r0)] [])) (fun t k => castTop (efAC m r0) k) ?_
  obtain ⟨T21, X21, e21, st21⟩ := initO X0 hx hZ hown (own_w hw 54) (own_w hw 55) (own_w hw 56) e0 (g := (mkF m 1 #[.val (.ref r0)] [(.ref r0)])) rfl (by rw [hml]; rfl) rfl (hb hby djdk_22_1_1) (by decide) (W := 0) (by show 2 * 0 + _ ≤ _; exact Nat.le_of_eq rfl) (by decide)
  obtain ⟨fs, hr, hrun, hended, hW, hsame⟩ := X21.leave (v := none) (fun _ => rfl)
  refine own_by (W' := (T21.setTop (mkF m 4 #[.val (.ref r0)] []))) (fun t k => XS.aloadN X0.here hx rfl (hb hby djdk_22_1_0) rfl rfl (st21 _ k)) ?_
  refine ⟨_, _, X21.returnOut hx Bd.returns (hb hby djdk_22_1_4) hr, hrun, hended, _, _, rfl, ?_, ⟨_, rfl⟩, hW, hsame.mono (by decide) (by decide)⟩
  exact ⟨rfl, N0, e21⟩
theorem djdk_39_1_0 : decode jdk_39_method_1_code 0 = .ok (.aload_n 0, 1) := by decide +kernel
theorem djdk_39_1_1 : decode jdk_39_method_1_code 1 = .ok (.invokespecial 1, 3) := by decide +kernel
theorem djdk_39_1_4 : decode jdk_39_method_1_code 4 = .ok (.aload_n 0, 1) := by decide +kernel
theorem djdk_39_1_5 : decode jdk_39_method_1_code 5 = .ok (.iconst 0, 1) := by decide +kernel
theorem djdk_39_1_6 : decode jdk_39_method_1_code 6 = .ok (.putfield 7, 3) := by decide +kernel
theorem djdk_39_1_9 : decode jdk_39_method_1_code 9 = .ok (.return_, 1) := by decide +kernel
theorem pn_java_util_AbstractList : plainName "java/util/AbstractList" = true := by first | (simp [plainName, overriddenIn]; done) | decide +kernel
theorem efAB (m : MethodId) (r0 : Addr) : entryFrame m #[(.ref r0)] 1 = mkF m 0 #[.val (.ref r0)] [] := by first | (simp [entryFrame, mkF, argsToLocals, Value.category]; done) | rfl
def QAB (Z : State) (r0 : Addr) (h0 : Heap) (n0 : Nat) (v : Option Value) (h : Heap) (L : List Loc) : Prop := v = none ∧ Fr n0 L ∧ Keep h0 h [r0] ∧ Exa Z h r0 "java/util/ArrayList" ∧ Fld Z h r0 "java/util/AbstractList" "modCount" "I" (.int (0 : Int32)) ∧ Fld Z h r0 "java/util/ArrayList" "elementData" "[Ljava/lang/Object;" .null ∧ Fld Z h r0 "java/util/ArrayList" "size" "I" (.int (0 : Int32))
abbrev own_KAB (Z : State) (r0 : Addr) (h0 : Heap) (n0 : Nat) (s : State) : Outcome → State → Prop := fun o U' => ∃ v L, o = .returned v ∧ QAB Z r0 h0 n0 v U'.heap L ∧ FrameEnd s o U' L ({ frames := 2, cells := 0, slots := 0, locals := 24 } : Room).cells ({ frames := 2, cells := 0, slots := 0, locals := 24 } : Room).slots
set_option maxRecDepth 65536 in
set_option maxHeartbeats 40000000 in
theorem rmAB (l : Launch) (Z : State) (a0 : Array Value) (hw : ∀ d ∈ tables_1, d.before a0 Z = true) (ws : List Jvm.Cond) (r0 : Addr) (h0 : Heap) (n0 : Nat) (Z0 : n0 ≤ h0.size) (O0 : Old Z n0 h0) (E0 : Exa Z h0 r0 "java/util/ArrayList") (g_r0 : n0 ≤ r0) (F_modCount : Fld Z h0 r0 "java/util/AbstractList" "modCount" "I" (.int (0 : Int32))) (F_elementData : Fld Z h0 r0 "java/util/ArrayList" "elementData" "[Ljava/lang/Object;" .null) (F_size : Fld Z h0 r0 "java/util/ArrayList" "size" "I" (.int (0 : Int32))) :
    MetFree l (⟨"java/util/AbstractList", "<init>", "()V"⟩ : MethodName) (head1 (Jvm.Cond.code (⟨"java/util/AbstractList", "<init>", "()V"⟩ : MethodName) jdk_39_method_1_code 1 none :: ws) ({ frames := 2, cells := 0, slots := 0, locals := 24 } : Room)) (fun a U => a = #[(.ref r0)] ∧ Z.Warmed39 U.vm ∧ U.heap = h0) (fun _ _ _ _ _ => True) (fun _ U o U' => ∃ v L, o = .returned v ∧ QAB Z r0 h0 n0 v U'.heap L ∧ FrameEnd U o U' L ({ frames := 2, cells := 0, slots := 0, locals := 24 } : Room).cells ({ frames := 2, cells := 0, slots := 0, locals := 24 } : Room).slots) := by
  refine MetFree.of_bodySF (plainFor_of_name pn_java_util_AbstractList) hisR ?_
  intro p e s m args below meth c s₁ Bd hml0 hP hK
  obtain ⟨rfl, hZ, hh⟩ := hP
  have hx := Bd.exec
  have hby := Bd.bytes
  have hml : c.maxLocals = 1 := hml0
  have hown : s.vm.findClass "java/util/AbstractList" = some m.cls := findClass_of_methodNamed Bd.named
  have hnm := (name_of_methodNamed Bd.named Bd.method).1
  have X0 : Stand p l e ({ frames := 2, cells := 0, slots := 0, locals := 24 } : Room) s m #[(.ref r0)] below meth c s₁ [] 0 0 := Stand.of_body Bd
  have e0 : s₁.heap = h0 := by rw [← hh, Bd.state]; rfl
  have N0 := Fr.nil n0
  refine own_by (p := p) (e := e) (below := below) (K := own_KAB Z r0 h0 n0 s) (W' := s₁.setTop (mkF m 0 #[.val (.ref r0)] [])) (fun t k => castTop (efAB m r0) k) ?_
  obtain ⟨_, _, ⟨T21, L21, k21, n21⟩, -, X21, ⟨Lc21, hQ21, l21, y21, z21⟩, st21⟩ := X0.specialBack hx (y := (⟨"java/util/AbstractCollection", "<init>", "()V"⟩ : MethodName)) rfl hown (mvT hZ (own_w hw 48)) (mvT hZ (own_w hw 49)) (mvT hZ (own_w hw 53)) (by decide) (backOf (W := 0) (rmAC l Z a0 hw [] r0 h0 n0 Z0 ) hZ (own_w hw 53) (own_w hw 52) (by decide) (by decide)) (g := (mkF m 1 #[.val (.ref r0)] [(.ref r0)])) rfl (by rw [hml]; rfl) (Steps.refl _) (a := r0) (argsL := []) (rest := []) (lenOf pd_13 rfl) rfl (by show 2 * 0 + _ ≤ _; exact Nat.le_of_eq rfl) (hb hby djdk_39_1_1) (fun _ _ => ⟨rfl, e0, (by decide : 0 + 0 ≤ _), (by decide : 0 + 0 ≤ _)⟩)
  dsimp only [Pt.U, Pt.locs, Pt.cells, Pt.slots] at X21 l21 y21 z21 st21 hQ21
  subst l21 y21 z21
  obtain ⟨rfl, N21q, e21⟩ := hQ21
  have N21 := Fr.app N0 N21q
  obtain ⟨T22, h22, X22, e22, W22, st22⟩ := putF X21 hx hZ hown (host := "") (Or.inl (own_w hw 57)) Via.refl e21 F_modCount E0 (Or.inl (own_w hw 58)) (own_w hw 37) (ty := .int) (by decide) rfl rfl (g := (mkF m 6 #[.val (.ref r0)] [(.int (0 : Int32)), (.ref r0)])) rfl rfl (hb hby djdk_39_1_6)
  have Fw22 := F_modCount.same W22
  have O22 := Old.wr O0 W22 g_r0
  have N22 := Fr.snoc X22 N21 g_r0
  have K22 := Keep.wr (Keep.refl h0 [r0]) W22 (Or.inl (List.mem_of_getElem? (i := 0) rfl))
  obtain ⟨fs, hr, hrun, hended, hW, hsame⟩ := X22.leave (v := none) (fun _ => rfl)
  refine own_by (W' := (T22.setTop (mkF m 9 #[.val (.ref r0)] []))) (fun t k => XS.aloadN X0.here hx rfl (hb hby djdk_39_1_0) rfl rfl (Steps.trans st21 (XS.aloadN X21.here hx rfl (hb hby djdk_39_1_4) rfl rfl (XS.iconst X21.here hx rfl (hb hby djdk_39_1_5) (st22 _ k))))) ?_
  refine ⟨_, _, X22.returnOut hx Bd.returns (hb hby djdk_39_1_9) hr, hrun, hended, _, _, rfl, ?_, ⟨_, rfl⟩, hW, hsame.mono (by decide) (by decide)⟩
  show QAB Z r0 h0 n0 _ T22.heap _
  rw [e22]
  exact ⟨rfl, N22, K22, (E0.wr W22), Fw22, (F_elementData.other W22 (Or.inr (slot_ne (Or.inl (own_w hw 61)) (Or.inl (own_w hw 58)) (by decide) (t := (.array (.object "java/lang/Object"))) (t' := .int) (by decide) (by decide)))), (F_size.other W22 (Or.inr (slot_ne (Or.inl (own_w hw 87)) (Or.inl (own_w hw 58)) (by decide) (t := .int) (t' := .int) (by decide) (by decide))))⟩
theorem djdk_38_2_0 : decode jdk_38_method_2_code 0 = .ok (.aload_n 0, 1) := by decide +kernel
theorem djdk_38_2_1 : decode jdk_38_method_2_code 1 = .ok (.invokespecial 1, 3) := by decide +kernel
theorem djdk_38_2_4 : decode jdk_38_method_2_code 4 = .ok (.aload_n 0, 1) := by decide +kernel
theorem djdk_38_2_5 : decode jdk_38_method_2_code 5 = .ok (.getstatic 39, 3) := by decide +kernel
theorem djdk_38_2_8 : decode jdk_38_method_2_code 8 = .ok (.putfield 9, 3) := by decide +kernel
theorem djdk_38_2_11 : decode jdk_38_method_2_code 11 = .ok (.return_, 1) := by decide +kernel
theorem efAI (m : MethodId) (r0 : Addr) : entryFrame m #[(.ref r0)] 1 = mkF m 0 #[.val (.ref r0)] [] := by first | (simp [entryFrame, mkF, argsToLocals, Value.category]; done) | rfl
def QAI (Z : State) (r0 : Addr) (wBOOLEAN : Addr) (wINTEGER : Addr) (wBITS : Addr) (wOCTETS : Addr) (wNULL : Addr) (wOBJECT_IDENTIFIER : Addr) (wTEXT : Addr) (wCOMPONENTS : Addr) (wELEMENTS : Addr) (wCHOICE : Addr) (wELEMENT : Addr) (cs : Int32) (wD : Addr) (kD : ClassId) (wC : Addr) (clC : Cell) (h0 : Heap) (n0 : Nat) (v : Option Value) (h : Heap) (L : List Loc) : Prop := v = none ∧ Fr n0 L ∧ Keep h0 h [r0] ∧ Exa Z h r0 "java/util/ArrayList" ∧ Fld Z h r0 "java/util/AbstractList" "modCount" "I" (.int (0 : Int32)) ∧ Fld Z h r0 "java/util/ArrayList" "elementData" "[Ljava/lang/Object;" (.ref wD) ∧ Fld Z h r0 "java/util/ArrayList" "size" "I" (.int (0 : Int32))
abbrev own_KAI (Z : State) (r0 : Addr) (wBOOLEAN : Addr) (wINTEGER : Addr) (wBITS : Addr) (wOCTETS : Addr) (wNULL : Addr) (wOBJECT_IDENTIFIER : Addr) (wTEXT : Addr) (wCOMPONENTS : Addr) (wELEMENTS : Addr) (wCHOICE : Addr) (wELEMENT : Addr) (cs : Int32) (wD : Addr) (kD : ClassId) (wC : Addr) (clC : Cell) (h0 : Heap) (n0 : Nat) (s : State) : Outcome → State → Prop := fun o U' => ∃ v L, o = .returned v ∧ QAI Z r0 wBOOLEAN wINTEGER wBITS wOCTETS wNULL wOBJECT_IDENTIFIER wTEXT wCOMPONENTS wELEMENTS wCHOICE wELEMENT cs wD kD wC clC h0 n0 v U'.heap L ∧ FrameEnd s o U' L ({ frames := 3, cells := 0, slots := 0, locals := 36 } : Room).cells ({ frames := 3, cells := 0, slots := 0, locals := 36 } : Room).slots
set_option maxRecDepth 65536 in
set_option maxHeartbeats 40000000 in
theorem rmAI (l : Launch) (Z : State) (a0 : Array Value) (hw : ∀ d ∈ tables_1, d.before a0 Z = true) (ws : List Jvm.Cond) (r0 : Addr) (wBOOLEAN : Addr) (wINTEGER : Addr) (wBITS : Addr) (wOCTETS : Addr) (wNULL : Addr) (wOBJECT_IDENTIFIER : Addr) (wTEXT : Addr) (wCOMPONENTS : Addr) (wELEMENTS : Addr) (wCHOICE : Addr) (wELEMENT : Addr) (cs : Int32) (wD : Addr) (kD : ClassId) (wC : Addr) (clC : Cell) (h0 : Heap) (n0 : Nat) (Z0 : n0 ≤ h0.size) (O0 : Old Z n0 h0) (HW : own_Wd Z wBOOLEAN wINTEGER wBITS wOCTETS wNULL wOBJECT_IDENTIFIER wTEXT wCOMPONENTS wELEMENTS wCHOICE wELEMENT cs wD kD wC clC) (E0 : Exa Z h0 r0 "java/util/ArrayList") (g_r0 : n0 ≤ r0) (F_modCount : Fld Z h0 r0 "java/util/AbstractList" "modCount" "I" (.int (0 : Int32))) (F_elementData : Fld Z h0 r0 "java/util/ArrayList" "elementData" "[Ljava/lang/Object;" .null) (F_size : Fld Z h0 r0 "java/util/ArrayList" "size" "I" (.int (0 : Int32))) :
    MetFree l (⟨"java/util/ArrayList", "<init>", "()V"⟩ : MethodName) (head1 (Jvm.Cond.code (⟨"java/util/ArrayList", "<init>", "()V"⟩ : MethodName) jdk_38_method_2_code 1 none :: ws) ({ frames := 3, cells := 0, slots := 0, locals := 36 } : Room)) (fun a U => a = #[(.ref r0)] ∧ Z.Warmed39 U.vm ∧ U.heap = h0) (fun _ _ _ _ _ => True) (fun _ U o U' => ∃ v L, o = .returned v ∧ QAI Z r0 wBOOLEAN wINTEGER wBITS wOCTETS wNULL wOBJECT_IDENTIFIER wTEXT wCOMPONENTS wELEMENTS wCHOICE wELEMENT cs wD kD wC clC h0 n0 v U'.heap L ∧ FrameEnd U o U' L ({ frames := 3, cells := 0, slots := 0, locals := 36 } : Room).cells ({ frames := 3, cells := 0, slots := 0, locals := 36 } : Room).slots) := by
  refine MetFree.of_bodySF (plainFor_of_name pn_java_util_ArrayList) hisR ?_
  intro p e s m args below meth c s₁ Bd hml0 hP hK
  obtain ⟨rfl, hZ, hh⟩ := hP
  have hx := Bd.exec
  have hby := Bd.bytes
  have hml : c.maxLocals = 1 := hml0
  have hown : s.vm.findClass "java/util/ArrayList" = some m.cls := findClass_of_methodNamed Bd.named
  have hnm := (name_of_methodNamed Bd.named Bd.method).1
  have X0 : Stand p l e ({ frames := 3, cells := 0, slots := 0, locals := 36 } : Room) s m #[(.ref r0)] below meth c s₁ [] 0 0 := Stand.of_body Bd
  have e0 : s₁.heap = h0 := by rw [← hh, Bd.state]; rfl
  have N0 := Fr.nil n0
  refine own_by (p := p) (e := e) (below := below) (K := own_KAI Z r0 wBOOLEAN wINTEGER wBITS wOCTETS wNULL wOBJECT_IDENTIFIER wTEXT wCOMPONENTS wELEMENTS wCHOICE wELEMENT cs wD kD wC clC h0 n0 s) (W' := s₁.setTop (mkF m 0 #[.val (.ref r0)] [])) (fun t k => castTop (efAI m r0) k) ?_
  obtain ⟨_, _, ⟨T21, L21, k21, n21⟩, -, X21, ⟨Lc21, hQ21, l21, y21, z21⟩, st21⟩ := X0.specialBack hx (y := (⟨"java/util/AbstractList", "<init>", "()V"⟩ : MethodName)) rfl hown (mvT hZ (own_w hw 42)) (mvT hZ (own_w hw 43)) (mvT hZ (own_w hw 47)) (by decide) (backOf (W := 0) (rmAB l Z a0 hw [] r0 h0 n0 Z0 O0 E0 g_r0 F_modCount F_elementData F_size) hZ (own_w hw 47) (own_w hw 46) (by decide) (by decide)) (g := (mkF m 1 #[.val (.ref r0)] [(.ref r0)])) rfl (by rw [hml]; rfl) (Steps.refl _) (a := r0) (argsL := []) (rest := []) (lenOf pd_13 rfl) rfl (by show 2 * 0 + _ ≤ _; exact Nat.le_of_eq rfl) (hb hby djdk_38_2_1) (fun _ _ => ⟨rfl, e0, (by decide : 0 + 0 ≤ _), (by decide : 0 + 0 ≤ _)⟩)
  dsimp only [Pt.U, Pt.locs, Pt.cells, Pt.slots] at X21 l21 y21 z21 st21 hQ21
  subst l21 y21 z21
  obtain ⟨rfl, N21q, Kq21, Eq21, Fq21_modCount, Fq21_elementData, Fq21_size⟩ := hQ21
  have O21 := Old.keep O0 Kq21 (allS g_r0 all0)
  have K21 := Keep.trans (Keep.refl h0 [r0]) Kq21 (allS (Or.inl (List.mem_of_getElem? (i := 0) rfl)) all0)
  have N21 := Fr.app N0 N21q
  obtain ⟨T22, X22, e22, st22⟩ := getS (host := "") X21 hx hZ hown (own_w hw 59) Via.refl rfl (HW.2.2.2.2.2.2.2.2.2.2.2.2.2.2.2.2.2.2.2.2.2.2.2.2.2.2.2.2.2.2.2.2.2.2.2.1.ext O21.2) (g := (mkF m 5 #[.val (.ref r0)] [(.ref r0)])) rfl (hb hby djdk_38_2_5)
  obtain ⟨T23, h23, X23, e23, W23, st23⟩ := putF X22 hx hZ hown (host := "") (Or.inl (own_w hw 60)) Via.refl e22 Fq21_elementData Eq21 (Or.inl (own_w hw 61)) (own_w hw 37) (ty := (.array (.object "java/lang/Object"))) (by decide) rfl rfl (g := (mkF m 8 #[.val (.ref r0)] [(.ref wD), (.ref r0)])) rfl rfl (hb hby djdk_38_2_8)
  have Fw23 := Fq21_elementData.same W23
  have O23 := Old.wr O21 W23 g_r0
  have N23 := Fr.snoc X23 N21 g_r0
  have K23 := Keep.wr K21 W23 (Or.inl (List.mem_of_getElem? (i := 0) rfl))
  obtain ⟨fs, hr, hrun, hended, hW, hsame⟩ := X23.leave (v := none) (fun _ => rfl)
  refine own_by (W' := (T23.setTop (mkF m 11 #[.val (.ref r0)] []))) (fun t k => XS.aloadN X0.here hx rfl (hb hby djdk_38_2_0) rfl rfl (Steps.trans st21 (XS.aloadN X21.here hx rfl (hb hby djdk_38_2_4) rfl rfl (st22 _ (st23 _ k))))) ?_
  refine ⟨_, _, X23.returnOut hx Bd.returns (hb hby djdk_38_2_11) hr, hrun, hended, _, _, rfl, ?_, ⟨_, rfl⟩, hW, hsame.mono (by decide) (by decide)⟩
  show QAI Z r0 wBOOLEAN wINTEGER wBITS wOCTETS wNULL wOBJECT_IDENTIFIER wTEXT wCOMPONENTS wELEMENTS wCHOICE wELEMENT cs wD kD wC clC h0 n0 _ T23.heap _
  rw [e23]
  exact ⟨rfl, N23, K23, (Eq21.wr W23), (Fq21_modCount.other W23 (Or.inr (slot_ne (Or.inl (own_w hw 58)) (Or.inl (own_w hw 61)) (by decide) (t := .int) (t' := (.array (.object "java/lang/Object"))) (by decide) (by decide)))), Fw23, (Fq21_size.other W23 (Or.inr (slot_ne (Or.inl (own_w hw 87)) (Or.inl (own_w hw 61)) (by decide) (t := .int) (t' := (.array (.object "java/lang/Object"))) (by decide) (by decide))))⟩
theorem djdk_29_65_0 : decode jdk_29_method_65_code 0 = .ok (.iload_n 0, 1) := by decide +kernel
theorem djdk_29_65_1 : decode jdk_29_method_65_code 1 = .ok (.iload_n 1, 1) := by decide +kernel
theorem djdk_29_65_2 : decode jdk_29_method_65_code 2 = .ok (.if_icmp .lt 7, 3) := by decide +kernel
theorem djdk_29_65_5 : decode jdk_29_method_65_code 5 = .ok (.iload_n 0, 1) := by decide +kernel
theorem djdk_29_65_6 : decode jdk_29_method_65_code 6 = .ok (.goto 4, 3) := by decide +kernel
theorem djdk_29_65_10 : decode jdk_29_method_65_code 10 = .ok (.ireturn, 1) := by decide +kernel
theorem efMX (m : MethodId)  : entryFrame m #[(.int (10 : Int32)), (.int (1 : Int32))] 2 = mkF m 0 #[.val (.int (10 : Int32)), .val (.int (1 : Int32))] [] := by first | (simp [entryFrame, mkF, argsToLocals, Value.category]; done) | rfl
def QMX (Z : State)  (h0 : Heap) (n0 : Nat) (v : Option Value) (h : Heap) (L : List Loc) : Prop := v = some (.int (10 : Int32)) ∧ Fr n0 L ∧ h = h0
abbrev own_KMX (Z : State)  (h0 : Heap) (n0 : Nat) (s : State) : Outcome → State → Prop := fun o U' => ∃ v L, o = .returned v ∧ QMX Z  h0 n0 v U'.heap L ∧ FrameEnd s o U' L ({ frames := 0, cells := 0, slots := 0, locals := 0 } : Room).cells ({ frames := 0, cells := 0, slots := 0, locals := 0 } : Room).slots
set_option maxRecDepth 65536 in
set_option maxHeartbeats 40000000 in
theorem rmMX (l : Launch) (Z : State) (a0 : Array Value) (hw : ∀ d ∈ tables_1, d.before a0 Z = true) (ws : List Jvm.Cond)  (h0 : Heap) (n0 : Nat) (Z0 : n0 ≤ h0.size) :
    MetFree l (⟨"java/lang/Math", "max", "(II)I"⟩ : MethodName) (head1 (Jvm.Cond.code (⟨"java/lang/Math", "max", "(II)I"⟩ : MethodName) jdk_29_method_65_code 2 (some .int) :: ws) ({ frames := 0, cells := 0, slots := 0, locals := 0 } : Room)) (fun a U => a = #[(.int (10 : Int32)), (.int (1 : Int32))] ∧ Z.Warmed39 U.vm ∧ U.heap = h0) (fun _ _ _ _ _ => True) (fun _ U o U' => ∃ v L, o = .returned v ∧ QMX Z  h0 n0 v U'.heap L ∧ FrameEnd U o U' L ({ frames := 0, cells := 0, slots := 0, locals := 0 } : Room).cells ({ frames := 0, cells := 0, slots := 0, locals := 0 } : Room).slots) := by
  refine MetFree.of_bodySF (Jvm.Free.JP.mathPlain rfl (by decide +kernel)) hisR ?_
  intro p e s m args below meth c s₁ Bd hml0 hP hK
  obtain ⟨rfl, hZ, hh⟩ := hP
  have hx := Bd.exec
  have hby := Bd.bytes
  have hml : c.maxLocals = 2 := hml0
  have hown : s.vm.findClass "java/lang/Math" = some m.cls := findClass_of_methodNamed Bd.named
  have hnm := (name_of_methodNamed Bd.named Bd.method).1
  have X0 : Stand p l e ({ frames := 0, cells := 0, slots := 0, locals := 0 } : Room) s m #[(.int (10 : Int32)), (.int (1 : Int32))] below meth c s₁ [] 0 0 := Stand.of_body Bd
  have e0 : s₁.heap = h0 := by rw [← hh, Bd.state]; rfl
  have N0 := Fr.nil n0
  refine own_by (p := p) (e := e) (below := below) (K := own_KMX Z  h0 n0 s) (W' := s₁.setTop (mkF m 0 #[.val (.int (10 : Int32)), .val (.int (1 : Int32))] [])) (fun t k => castTop (efMX m ) k) ?_
  obtain ⟨fs, hr, hrun, hended, hW, hsame⟩ := X0.leave (v := some (.int (10 : Int32))) (fun h => by rw [Bd.returns] at h; cases h)
  refine own_by (W' := (s₁.setTop (mkF m 10 #[.val (.int (10 : Int32)), .val (.int (1 : Int32))] [(.int (10 : Int32))]))) (fun t k => XS.iloadN X0.here hx rfl (hb hby djdk_29_65_0) rfl (XS.iloadN X0.here hx rfl (hb hby djdk_29_65_1) rfl (XS.icmpNo X0.here hx rfl (hb hby djdk_29_65_2) rfl (flt (by decide : ¬ ((10 : Int32) < (1 : Int32)))).1 (XS.iloadN X0.here hx rfl (hb hby djdk_29_65_5) rfl (XS.goto X0.here hx rfl (pc0 := 6) (pc' := 10) rfl (hb hby djdk_29_65_6) (by decide) (by decide) k))))) ?_
  refine ⟨_, _, retOut X0 hx Bd.returns rfl (Or.inl ⟨rfl, Or.inl rfl, _, rfl⟩) (hb hby djdk_29_65_10) hr, hrun, hended, _, _, rfl, ?_, ⟨_, rfl⟩, hW, hsame.mono (by decide) (by decide)⟩
  exact ⟨rfl, N0, e0⟩
theorem djdk_38_6_0 : decode jdk_38_method_6_code 0 = .ok (.aload_n 0, 1) := by decide +kernel
theorem djdk_38_6_1 : decode jdk_38_method_6_code 1 = .ok (.getfield 9, 3) := by decide +kernel
theorem djdk_38_6_4 : decode jdk_38_method_6_code 4 = .ok (.arraylength, 1) := by decide +kernel
theorem djdk_38_6_5 : decode jdk_38_method_6_code 5 = .ok (.istore_n 2, 1) := by decide +kernel
theorem djdk_38_6_6 : decode jdk_38_method_6_code 6 = .ok (.iload_n 2, 1) := by decide +kernel
theorem djdk_38_6_7 : decode jdk_38_method_6_code 7 = .ok (.ifCond .gt 13, 3) := by decide +kernel
theorem djdk_38_6_10 : decode jdk_38_method_6_code 10 = .ok (.aload_n 0, 1) := by decide +kernel
theorem djdk_38_6_11 : decode jdk_38_method_6_code 11 = .ok (.getfield 9, 3) := by decide +kernel
theorem djdk_38_6_14 : decode jdk_38_method_6_code 14 = .ok (.getstatic 39, 3) := by decide +kernel
theorem djdk_38_6_17 : decode jdk_38_method_6_code 17 = .ok (.if_acmp .eq 28, 3) := by decide +kernel
theorem djdk_38_6_45 : decode jdk_38_method_6_code 45 = .ok (.aload_n 0, 1) := by decide +kernel
theorem djdk_38_6_46 : decode jdk_38_method_6_code 46 = .ok (.bipush 10, 2) := by decide +kernel
theorem djdk_38_6_48 : decode jdk_38_method_6_code 48 = .ok (.iload_n 1, 1) := by decide +kernel
theorem djdk_38_6_49 : decode jdk_38_method_6_code 49 = .ok (.invokestatic 79, 3) := by decide +kernel
theorem djdk_38_6_52 : decode jdk_38_method_6_code 52 = .ok (.anewarray 7, 3) := by decide +kernel
theorem djdk_38_6_55 : decode jdk_38_method_6_code 55 = .ok (.dup_x1, 1) := by decide +kernel
theorem djdk_38_6_56 : decode jdk_38_method_6_code 56 = .ok (.putfield 9, 3) := by decide +kernel
theorem djdk_38_6_59 : decode jdk_38_method_6_code 59 = .ok (.areturn, 1) := by decide +kernel
theorem efG1 (m : MethodId) (r0 : Addr) : entryFrame m #[(.ref r0), (.int (1 : Int32))] 4 = mkF m 0 #[.val (.ref r0), .val (.int (1 : Int32)), .unset, .unset] [] := by first | (simp [entryFrame, mkF, argsToLocals, Value.category]; done) | rfl
def QG1 (Z : State) (r0 : Addr) (mc : Int32) (wBOOLEAN : Addr) (wINTEGER : Addr) (wBITS : Addr) (wOCTETS : Addr) (wNULL : Addr) (wOBJECT_IDENTIFIER : Addr) (wTEXT : Addr) (wCOMPONENTS : Addr) (wELEMENTS : Addr) (wCHOICE : Addr) (wELEMENT : Addr) (cs : Int32) (wD : Addr) (kD : ClassId) (wC : Addr) (clC : Cell) (h0 : Heap) (n0 : Nat) (v : Option Value) (h : Heap) (L : List Loc) : Prop := ∃ (q : Addr) (kq : ClassId), v = some (.ref q) ∧ Fr n0 L ∧ Keep h0 h [r0] ∧ h0.size ≤ q ∧ Ovr Z kq "java/lang/Object" ∧ Arv Z h q kq (.object "java/lang/Object") (10 : Int32) [.null, .null, .null, .null, .null, .null, .null, .null, .null, .null] .null ∧ Exa Z h r0 "java/util/ArrayList" ∧ Fld Z h r0 "java/util/AbstractList" "modCount" "I" (.int mc) ∧ Fld Z h r0 "java/util/ArrayList" "elementData" "[Ljava/lang/Object;" (.ref q) ∧ Fld Z h r0 "java/util/ArrayList" "size" "I" (.int (0 : Int32))
abbrev own_KG1 (Z : State) (r0 : Addr) (mc : Int32) (wBOOLEAN : Addr) (wINTEGER : Addr) (wBITS : Addr) (wOCTETS : Addr) (wNULL : Addr) (wOBJECT_IDENTIFIER : Addr) (wTEXT : Addr) (wCOMPONENTS : Addr) (wELEMENTS : Addr) (wCHOICE : Addr) (wELEMENT : Addr) (cs : Int32) (wD : Addr) (kD : ClassId) (wC : Addr) (clC : Cell) (h0 : Heap) (n0 : Nat) (s : State) : Outcome → State → Prop := fun o U' => ∃ v L, o = .returned v ∧ QG1 Z r0 mc wBOOLEAN wINTEGER wBITS wOCTETS wNULL wOBJECT_IDENTIFIER wTEXT wCOMPONENTS wELEMENTS wCHOICE wELEMENT cs wD kD wC clC h0 n0 v U'.heap L ∧ FrameEnd s o U' L ({ frames := 1, cells := 1, slots := 10, locals := 14 } : Room).cells ({ frames := 1, cells := 1, slots := 10, locals := 14 } : Room).slots
set_option maxRecDepth 65536 in
set_option maxHeartbeats 40000000 in
theorem rmG1 (l : Launch) (Z : State) (a0 : Array Value) (hw : ∀ d ∈ tables_1, d.before a0 Z = true) (ws : List Jvm.Cond) (r0 : Addr) (mc : Int32) (wBOOLEAN : Addr) (wINTEGER : Addr) (wBITS : Addr) (wOCTETS : Addr) (wNULL : Addr) (wOBJECT_IDENTIFIER : Addr) (wTEXT : Addr) (wCOMPONENTS : Addr) (wELEMENTS : Addr) (wCHOICE : Addr) (wELEMENT : Addr) (cs : Int32) (wD : Addr) (kD : ClassId) (wC : Addr) (clC : Cell) (h0 : Heap) (n0 : Nat) (Z0 : n0 ≤ h0.size) (O0 : Old Z n0 h0) (HW : own_Wd Z wBOOLEAN wINTEGER wBITS wOCTETS wNULL wOBJECT_IDENTIFIER wTEXT wCOMPONENTS wELEMENTS wCHOICE wELEMENT cs wD kD wC clC) (E0 : Exa Z h0 r0 "java/util/ArrayList") (g_r0 : n0 ≤ r0) (F_modCount : Fld Z h0 r0 "java/util/AbstractList" "modCount" "I" (.int mc)) (F_elementData : Fld Z h0 r0 "java/util/ArrayList" "elementData" "[Ljava/lang/Object;" (.ref wD)) (F_size : Fld Z h0 r0 "java/util/ArrayList" "size" "I" (.int (0 : Int32))) :
    MetFree l (⟨"java/util/ArrayList", "grow", "(I)[Ljava/lang/Object;"⟩ : MethodName) (head1 (Jvm.Cond.code (⟨"java/util/ArrayList", "grow", "(I)[Ljava/lang/Object;"⟩ : MethodName) jdk_38_method_6_code 4 (some (.array (.object "java/lang/Object"))) :: ws) ({ frames := 1, cells := 1, slots := 10, locals := 14 } : Room)) (fun a U => a = #[(.ref r0), (.int (1 : Int32))] ∧ Z.Warmed39 U.vm ∧ U.heap = h0) (fun _ _ _ _ _ => True) (fun _ U o U' => ∃ v L, o = .returned v ∧ QG1 Z r0 mc wBOOLEAN wINTEGER wBITS wOCTETS wNULL wOBJECT_IDENTIFIER wTEXT wCOMPONENTS wELEMENTS wCHOICE wELEMENT cs wD kD wC clC h0 n0 v U'.heap L ∧ FrameEnd U o U' L ({ frames := 1, cells := 1, slots := 10, locals := 14 } : Room).cells ({ frames := 1, cells := 1, slots := 10, locals := 14 } : Room).slots) := by
  refine MetFree.of_bodySF (plainFor_of_name pn_java_util_ArrayList) hisR ?_
  intro p e s m args below meth c s₁ Bd hml0 hP hK
  obtain ⟨rfl, hZ, hh⟩ := hP
  have hx := Bd.exec
  have hby := Bd.bytes
  have hml : c.maxLocals = 4 := hml0
  have hown : s.vm.findClass "java/util/ArrayList" = some m.cls := findClass_of_methodNamed Bd.named
  have hnm := (name_of_methodNamed Bd.named Bd.method).1
  have X0 : Stand p l e ({ frames := 1, cells := 1, slots := 10, locals := 14 } : Room) s m #[(.ref r0), (.int (1 : Int32))] below meth c s₁ [] 0 0 := Stand.of_body Bd
  have e0 : s₁.heap = h0 := by rw [← hh, Bd.state]; rfl
  have N0 := Fr.nil n0
  refine own_by (p := p) (e := e) (below := below) (K := own_KG1 Z r0 mc wBOOLEAN wINTEGER wBITS wOCTETS wNULL wOBJECT_IDENTIFIER wTEXT wCOMPONENTS wELEMENTS wCHOICE wELEMENT cs wD kD wC clC h0 n0 s) (W' := s₁.setTop (mkF m 0 #[.val (.ref r0), .val (.int (1 : Int32)), .unset, .unset] [])) (fun t k => castTop (efG1 m r0) k) ?_
  obtain ⟨T21, X21, e21, st21⟩ := getF X0 hx hZ hown (host := "") (Or.inl (own_w hw 60)) Via.refl e0 F_elementData (g := (mkF m 1 #[.val (.ref r0), .val (.int (1 : Int32)), .unset, .unset] [(.ref r0)])) rfl rfl (hb hby djdk_38_6_1)
  obtain ⟨clu22, Aru22, qu22, Su22, Ngu22, Hau22, Gau22⟩ := id (HW.2.2.2.2.2.2.2.2.2.2.2.2.2.2.2.2.2.2.2.2.2.2.2.2.2.2.2.2.2.2.2.2.2.2.2.2.2.1.ext O0.2)
  refine own_by (W' := (T21.setTop (mkF m 5 #[.val (.ref r0), .val (.int (1 : Int32)), .unset, .unset] [(.int clu22.slots.size.toInt32)]))) (fun t k => XS.aloadN X0.here hx rfl (hb hby djdk_38_6_0) rfl rfl (st21 _ ((X21.arraylength hx (by rw [e21]; exact Aru22.1) (State.isArrayOf_alike hZ.alike Aru22.2.1) (g := (mkF m 4 #[.val (.ref r0), .val (.int (1 : Int32)), .unset, .unset] [(.ref wD)])) rfl rfl (hb hby djdk_38_6_4)) _ k))) ?_
  rw [len_of Su22 Ngu22]
  obtain ⟨T23, X23, e23, st23⟩ := getF X21 hx hZ hown (host := "") (Or.inl (own_w hw 60)) Via.refl e21 F_elementData (g := (mkF m 11 #[.val (.ref r0), .val (.int (1 : Int32)), .val (.int (0 : Int32)), .unset] [(.ref r0)])) rfl rfl (hb hby djdk_38_6_11)
  obtain ⟨T24, X24, e24, st24⟩ := getS (host := "") X23 hx hZ hown (own_w hw 59) Via.refl e23 (HW.2.2.2.2.2.2.2.2.2.2.2.2.2.2.2.2.2.2.2.2.2.2.2.2.2.2.2.2.2.2.2.2.2.2.2.1.ext O0.2) (g := (mkF m 14 #[.val (.ref r0), .val (.int (1 : Int32)), .val (.int (0 : Int32)), .unset] [(.ref wD)])) rfl (hb hby djdk_38_6_14)
  refine own_by (W' := (T24.setTop (mkF m 17 #[.val (.ref r0), .val (.int (1 : Int32)), .val (.int (0 : Int32)), .unset] [(.ref wD), (.ref wD)]))) (fun t k => XS.istoreN X21.here hx rfl (hb hby djdk_38_6_5) rfl (l' := #[.val (.ref r0), .val (.int (1 : Int32)), .val (.int (0 : Int32)), .unset]) rfl (XS.iloadN X21.here hx rfl (hb hby djdk_38_6_6) rfl (XS.ifNo X21.here hx rfl (hb hby djdk_38_6_7) rfl ((if0 _ _).trans (flt (by decide : ¬ ((0 : Int32) < (0 : Int32)))).2.2.1) (XS.aloadN X21.here hx rfl (hb hby djdk_38_6_10) rfl rfl (st23 _ (st24 _ k)))))) ?_
  obtain ⟨_, _, ⟨T25, L25, k25, n25⟩, -, X25, ⟨Lc25, hQ25, l25, y25, z25⟩, st25⟩ := Jvm.LawKit.callS X24 hx (y := (⟨"java/lang/Math", "max", "(II)I"⟩ : MethodName)) hown (mvT hZ (own_w hw 129)) (mvT hZ (own_w hw 130)) (mvT hZ (own_w hw 131)) (mvT hZ (own_w hw 132)) (by decide) (backOf (W := 1) (rmMX l Z a0 hw []  h0 n0 Z0 ) hZ (own_w hw 132) (own_w hw 131) (by decide) (by decide)) (g := (mkF m 49 #[.val (.ref r0), .val (.int (1 : Int32)), .val (.int (0 : Int32)), .unset] [(.int (1 : Int32)), (.int (10 : Int32)), (.ref r0)])) rfl (by rw [hml]; rfl) (argsL := [(.int (10 : Int32)), (.int (1 : Int32))]) (rest := [(.ref r0)]) (lenOf pd_9 rfl) rfl (by show 2 * 0 + _ ≤ _; exact Nat.le_of_eq rfl) (hb hby djdk_38_6_49) (fun _ _ => ⟨rfl, e24, (by decide : 0 + 0 ≤ _), (by decide : 0 + 0 ≤ _)⟩)
  dsimp only [Pt.U, Pt.locs, Pt.cells, Pt.slots] at X25 l25 y25 z25 st25 hQ25
  subst l25 y25 z25
  obtain ⟨rfl, N25q, e25⟩ := hQ25
  have N25 := Fr.app N0 N25q
  obtain ⟨T26, h26, k26, X26, e26, E26, A26, Ex26, Ov26, st26⟩ := newRE X25 hx hZ hown (own_w hw 133) (own_w hw 134) e25 (g := (mkF m 52 #[.val (.ref r0), .val (.int (1 : Int32)), .val (.int (0 : Int32)), .unset] [(.int (10 : Int32)), (.ref r0)])) rfl (hb hby djdk_38_6_52) rfl (by decide) (cap := 10) (by decide) (by decide) (by decide) (by decide) (ad := "[Ljava/lang/Object;") (by decide)
  obtain ⟨b26, g26⟩ : ∃ z, z = h0.size := ⟨_, rfl⟩
  rw [← g26] at A26 Ex26 st26
  have g_b26 : n0 ≤ b26 := Nat.le_trans (own_le O0) (Nat.le_of_eq g26.symm)
  have sz_b26 : h0.size ≤ b26 := Nat.le_trans (Keep.refl h0 [r0]).1 (Nat.le_of_eq g26.symm)
  have ne_r0_b26 : r0 ≠ b26 := Nat.ne_of_lt (Nat.lt_of_lt_of_le E0.lt (Nat.le_of_eq g26.symm))
  have O26 := O0.ext E26
  have K26 := Keep.ext (Keep.refl h0 [r0]) E26
  have V_b26 : Arv Z h26 b26 k26 (.object "java/lang/Object") (10 : Int32) [.null, .null, .null, .null, .null, .null, .null, .null, .null, .null] .null := (Arv.new A26 (by decide)).pad (pad_rep [] .null 10)
  refine own_by (W' := (T26.setTop (mkF m 55 #[.val (.ref r0), .val (.int (1 : Int32)), .val (.int (0 : Int32)), .unset] [(.ref b26), (.ref r0)]))) (fun t k => Jvm.RoadKit.acmp (g := (mkF m 17 #[.val (.ref r0), .val (.int (1 : Int32)), .val (.int (0 : Int32)), .unset] [(.ref wD), (.ref wD)])) X24 hx rfl rfl rfl (pc0 := 17) (pc' := 45) (same := true) rfl (hb hby djdk_38_6_17) rfl (decide_eq_true rfl) (by decide) (by decide) (XS.aloadN X24.here hx rfl (hb hby djdk_38_6_45) rfl rfl (XS.bipush X24.here hx rfl (hb hby djdk_38_6_46) (XS.iloadN X24.here hx rfl (hb hby djdk_38_6_48) rfl (st25 _ (st26 _ k)))))) ?_
  obtain ⟨T27, h27, X27, e27, W27, st27⟩ := putF X26 hx hZ hown (host := "") (Or.inl (own_w hw 60)) Via.refl e26 (F_elementData.ext E26) (E0.ext E26) (Or.inl (own_w hw 61)) (own_w hw 37) (ty := (.array (.object "java/lang/Object"))) (by decide) rfl rfl (g := (mkF m 56 #[.val (.ref r0), .val (.int (1 : Int32)), .val (.int (0 : Int32)), .unset] [(.ref b26), (.ref r0), (.ref b26)])) rfl rfl (hb hby djdk_38_6_56)
  have Fw27 := (F_elementData.ext E26).same W27
  have O27 := Old.wr O26 W27 g_r0
  have N27 := Fr.snoc X27 N25 g_r0
  have K27 := Keep.wr K26 W27 (Or.inl (List.mem_of_getElem? (i := 0) rfl))
  obtain ⟨fs, hr, hrun, hended, hW, hsame⟩ := X27.leave (v := some (.ref b26)) (fun h => by rw [Bd.returns] at h; cases h)
  refine own_by (W' := (T27.setTop (mkF m 59 #[.val (.ref r0), .val (.int (1 : Int32)), .val (.int (0 : Int32)), .unset] [(.ref b26)]))) (fun t k => XS.dupX1 X26.here hx rfl (hb hby djdk_38_6_55) rfl rfl rfl (st27 _ k)) ?_
  refine ⟨_, _, retOut X27 hx Bd.returns rfl (Or.inr (Or.inr (Or.inr (Or.inr ⟨rfl, rfl, rfl⟩)))) (hb hby djdk_38_6_59) hr, hrun, hended, _, _, rfl, ?_, ⟨_, rfl⟩, hW, hsame.mono (by decide) (by decide)⟩
  show QG1 Z r0 mc wBOOLEAN wINTEGER wBITS wOCTETS wNULL wOBJECT_IDENTIFIER wTEXT wCOMPONENTS wELEMENTS wCHOICE wELEMENT cs wD kD wC clC h0 n0 _ T27.heap _
  rw [e27]
  exact ⟨_, _, rfl, N27, K27, sz_b26, Ov26, (V_b26.other W27 ne_r0_b26.symm), ((E0.ext E26).wr W27), ((F_modCount.ext E26).other W27 (Or.inr (slot_ne (Or.inl (own_w hw 58)) (Or.inl (own_w hw 61)) (by decide) (t := .int) (t' := (.array (.object "java/lang/Object"))) (by decide) (by decide)))), Fw27, ((F_size.ext E26).other W27 (Or.inr (slot_ne (Or.inl (own_w hw 87)) (Or.inl (own_w hw 61)) (by decide) (t := .int) (t' := (.array (.object "java/lang/Object"))) (by decide) (by decide))))⟩
theorem pd_15 : parseMethodDescriptor "(I)[Ljava/lang/Object;" = some ⟨[.int], some (.array (.object "java/lang/Object"))⟩ := by decide +kernel
theorem djdk_38_7_0 : decode jdk_38_method_7_code 0 = .ok (.aload_n 0, 1) := by decide +kernel
theorem djdk_38_7_1 : decode jdk_38_method_7_code 1 = .ok (.aload_n 0, 1) := by decide +kernel
theorem djdk_38_7_2 : decode jdk_38_method_7_code 2 = .ok (.getfield 48, 3) := by decide +kernel
theorem djdk_38_7_5 : decode jdk_38_method_7_code 5 = .ok (.iconst 1, 1) := by decide +kernel
theorem djdk_38_7_6 : decode jdk_38_method_7_code 6 = .ok (.iadd, 1) := by decide +kernel
theorem djdk_38_7_7 : decode jdk_38_method_7_code 7 = .ok (.invokevirtual 69, 3) := by decide +kernel
theorem djdk_38_7_10 : decode jdk_38_method_7_code 10 = .ok (.areturn, 1) := by decide +kernel
theorem efG0 (m : MethodId) (r0 : Addr) : entryFrame m #[(.ref r0)] 1 = mkF m 0 #[.val (.ref r0)] [] := by first | (simp [entryFrame, mkF, argsToLocals, Value.category]; done) | rfl
def QG0 (Z : State) (r0 : Addr) (mc : Int32) (wBOOLEAN : Addr) (wINTEGER : Addr) (wBITS : Addr) (wOCTETS : Addr) (wNULL : Addr) (wOBJECT_IDENTIFIER : Addr) (wTEXT : Addr) (wCOMPONENTS : Addr) (wELEMENTS : Addr) (wCHOICE : Addr) (wELEMENT : Addr) (cs : Int32) (wD : Addr) (kD : ClassId) (wC : Addr) (clC : Cell) (h0 : Heap) (n0 : Nat) (v : Option Value) (h : Heap) (L : List Loc) : Prop := ∃ (q : Addr) (kq : ClassId), v = some (.ref q) ∧ Fr n0 L ∧ Keep h0 h [r0] ∧ h0.size ≤ q ∧ Ovr Z kq "java/lang/Object" ∧ Arv Z h q kq (.object "java/lang/Object") (10 : Int32) [.null, .null, .null, .null, .null, .null, .null, .null, .null, .null] .null ∧ Exa Z h r0 "java/util/ArrayList" ∧ Fld Z h r0 "java/util/AbstractList" "modCount" "I" (.int mc) ∧ Fld Z h r0 "java/util/ArrayList" "elementData" "[Ljava/lang/Object;" (.ref q) ∧ Fld Z h r0 "java/util/ArrayList" "size" "I" (.int (0 : Int32))
abbrev own_KG0 (Z : State) (r0 : Addr) (mc : Int32) (wBOOLEAN : Addr) (wINTEGER : Addr) (wBITS : Addr) (wOCTETS : Addr) (wNULL : Addr) (wOBJECT_IDENTIFIER : Addr) (wTEXT : Addr) (wCOMPONENTS : Addr) (wELEMENTS : Addr) (wCHOICE : Addr) (wELEMENT : Addr) (cs : Int32) (wD : Addr) (kD : ClassId) (wC : Addr) (clC : Cell) (h0 : Heap) (n0 : Nat) (s : State) : Outcome → State → Prop := fun o U' => ∃ v L, o = .returned v ∧ QG0 Z r0 mc wBOOLEAN wINTEGER wBITS wOCTETS wNULL wOBJECT_IDENTIFIER wTEXT wCOMPONENTS wELEMENTS wCHOICE wELEMENT cs wD kD wC clC h0 n0 v U'.heap L ∧ FrameEnd s o U' L ({ frames := 2, cells := 1, slots := 10, locals := 29 } : Room).cells ({ frames := 2, cells := 1, slots := 10, locals := 29 } : Room).slots
set_option maxRecDepth 65536 in
set_option maxHeartbeats 40000000 in
theorem rmG0 (l : Launch) (Z : State) (a0 : Array Value) (hw : ∀ d ∈ tables_1, d.before a0 Z = true) (ws : List Jvm.Cond) (r0 : Addr) (mc : Int32) (wBOOLEAN : Addr) (wINTEGER : Addr) (wBITS : Addr) (wOCTETS : Addr) (wNULL : Addr) (wOBJECT_IDENTIFIER : Addr) (wTEXT : Addr) (wCOMPONENTS : Addr) (wELEMENTS : Addr) (wCHOICE : Addr) (wELEMENT : Addr) (cs : Int32) (wD : Addr) (kD : ClassId) (wC : Addr) (clC : Cell) (h0 : Heap) (n0 : Nat) (Z0 : n0 ≤ h0.size) (O0 : Old Z n0 h0) (HW : own_Wd Z wBOOLEAN wINTEGER wBITS wOCTETS wNULL wOBJECT_IDENTIFIER wTEXT wCOMPONENTS wELEMENTS wCHOICE wELEMENT cs wD kD wC clC) (E0 : Exa Z h0 r0 "java/util/ArrayList") (g_r0 : n0 ≤ r0) (F_modCount : Fld Z h0 r0 "java/util/AbstractList" "modCount" "I" (.int mc)) (F_elementData : Fld Z h0 r0 "java/util/ArrayList" "elementData" "[Ljava/lang/Object;" (.ref wD)) (F_size : Fld Z h0 r0 "java/util/ArrayList" "size" "I" (.int (0 : Int32))) :
    MetFree l (⟨"java/util/ArrayList", "grow", "()[Ljava/lang/Object;"⟩ : MethodName) (head1 (Jvm.Cond.code (⟨"java/util/ArrayList", "grow", "()[Ljava/lang/Object;"⟩ : MethodName) jdk_38_method_7_code 1 (some (.array (.object "java/lang/Object"))) :: ws) ({ frames := 2, cells := 1, slots := 10, locals := 29 } : Room)) (fun a U => a = #[(.ref r0)] ∧ Z.Warmed39 U.vm ∧ U.heap = h0) (fun _ _ _ _ _ => True) (fun _ U o U' => ∃ v L, o = .returned v ∧ QG0 Z r0 mc wBOOLEAN wINTEGER wBITS wOCTETS wNULL wOBJECT_IDENTIFIER wTEXT wCOMPONENTS wELEMENTS wCHOICE wELEMENT cs wD kD wC clC h0 n0 v U'.heap L ∧ FrameEnd U o U' L ({ frames := 2, cells := 1, slots := 10, locals := 29 } : Room).cells ({ frames := 2, cells := 1, slots := 10, locals := 29 } : Room).slots) := by
  refine MetFree.of_bodySF (plainFor_of_name pn_java_util_ArrayList) hisR ?_
  intro p e s m args below meth c s₁ Bd hml0 hP hK
  obtain ⟨rfl, hZ, hh⟩ := hP
  have hx := Bd.exec
  have hby := Bd.bytes
  have hml : c.maxLocals = 1 := hml0
  have hown : s.vm.findClass "java/util/ArrayList" = some m.cls := findClass_of_methodNamed Bd.named
  have hnm := (name_of_methodNamed Bd.named Bd.method).1
  have X0 : Stand p l e ({ frames := 2, cells := 1, slots := 10, locals := 29 } : Room) s m #[(.ref r0)] below meth c s₁ [] 0 0 := Stand.of_body Bd
  have e0 : s₁.heap = h0 := by rw [← hh, Bd.state]; rfl
  have N0 := Fr.nil n0
  refine own_by (p := p) (e := e) (below := below) (K := own_KG0 Z r0 mc wBOOLEAN wINTEGER wBITS wOCTETS wNULL wOBJECT_IDENTIFIER wTEXT wCOMPONENTS wELEMENTS wCHOICE wELEMENT cs wD kD wC clC h0 n0 s) (W' := s₁.setTop (mkF m 0 #[.val (.ref r0)] [])) (fun t k => castTop (efG0 m r0) k) ?_
  obtain ⟨T21, X21, e21, st21⟩ := getF X0 hx hZ hown (host := "") (Or.inl (own_w hw 86)) Via.refl e0 F_size (g := (mkF m 2 #[.val (.ref r0)] [(.ref r0), (.ref r0)])) rfl rfl (hb hby djdk_38_7_2)
  obtain ⟨cq22, q22a, q22b⟩ := E0.cell
  obtain ⟨_, _, ⟨T22, L22, k22, n22⟩, -, X22, ⟨Lc22, hQ22, l22, y22, z22⟩, st22⟩ := X21.privateBack hx (y := (⟨"java/util/ArrayList", "grow", "(I)[Ljava/lang/Object;"⟩ : MethodName)) hown (mvT hZ (own_w hw 124)) (mvT hZ (own_w hw 125)) (mvT hZ (own_w hw 127)) (Cond.privateMethod_at (mvP hZ (own_w hw 126) (args := #[]))) (mvT hZ (own_w hw 128)) (by decide) (backOf (W := 0) (rmG1 l Z a0 hw [] r0 mc wBOOLEAN wINTEGER wBITS wOCTETS wNULL wOBJECT_IDENTIFIER wTEXT wCOMPONENTS wELEMENTS wCHOICE wELEMENT cs wD kD wC clC h0 n0 Z0 O0 HW E0 g_r0 F_modCount F_elementData F_size) hZ (own_w hw 128) (own_w hw 38) (by decide) (by decide)) (g := (mkF m 7 #[.val (.ref r0)] [(.int (1 : Int32)), (.ref r0)])) rfl (by rw [hml]; rfl) (Steps.refl _) (a := r0) (by rw [e21]; exact q22a) q22b (argsL := [(.int (1 : Int32))]) (rest := []) (lenOf pd_15 rfl) rfl (by show 2 * 0 + _ ≤ _; exact Nat.le_of_eq rfl) (hb hby djdk_38_7_7) (fun _ _ => ⟨rfl, e21, (by decide : 0 + 1 ≤ _), (by decide : 0 + 10 ≤ _)⟩)
  dsimp only [Pt.U, Pt.locs, Pt.cells, Pt.slots] at X22 l22 y22 z22 st22 hQ22
  subst l22 y22 z22
  obtain ⟨fb22, kb22, rfl, N22q, Kq22, hsz22, Ov22, Vq22, Eq22, Fq22_modCount, Fq22_elementData, Fq22_size⟩ := hQ22
  have ne_r0_fb22 : r0 ≠ fb22 := Nat.ne_of_lt (Nat.lt_of_lt_of_le E0.lt hsz22)
  have g_fb22 : n0 ≤ fb22 := Nat.le_trans (own_le O0) hsz22
  have sz_fb22 : h0.size ≤ fb22 := Nat.le_trans (Keep.refl h0 [r0]).1 hsz22
  have O22 := Old.keep O0 Kq22 (allS g_r0 all0)
  have K22 := Keep.trans (Keep.refl h0 [r0]) Kq22 (allS (Or.inl (List.mem_of_getElem? (i := 0) rfl)) all0)
  have N22 := Fr.app N0 N22q
  refine own_by (W' := (T22.setTop (mkF m 10 #[.val (.ref r0)] [(.ref fb22)]))) (fun t k => XS.aloadN X0.here hx rfl (hb hby djdk_38_7_0) rfl rfl (XS.aloadN X0.here hx rfl (hb hby djdk_38_7_1) rfl rfl (st21 _ (XS.iconst X21.here hx rfl (hb hby djdk_38_7_5) (XS.iadd X21.here hx rfl (hb hby djdk_38_7_6) rfl (Steps.trans st22 k)))))) ?_
  obtain ⟨fs, hr, hrun, hended, hW, hsame⟩ := X22.leave (v := some (.ref fb22)) (fun h => by rw [Bd.returns] at h; cases h)
  refine ⟨_, _, retOut X22 hx Bd.returns rfl (Or.inr (Or.inr (Or.inr (Or.inr ⟨rfl, rfl, rfl⟩)))) (hb hby djdk_38_7_10) hr, hrun, hended, _, _, rfl, ?_, ⟨_, rfl⟩, hW, hsame.mono (by decide) (by decide)⟩
  show QG0 Z r0 mc wBOOLEAN wINTEGER wBITS wOCTETS wNULL wOBJECT_IDENTIFIER wTEXT wCOMPONENTS wELEMENTS wCHOICE wELEMENT cs wD kD wC clC h0 n0 _ T22.heap _
  exact ⟨_, _, rfl, N22, K22, sz_fb22, Ov22, Vq22, Eq22, Fq22_modCount, Fq22_elementData, Fq22_size⟩
theorem pd_16 : parseMethodDescriptor "()[Ljava/lang/Object;" = some ⟨[], some (.array (.object "java/lang/Object"))⟩ := by decide +kernel
theorem djdk_38_24_0 : decode jdk_38_method_24_code 0 = .ok (.iload_n 3, 1) := by decide +kernel
theorem djdk_38_24_1 : decode jdk_38_method_24_code 1 = .ok (.aload_n 2, 1) := by decide +kernel
theorem djdk_38_24_2 : decode jdk_38_method_24_code 2 = .ok (.arraylength, 1) := by decide +kernel
theorem djdk_38_24_3 : decode jdk_38_method_24_code 3 = .ok (.if_icmp .ne 8, 3) := by decide +kernel
theorem djdk_38_24_6 : decode jdk_38_method_24_code 6 = .ok (.aload_n 0, 1) := by decide +kernel
theorem djdk_38_24_7 : decode jdk_38_method_24_code 7 = .ok (.invokevirtual 129, 3) := by decide +kernel
theorem djdk_38_24_10 : decode jdk_38_method_24_code 10 = .ok (.astore_n 2, 1) := by decide +kernel
theorem djdk_38_24_11 : decode jdk_38_method_24_code 11 = .ok (.aload_n 2, 1) := by decide +kernel
theorem djdk_38_24_12 : decode jdk_38_method_24_code 12 = .ok (.iload_n 3, 1) := by decide +kernel
theorem djdk_38_24_13 : decode jdk_38_method_24_code 13 = .ok (.aload_n 1, 1) := by decide +kernel
theorem djdk_38_24_14 : decode jdk_38_method_24_code 14 = .ok (.aastore, 1) := by decide +kernel
theorem djdk_38_24_15 : decode jdk_38_method_24_code 15 = .ok (.aload_n 0, 1) := by decide +kernel
theorem djdk_38_24_16 : decode jdk_38_method_24_code 16 = .ok (.iload_n 3, 1) := by decide +kernel
theorem djdk_38_24_17 : decode jdk_38_method_24_code 17 = .ok (.iconst 1, 1) := by decide +kernel
theorem djdk_38_24_18 : decode jdk_38_method_24_code 18 = .ok (.iadd, 1) := by decide +kernel
theorem djdk_38_24_19 : decode jdk_38_method_24_code 19 = .ok (.putfield 48, 3) := by decide +kernel
theorem djdk_38_24_22 : decode jdk_38_method_24_code 22 = .ok (.return_, 1) := by decide +kernel
theorem efA30 (m : MethodId) (r0 : Addr) (r1 : Addr) (wD : Addr) : entryFrame m #[(.ref r0), (.ref r1), (.ref wD), (.int (0 : Int32))] 4 = mkF m 0 #[.val (.ref r0), .val (.ref r1), .val (.ref wD), .val (.int (0 : Int32))] [] := by first | (simp [entryFrame, mkF, argsToLocals, Value.category]; done) | rfl
def QA30 (Z : State) (r0 : Addr) (r1 : Addr) (mc : Int32) (wBOOLEAN : Addr) (wINTEGER : Addr) (wBITS : Addr) (wOCTETS : Addr) (wNULL : Addr) (wOBJECT_IDENTIFIER : Addr) (wTEXT : Addr) (wCOMPONENTS : Addr) (wELEMENTS : Addr) (wCHOICE : Addr) (wELEMENT : Addr) (cs : Int32) (wD : Addr) (kD : ClassId) (wC : Addr) (clC : Cell) (h0 : Heap) (n0 : Nat) (v : Option Value) (h : Heap) (L : List Loc) : Prop := ∃ (q : Addr) (kq : ClassId), v = none ∧ Fr n0 L ∧ Keep h0 h [r0] ∧ h0.size ≤ q ∧ Ovr Z kq "java/lang/Object" ∧ Arv Z h q kq (.object "java/lang/Object") (10 : Int32) [(.ref r1), .null, .null, .null, .null, .null, .null, .null, .null, .null] .null ∧ Exa Z h r0 "java/util/ArrayList" ∧ Fld Z h r0 "java/util/AbstractList" "modCount" "I" (.int mc) ∧ Fld Z h r0 "java/util/ArrayList" "elementData" "[Ljava/lang/Object;" (.ref q) ∧ Fld Z h r0 "java/util/ArrayList" "size" "I" (.int (1 : Int32))
abbrev own_KA30 (Z : State) (r0 : Addr) (r1 : Addr) (mc : Int32) (wBOOLEAN : Addr) (wINTEGER : Addr) (wBITS : Addr) (wOCTETS : Addr) (wNULL : Addr) (wOBJECT_IDENTIFIER : Addr) (wTEXT : Addr) (wCOMPONENTS : Addr) (wELEMENTS : Addr) (wCHOICE : Addr) (wELEMENT : Addr) (cs : Int32) (wD : Addr) (kD : ClassId) (wC : Addr) (clC : Cell) (h0 : Heap) (n0 : Nat) (s : State) : Outcome → State → Prop := fun o U' => ∃ v L, o = .returned v ∧ QA30 Z r0 r1 mc wBOOLEAN wINTEGER wBITS wOCTETS wNULL wOBJECT_IDENTIFIER wTEXT wCOMPONENTS wELEMENTS wCHOICE wELEMENT cs wD kD wC clC h0 n0 v U'.heap L ∧ FrameEnd s o U' L ({ frames := 3, cells := 1, slots := 10, locals := 41 } : Room).cells ({ frames := 3, cells := 1, slots := 10, locals := 41 } : Room).slots
set_option maxRecDepth 65536 in
set_option maxHeartbeats 40000000 in
theorem rmA30 (l : Launch) (Z : State) (a0 : Array Value) (hw : ∀ d ∈ tables_1, d.before a0 Z = true) (ws : List Jvm.Cond) (r0 : Addr) (r1 : Addr) (mc : Int32) (wBOOLEAN : Addr) (wINTEGER : Addr) (wBITS : Addr) (wOCTETS : Addr) (wNULL : Addr) (wOBJECT_IDENTIFIER : Addr) (wTEXT : Addr) (wCOMPONENTS : Addr) (wELEMENTS : Addr) (wCHOICE : Addr) (wELEMENT : Addr) (cs : Int32) (wD : Addr) (kD : ClassId) (wC : Addr) (clC : Cell) (h0 : Heap) (n0 : Nat) (Z0 : n0 ≤ h0.size) (O0 : Old Z n0 h0) (HW : own_Wd Z wBOOLEAN wINTEGER wBITS wOCTETS wNULL wOBJECT_IDENTIFIER wTEXT wCOMPONENTS wELEMENTS wCHOICE wELEMENT cs wD kD wC clC) (E0 : Exa Z h0 r0 "java/util/ArrayList") (g_r0 : n0 ≤ r0) (F_modCount : Fld Z h0 r0 "java/util/AbstractList" "modCount" "I" (.int mc)) (F_elementData : Fld Z h0 r0 "java/util/ArrayList" "elementData" "[Ljava/lang/Object;" (.ref wD)) (F_size : Fld Z h0 r0 "java/util/ArrayList" "size" "I" (.int (0 : Int32))) (E1 : Exa Z h0 r1 "java/lang/Integer") :
    MetFree l (⟨"java/util/ArrayList", "add", "(Ljava/lang/Object;[Ljava/lang/Object;I)V"⟩ : MethodName) (head1 (Jvm.Cond.code (⟨"java/util/ArrayList", "add", "(Ljava/lang/Object;[Ljava/lang/Object;I)V"⟩ : MethodName) jdk_38_method_24_code 4 none :: ws) ({ frames := 3, cells := 1, slots := 10, locals := 41 } : Room)) (fun a U => a = #[(.ref r0), (.ref r1), (.ref wD), (.int (0 : Int32))] ∧ Z.Warmed39 U.vm ∧ U.heap = h0) (fun _ _ _ _ _ => True) (fun _ U o U' => ∃ v L, o = .returned v ∧ QA30 Z r0 r1 mc wBOOLEAN wINTEGER wBITS wOCTETS wNULL wOBJECT_IDENTIFIER wTEXT wCOMPONENTS wELEMENTS wCHOICE wELEMENT cs wD kD wC clC h0 n0 v U'.heap L ∧ FrameEnd U o U' L ({ frames := 3, cells := 1, slots := 10, locals := 41 } : Room).cells ({ frames := 3, cells := 1, slots := 10, locals := 41 } : Room).slots) := by
  refine MetFree.of_bodySF (plainFor_of_name pn_java_util_ArrayList) hisR ?_
  intro p e s m args below meth c s₁ Bd hml0 hP hK
  obtain ⟨rfl, hZ, hh⟩ := hP
  have hx := Bd.exec
  have hby := Bd.bytes
  have hml : c.maxLocals = 4 := hml0
  have hown : s.vm.findClass "java/util/ArrayList" = some m.cls := findClass_of_methodNamed Bd.named
  have hnm := (name_of_methodNamed Bd.named Bd.method).1
  have X0 : Stand p l e ({ frames := 3, cells := 1, slots := 10, locals := 41 } : Room) s m #[(.ref r0), (.ref r1), (.ref wD), (.int (0 : Int32))] below meth c s₁ [] 0 0 := Stand.of_body Bd
  have e0 : s₁.heap = h0 := by rw [← hh, Bd.state]; rfl
  have N0 := Fr.nil n0
  refine own_by (p := p) (e := e) (below := below) (K := own_KA30 Z r0 r1 mc wBOOLEAN wINTEGER wBITS wOCTETS wNULL wOBJECT_IDENTIFIER wTEXT wCOMPONENTS wELEMENTS wCHOICE wELEMENT cs wD kD wC clC h0 n0 s) (W' := s₁.setTop (mkF m 0 #[.val (.ref r0), .val (.ref r1), .val (.ref wD), .val (.int (0 : Int32))] [])) (fun t k => castTop (efA30 m r0 r1 wD) k) ?_
  obtain ⟨clu21, Aru21, qu21, Su21, Ngu21, Hau21, Gau21⟩ := id (HW.2.2.2.2.2.2.2.2.2.2.2.2.2.2.2.2.2.2.2.2.2.2.2.2.2.2.2.2.2.2.2.2.2.2.2.2.2.1.ext O0.2)
  refine own_by (W' := (s₁.setTop (mkF m 3 #[.val (.ref r0), .val (.ref r1), .val (.ref wD), .val (.int (0 : Int32))] [(.int clu21.slots.size.toInt32), (.int (0 : Int32))]))) (fun t k => XS.iloadN X0.here hx rfl (hb hby djdk_38_24_0) rfl (XS.aloadN X0.here hx rfl (hb hby djdk_38_24_1) rfl rfl ((X0.arraylength hx (by rw [e0]; exact Aru21.1) (State.isArrayOf_alike hZ.alike Aru21.2.1) (g := (mkF m 2 #[.val (.ref r0), .val (.ref r1), .val (.ref wD), .val (.int (0 : Int32))] [(.ref wD), (.int (0 : Int32))])) rfl rfl (hb hby djdk_38_24_2)) _ k))) ?_
  rw [len_of Su21 Ngu21]
  obtain ⟨cq22, q22a, q22b⟩ := E0.cell
  obtain ⟨_, _, ⟨T22, L22, k22, n22⟩, -, X22, ⟨Lc22, hQ22, l22, y22, z22⟩, st22⟩ := X0.privateBack hx (y := (⟨"java/util/ArrayList", "grow", "()[Ljava/lang/Object;"⟩ : MethodName)) hown (mvT hZ (own_w hw 119)) (mvT hZ (own_w hw 120)) (mvT hZ (own_w hw 122)) (Cond.privateMethod_at (mvP hZ (own_w hw 121) (args := #[]))) (mvT hZ (own_w hw 123)) (by decide) (backOf (W := 0) (rmG0 l Z a0 hw [] r0 mc wBOOLEAN wINTEGER wBITS wOCTETS wNULL wOBJECT_IDENTIFIER wTEXT wCOMPONENTS wELEMENTS wCHOICE wELEMENT cs wD kD wC clC h0 n0 Z0 O0 HW E0 g_r0 F_modCount F_elementData F_size) hZ (own_w hw 123) (own_w hw 38) (by decide) (by decide)) (g := (mkF m 7 #[.val (.ref r0), .val (.ref r1), .val (.ref wD), .val (.int (0 : Int32))] [(.ref r0)])) rfl (by rw [hml]; rfl) (Steps.refl _) (a := r0) (by rw [e0]; exact q22a) q22b (argsL := []) (rest := []) (lenOf pd_16 rfl) rfl (by show 2 * 0 + _ ≤ _; exact Nat.le_of_eq rfl) (hb hby djdk_38_24_7) (fun _ _ => ⟨rfl, e0, (by decide : 0 + 1 ≤ _), (by decide : 0 + 10 ≤ _)⟩)
  dsimp only [Pt.U, Pt.locs, Pt.cells, Pt.slots] at X22 l22 y22 z22 st22 hQ22
  subst l22 y22 z22
  obtain ⟨fb22, kb22, rfl, N22q, Kq22, hsz22, Ov22, Vq22, Eq22, Fq22_modCount, Fq22_elementData, Fq22_size⟩ := hQ22
  have ne_r0_fb22 : r0 ≠ fb22 := Nat.ne_of_lt (Nat.lt_of_lt_of_le E0.lt hsz22)
  have ne_r1_fb22 : r1 ≠ fb22 := Nat.ne_of_lt (Nat.lt_of_lt_of_le E1.lt hsz22)
  have g_fb22 : n0 ≤ fb22 := Nat.le_trans (own_le O0) hsz22
  have sz_fb22 : h0.size ≤ fb22 := Nat.le_trans (Keep.refl h0 [r0]).1 hsz22
  have O22 := Old.keep O0 Kq22 (allS g_r0 all0)
  have K22 := Keep.trans (Keep.refl h0 [r0]) Kq22 (allS (Or.inl (List.mem_of_getElem? (i := 0) rfl)) all0)
  have N22 := Fr.app N0 N22q
  refine own_by (W' := (T22.setTop (mkF m 13 #[.val (.ref r0), .val (.ref r1), .val (.ref fb22), .val (.int (0 : Int32))] [(.int (0 : Int32)), (.ref fb22)]))) (fun t k => XS.icmpNo X0.here hx rfl (hb hby djdk_38_24_3) rfl (teq (rfl : (0 : Int32) = (0 : Int32))).2 (XS.aloadN X0.here hx rfl (hb hby djdk_38_24_6) rfl rfl (Steps.trans st22 (XS.astoreN X22.here hx rfl (hb hby djdk_38_24_10) rfl rfl (l' := #[.val (.ref r0), .val (.ref r1), .val (.ref fb22), .val (.int (0 : Int32))]) rfl (XS.aloadN X22.here hx rfl (hb hby djdk_38_24_11) rfl rfl (XS.iloadN X22.here hx rfl (hb hby djdk_38_24_12) rfl k)))))) ?_
  obtain ⟨clu23, Aru23, qu23, Su23, Ngu23, Hau23, Gau23⟩ := id Vq22
  have hinu23 : ¬ ((0 : Int32) < 0 ∨ clu23.slots.size ≤ ((0 : Int32)).toNatClampNeg) := inb_of Su23 ⟨by decide, by decide⟩
  obtain ⟨T24, h24, X24, e24, W24, st24⟩ := stR X22 hx hZ rfl Aru23 (j := (0 : Int32)) hinu23 rfl (Sto.ofV Aru23 qu23 Ov22 (Ins.of_exa (E1.keep Kq22) (own_w hw 135))) (g := (mkF m 14 #[.val (.ref r0), .val (.ref r1), .val (.ref fb22), .val (.int (0 : Int32))] [(.ref r1), (.int (0 : Int32)), (.ref fb22)])) rfl rfl (hb hby djdk_38_24_14)
  have Vu23 : Arv Z h24 fb22 kb22 (.object "java/lang/Object") (10 : Int32) [(.ref r1), .null, .null, .null, .null, .null, .null, .null, .null, .null] .null := Arv.set Aru23 qu23 Su23 Ngu23 Hau23 Gau23 rfl W24 0 rfl (Nat.le_of_ble_eq_true rfl)
  have O24 := Old.wr O22 W24 g_fb22
  have N24 := Fr.snoc X24 N22 g_fb22
  have K24 := Keep.wr K22 W24 (Or.inr sz_fb22)
  refine own_by (W' := (T24.setTop (mkF m 19 #[.val (.ref r0), .val (.ref r1), .val (.ref fb22), .val (.int (0 : Int32))] [(.int (1 : Int32)), (.ref r0)]))) (fun t k => XS.aloadN X22.here hx rfl (hb hby djdk_38_24_13) rfl rfl (st24 _ (XS.aloadN X24.here hx rfl (hb hby djdk_38_24_15) rfl rfl (XS.iloadN X24.here hx rfl (hb hby djdk_38_24_16) rfl (XS.iconst X24.here hx rfl (hb hby djdk_38_24_17) (XS.iadd X24.here hx rfl (hb hby djdk_38_24_18) rfl k)))))) ?_
  obtain ⟨T25, h25, X25, e25, W25, st25⟩ := putF X24 hx hZ hown (host := "") (Or.inl (own_w hw 86)) Via.refl e24 (Fq22_size.other W24 (Or.inl ne_r0_fb22)) (Eq22.wr W24) (Or.inl (own_w hw 87)) (own_w hw 37) (ty := .int) (by decide) rfl rfl (g := (mkF m 19 #[.val (.ref r0), .val (.ref r1), .val (.ref fb22), .val (.int (0 : Int32))] [(.int (1 : Int32)), (.ref r0)])) rfl rfl (hb hby djdk_38_24_19)
  have Fw25 := (Fq22_size.other W24 (Or.inl ne_r0_fb22)).same W25
  have O25 := Old.wr O24 W25 g_r0
  have N25 := Fr.snoc X25 N24 g_r0
  have K25 := Keep.wr K24 W25 (Or.inl (List.mem_of_getElem? (i := 0) rfl))
  obtain ⟨fs, hr, hrun, hended, hW, hsame⟩ := X25.leave (v := none) (fun _ => rfl)
  refine own_by (W' := (T25.setTop (mkF m 22 #[.val (.ref r0), .val (.ref r1), .val (.ref fb22), .val (.int (0 : Int32))] []))) (fun t k => st25 _ k) ?_
  refine ⟨_, _, X25.returnOut hx Bd.returns (hb hby djdk_38_24_22) hr, hrun, hended, _, _, rfl, ?_, ⟨_, rfl⟩, hW, hsame.mono (by decide) (by decide)⟩
  show QA30 Z r0 r1 mc wBOOLEAN wINTEGER wBITS wOCTETS wNULL wOBJECT_IDENTIFIER wTEXT wCOMPONENTS wELEMENTS wCHOICE wELEMENT cs wD kD wC clC h0 n0 _ T25.heap _
  rw [e25]
  exact ⟨_, _, rfl, N25, K25, sz_fb22, Ov22, (Vu23.other W25 ne_r0_fb22.symm), ((Eq22.wr W24).wr W25), ((Fq22_modCount.other W24 (Or.inl ne_r0_fb22)).other W25 (Or.inr (slot_ne (Or.inl (own_w hw 58)) (Or.inl (own_w hw 87)) (by decide) (t := .int) (t' := .int) (by decide) (by decide)))), ((Fq22_elementData.other W24 (Or.inl ne_r0_fb22)).other W25 (Or.inr (slot_ne (Or.inl (own_w hw 61)) (Or.inl (own_w hw 87)) (by decide) (t := (.array (.object "java/lang/Object"))) (t' := .int) (by decide) (by decide)))), Fw25⟩
theorem pd_17 : parseMethodDescriptor "(Ljava/lang/Object;[Ljava/lang/Object;I)V" = some ⟨[(.object "java/lang/Object"), (.array (.object "java/lang/Object")), .int], none⟩ := by decide +kernel
theorem djdk_38_25_0 : decode jdk_38_method_25_code 0 = .ok (.aload_n 0, 1) := by decide +kernel
theorem djdk_38_25_1 : decode jdk_38_method_25_code 1 = .ok (.dup, 1) := by decide +kernel
theorem djdk_38_25_2 : decode jdk_38_method_25_code 2 = .ok (.getfield 63, 3) := by decide +kernel
theorem djdk_38_25_5 : decode jdk_38_method_25_code 5 = .ok (.iconst 1, 1) := by decide +kernel
theorem djdk_38_25_6 : decode jdk_38_method_25_code 6 = .ok (.iadd, 1) := by decide +kernel
theorem djdk_38_25_7 : decode jdk_38_method_25_code 7 = .ok (.putfield 63, 3) := by decide +kernel
theorem djdk_38_25_10 : decode jdk_38_method_25_code 10 = .ok (.aload_n 0, 1) := by decide +kernel
theorem djdk_38_25_11 : decode jdk_38_method_25_code 11 = .ok (.aload_n 1, 1) := by decide +kernel
theorem djdk_38_25_12 : decode jdk_38_method_25_code 12 = .ok (.aload_n 0, 1) := by decide +kernel
theorem djdk_38_25_13 : decode jdk_38_method_25_code 13 = .ok (.getfield 9, 3) := by decide +kernel
theorem djdk_38_25_16 : decode jdk_38_method_25_code 16 = .ok (.aload_n 0, 1) := by decide +kernel
theorem djdk_38_25_17 : decode jdk_38_method_25_code 17 = .ok (.getfield 48, 3) := by decide +kernel
theorem djdk_38_25_20 : decode jdk_38_method_25_code 20 = .ok (.invokevirtual 131, 3) := by decide +kernel
theorem djdk_38_25_23 : decode jdk_38_method_25_code 23 = .ok (.iconst 1, 1) := by decide +kernel
theorem djdk_38_25_24 : decode jdk_38_method_25_code 24 = .ok (.ireturn, 1) := by decide +kernel
theorem efA10 (m : MethodId) (r0 : Addr) (r1 : Addr) : entryFrame m #[(.ref r0), (.ref r1)] 2 = mkF m 0 #[.val (.ref r0), .val (.ref r1)] [] := by first | (simp [entryFrame, mkF, argsToLocals, Value.category]; done) | rfl
def QA10 (Z : State) (r0 : Addr) (r1 : Addr) (mc : Int32) (wBOOLEAN : Addr) (wINTEGER : Addr) (wBITS : Addr) (wOCTETS : Addr) (wNULL : Addr) (wOBJECT_IDENTIFIER : Addr) (wTEXT : Addr) (wCOMPONENTS : Addr) (wELEMENTS : Addr) (wCHOICE : Addr) (wELEMENT : Addr) (cs : Int32) (wD : Addr) (kD : ClassId) (wC : Addr) (clC : Cell) (h0 : Heap) (n0 : Nat) (v : Option Value) (h : Heap) (L : List Loc) : Prop := ∃ (q : Addr) (kq : ClassId), v = some (.int (1 : Int32)) ∧ Fr n0 L ∧ Keep h0 h [r0] ∧ h0.size ≤ q ∧ Ovr Z kq "java/lang/Object" ∧ Arv Z h q kq (.object "java/lang/Object") (10 : Int32) [(.ref r1), .null, .null, .null, .null, .null, .null, .null, .null, .null] .null ∧ Exa Z h r0 "java/util/ArrayList" ∧ Fld Z h r0 "java/util/AbstractList" "modCount" "I" (.int (mc + (1 : Int32))) ∧ Fld Z h r0 "java/util/ArrayList" "elementData" "[Ljava/lang/Object;" (.ref q) ∧ Fld Z h r0 "java/util/ArrayList" "size" "I" (.int (1 : Int32))
abbrev own_KA10 (Z : State) (r0 : Addr) (r1 : Addr) (mc : Int32) (wBOOLEAN : Addr) (wINTEGER : Addr) (wBITS : Addr) (wOCTETS : Addr) (wNULL : Addr) (wOBJECT_IDENTIFIER : Addr) (wTEXT : Addr) (wCOMPONENTS : Addr) (wELEMENTS : Addr) (wCHOICE : Addr) (wELEMENT : Addr) (cs : Int32) (wD : Addr) (kD : ClassId) (wC : Addr) (clC : Cell) (h0 : Heap) (n0 : Nat) (s : State) : Outcome → State → Prop := fun o U' => ∃ v L, o = .returned v ∧ QA10 Z r0 r1 mc wBOOLEAN wINTEGER wBITS wOCTETS wNULL wOBJECT_IDENTIFIER wTEXT wCOMPONENTS wELEMENTS wCHOICE wELEMENT cs wD kD wC clC h0 n0 v U'.heap L ∧ FrameEnd s o U' L ({ frames := 4, cells := 1, slots := 10, locals := 56 } : Room).cells ({ frames := 4, cells := 1, slots := 10, locals := 56 } : Room).slots
set_option maxRecDepth 65536 in
set_option maxHeartbeats 40000000 in
theorem rmA10 (l : Launch) (Z : State) (a0 : Array Value) (hw : ∀ d ∈ tables_1, d.before a0 Z = true) (ws : List Jvm.Cond) (r0 : Addr) (r1 : Addr) (mc : Int32) (wBOOLEAN : Addr) (wINTEGER : Addr) (wBITS : Addr) (wOCTETS : Addr) (wNULL : Addr) (wOBJECT_IDENTIFIER : Addr) (wTEXT : Addr) (wCOMPONENTS : Addr) (wELEMENTS : Addr) (wCHOICE : Addr) (wELEMENT : Addr) (cs : Int32) (wD : Addr) (kD : ClassId) (wC : Addr) (clC : Cell) (h0 : Heap) (n0 : Nat) (Z0 : n0 ≤ h0.size) (O0 : Old Z n0 h0) (HW : own_Wd Z wBOOLEAN wINTEGER wBITS wOCTETS wNULL wOBJECT_IDENTIFIER wTEXT wCOMPONENTS wELEMENTS wCHOICE wELEMENT cs wD kD wC clC) (E0 : Exa Z h0 r0 "java/util/ArrayList") (g_r0 : n0 ≤ r0) (F_modCount : Fld Z h0 r0 "java/util/AbstractList" "modCount" "I" (.int mc)) (F_elementData : Fld Z h0 r0 "java/util/ArrayList" "elementData" "[Ljava/lang/Object;" (.ref wD)) (F_size : Fld Z h0 r0 "java/util/ArrayList" "size" "I" (.int (0 : Int32))) (E1 : Exa Z h0 r1 "java/lang/Integer") :
    MetFree l (⟨"java/util/ArrayList", "add", "(Ljava/lang/Object;)Z"⟩ : MethodName) (head1 (Jvm.Cond.code (⟨"java/util/ArrayList", "add", "(Ljava/lang/Object;)Z"⟩ : MethodName) jdk_38_method_25_code 2 (some .boolean) :: ws) ({ frames := 4, cells := 1, slots := 10, locals := 56 } : Room)) (fun a U => a = #[(.ref r0), (.ref r1)] ∧ Z.Warmed39 U.vm ∧ U.heap = h0) (fun _ _ _ _ _ => True) (fun _ U o U' => ∃ v L, o = .returned v ∧ QA10 Z r0 r1 mc wBOOLEAN wINTEGER wBITS wOCTETS wNULL wOBJECT_IDENTIFIER wTEXT wCOMPONENTS wELEMENTS wCHOICE wELEMENT cs wD kD wC clC h0 n0 v U'.heap L ∧ FrameEnd U o U' L ({ frames := 4, cells := 1, slots := 10, locals := 56 } : Room).cells ({ frames := 4, cells := 1, slots := 10, locals := 56 } : Room).slots) := by
  refine MetFree.of_bodySF (plainFor_of_name pn_java_util_ArrayList) hisR ?_
  intro p e s m args below meth c s₁ Bd hml0 hP hK
  obtain ⟨rfl, hZ, hh⟩ := hP
  have hx := Bd.exec
  have hby := Bd.bytes
  have hml : c.maxLocals = 2 := hml0
  have hown : s.vm.findClass "java/util/ArrayList" = some m.cls := findClass_of_methodNamed Bd.named
  have hnm := (name_of_methodNamed Bd.named Bd.method).1
  have X0 : Stand p l e ({ frames := 4, cells := 1, slots := 10, locals := 56 } : Room) s m #[(.ref r0), (.ref r1)] below meth c s₁ [] 0 0 := Stand.of_body Bd
  have e0 : s₁.heap = h0 := by rw [← hh, Bd.state]; rfl
  have N0 := Fr.nil n0
  refine own_by (p := p) (e := e) (below := below) (K := own_KA10 Z r0 r1 mc wBOOLEAN wINTEGER wBITS wOCTETS wNULL wOBJECT_IDENTIFIER wTEXT wCOMPONENTS wELEMENTS wCHOICE wELEMENT cs wD kD wC clC h0 n0 s) (W' := s₁.setTop (mkF m 0 #[.val (.ref r0), .val (.ref r1)] [])) (fun t k => castTop (efA10 m r0 r1) k) ?_
  obtain ⟨T21, X21, e21, st21⟩ := getF X0 hx hZ hown (host := "") (Or.inl (own_w hw 112)) (Via.of (own_w hw 113)) e0 F_modCount (g := (mkF m 2 #[.val (.ref r0), .val (.ref r1)] [(.ref r0), (.ref r0)])) rfl rfl (hb hby djdk_38_25_2)
  obtain ⟨T22, h22, X22, e22, W22, st22⟩ := putF X21 hx hZ hown (host := "") (Or.inl (own_w hw 112)) (Via.of (own_w hw 113)) e21 F_modCount E0 (Or.inl (own_w hw 58)) (own_w hw 37) (ty := .int) (by decide) rfl rfl (g := (mkF m 7 #[.val (.ref r0), .val (.ref r1)] [(.int (mc + (1 : Int32))), (.ref r0)])) rfl rfl (hb hby djdk_38_25_7)
  have Fw22 := F_modCount.same W22
  have O22 := Old.wr O0 W22 g_r0
  have N22 := Fr.snoc X22 N0 g_r0
  have K22 := Keep.wr (Keep.refl h0 [r0]) W22 (Or.inl (List.mem_of_getElem? (i := 0) rfl))
  refine own_by (W' := (T22.setTop (mkF m 10 #[.val (.ref r0), .val (.ref r1)] []))) (fun t k => XS.aloadN X0.here hx rfl (hb hby djdk_38_25_0) rfl rfl (XS.dup X0.here hx rfl (hb hby djdk_38_25_1) rfl rfl (st21 _ (XS.iconst X21.here hx rfl (hb hby djdk_38_25_5) (XS.iadd X21.here hx rfl (hb hby djdk_38_25_6) rfl (st22 _ k)))))) ?_
  obtain ⟨T23, X23, e23, st23⟩ := getF X22 hx hZ hown (host := "") (Or.inl (own_w hw 60)) Via.refl e22 (F_elementData.other W22 (Or.inr (slot_ne (Or.inl (own_w hw 61)) (Or.inl (own_w hw 58)) (by decide) (t := (.array (.object "java/lang/Object"))) (t' := .int) (by decide) (by decide)))) (g := (mkF m 13 #[.val (.ref r0), .val (.ref r1)] [(.ref r0), (.ref r1), (.ref r0)])) rfl rfl (hb hby djdk_38_25_13)
  obtain ⟨T24, X24, e24, st24⟩ := getF X23 hx hZ hown (host := "") (Or.inl (own_w hw 86)) Via.refl e23 (F_size.other W22 (Or.inr (slot_ne (Or.inl (own_w hw 87)) (Or.inl (own_w hw 58)) (by decide) (t := .int) (t' := .int) (by decide) (by decide)))) (g := (mkF m 17 #[.val (.ref r0), .val (.ref r1)] [(.ref r0), (.ref wD), (.ref r1), (.ref r0)])) rfl rfl (hb hby djdk_38_25_17)
  refine own_by (W' := (T24.setTop (mkF m 20 #[.val (.ref r0), .val (.ref r1)] [(.int (0 : Int32)), (.ref wD), (.ref r1), (.ref r0)]))) (fun t k => XS.aloadN X22.here hx rfl (hb hby djdk_38_25_10) rfl rfl (XS.aloadN X22.here hx rfl (hb hby djdk_38_25_11) rfl rfl (XS.aloadN X22.here hx rfl (hb hby djdk_38_25_12) rfl rfl (st23 _ (XS.aloadN X23.here hx rfl (hb hby djdk_38_25_16) rfl rfl (st24 _ k)))))) ?_
  obtain ⟨cq25, q25a, q25b⟩ := (E0.wr W22).cell
  obtain ⟨_, _, ⟨T25, L25, k25, n25⟩, -, X25, ⟨Lc25, hQ25, l25, y25, z25⟩, st25⟩ := X24.privateBack hx (y := (⟨"java/util/ArrayList", "add", "(Ljava/lang/Object;[Ljava/lang/Object;I)V"⟩ : MethodName)) hown (mvT hZ (own_w hw 114)) (mvT hZ (own_w hw 115)) (mvT hZ (own_w hw 117)) (Cond.privateMethod_at (mvP hZ (own_w hw 116) (args := #[]))) (mvT hZ (own_w hw 118)) (by decide) (backOf (W := 0) (rmA30 l Z a0 hw [] r0 r1 (mc + (1 : Int32)) wBOOLEAN wINTEGER wBITS wOCTETS wNULL wOBJECT_IDENTIFIER wTEXT wCOMPONENTS wELEMENTS wCHOICE wELEMENT cs wD kD wC clC h22 n0 (own_le O22) O22 HW (E0.wr W22) g_r0 Fw22 (F_elementData.other W22 (Or.inr (slot_ne (Or.inl (own_w hw 61)) (Or.inl (own_w hw 58)) (by decide) (t := (.array (.object "java/lang/Object"))) (t' := .int) (by decide) (by decide)))) (F_size.other W22 (Or.inr (slot_ne (Or.inl (own_w hw 87)) (Or.inl (own_w hw 58)) (by decide) (t := .int) (t' := .int) (by decide) (by decide)))) (E1.wr W22)) hZ (own_w hw 118) (own_w hw 38) (by decide) (by decide)) (g := (mkF m 20 #[.val (.ref r0), .val (.ref r1)] [(.int (0 : Int32)), (.ref wD), (.ref r1), (.ref r0)])) rfl (by rw [hml]; rfl) (Steps.refl _) (a := r0) (by rw [e24]; exact q25a) q25b (argsL := [(.ref r1), (.ref wD), (.int (0 : Int32))]) (rest := []) (lenOf pd_17 rfl) rfl (by show 2 * 0 + _ ≤ _; exact Nat.le_of_eq rfl) (hb hby djdk_38_25_20) (fun _ _ => ⟨rfl, e24, (by decide : 0 + 1 ≤ _), (by decide : 0 + 10 ≤ _)⟩)
  dsimp only [Pt.U, Pt.locs, Pt.cells, Pt.slots] at X25 l25 y25 z25 st25 hQ25
  subst l25 y25 z25
  obtain ⟨fb25, kb25, rfl, N25q, Kq25, hsz25, Ov25, Vq25, Eq25, Fq25_modCount, Fq25_elementData, Fq25_size⟩ := hQ25
  have ne_r0_fb25 : r0 ≠ fb25 := Nat.ne_of_lt (Nat.lt_of_lt_of_le (E0.wr W22).lt hsz25)
  have ne_r1_fb25 : r1 ≠ fb25 := Nat.ne_of_lt (Nat.lt_of_lt_of_le (E1.wr W22).lt hsz25)
  have g_fb25 : n0 ≤ fb25 := Nat.le_trans (own_le O22) hsz25
  have sz_fb25 : h0.size ≤ fb25 := Nat.le_trans K22.1 hsz25
  have O25 := Old.keep O22 Kq25 (allS g_r0 all0)
  have K25 := Keep.trans K22 Kq25 (allS (Or.inl (List.mem_of_getElem? (i := 0) rfl)) all0)
  have N25 := Fr.app N22 N25q
  obtain ⟨fs, hr, hrun, hended, hW, hsame⟩ := X25.leave (v := some (.int (1 : Int32))) (fun h => by rw [Bd.returns] at h; cases h)
  refine own_by (W' := (T25.setTop (mkF m 24 #[.val (.ref r0), .val (.ref r1)] [(.int (1 : Int32))]))) (fun t k => Steps.trans st25 (XS.iconst X25.here hx rfl (hb hby djdk_38_25_23) k)) ?_
  refine ⟨_, _, retOut X25 hx Bd.returns rfl (Or.inl ⟨rfl, Or.inr (Or.inl rfl), _, rfl⟩) (hb hby djdk_38_25_24) hr, hrun, hended, _, _, rfl, ?_, ⟨_, rfl⟩, hW, hsame.mono (by decide) (by decide)⟩
  show QA10 Z r0 r1 mc wBOOLEAN wINTEGER wBITS wOCTETS wNULL wOBJECT_IDENTIFIER wTEXT wCOMPONENTS wELEMENTS wCHOICE wELEMENT cs wD kD wC clC h0 n0 _ T25.heap _
  exact ⟨_, _, rfl, N25, K25, sz_fb25, Ov25, Vq25, Eq25, Fq25_modCount, Fq25_elementData, Fq25_size⟩
theorem efA31 (m : MethodId) (r0 : Addr) (r1 : Addr) (ar : Addr) : entryFrame m #[(.ref r0), (.ref r1), (.ref ar), (.int (1 : Int32))] 4 = mkF m 0 #[.val (.ref r0), .val (.ref r1), .val (.ref ar), .val (.int (1 : Int32))] [] := by first | (simp [entryFrame, mkF, argsToLocals, Value.category]; done) | rfl
def QA31 (Z : State) (r0 : Addr) (r1 : Addr) (mc : Int32) (ar : Addr) (kA : ClassId) (x0 : Addr) (wBOOLEAN : Addr) (wINTEGER : Addr) (wBITS : Addr) (wOCTETS : Addr) (wNULL : Addr) (wOBJECT_IDENTIFIER : Addr) (wTEXT : Addr) (wCOMPONENTS : Addr) (wELEMENTS : Addr) (wCHOICE : Addr) (wELEMENT : Addr) (cs : Int32) (wD : Addr) (kD : ClassId) (wC : Addr) (clC : Cell) (h0 : Heap) (n0 : Nat) (v : Option Value) (h : Heap) (L : List Loc) : Prop := v = none ∧ Fr n0 L ∧ Keep h0 h [r0, ar] ∧ Arv Z h ar kA (.object "java/lang/Object") (10 : Int32) [(.ref x0), (.ref r1), .null, .null, .null, .null, .null, .null, .null, .null] .null ∧ Exa Z h r0 "java/util/ArrayList" ∧ Fld Z h r0 "java/util/AbstractList" "modCount" "I" (.int mc) ∧ Fld Z h r0 "java/util/ArrayList" "elementData" "[Ljava/lang/Object;" (.ref ar) ∧ Fld Z h r0 "java/util/ArrayList" "size" "I" (.int (2 : Int32))
abbrev own_KA31 (Z : State) (r0 : Addr) (r1 : Addr) (mc : Int32) (ar : Addr) (kA : ClassId) (x0 : Addr) (wBOOLEAN : Addr) (wINTEGER : Addr) (wBITS : Addr) (wOCTETS : Addr) (wNULL : Addr) (wOBJECT_IDENTIFIER : Addr) (wTEXT : Addr) (wCOMPONENTS : Addr) (wELEMENTS : Addr) (wCHOICE : Addr) (wELEMENT : Addr) (cs : Int32) (wD : Addr) (kD : ClassId) (wC : Addr) (clC : Cell) (h0 : Heap) (n0 : Nat) (s : State) : Outcome → State → Prop := fun o U' => ∃ v L, o = .returned v ∧ QA31 Z r0 r1 mc ar kA x0 wBOOLEAN wINTEGER wBITS wOCTETS wNULL wOBJECT_IDENTIFIER wTEXT wCOMPONENTS wELEMENTS wCHOICE wELEMENT cs wD kD wC clC h0 n0 v U'.heap L ∧ FrameEnd s o U' L ({ frames := 0, cells := 0, slots := 0, locals := 0 } : Room).cells ({ frames := 0, cells := 0, slots := 0, locals := 0 } : Room).slots
set_option maxRecDepth 65536 in
set_option maxHeartbeats 40000000 in
theorem rmA31 (l : Launch) (Z : State) (a0 : Array Value) (hw : ∀ d ∈ tables_1, d.before a0 Z = true) (ws : List Jvm.Cond) (r0 : Addr) (r1 : Addr) (mc : Int32) (ar : Addr) (kA : ClassId) (x0 : Addr) (wBOOLEAN : Addr) (wINTEGER : Addr) (wBITS : Addr) (wOCTETS : Addr) (wNULL : Addr) (wOBJECT_IDENTIFIER : Addr) (wTEXT : Addr) (wCOMPONENTS : Addr) (wELEMENTS : Addr) (wCHOICE : Addr) (wELEMENT : Addr) (cs : Int32) (wD : Addr) (kD : ClassId) (wC : Addr) (clC : Cell) (h0 : Heap) (n0 : Nat) (Z0 : n0 ≤ h0.size) (O0 : Old Z n0 h0) (HW : own_Wd Z wBOOLEAN wINTEGER wBITS wOCTETS wNULL wOBJECT_IDENTIFIER wTEXT wCOMPONENTS wELEMENTS wCHOICE wELEMENT cs wD kD wC clC) (E0 : Exa Z h0 r0 "java/util/ArrayList") (g_r0 : n0 ≤ r0) (F_modCount : Fld Z h0 r0 "java/util/AbstractList" "modCount" "I" (.int mc)) (F_elementData : Fld Z h0 r0 "java/util/ArrayList" "elementData" "[Ljava/lang/Object;" (.ref ar)) (F_size : Fld Z h0 r0 "java/util/ArrayList" "size" "I" (.int (1 : Int32))) (E1 : Exa Z h0 r1 "java/lang/Integer") (Va : Arv Z h0 ar kA (.object "java/lang/Object") (10 : Int32) [(.ref x0), .null, .null, .null, .null, .null, .null, .null, .null, .null] .null) (OvA : Ovr Z kA "java/lang/Object") (g_ar : n0 ≤ ar) (hne : ar ≠ r0) :
    MetFree l (⟨"java/util/ArrayList", "add", "(Ljava/lang/Object;[Ljava/lang/Object;I)V"⟩ : MethodName) (head1 (Jvm.Cond.code (⟨"java/util/ArrayList", "add", "(Ljava/lang/Object;[Ljava/lang/Object;I)V"⟩ : MethodName) jdk_38_method_24_code 4 none :: ws) ({ frames := 0, cells := 0, slots := 0, locals := 0 } : Room)) (fun a U => a = #[(.ref r0), (.ref r1), (.ref ar), (.int (1 : Int32))] ∧ Z.Warmed39 U.vm ∧ U.heap = h0) (fun _ _ _ _ _ => True) (fun _ U o U' => ∃ v L, o = .returned v ∧ QA31 Z r0 r1 mc ar kA x0 wBOOLEAN wINTEGER wBITS wOCTETS wNULL wOBJECT_IDENTIFIER wTEXT wCOMPONENTS wELEMENTS wCHOICE wELEMENT cs wD kD wC clC h0 n0 v U'.heap L ∧ FrameEnd U o U' L ({ frames := 0, cells := 0, slots := 0, locals := 0 } : Room).cells ({ frames := 0, cells := 0, slots := 0, locals := 0 } : Room).slots) := by
  refine MetFree.of_bodySF (plainFor_of_name pn_java_util_ArrayList) hisR ?_
  intro p e s m args below meth c s₁ Bd hml0 hP hK
  obtain ⟨rfl, hZ, hh⟩ := hP
  have hx := Bd.exec
  have hby := Bd.bytes
  have hml : c.maxLocals = 4 := hml0
  have hown : s.vm.findClass "java/util/ArrayList" = some m.cls := findClass_of_methodNamed Bd.named
  have hnm := (name_of_methodNamed Bd.named Bd.method).1
  have X0 : Stand p l e ({ frames := 0, cells := 0, slots := 0, locals := 0 } : Room) s m #[(.ref r0), (.ref r1), (.ref ar), (.int (1 : Int32))] below meth c s₁ [] 0 0 := Stand.of_body Bd
  have e0 : s₁.heap = h0 := by rw [← hh, Bd.state]; rfl
  have N0 := Fr.nil n0
  refine own_by (p := p) (e := e) (below := below) (K := own_KA31 Z r0 r1 mc ar kA x0 wBOOLEAN wINTEGER wBITS wOCTETS wNULL wOBJECT_IDENTIFIER wTEXT wCOMPONENTS wELEMENTS wCHOICE wELEMENT cs wD kD wC clC h0 n0 s) (W' := s₁.setTop (mkF m 0 #[.val (.ref r0), .val (.ref r1), .val (.ref ar), .val (.int (1 : Int32))] [])) (fun t k => castTop (efA31 m r0 r1 ar) k) ?_
  obtain ⟨clu21, Aru21, qu21, Su21, Ngu21, Hau21, Gau21⟩ := id Va
  refine own_by (W' := (s₁.setTop (mkF m 3 #[.val (.ref r0), .val (.ref r1), .val (.ref ar), .val (.int (1 : Int32))] [(.int clu21.slots.size.toInt32), (.int (1 : Int32))]))) (fun t k => XS.iloadN X0.here hx rfl (hb hby djdk_38_24_0) rfl (XS.aloadN X0.here hx rfl (hb hby djdk_38_24_1) rfl rfl ((X0.arraylength hx (by rw [e0]; exact Aru21.1) (State.isArrayOf_alike hZ.alike Aru21.2.1) (g := (mkF m 2 #[.val (.ref r0), .val (.ref r1), .val (.ref ar), .val (.int (1 : Int32))] [(.ref ar), (.int (1 : Int32))])) rfl rfl (hb hby djdk_38_24_2)) _ k))) ?_
  rw [len_of Su21 Ngu21]
  obtain ⟨clu22, Aru22, qu22, Su22, Ngu22, Hau22, Gau22⟩ := id Va
  have hinu22 : ¬ ((1 : Int32) < 0 ∨ clu22.slots.size ≤ ((1 : Int32)).toNatClampNeg) := inb_of Su22 ⟨by decide, by decide⟩
  obtain ⟨T23, h23, X23, e23, W23, st23⟩ := stR X0 hx hZ e0 Aru22 (j := (1 : Int32)) hinu22 rfl (Sto.ofV Aru22 qu22 OvA (Ins.of_exa E1 (own_w hw 135))) (g := (mkF m 14 #[.val (.ref r0), .val (.ref r1), .val (.ref ar), .val (.int (1 : Int32))] [(.ref r1), (.int (1 : Int32)), (.ref ar)])) rfl rfl (hb hby djdk_38_24_14)
  have Vu22 : Arv Z h23 ar kA (.object "java/lang/Object") (10 : Int32) [(.ref x0), (.ref r1), .null, .null, .null, .null, .null, .null, .null, .null] .null := Arv.set Aru22 qu22 Su22 Ngu22 Hau22 Gau22 rfl W23 1 rfl (Nat.le_of_ble_eq_true rfl)
  have O23 := Old.wr O0 W23 g_ar
  have N23 := Fr.snoc X23 N0 g_ar
  have K23 := Keep.wr (Keep.refl h0 [r0, ar]) W23 (Or.inl (List.mem_of_getElem? (i := 1) rfl))
  refine own_by (W' := (T23.setTop (mkF m 16 #[.val (.ref r0), .val (.ref r1), .val (.ref ar), .val (.int (1 : Int32))] [(.ref r0)]))) (fun t k => XS.icmpYes X0.here hx rfl (pc0 := 3) (pc' := 11) rfl (hb hby djdk_38_24_3) rfl (feq (by decide : ¬ ((1 : Int32) = (10 : Int32)))).2 (by decide) (by decide) (XS.aloadN X0.here hx rfl (hb hby djdk_38_24_11) rfl rfl (XS.iloadN X0.here hx rfl (hb hby djdk_38_24_12) rfl (XS.aloadN X0.here hx rfl (hb hby djdk_38_24_13) rfl rfl (st23 _ (XS.aloadN X23.here hx rfl (hb hby djdk_38_24_15) rfl rfl k)))))) ?_
  obtain ⟨T24, h24, X24, e24, W24, st24⟩ := putF X23 hx hZ hown (host := "") (Or.inl (own_w hw 86)) Via.refl e23 (F_size.other W23 (Or.inl hne.symm)) (E0.wr W23) (Or.inl (own_w hw 87)) (own_w hw 37) (ty := .int) (by decide) rfl rfl (g := (mkF m 19 #[.val (.ref r0), .val (.ref r1), .val (.ref ar), .val (.int (1 : Int32))] [(.int (2 : Int32)), (.ref r0)])) rfl rfl (hb hby djdk_38_24_19)
  have Fw24 := (F_size.other W23 (Or.inl hne.symm)).same W24
  have O24 := Old.wr O23 W24 g_r0
  have N24 := Fr.snoc X24 N23 g_r0
  have K24 := Keep.wr K23 W24 (Or.inl (List.mem_of_getElem? (i := 0) rfl))
  obtain ⟨fs, hr, hrun, hended, hW, hsame⟩ := X24.leave (v := none) (fun _ => rfl)
  refine own_by (W' := (T24.setTop (mkF m 22 #[.val (.ref r0), .val (.ref r1), .val (.ref ar), .val (.int (1 : Int32))] []))) (fun t k => XS.iloadN X23.here hx rfl (hb hby djdk_38_24_16) rfl (XS.iconst X23.here hx rfl (hb hby djdk_38_24_17) (XS.iadd X23.here hx rfl (hb hby djdk_38_24_18) rfl (st24 _ k)))) ?_
  refine ⟨_, _, X24.returnOut hx Bd.returns (hb hby djdk_38_24_22) hr, hrun, hended, _, _, rfl, ?_, ⟨_, rfl⟩, hW, hsame.mono (by decide) (by decide)⟩
  show QA31 Z r0 r1 mc ar kA x0 wBOOLEAN wINTEGER wBITS wOCTETS wNULL wOBJECT_IDENTIFIER wTEXT wCOMPONENTS wELEMENTS wCHOICE wELEMENT cs wD kD wC clC h0 n0 _ T24.heap _
  rw [e24]
  exact ⟨rfl, N24, K24, (Vu22.other W24 hne), ((E0.wr W23).wr W24), ((F_modCount.other W23 (Or.inl hne.symm)).other W24 (Or.inr (slot_ne (Or.inl (own_w hw 58)) (Or.inl (own_w hw 87)) (by decide) (t := .int) (t' := .int) (by decide) (by decide)))), ((F_elementData.other W23 (Or.inl hne.symm)).other W24 (Or.inr (slot_ne (Or.inl (own_w hw 61)) (Or.inl (own_w hw 87)) (by decide) (t := (.array (.object "java/lang/Object"))) (t' := .int) (by decide) (by decide)))), Fw24⟩
theorem efA11 (m : MethodId) (r0 : Addr) (r1 : Addr) : entryFrame m #[(.ref r0), (.ref r1)] 2 = mkF m 0 #[.val (.ref r0), .val (.ref r1)] [] := by first | (simp [entryFrame, mkF, argsToLocals, Value.category]; done) | rfl
def QA11 (Z : State) (r0 : Addr) (r1 : Addr) (mc : Int32) (ar : Addr) (kA : ClassId) (x0 : Addr) (wBOOLEAN : Addr) (wINTEGER : Addr) (wBITS : Addr) (wOCTETS : Addr) (wNULL : Addr) (wOBJECT_IDENTIFIER : Addr) (wTEXT : Addr) (wCOMPONENTS : Addr) (wELEMENTS : Addr) (wCHOICE : Addr) (wELEMENT : Addr) (cs : Int32) (wD : Addr) (kD : ClassId) (wC : Addr) (clC : Cell) (h0 : Heap) (n0 : Nat) (v : Option Value) (h : Heap) (L : List Loc) : Prop := v = some (.int (1 : Int32)) ∧ Fr n0 L ∧ Keep h0 h [r0, ar] ∧ Arv Z h ar kA (.object "java/lang/Object") (10 : Int32) [(.ref x0), (.ref r1), .null, .null, .null, .null, .null, .null, .null, .null] .null ∧ Exa Z h r0 "java/util/ArrayList" ∧ Fld Z h r0 "java/util/AbstractList" "modCount" "I" (.int (mc + (1 : Int32))) ∧ Fld Z h r0 "java/util/ArrayList" "elementData" "[Ljava/lang/Object;" (.ref ar) ∧ Fld Z h r0 "java/util/ArrayList" "size" "I" (.int (2 : Int32))
abbrev own_KA11 (Z : State) (r0 : Addr) (r1 : Addr) (mc : Int32) (ar : Addr) (kA : ClassId) (x0 : Addr) (wBOOLEAN : Addr) (wINTEGER : Addr) (wBITS : Addr) (wOCTETS : Addr) (wNULL : Addr) (wOBJECT_IDENTIFIER : Addr) (wTEXT : Addr) (wCOMPONENTS : Addr) (wELEMENTS : Addr) (wCHOICE : Addr) (wELEMENT : Addr) (cs : Int32) (wD : Addr) (kD : ClassId) (wC : Addr) (clC : Cell) (h0 : Heap) (n0 : Nat) (s : State) : Outcome → State → Prop := fun o U' => ∃ v L, o = .returned v ∧ QA11 Z r0 r1 mc ar kA x0 wBOOLEAN wINTEGER wBITS wOCTETS wNULL wOBJECT_IDENTIFIER wTEXT wCOMPONENTS wELEMENTS wCHOICE wELEMENT cs wD kD wC clC h0 n0 v U'.heap L ∧ FrameEnd s o U' L ({ frames := 1, cells := 0, slots := 0, locals := 15 } : Room).cells ({ frames := 1, cells := 0, slots := 0, locals := 15 } : Room).slots
set_option maxRecDepth 65536 in
set_option maxHeartbeats 40000000 in
theorem rmA11 (l : Launch) (Z : State) (a0 : Array Value) (hw : ∀ d ∈ tables_1, d.before a0 Z = true) (ws : List Jvm.Cond) (r0 : Addr) (r1 : Addr) (mc : Int32) (ar : Addr) (kA : ClassId) (x0 : Addr) (wBOOLEAN : Addr) (wINTEGER : Addr) (wBITS : Addr) (wOCTETS : Addr) (wNULL : Addr) (wOBJECT_IDENTIFIER : Addr) (wTEXT : Addr) (wCOMPONENTS : Addr) (wELEMENTS : Addr) (wCHOICE : Addr) (wELEMENT : Addr) (cs : Int32) (wD : Addr) (kD : ClassId) (wC : Addr) (clC : Cell) (h0 : Heap) (n0 : Nat) (Z0 : n0 ≤ h0.size) (O0 : Old Z n0 h0) (HW : own_Wd Z wBOOLEAN wINTEGER wBITS wOCTETS wNULL wOBJECT_IDENTIFIER wTEXT wCOMPONENTS wELEMENTS wCHOICE wELEMENT cs wD kD wC clC) (E0 : Exa Z h0 r0 "java/util/ArrayList") (g_r0 : n0 ≤ r0) (F_modCount : Fld Z h0 r0 "java/util/AbstractList" "modCount" "I" (.int mc)) (F_elementData : Fld Z h0 r0 "java/util/ArrayList" "elementData" "[Ljava/lang/Object;" (.ref ar)) (F_size : Fld Z h0 r0 "java/util/ArrayList" "size" "I" (.int (1 : Int32))) (E1 : Exa Z h0 r1 "java/lang/Integer") (Va : Arv Z h0 ar kA (.object "java/lang/Object") (10 : Int32) [(.ref x0), .null, .null, .null, .null, .null, .null, .null, .null, .null] .null) (OvA : Ovr Z kA "java/lang/Object") (g_ar : n0 ≤ ar) (hne : ar ≠ r0) :
    MetFree l (⟨"java/util/ArrayList", "add", "(Ljava/lang/Object;)Z"⟩ : MethodName) (head1 (Jvm.Cond.code (⟨"java/util/ArrayList", "add", "(Ljava/lang/Object;)Z"⟩ : MethodName) jdk_38_method_25_code 2 (some .boolean) :: ws) ({ frames := 1, cells := 0, slots := 0, locals := 15 } : Room)) (fun a U => a = #[(.ref r0), (.ref r1)] ∧ Z.Warmed39 U.vm ∧ U.heap = h0) (fun _ _ _ _ _ => True) (fun _ U o U' => ∃ v L, o = .returned v ∧ QA11 Z r0 r1 mc ar kA x0 wBOOLEAN wINTEGER wBITS wOCTETS wNULL wOBJECT_IDENTIFIER wTEXT wCOMPONENTS wELEMENTS wCHOICE wELEMENT cs wD kD wC clC h0 n0 v U'.heap L ∧ FrameEnd U o U' L ({ frames := 1, cells := 0, slots := 0, locals := 15 } : Room).cells ({ frames := 1, cells := 0, slots := 0, locals := 15 } : Room).slots) := by
  refine MetFree.of_bodySF (plainFor_of_name pn_java_util_ArrayList) hisR ?_
  intro p e s m args below meth c s₁ Bd hml0 hP hK
  obtain ⟨rfl, hZ, hh⟩ := hP
  have hx := Bd.exec
  have hby := Bd.bytes
  have hml : c.maxLocals = 2 := hml0
  have hown : s.vm.findClass "java/util/ArrayList" = some m.cls := findClass_of_methodNamed Bd.named
  have hnm := (name_of_methodNamed Bd.named Bd.method).1
  have X0 : Stand p l e ({ frames := 1, cells := 0, slots := 0, locals := 15 } : Room) s m #[(.ref r0), (.ref r1)] below meth c s₁ [] 0 0 := Stand.of_body Bd
  have e0 : s₁.heap = h0 := by rw [← hh, Bd.state]; rfl
  have N0 := Fr.nil n0
  refine own_by (p := p) (e := e) (below := below) (K := own_KA11 Z r0 r1 mc ar kA x0 wBOOLEAN wINTEGER wBITS wOCTETS wNULL wOBJECT_IDENTIFIER wTEXT wCOMPONENTS wELEMENTS wCHOICE wELEMENT cs wD kD wC clC h0 n0 s) (W' := s₁.setTop (mkF m 0 #[.val (.ref r0), .val (.ref r1)] [])) (fun t k => castTop (efA11 m r0 r1) k) ?_
  obtain ⟨T21, X21, e21, st21⟩ := getF X0 hx hZ hown (host := "") (Or.inl (own_w hw 112)) (Via.of (own_w hw 113)) e0 F_modCount (g := (mkF m 2 #[.val (.ref r0), .val (.ref r1)] [(.ref r0), (.ref r0)])) rfl rfl (hb hby djdk_38_25_2)
  obtain ⟨T22, h22, X22, e22, W22, st22⟩ := putF X21 hx hZ hown (host := "") (Or.inl (own_w hw 112)) (Via.of (own_w hw 113)) e21 F_modCount E0 (Or.inl (own_w hw 58)) (own_w hw 37) (ty := .int) (by decide) rfl rfl (g := (mkF m 7 #[.val (.ref r0), .val (.ref r1)] [(.int (mc + (1 : Int32))), (.ref r0)])) rfl rfl (hb hby djdk_38_25_7)
  have Fw22 := F_modCount.same W22
  have O22 := Old.wr O0 W22 g_r0
  have N22 := Fr.snoc X22 N0 g_r0
  have K22 := Keep.wr (Keep.refl h0 [r0, ar]) W22 (Or.inl (List.mem_of_getElem? (i := 0) rfl))
  refine own_by (W' := (T22.setTop (mkF m 10 #[.val (.ref r0), .val (.ref r1)] []))) (fun t k => XS.aloadN X0.here hx rfl (hb hby djdk_38_25_0) rfl rfl (XS.dup X0.here hx rfl (hb hby djdk_38_25_1) rfl rfl (st21 _ (XS.iconst X21.here hx rfl (hb hby djdk_38_25_5) (XS.iadd X21.here hx rfl (hb hby djdk_38_25_6) rfl (st22 _ k)))))) ?_
  obtain ⟨T23, X23, e23, st23⟩ := getF X22 hx hZ hown (host := "") (Or.inl (own_w hw 60)) Via.refl e22 (F_elementData.other W22 (Or.inr (slot_ne (Or.inl (own_w hw 61)) (Or.inl (own_w hw 58)) (by decide) (t := (.array (.object "java/lang/Object"))) (t' := .int) (by decide) (by decide)))) (g := (mkF m 13 #[.val (.ref r0), .val (.ref r1)] [(.ref r0), (.ref r1), (.ref r0)])) rfl rfl (hb hby djdk_38_25_13)
  obtain ⟨T24, X24, e24, st24⟩ := getF X23 hx hZ hown (host := "") (Or.inl (own_w hw 86)) Via.refl e23 (F_size.other W22 (Or.inr (slot_ne (Or.inl (own_w hw 87)) (Or.inl (own_w hw 58)) (by decide) (t := .int) (t' := .int) (by decide) (by decide)))) (g := (mkF m 17 #[.val (.ref r0), .val (.ref r1)] [(.ref r0), (.ref ar), (.ref r1), (.ref r0)])) rfl rfl (hb hby djdk_38_25_17)
  refine own_by (W' := (T24.setTop (mkF m 20 #[.val (.ref r0), .val (.ref r1)] [(.int (1 : Int32)), (.ref ar), (.ref r1), (.ref r0)]))) (fun t k => XS.aloadN X22.here hx rfl (hb hby djdk_38_25_10) rfl rfl (XS.aloadN X22.here hx rfl (hb hby djdk_38_25_11) rfl rfl (XS.aloadN X22.here hx rfl (hb hby djdk_38_25_12) rfl rfl (st23 _ (XS.aloadN X23.here hx rfl (hb hby djdk_38_25_16) rfl rfl (st24 _ k)))))) ?_
  obtain ⟨cq25, q25a, q25b⟩ := (E0.wr W22).cell
  obtain ⟨_, _, ⟨T25, L25, k25, n25⟩, -, X25, ⟨Lc25, hQ25, l25, y25, z25⟩, st25⟩ := X24.privateBack hx (y := (⟨"java/util/ArrayList", "add", "(Ljava/lang/Object;[Ljava/lang/Object;I)V"⟩ : MethodName)) hown (mvT hZ (own_w hw 114)) (mvT hZ (own_w hw 115)) (mvT hZ (own_w hw 117)) (Cond.privateMethod_at (mvP hZ (own_w hw 116) (args := #[]))) (mvT hZ (own_w hw 118)) (by decide) (backOf (W := 0) (rmA31 l Z a0 hw [] r0 r1 (mc + (1 : Int32)) ar kA x0 wBOOLEAN wINTEGER wBITS wOCTETS wNULL wOBJECT_IDENTIFIER wTEXT wCOMPONENTS wELEMENTS wCHOICE wELEMENT cs wD kD wC clC h22 n0 (own_le O22) O22 HW (E0.wr W22) g_r0 Fw22 (F_elementData.other W22 (Or.inr (slot_ne (Or.inl (own_w hw 61)) (Or.inl (own_w hw 58)) (by decide) (t := (.array (.object "java/lang/Object"))) (t' := .int) (by decide) (by decide)))) (F_size.other W22 (Or.inr (slot_ne (Or.inl (own_w hw 87)) (Or.inl (own_w hw 58)) (by decide) (t := .int) (t' := .int) (by decide) (by decide)))) (E1.wr W22) (Va.other W22 hne) OvA g_ar hne) hZ (own_w hw 118) (own_w hw 38) (by decide) (by decide)) (g := (mkF m 20 #[.val (.ref r0), .val (.ref r1)] [(.int (1 : Int32)), (.ref ar), (.ref r1), (.ref r0)])) rfl (by rw [hml]; rfl) (Steps.refl _) (a := r0) (by rw [e24]; exact q25a) q25b (argsL := [(.ref r1), (.ref ar), (.int (1 : Int32))]) (rest := []) (lenOf pd_17 rfl) rfl (by show 2 * 0 + _ ≤ _; exact Nat.le_of_eq rfl) (hb hby djdk_38_25_20) (fun _ _ => ⟨rfl, e24, (by decide : 0 + 0 ≤ _), (by decide : 0 + 0 ≤ _)⟩)
  dsimp only [Pt.U, Pt.locs, Pt.cells, Pt.slots] at X25 l25 y25 z25 st25 hQ25
  subst l25 y25 z25
  obtain ⟨rfl, N25q, Kq25, Vq25, Eq25, Fq25_modCount, Fq25_elementData, Fq25_size⟩ := hQ25
  have O25 := Old.keep O22 Kq25 (allS g_r0 (allS g_ar all0))
  have K25 := Keep.trans K22 Kq25 (allS (Or.inl (List.mem_of_getElem? (i := 0) rfl)) (allS (Or.inl (List.mem_of_getElem? (i := 1) rfl)) all0))
  have N25 := Fr.app N22 N25q
  obtain ⟨fs, hr, hrun, hended, hW, hsame⟩ := X25.leave (v := some (.int (1 : Int32))) (fun h => by rw [Bd.returns] at h; cases h)
  refine own_by (W' := (T25.setTop (mkF m 24 #[.val (.ref r0), .val (.ref r1)] [(.int (1 : Int32))]))) (fun t k => Steps.trans st25 (XS.iconst X25.here hx rfl (hb hby djdk_38_25_23) k)) ?_
  refine ⟨_, _, retOut X25 hx Bd.returns rfl (Or.inl ⟨rfl, Or.inr (Or.inl rfl), _, rfl⟩) (hb hby djdk_38_25_24) hr, hrun, hended, _, _, rfl, ?_, ⟨_, rfl⟩, hW, hsame.mono (by decide) (by decide)⟩
  show QA11 Z r0 r1 mc ar kA x0 wBOOLEAN wINTEGER wBITS wOCTETS wNULL wOBJECT_IDENTIFIER wTEXT wCOMPONENTS wELEMENTS wCHOICE wELEMENT cs wD kD wC clC h0 n0 _ T25.heap _
  exact ⟨rfl, N25, K25, Vq25, Eq25, Fq25_modCount, Fq25_elementData, Fq25_size⟩
theorem efA32 (m : MethodId) (r0 : Addr) (r1 : Addr) (ar : Addr) : entryFrame m #[(.ref r0), (.ref r1), (.ref ar), (.int (2 : Int32))] 4 = mkF m 0 #[.val (.ref r0), .val (.ref r1), .val (.ref ar), .val (.int (2 : Int32))] [] := by first | (simp [entryFrame, mkF, argsToLocals, Value.category]; done) | rfl
def QA32 (Z : State) (r0 : Addr) (r1 : Addr) (mc : Int32) (ar : Addr) (kA : ClassId) (x0 : Addr) (x1 : Addr) (wBOOLEAN : Addr) (wINTEGER : Addr) (wBITS : Addr) (wOCTETS : Addr) (wNULL : Addr) (wOBJECT_IDENTIFIER : Addr) (wTEXT : Addr) (wCOMPONENTS : Addr) (wELEMENTS : Addr) (wCHOICE : Addr) (wELEMENT : Addr) (cs : Int32) (wD : Addr) (kD : ClassId) (wC : Addr) (clC : Cell) (h0 : Heap) (n0 : Nat) (v : Option Value) (h : Heap) (L : List Loc) : Prop := v = none ∧ Fr n0 L ∧ Keep h0 h [r0, ar] ∧ Arv Z h ar kA (.object "java/lang/Object") (10 : Int32) [(.ref x0), (.ref x1), (.ref r1), .null, .null, .null, .null, .null, .null, .null] .null ∧ Exa Z h r0 "java/util/ArrayList" ∧ Fld Z h r0 "java/util/AbstractList" "modCount" "I" (.int mc) ∧ Fld Z h r0 "java/util/ArrayList" "elementData" "[Ljava/lang/Object;" (.ref ar) ∧ Fld Z h r0 "java/util/ArrayList" "size" "I" (.int (3 : Int32))
abbrev own_KA32 (Z : State) (r0 : Addr) (r1 : Addr) (mc : Int32) (ar : Addr) (kA : ClassId) (x0 : Addr) (x1 : Addr) (wBOOLEAN : Addr) (wINTEGER : Addr) (wBITS : Addr) (wOCTETS : Addr) (wNULL : Addr) (wOBJECT_IDENTIFIER : Addr) (wTEXT : Addr) (wCOMPONENTS : Addr) (wELEMENTS : Addr) (wCHOICE : Addr) (wELEMENT : Addr) (cs : Int32) (wD : Addr) (kD : ClassId) (wC : Addr) (clC : Cell) (h0 : Heap) (n0 : Nat) (s : State) : Outcome → State → Prop := fun o U' => ∃ v L, o = .returned v ∧ QA32 Z r0 r1 mc ar kA x0 x1 wBOOLEAN wINTEGER wBITS wOCTETS wNULL wOBJECT_IDENTIFIER wTEXT wCOMPONENTS wELEMENTS wCHOICE wELEMENT cs wD kD wC clC h0 n0 v U'.heap L ∧ FrameEnd s o U' L ({ frames := 0, cells := 0, slots := 0, locals := 0 } : Room).cells ({ frames := 0, cells := 0, slots := 0, locals := 0 } : Room).slots
set_option maxRecDepth 65536 in
set_option maxHeartbeats 40000000 in
theorem rmA32 (l : Launch) (Z : State) (a0 : Array Value) (hw : ∀ d ∈ tables_1, d.before a0 Z = true) (ws : List Jvm.Cond) (r0 : Addr) (r1 : Addr) (mc : Int32) (ar : Addr) (kA : ClassId) (x0 : Addr) (x1 : Addr) (wBOOLEAN : Addr) (wINTEGER : Addr) (wBITS : Addr) (wOCTETS : Addr) (wNULL : Addr) (wOBJECT_IDENTIFIER : Addr) (wTEXT : Addr) (wCOMPONENTS : Addr) (wELEMENTS : Addr) (wCHOICE : Addr) (wELEMENT : Addr) (cs : Int32) (wD : Addr) (kD : ClassId) (wC : Addr) (clC : Cell) (h0 : Heap) (n0 : Nat) (Z0 : n0 ≤ h0.size) (O0 : Old Z n0 h0) (HW : own_Wd Z wBOOLEAN wINTEGER wBITS wOCTETS wNULL wOBJECT_IDENTIFIER wTEXT wCOMPONENTS wELEMENTS wCHOICE wELEMENT cs wD kD wC clC) (E0 : Exa Z h0 r0 "java/util/ArrayList") (g_r0 : n0 ≤ r0) (F_modCount : Fld Z h0 r0 "java/util/AbstractList" "modCount" "I" (.int mc)) (F_elementData : Fld Z h0 r0 "java/util/ArrayList" "elementData" "[Ljava/lang/Object;" (.ref ar)) (F_size : Fld Z h0 r0 "java/util/ArrayList" "size" "I" (.int (2 : Int32))) (E1 : Exa Z h0 r1 "java/lang/Integer") (Va : Arv Z h0 ar kA (.object "java/lang/Object") (10 : Int32) [(.ref x0), (.ref x1), .null, .null, .null, .null, .null, .null, .null, .null] .null) (OvA : Ovr Z kA "java/lang/Object") (g_ar : n0 ≤ ar) (hne : ar ≠ r0) :
    MetFree l (⟨"java/util/ArrayList", "add", "(Ljava/lang/Object;[Ljava/lang/Object;I)V"⟩ : MethodName) (head1 (Jvm.Cond.code (⟨"java/util/ArrayList", "add", "(Ljava/lang/Object;[Ljava/lang/Object;I)V"⟩ : MethodName) jdk_38_method_24_code 4 none :: ws) ({ frames := 0, cells := 0, slots := 0, locals := 0 } : Room)) (fun a U => a = #[(.ref r0), (.ref r1), (.ref ar), (.int (2 : Int32))] ∧ Z.Warmed39 U.vm ∧ U.heap = h0) (fun _ _ _ _ _ => True) (fun _ U o U' => ∃ v L, o = .returned v ∧ QA32 Z r0 r1 mc ar kA x0 x1 wBOOLEAN wINTEGER wBITS wOCTETS wNULL wOBJECT_IDENTIFIER wTEXT wCOMPONENTS wELEMENTS wCHOICE wELEMENT cs wD kD wC clC h0 n0 v U'.heap L ∧ FrameEnd U o U' L ({ frames := 0, cells := 0, slots := 0, locals := 0 } : Room).cells ({ frames := 0, cells := 0, slots := 0, locals := 0 } : Room).slots) := by
  refine MetFree.of_bodySF (plainFor_of_name pn_java_util_ArrayList) hisR ?_
  intro p e s m args below meth c s₁ Bd hml0 hP hK
  obtain ⟨rfl, hZ, hh⟩ := hP
  have hx := Bd.exec
  have hby := Bd.bytes
  have hml : c.maxLocals = 4 := hml0
  have hown : s.vm.findClass "java/util/ArrayList" = some m.cls := findClass_of_methodNamed Bd.named
  have hnm := (name_of_methodNamed Bd.named Bd.method).1
  have X0 : Stand p l e ({ frames := 0, cells := 0, slots := 0, locals := 0 } : Room) s m #[(.ref r0), (.ref r1), (.ref ar), (.int (2 : Int32))] below meth c s₁ [] 0 0 := Stand.of_body Bd
  have e0 : s₁.heap = h0 := by rw [← hh, Bd.state]; rfl
  have N0 := Fr.nil n0
  refine own_by (p := p) (e := e) (below := below) (K := own_KA32 Z r0 r1 mc ar kA x0 x1 wBOOLEAN wINTEGER wBITS wOCTETS wNULL wOBJECT_IDENTIFIER wTEXT wCOMPONENTS wELEMENTS wCHOICE wELEMENT cs wD kD wC clC h0 n0 s) (W' := s₁.setTop (mkF m 0 #[.val (.ref r0), .val (.ref r1), .val (.ref ar), .val (.int (2 : Int32))] [])) (fun t k => castTop (efA32 m r0 r1 ar) k) ?_
  obtain ⟨clu21, Aru21, qu21, Su21, Ngu21, Hau21, Gau21⟩ := id Va
  refine own_by (W' := (s₁.setTop (mkF m 3 #[.val (.ref r0), .val (.ref r1), .val (.ref ar), .val (.int (2 : Int32))] [(.int clu21.slots.size.toInt32), (.int (2 : Int32))]))) (fun t k => XS.iloadN X0.here hx rfl (hb hby djdk_38_24_0) rfl (XS.aloadN X0.here hx rfl (hb hby djdk_38_24_1) rfl rfl ((X0.arraylength hx (by rw [e0]; exact Aru21.1) (State.isArrayOf_alike hZ.alike Aru21.2.1) (g := (mkF m 2 #[.val (.ref r0), .val (.ref r1), .val (.ref ar), .val (.int (2 : Int32))] [(.ref ar), (.int (2 : Int32))])) rfl rfl (hb hby djdk_38_24_2)) _ k))) ?_
  rw [len_of Su21 Ngu21]
  obtain ⟨clu22, Aru22, qu22, Su22, Ngu22, Hau22, Gau22⟩ := id Va
  have hinu22 : ¬ ((2 : Int32) < 0 ∨ clu22.slots.size ≤ ((2 : Int32)).toNatClampNeg) := inb_of Su22 ⟨by decide, by decide⟩
  obtain ⟨T23, h23, X23, e23, W23, st23⟩ := stR X0 hx hZ e0 Aru22 (j := (2 : Int32)) hinu22 rfl (Sto.ofV Aru22 qu22 OvA (Ins.of_exa E1 (own_w hw 135))) (g := (mkF m 14 #[.val (.ref r0), .val (.ref r1), .val (.ref ar), .val (.int (2 : Int32))] [(.ref r1), (.int (2 : Int32)), (.ref ar)])) rfl rfl (hb hby djdk_38_24_14)
  have Vu22 : Arv Z h23 ar kA (.object "java/lang/Object") (10 : Int32) [(.ref x0), (.ref x1), (.ref r1), .null, .null, .null, .null, .null, .null, .null] .null := Arv.set Aru22 qu22 Su22 Ngu22 Hau22 Gau22 rfl W23 2 rfl (Nat.le_of_ble_eq_true rfl)
  have O23 := Old.wr O0 W23 g_ar
  have N23 := Fr.snoc X23 N0 g_ar
  have K23 := Keep.wr (Keep.refl h0 [r0, ar]) W23 (Or.inl (List.mem_of_getElem? (i := 1) rfl))
  refine own_by (W' := (T23.setTop (mkF m 16 #[.val (.ref r0), .val (.ref r1), .val (.ref ar), .val (.int (2 : Int32))] [(.ref r0)]))) (fun t k => XS.icmpYes X0.here hx rfl (pc0 := 3) (pc' := 11) rfl (hb hby djdk_38_24_3) rfl (feq (by decide : ¬ ((2 : Int32) = (10 : Int32)))).2 (by decide) (by decide) (XS.aloadN X0.here hx rfl (hb hby djdk_38_24_11) rfl rfl (XS.iloadN X0.here hx rfl (hb hby djdk_38_24_12) rfl (XS.aloadN X0.here hx rfl (hb hby djdk_38_24_13) rfl rfl (st23 _ (XS.aloadN X23.here hx rfl (hb hby djdk_38_24_15) rfl rfl k)))))) ?_
  obtain ⟨T24, h24, X24, e24, W24, st24⟩ := putF X23 hx hZ hown (host := "") (Or.inl (own_w hw 86)) Via.refl e23 (F_size.other W23 (Or.inl hne.symm)) (E0.wr W23) (Or.inl (own_w hw 87)) (own_w hw 37) (ty := .int) (by decide) rfl rfl (g := (mkF m 19 #[.val (.ref r0), .val (.ref r1), .val (.ref ar), .val (.int (2 : Int32))] [(.int (3 : Int32)), (.ref r0)])) rfl rfl (hb hby djdk_38_24_19)
  have Fw24 := (F_size.other W23 (Or.inl hne.symm)).same W24
  have O24 := Old.wr O23 W24 g_r0
  have N24 := Fr.snoc X24 N23 g_r0
  have K24 := Keep.wr K23 W24 (Or.inl (List.mem_of_getElem? (i := 0) rfl))
  obtain ⟨fs, hr, hrun, hended, hW, hsame⟩ := X24.leave (v := none) (fun _ => rfl)
  refine own_by (W' := (T24.setTop (mkF m 22 #[.val (.ref r0), .val (.ref r1), .val (.ref ar), .val (.int (2 : Int32))] []))) (fun t k => XS.iloadN X23.here hx rfl (hb hby djdk_38_24_16) rfl (XS.iconst X23.here hx rfl (hb hby djdk_38_24_17) (XS.iadd X23.here hx rfl (hb hby djdk_38_24_18) rfl (st24 _ k)))) ?_
  refine ⟨_, _, X24.returnOut hx Bd.returns (hb hby djdk_38_24_22) hr, hrun, hended, _, _, rfl, ?_, ⟨_, rfl⟩, hW, hsame.mono (by decide) (by decide)⟩
  show QA32 Z r0 r1 mc ar kA x0 x1 wBOOLEAN wINTEGER wBITS wOCTETS wNULL wOBJECT_IDENTIFIER wTEXT wCOMPONENTS wELEMENTS wCHOICE wELEMENT cs wD kD wC clC h0 n0 _ T24.heap _
  rw [e24]
  exact ⟨rfl, N24, K24, (Vu22.other W24 hne), ((E0.wr W23).wr W24), ((F_modCount.other W23 (Or.inl hne.symm)).other W24 (Or.inr (slot_ne (Or.inl (own_w hw 58)) (Or.inl (own_w hw 87)) (by decide) (t := .int) (t' := .int) (by decide) (by decide)))), ((F_elementData.other W23 (Or.inl hne.symm)).other W24 (Or.inr (slot_ne (Or.inl (own_w hw 61)) (Or.inl (own_w hw 87)) (by decide) (t := (.array (.object "java/lang/Object"))) (t' := .int) (by decide) (by decide)))), Fw24⟩
theorem efA12 (m : MethodId) (r0 : Addr) (r1 : Addr) : entryFrame m #[(.ref r0), (.ref r1)] 2 = mkF m 0 #[.val (.ref r0), .val (.ref r1)] [] := by first | (simp [entryFrame, mkF, argsToLocals, Value.category]; done) | rfl
def QA12 (Z : State) (r0 : Addr) (r1 : Addr) (mc : Int32) (ar : Addr) (kA : ClassId) (x0 : Addr) (x1 : Addr) (wBOOLEAN : Addr) (wINTEGER : Addr) (wBITS : Addr) (wOCTETS : Addr) (wNULL : Addr) (wOBJECT_IDENTIFIER : Addr) (wTEXT : Addr) (wCOMPONENTS : Addr) (wELEMENTS : Addr) (wCHOICE : Addr) (wELEMENT : Addr) (cs : Int32) (wD : Addr) (kD : ClassId) (wC : Addr) (clC : Cell) (h0 : Heap) (n0 : Nat) (v : Option Value) (h : Heap) (L : List Loc) : Prop := v = some (.int (1 : Int32)) ∧ Fr n0 L ∧ Keep h0 h [r0, ar] ∧ Arv Z h ar kA (.object "java/lang/Object") (10 : Int32) [(.ref x0), (.ref x1), (.ref r1), .null, .null, .null, .null, .null, .null, .null] .null ∧ Exa Z h r0 "java/util/ArrayList" ∧ Fld Z h r0 "java/util/AbstractList" "modCount" "I" (.int (mc + (1 : Int32))) ∧ Fld Z h r0 "java/util/ArrayList" "elementData" "[Ljava/lang/Object;" (.ref ar) ∧ Fld Z h r0 "java/util/ArrayList" "size" "I" (.int (3 : Int32))
abbrev own_KA12 (Z : State) (r0 : Addr) (r1 : Addr) (mc : Int32) (ar : Addr) (kA : ClassId) (x0 : Addr) (x1 : Addr) (wBOOLEAN : Addr) (wINTEGER : Addr) (wBITS : Addr) (wOCTETS : Addr) (wNULL : Addr) (wOBJECT_IDENTIFIER : Addr) (wTEXT : Addr) (wCOMPONENTS : Addr) (wELEMENTS : Addr) (wCHOICE : Addr) (wELEMENT : Addr) (cs : Int32) (wD : Addr) (kD : ClassId) (wC : Addr) (clC : Cell) (h0 : Heap) (n0 : Nat) (s : State) : Outcome → State → Prop := fun o U' => ∃ v L, o = .returned v ∧ QA12 Z r0 r1 mc ar kA x0 x1 wBOOLEAN wINTEGER wBITS wOCTETS wNULL wOBJECT_IDENTIFIER wTEXT wCOMPONENTS wELEMENTS wCHOICE wELEMENT cs wD kD wC clC h0 n0 v U'.heap L ∧ FrameEnd s o U' L ({ frames := 1, cells := 0, slots := 0, locals := 15 } : Room).cells ({ frames := 1, cells := 0, slots := 0, locals := 15 } : Room).slots
set_option maxRecDepth 65536 in
set_option maxHeartbeats 40000000 in
theorem rmA12 (l : Launch) (Z : State) (a0 : Array Value) (hw : ∀ d ∈ tables_1, d.before a0 Z = true) (ws : List Jvm.Cond) (r0 : Addr) (r1 : Addr) (mc : Int32) (ar : Addr) (kA : ClassId) (x0 : Addr) (x1 : Addr) (wBOOLEAN : Addr) (wINTEGER : Addr) (wBITS : Addr) (wOCTETS : Addr) (wNULL : Addr) (wOBJECT_IDENTIFIER : Addr) (wTEXT : Addr) (wCOMPONENTS : Addr) (wELEMENTS : Addr) (wCHOICE : Addr) (wELEMENT : Addr) (cs : Int32) (wD : Addr) (kD : ClassId) (wC : Addr) (clC : Cell) (h0 : Heap) (n0 : Nat) (Z0 : n0 ≤ h0.size) (O0 : Old Z n0 h0) (HW : own_Wd Z wBOOLEAN wINTEGER wBITS wOCTETS wNULL wOBJECT_IDENTIFIER wTEXT wCOMPONENTS wELEMENTS wCHOICE wELEMENT cs wD kD wC clC) (E0 : Exa Z h0 r0 "java/util/ArrayList") (g_r0 : n0 ≤ r0) (F_modCount : Fld Z h0 r0 "java/util/AbstractList" "modCount" "I" (.int mc)) (F_elementData : Fld Z h0 r0 "java/util/ArrayList" "elementData" "[Ljava/lang/Object;" (.ref ar)) (F_size : Fld Z h0 r0 "java/util/ArrayList" "size" "I" (.int (2 : Int32))) (E1 : Exa Z h0 r1 "java/lang/Integer") (Va : Arv Z h0 ar kA (.object "java/lang/Object") (10 : Int32) [(.ref x0), (.ref x1), .null, .null, .null, .null, .null, .null, .null, .null] .null) (OvA : Ovr Z kA "java/lang/Object") (g_ar : n0 ≤ ar) (hne : ar ≠ r0) :
    MetFree l (⟨"java/util/ArrayList", "add", "(Ljava/lang/Object;)Z"⟩ : MethodName) (head1 (Jvm.Cond.code (⟨"java/util/ArrayList", "add", "(Ljava/lang/Object;)Z"⟩ : MethodName) jdk_38_method_25_code 2 (some .boolean) :: ws) ({ frames := 1, cells := 0, slots := 0, locals := 15 } : Room)) (fun a U => a = #[(.ref r0), (.ref r1)] ∧ Z.Warmed39 U.vm ∧ U.heap = h0) (fun _ _ _ _ _ => True) (fun _ U o U' => ∃ v L, o = .returned v ∧ QA12 Z r0 r1 mc ar kA x0 x1 wBOOLEAN wINTEGER wBITS wOCTETS wNULL wOBJECT_IDENTIFIER wTEXT wCOMPONENTS wELEMENTS wCHOICE wELEMENT cs wD kD wC clC h0 n0 v U'.heap L ∧ FrameEnd U o U' L ({ frames := 1, cells := 0, slots := 0, locals := 15 } : Room).cells ({ frames := 1, cells := 0, slots := 0, locals := 15 } : Room).slots) := by
  refine MetFree.of_bodySF (plainFor_of_name pn_java_util_ArrayList) hisR ?_
  intro p e s m args below meth c s₁ Bd hml0 hP hK
  obtain ⟨rfl, hZ, hh⟩ := hP
  have hx := Bd.exec
  have hby := Bd.bytes
  have hml : c.maxLocals = 2 := hml0
  have hown : s.vm.findClass "java/util/ArrayList" = some m.cls := findClass_of_methodNamed Bd.named
  have hnm := (name_of_methodNamed Bd.named Bd.method).1
  have X0 : Stand p l e ({ frames := 1, cells := 0, slots := 0, locals := 15 } : Room) s m #[(.ref r0), (.ref r1)] below meth c s₁ [] 0 0 := Stand.of_body Bd
  have e0 : s₁.heap = h0 := by rw [← hh, Bd.state]; rfl
  have N0 := Fr.nil n0
  refine own_by (p := p) (e := e) (below := below) (K := own_KA12 Z r0 r1 mc ar kA x0 x1 wBOOLEAN wINTEGER wBITS wOCTETS wNULL wOBJECT_IDENTIFIER wTEXT wCOMPONENTS wELEMENTS wCHOICE wELEMENT cs wD kD wC clC h0 n0 s) (W' := s₁.setTop (mkF m 0 #[.val (.ref r0), .val (.ref r1)] [])) (fun t k => castTop (efA12 m r0 r1) k) ?_
  obtain ⟨T21, X21, e21, st21⟩ := getF X0 hx hZ hown (host := "") (Or.inl (own_w hw 112)) (Via.of (own_w hw 113)) e0 F_modCount (g := (mkF m 2 #[.val (.ref r0), .val (.ref r1)] [(.ref r0), (.ref r0)])) rfl rfl (hb hby djdk_38_25_2)
  obtain ⟨T22, h22, X22, e22, W22, st22⟩ := putF X21 hx hZ hown (host := "") (Or.inl (own_w hw 112)) (Via.of (own_w hw 113)) e21 F_modCount E0 (Or.inl (own_w hw 58)) (own_w hw 37) (ty := .int) (by decide) rfl rfl (g := (mkF m 7 #[.val (.ref r0), .val (.ref r1)] [(.int (mc + (1 : Int32))), (.ref r0)])) rfl rfl (hb hby djdk_38_25_7)
  have Fw22 := F_modCount.same W22
  have O22 := Old.wr O0 W22 g_r0
  have N22 := Fr.snoc X22 N0 g_r0
  have K22 := Keep.wr (Keep.refl h0 [r0, ar]) W22 (Or.inl (List.mem_of_getElem? (i := 0) rfl))
  refine own_by (W' := (T22.setTop (mkF m 10 #[.val (.ref r0), .val (.ref r1)] []))) (fun t k => XS.aloadN X0.here hx rfl (hb hby djdk_38_25_0) rfl rfl (XS.dup X0.here hx rfl (hb hby djdk_38_25_1) rfl rfl (st21 _ (XS.iconst X21.here hx rfl (hb hby djdk_38_25_5) (XS.iadd X21.here hx rfl (hb hby djdk_38_25_6) rfl (st22 _ k)))))) ?_
  obtain ⟨T23, X23, e23, st23⟩ := getF X22 hx hZ hown (host := "") (Or.inl (own_w hw 60)) Via.refl e22 (F_elementData.other W22 (Or.inr (slot_ne (Or.inl (own_w hw 61)) (Or.inl (own_w hw 58)) (by decide) (t := (.array (.object "java/lang/Object"))) (t' := .int) (by decide) (by decide)))) (g := (mkF m 13 #[.val (.ref r0), .val (.ref r1)] [(.ref r0), (.ref r1), (.ref r0)])) rfl rfl (hb hby djdk_38_25_13)
  obtain ⟨T24, X24, e24, st24⟩ := getF X23 hx hZ hown (host := "") (Or.inl (own_w hw 86)) Via.refl e23 (F_size.other W22 (Or.inr (slot_ne (Or.inl (own_w hw 87)) (Or.inl (own_w hw 58)) (by decide) (t := .int) (t' := .int) (by decide) (by decide)))) (g := (mkF m 17 #[.val (.ref r0), .val (.ref r1)] [(.ref r0), (.ref ar), (.ref r1), (.ref r0)])) rfl rfl (hb hby djdk_38_25_17)
  refine own_by (W' := (T24.setTop (mkF m 20 #[.val (.ref r0), .val (.ref r1)] [(.int (2 : Int32)), (.ref ar), (.ref r1), (.ref r0)]))) (fun t k => XS.aloadN X22.here hx rfl (hb hby djdk_38_25_10) rfl rfl (XS.aloadN X22.here hx rfl (hb hby djdk_38_25_11) rfl rfl (XS.aloadN X22.here hx rfl (hb hby djdk_38_25_12) rfl rfl (st23 _ (XS.aloadN X23.here hx rfl (hb hby djdk_38_25_16) rfl rfl (st24 _ k)))))) ?_
  obtain ⟨cq25, q25a, q25b⟩ := (E0.wr W22).cell
  obtain ⟨_, _, ⟨T25, L25, k25, n25⟩, -, X25, ⟨Lc25, hQ25, l25, y25, z25⟩, st25⟩ := X24.privateBack hx (y := (⟨"java/util/ArrayList", "add", "(Ljava/lang/Object;[Ljava/lang/Object;I)V"⟩ : MethodName)) hown (mvT hZ (own_w hw 114)) (mvT hZ (own_w hw 115)) (mvT hZ (own_w hw 117)) (Cond.privateMethod_at (mvP hZ (own_w hw 116) (args := #[]))) (mvT hZ (own_w hw 118)) (by decide) (backOf (W := 0) (rmA32 l Z a0 hw [] r0 r1 (mc + (1 : Int32)) ar kA x0 x1 wBOOLEAN wINTEGER wBITS wOCTETS wNULL wOBJECT_IDENTIFIER wTEXT wCOMPONENTS wELEMENTS wCHOICE wELEMENT cs wD kD wC clC h22 n0 (own_le O22) O22 HW (E0.wr W22) g_r0 Fw22 (F_elementData.other W22 (Or.inr (slot_ne (Or.inl (own_w hw 61)) (Or.inl (own_w hw 58)) (by decide) (t := (.array (.object "java/lang/Object"))) (t' := .int) (by decide) (by decide)))) (F_size.other W22 (Or.inr (slot_ne (Or.inl (own_w hw 87)) (Or.inl (own_w hw 58)) (by decide) (t := .int) (t' := .int) (by decide) (by decide)))) (E1.wr W22) (Va.other W22 hne) OvA g_ar hne) hZ (own_w hw 118) (own_w hw 38) (by decide) (by decide)) (g := (mkF m 20 #[.val (.ref r0), .val (.ref r1)] [(.int (2 : Int32)), (.ref ar), (.ref r1), (.ref r0)])) rfl (by rw [hml]; rfl) (Steps.refl _) (a := r0) (by rw [e24]; exact q25a) q25b (argsL := [(.ref r1), (.ref ar), (.int (2 : Int32))]) (rest := []) (lenOf pd_17 rfl) rfl (by show 2 * 0 + _ ≤ _; exact Nat.le_of_eq rfl) (hb hby djdk_38_25_20) (fun _ _ => ⟨rfl, e24, (by decide : 0 + 0 ≤ _), (by decide : 0 + 0 ≤ _)⟩)
  dsimp only [Pt.U, Pt.locs, Pt.cells, Pt.slots] at X25 l25 y25 z25 st25 hQ25
  subst l25 y25 z25
  obtain ⟨rfl, N25q, Kq25, Vq25, Eq25, Fq25_modCount, Fq25_elementData, Fq25_size⟩ := hQ25
  have O25 := Old.keep O22 Kq25 (allS g_r0 (allS g_ar all0))
  have K25 := Keep.trans K22 Kq25 (allS (Or.inl (List.mem_of_getElem? (i := 0) rfl)) (allS (Or.inl (List.mem_of_getElem? (i := 1) rfl)) all0))
  have N25 := Fr.app N22 N25q
  obtain ⟨fs, hr, hrun, hended, hW, hsame⟩ := X25.leave (v := some (.int (1 : Int32))) (fun h => by rw [Bd.returns] at h; cases h)
  refine own_by (W' := (T25.setTop (mkF m 24 #[.val (.ref r0), .val (.ref r1)] [(.int (1 : Int32))]))) (fun t k => Steps.trans st25 (XS.iconst X25.here hx rfl (hb hby djdk_38_25_23) k)) ?_
  refine ⟨_, _, retOut X25 hx Bd.returns rfl (Or.inl ⟨rfl, Or.inr (Or.inl rfl), _, rfl⟩) (hb hby djdk_38_25_24) hr, hrun, hended, _, _, rfl, ?_, ⟨_, rfl⟩, hW, hsame.mono (by decide) (by decide)⟩
  show QA12 Z r0 r1 mc ar kA x0 x1 wBOOLEAN wINTEGER wBITS wOCTETS wNULL wOBJECT_IDENTIFIER wTEXT wCOMPONENTS wELEMENTS wCHOICE wELEMENT cs wD kD wC clC h0 n0 _ T25.heap _
  exact ⟨rfl, N25, K25, Vq25, Eq25, Fq25_modCount, Fq25_elementData, Fq25_size⟩
theorem djdk_52_21_0 : decode jdk_52_method_21_code 0 = .ok (.iconst 0, 1) := by decide +kernel
theorem djdk_52_21_1 : decode jdk_52_method_21_code 1 = .ok (.istore 5, 2) := by decide +kernel
theorem djdk_52_21_3 : decode jdk_52_method_21_code 3 = .ok (.iload 5, 2) := by decide +kernel
theorem djdk_52_21_5 : decode jdk_52_method_21_code 5 = .ok (.iload 4, 2) := by decide +kernel
theorem djdk_52_21_7 : decode jdk_52_method_21_code 7 = .ok (.if_icmp .ge 37, 3) := by decide +kernel
theorem djdk_52_21_10 : decode jdk_52_method_21_code 10 = .ok (.aload_n 0, 1) := by decide +kernel
theorem djdk_52_21_11 : decode jdk_52_method_21_code 11 = .ok (.iload_n 1, 1) := by decide +kernel
theorem djdk_52_21_12 : decode jdk_52_method_21_code 12 = .ok (.caload, 1) := by decide +kernel
theorem djdk_52_21_13 : decode jdk_52_method_21_code 13 = .ok (.istore 6, 2) := by decide +kernel
theorem djdk_52_21_15 : decode jdk_52_method_21_code 15 = .ok (.iload 6, 2) := by decide +kernel
theorem djdk_52_21_17 : decode jdk_52_method_21_code 17 = .ok (.sipush 255, 3) := by decide +kernel
theorem djdk_52_21_20 : decode jdk_52_method_21_code 20 = .ok (.if_icmp .le 6, 3) := by decide +kernel
theorem djdk_52_21_26 : decode jdk_52_method_21_code 26 = .ok (.aload_n 2, 1) := by decide +kernel
theorem djdk_52_21_27 : decode jdk_52_method_21_code 27 = .ok (.iload_n 3, 1) := by decide +kernel
theorem djdk_52_21_28 : decode jdk_52_method_21_code 28 = .ok (.iload 6, 2) := by decide +kernel
theorem djdk_52_21_30 : decode jdk_52_method_21_code 30 = .ok (.i2b, 1) := by decide +kernel
theorem djdk_52_21_31 : decode jdk_52_method_21_code 31 = .ok (.bastore, 1) := by decide +kernel
theorem djdk_52_21_32 : decode jdk_52_method_21_code 32 = .ok (.iinc 1 1, 3) := by decide +kernel
theorem djdk_52_21_35 : decode jdk_52_method_21_code 35 = .ok (.iinc 3 1, 3) := by decide +kernel
theorem djdk_52_21_38 : decode jdk_52_method_21_code 38 = .ok (.iinc 5 1, 3) := by decide +kernel
theorem djdk_52_21_41 : decode jdk_52_method_21_code 41 = .ok (.goto (-38), 3) := by decide +kernel
theorem djdk_52_21_44 : decode jdk_52_method_21_code 44 = .ok (.iload 4, 2) := by decide +kernel
theorem djdk_52_21_46 : decode jdk_52_method_21_code 46 = .ok (.ireturn, 1) := by decide +kernel
theorem pn_java_lang_StringUTF16 : plainName "java/lang/StringUTF16" = true := by first | (simp [plainName, overriddenIn]; done) | decide +kernel
theorem efcb2 (m : MethodId) (r0 : Addr) (r2 : Addr) : entryFrame m #[(.ref r0), (.int (0 : Int32)), (.ref r2), (.int (0 : Int32)), (.int (2 : Int32))] 7 = mkF m 0 #[.val (.ref r0), .val (.int (0 : Int32)), .val (.ref r2), .val (.int (0 : Int32)), .val (.int (2 : Int32)), .unset, .unset] [] := by first | (simp [entryFrame, mkF, argsToLocals, Value.category]; done) | rfl
def Qcb2 (Z : State) (r0 : Addr) (r2 : Addr) (kC : ClassId) (kB : ClassId) (c0 : Int32) (c1 : Int32) (h0 : Heap) (n0 : Nat) (v : Option Value) (h : Heap) (L : List Loc) : Prop := v = some (.int (2 : Int32)) ∧ Fr n0 L ∧ Keep h0 h [r2] ∧ Arv Z h r2 kB .byte (2 : Int32) [(.int (nar .byte (c0.toInt8.toInt32))), (.int (nar .byte (c1.toInt8.toInt32)))] (.int (0 : Int32))
abbrev own_Kcb2 (Z : State) (r0 : Addr) (r2 : Addr) (kC : ClassId) (kB : ClassId) (c0 : Int32) (c1 : Int32) (h0 : Heap) (n0 : Nat) (s : State) : Outcome → State → Prop := fun o U' => ∃ v L, o = .returned v ∧ Qcb2 Z r0 r2 kC kB c0 c1 h0 n0 v U'.heap L ∧ FrameEnd s o U' L ({ frames := 0, cells := 0, slots := 0, locals := 0 } : Room).cells ({ frames := 0, cells := 0, slots := 0, locals := 0 } : Room).slots
set_option maxRecDepth 65536 in
set_option maxHeartbeats 40000000 in
theorem rmcb2 (l : Launch) (Z : State) (a0 : Array Value) (hw : ∀ d ∈ tables_1, d.before a0 Z = true) (ws : List Jvm.Cond) (r0 : Addr) (r2 : Addr) (kC : ClassId) (kB : ClassId) (c0 : Int32) (c1 : Int32) (h0 : Heap) (n0 : Nat) (Z0 : n0 ≤ h0.size) (O0 : Old Z n0 h0) (V0 : Arv Z h0 r0 kC .char (2 : Int32) [(.int c0), (.int c1)] (.int (0 : Int32))) (V2 : Arv Z h0 r2 kB .byte (2 : Int32) [(.int (0 : Int32)), (.int (0 : Int32))] (.int (0 : Int32))) (g_r2 : n0 ≤ r2) (hne : r0 ≠ r2) (hc_c0 : ¬ (255 : Int32) < c0) (hc_c1 : ¬ (255 : Int32) < c1) :
    MetFree l (⟨"java/lang/StringUTF16", "compress", "([CI[BII)I"⟩ : MethodName) (head1 (Jvm.Cond.code (⟨"java/lang/StringUTF16", "compress", "([CI[BII)I"⟩ : MethodName) jdk_52_method_21_code 7 (some .int) :: ws) ({ frames := 0, cells := 0, slots := 0, locals := 0 } : Room)) (fun a U => a = #[(.ref r0), (.int (0 : Int32)), (.ref r2), (.int (0 : Int32)), (.int (2 : Int32))] ∧ Z.Warmed39 U.vm ∧ U.heap = h0) (fun _ _ _ _ _ => True) (fun _ U o U' => ∃ v L, o = .returned v ∧ Qcb2 Z r0 r2 kC kB c0 c1 h0 n0 v U'.heap L ∧ FrameEnd U o U' L ({ frames := 0, cells := 0, slots := 0, locals := 0 } : Room).cells ({ frames := 0, cells := 0, slots := 0, locals := 0 } : Room).slots) := by
  refine MetFree.of_bodySF (plainFor_of_name pn_java_lang_StringUTF16) hisR ?_
  intro p e s m args below meth c s₁ Bd hml0 hP hK
  obtain ⟨rfl, hZ, hh⟩ := hP
  have hx := Bd.exec
  have hby := Bd.bytes
  have hml : c.maxLocals = 7 := hml0
  have hown : s.vm.findClass "java/lang/StringUTF16" = some m.cls := findClass_of_methodNamed Bd.named
  have hnm := (name_of_methodNamed Bd.named Bd.method).1
  have X0 : Stand p l e ({ frames := 0, cells := 0, slots := 0, locals := 0 } : Room) s m #[(.ref r0), (.int (0 : Int32)), (.ref r2), (.int (0 : Int32)), (.int (2 : Int32))] below meth c s₁ [] 0 0 := Stand.of_body Bd
  have e0 : s₁.heap = h0 := by rw [← hh, Bd.state]; rfl
  have N0 := Fr.nil n0
  refine own_by (p := p) (e := e) (below := below) (K := own_Kcb2 Z r0 r2 kC kB c0 c1 h0 n0 s) (W' := s₁.setTop (mkF m 0 #[.val (.ref r0), .val (.int (0 : Int32)), .val (.ref r2), .val (.int (0 : Int32)), .val (.int (2 : Int32)), .unset, .unset] [])) (fun t k => castTop (efcb2 m r0 r2) k) ?_
  refine own_by (W' := (s₁.setTop (mkF m 11 #[.val (.ref r0), .val (.int (0 : Int32)), .val (.ref r2), .val (.int (0 : Int32)), .val (.int (2 : Int32)), .val (.int (0 : Int32)), .unset] [(.ref r0)]))) (fun t k => XS.iconst X0.here hx rfl (hb hby djdk_52_21_0) (XS.istore X0.here hx rfl (hb hby djdk_52_21_1) rfl (l' := #[.val (.ref r0), .val (.int (0 : Int32)), .val (.ref r2), .val (.int (0 : Int32)), .val (.int (2 : Int32)), .val (.int (0 : Int32)), .unset]) rfl (XS.iload X0.here hx rfl (hb hby djdk_52_21_3) rfl (XS.iload X0.here hx rfl (hb hby djdk_52_21_5) rfl (XS.icmpNo X0.here hx rfl (hb hby djdk_52_21_7) rfl (tlt (by decide : (0 : Int32) < (2 : Int32))).2.1 (XS.aloadN X0.here hx rfl (hb hby djdk_52_21_10) rfl rfl k)))))) ?_
  obtain ⟨clu21, Aru21, qu21, Su21, Ngu21, Hau21, Gau21⟩ := id V0
  have hinu21 : ¬ ((0 : Int32) < 0 ∨ clu21.slots.size ≤ ((0 : Int32)).toNatClampNeg) := inb_of Su21 ⟨by decide, by decide⟩
  have hatu21 : clu21.slots[((0 : Int32)).toNatClampNeg]? = some (.int c0) := Has.at Hau21 hinu21 rfl
  refine own_by (W' := (s₁.setTop (mkF m 26 #[.val (.ref r0), .val (.int (0 : Int32)), .val (.ref r2), .val (.int (0 : Int32)), .val (.int (2 : Int32)), .val (.int (0 : Int32)), .val (.int c0)] []))) (fun t k => XS.iloadN X0.here hx rfl (hb hby djdk_52_21_11) rfl ((X0.caload hx (j := (0 : Int32)) (v := (.int c0)) (by rw [e0]; exact Aru21.1) (State.isArrayOf_alike hZ.alike Aru21.2.1) Aru21.2.2 hinu21 hatu21 (g := (mkF m 12 #[.val (.ref r0), .val (.int (0 : Int32)), .val (.ref r2), .val (.int (0 : Int32)), .val (.int (2 : Int32)), .val (.int (0 : Int32)), .unset] [(.int (0 : Int32)), (.ref r0)])) rfl rfl (hb hby djdk_52_21_12)) _ (XS.istore X0.here hx rfl (hb hby djdk_52_21_13) rfl (l' := #[.val (.ref r0), .val (.int (0 : Int32)), .val (.ref r2), .val (.int (0 : Int32)), .val (.int (2 : Int32)), .val (.int (0 : Int32)), .val (.int c0)]) rfl (XS.iload X0.here hx rfl (hb hby djdk_52_21_15) rfl (XS.sipush X0.here hx rfl (hb hby djdk_52_21_17) (XS.icmpYes X0.here hx rfl (pc0 := 20) (pc' := 26) rfl (hb hby djdk_52_21_20) rfl (flt hc_c0).2.2.2 (by decide) (by decide) k)))))) ?_
  obtain ⟨clu22, Aru22, qu22, Su22, Ngu22, Hau22, Gau22⟩ := id V2
  have hinu22 : ¬ ((0 : Int32) < 0 ∨ clu22.slots.size ≤ ((0 : Int32)).toNatClampNeg) := inb_of Su22 ⟨by decide, by decide⟩
  obtain ⟨T23, h23, X23, e23, W23, st23⟩ := stB X0 hx hZ e0 Aru22 (j := (0 : Int32)) hinu22 (g := (mkF m 31 #[.val (.ref r0), .val (.int (0 : Int32)), .val (.ref r2), .val (.int (0 : Int32)), .val (.int (2 : Int32)), .val (.int (0 : Int32)), .val (.int c0)] [(.int (c0.toInt8.toInt32)), (.int (0 : Int32)), (.ref r2)])) rfl rfl (hb hby djdk_52_21_31)
  have Vu22 : Arv Z h23 r2 kB .byte (2 : Int32) [(.int (nar .byte (c0.toInt8.toInt32))), (.int (0 : Int32))] (.int (0 : Int32)) := Arv.set Aru22 qu22 Su22 Ngu22 Hau22 Gau22 (fits_nar_byte _) W23 0 rfl (Nat.le_of_ble_eq_true rfl)
  have O23 := Old.wr O0 W23 g_r2
  have N23 := Fr.snoc X23 N0 g_r2
  have K23 := Keep.wr (Keep.refl h0 [r2]) W23 (Or.inl (List.mem_of_getElem? (i := 0) rfl))
  refine own_by (W' := (T23.setTop (mkF m 35 #[.val (.ref r0), .val (.int (1 : Int32)), .val (.ref r2), .val (.int (0 : Int32)), .val (.int (2 : Int32)), .val (.int (0 : Int32)), .val (.int c0)] []))) (fun t k => XS.aloadN X0.here hx rfl (hb hby djdk_52_21_26) rfl rfl (XS.iloadN X0.here hx rfl (hb hby djdk_52_21_27) rfl (XS.iload X0.here hx rfl (hb hby djdk_52_21_28) rfl (XS.i2b X0.here hx rfl (hb hby djdk_52_21_30) rfl (st23 _ (XS.iinc X23.here hx rfl (hb hby djdk_52_21_32) rfl (l' := #[.val (.ref r0), .val (.int (1 : Int32)), .val (.ref r2), .val (.int (0 : Int32)), .val (.int (2 : Int32)), .val (.int (0 : Int32)), .val (.int c0)]) rfl k)))))) ?_
  refine own_by (W' := (T23.setTop (mkF m 10 #[.val (.ref r0), .val (.int (1 : Int32)), .val (.ref r2), .val (.int (1 : Int32)), .val (.int (2 : Int32)), .val (.int (1 : Int32)), .val (.int c0)] []))) (fun t k => XS.iinc X23.here hx rfl (hb hby djdk_52_21_35) rfl (l' := #[.val (.ref r0), .val (.int (1 : Int32)), .val (.ref r2), .val (.int (1 : Int32)), .val (.int (2 : Int32)), .val (.int (0 : Int32)), .val (.int c0)]) rfl (XS.iinc X23.here hx rfl (hb hby djdk_52_21_38) rfl (l' := #[.val (.ref r0), .val (.int (1 : Int32)), .val (.ref r2), .val (.int (1 : Int32)), .val (.int (2 : Int32)), .val (.int (1 : Int32)), .val (.int c0)]) rfl (XS.goto X23.here hx rfl (pc0 := 41) (pc' := 3) rfl (hb hby djdk_52_21_41) (by decide) (by decide) (XS.iload X23.here hx rfl (hb hby djdk_52_21_3) rfl (XS.iload X23.here hx rfl (hb hby djdk_52_21_5) rfl (XS.icmpNo X23.here hx rfl (hb hby djdk_52_21_7) rfl (tlt (by decide : (1 : Int32) < (2 : Int32))).2.1 k)))))) ?_
  obtain ⟨clu24, Aru24, qu24, Su24, Ngu24, Hau24, Gau24⟩ := id (V0.other W23 hne)
  have hinu24 : ¬ ((1 : Int32) < 0 ∨ clu24.slots.size ≤ ((1 : Int32)).toNatClampNeg) := inb_of Su24 ⟨by decide, by decide⟩
  have hatu24 : clu24.slots[((1 : Int32)).toNatClampNeg]? = some (.int c1) := Has.at Hau24 hinu24 rfl
  refine own_by (W' := (T23.setTop (mkF m 20 #[.val (.ref r0), .val (.int (1 : Int32)), .val (.ref r2), .val (.int (1 : Int32)), .val (.int (2 : Int32)), .val (.int (1 : Int32)), .val (.int c1)] [(.int (255 : Int32)), (.int c1)]))) (fun t k => XS.aloadN X23.here hx rfl (hb hby djdk_52_21_10) rfl rfl (XS.iloadN X23.here hx rfl (hb hby djdk_52_21_11) rfl ((X23.caload hx (j := (1 : Int32)) (v := (.int c1)) (by rw [e23]; exact Aru24.1) (State.isArrayOf_alike hZ.alike Aru24.2.1) Aru24.2.2 hinu24 hatu24 (g := (mkF m 12 #[.val (.ref r0), .val (.int (1 : Int32)), .val (.ref r2), .val (.int (1 : Int32)), .val (.int (2 : Int32)), .val (.int (1 : Int32)), .val (.int c0)] [(.int (1 : Int32)), (.ref r0)])) rfl rfl (hb hby djdk_52_21_12)) _ (XS.istore X23.here hx rfl (hb hby djdk_52_21_13) rfl (l' := #[.val (.ref r0), .val (.int (1 : Int32)), .val (.ref r2), .val (.int (1 : Int32)), .val (.int (2 : Int32)), .val (.int (1 : Int32)), .val (.int c1)]) rfl (XS.iload X23.here hx rfl (hb hby djdk_52_21_15) rfl (XS.sipush X23.here hx rfl (hb hby djdk_52_21_17) k)))))) ?_
  obtain ⟨clu25, Aru25, qu25, Su25, Ngu25, Hau25, Gau25⟩ := id Vu22
  have hinu25 : ¬ ((1 : Int32) < 0 ∨ clu25.slots.size ≤ ((1 : Int32)).toNatClampNeg) := inb_of Su25 ⟨by decide, by decide⟩
  obtain ⟨T26, h26, X26, e26, W26, st26⟩ := stB X23 hx hZ e23 Aru25 (j := (1 : Int32)) hinu25 (g := (mkF m 31 #[.val (.ref r0), .val (.int (1 : Int32)), .val (.ref r2), .val (.int (1 : Int32)), .val (.int (2 : Int32)), .val (.int (1 : Int32)), .val (.int c1)] [(.int (c1.toInt8.toInt32)), (.int (1 : Int32)), (.ref r2)])) rfl rfl (hb hby djdk_52_21_31)
  have Vu25 : Arv Z h26 r2 kB .byte (2 : Int32) [(.int (nar .byte (c0.toInt8.toInt32))), (.int (nar .byte (c1.toInt8.toInt32)))] (.int (0 : Int32)) := Arv.set Aru25 qu25 Su25 Ngu25 Hau25 Gau25 (fits_nar_byte _) W26 1 rfl (Nat.le_of_ble_eq_true rfl)
  have O26 := Old.wr O23 W26 g_r2
  have N26 := Fr.snoc X26 N23 g_r2
  have K26 := Keep.wr K23 W26 (Or.inl (List.mem_of_getElem? (i := 0) rfl))
  refine own_by (W' := (T26.setTop (mkF m 32 #[.val (.ref r0), .val (.int (1 : Int32)), .val (.ref r2), .val (.int (1 : Int32)), .val (.int (2 : Int32)), .val (.int (1 : Int32)), .val (.int c1)] []))) (fun t k => XS.icmpYes X23.here hx rfl (pc0 := 20) (pc' := 26) rfl (hb hby djdk_52_21_20) rfl (flt hc_c1).2.2.2 (by decide) (by decide) (XS.aloadN X23.here hx rfl (hb hby djdk_52_21_26) rfl rfl (XS.iloadN X23.here hx rfl (hb hby djdk_52_21_27) rfl (XS.iload X23.here hx rfl (hb hby djdk_52_21_28) rfl (XS.i2b X23.here hx rfl (hb hby djdk_52_21_30) rfl (st26 _ k)))))) ?_
  refine own_by (W' := (T26.setTop (mkF m 7 #[.val (.ref r0), .val (.int (2 : Int32)), .val (.ref r2), .val (.int (2 : Int32)), .val (.int (2 : Int32)), .val (.int (2 : Int32)), .val (.int c1)] [(.int (2 : Int32)), (.int (2 : Int32))]))) (fun t k => XS.iinc X26.here hx rfl (hb hby djdk_52_21_32) rfl (l' := #[.val (.ref r0), .val (.int (2 : Int32)), .val (.ref r2), .val (.int (1 : Int32)), .val (.int (2 : Int32)), .val (.int (1 : Int32)), .val (.int c1)]) rfl (XS.iinc X26.here hx rfl (hb hby djdk_52_21_35) rfl (l' := #[.val (.ref r0), .val (.int (2 : Int32)), .val (.ref r2), .val (.int (2 : Int32)), .val (.int (2 : Int32)), .val (.int (1 : Int32)), .val (.int c1)]) rfl (XS.iinc X26.here hx rfl (hb hby djdk_52_21_38) rfl (l' := #[.val (.ref r0), .val (.int (2 : Int32)), .val (.ref r2), .val (.int (2 : Int32)), .val (.int (2 : Int32)), .val (.int (2 : Int32)), .val (.int c1)]) rfl (XS.goto X26.here hx rfl (pc0 := 41) (pc' := 3) rfl (hb hby djdk_52_21_41) (by decide) (by decide) (XS.iload X26.here hx rfl (hb hby djdk_52_21_3) rfl (XS.iload X26.here hx rfl (hb hby djdk_52_21_5) rfl k)))))) ?_
  obtain ⟨fs, hr, hrun, hended, hW, hsame⟩ := X26.leave (v := some (.int (2 : Int32))) (fun h => by rw [Bd.returns] at h; cases h)
  refine own_by (W' := (T26.setTop (mkF m 46 #[.val (.ref r0), .val (.int (2 : Int32)), .val (.ref r2), .val (.int (2 : Int32)), .val (.int (2 : Int32)), .val (.int (2 : Int32)), .val (.int c1)] [(.int (2 : Int32))]))) (fun t k => XS.icmpYes X26.here hx rfl (pc0 := 7) (pc' := 44) rfl (hb hby djdk_52_21_7) rfl (flt (by decide : ¬ ((2 : Int32) < (2 : Int32)))).2.1 (by decide) (by decide) (XS.iload X26.here hx rfl (hb hby djdk_52_21_44) rfl k)) ?_
  refine ⟨_, _, retOut X26 hx Bd.returns rfl (Or.inl ⟨rfl, Or.inl rfl, _, rfl⟩) (hb hby djdk_52_21_46) hr, hrun, hended, _, _, rfl, ?_, ⟨_, rfl⟩, hW, hsame.mono (by decide) (by decide)⟩
  show Qcb2 Z r0 r2 kC kB c0 c1 h0 n0 _ T26.heap _
  rw [e26]
  exact ⟨rfl, N26, K26, Vu25⟩
theorem pd_18 : parseMethodDescriptor "([CI[BII)I" = some ⟨[(.array .char), .int, (.array .byte), .int, .int], some .int⟩ := by decide +kernel
theorem djdk_52_16_0 : decode jdk_52_method_16_code 0 = .ok (.iload_n 2, 1) := by decide +kernel
theorem djdk_52_16_1 : decode jdk_52_method_16_code 1 = .ok (.newarray .byte, 2) := by decide +kernel
theorem djdk_52_16_3 : decode jdk_52_method_16_code 3 = .ok (.astore_n 3, 1) := by decide +kernel
theorem djdk_52_16_4 : decode jdk_52_method_16_code 4 = .ok (.aload_n 0, 1) := by decide +kernel
theorem djdk_52_16_5 : decode jdk_52_method_16_code 5 = .ok (.iload_n 1, 1) := by decide +kernel
theorem djdk_52_16_6 : decode jdk_52_method_16_code 6 = .ok (.aload_n 3, 1) := by decide +kernel
theorem djdk_52_16_7 : decode jdk_52_method_16_code 7 = .ok (.iconst 0, 1) := by decide +kernel
theorem djdk_52_16_8 : decode jdk_52_method_16_code 8 = .ok (.iload_n 2, 1) := by decide +kernel
theorem djdk_52_16_9 : decode jdk_52_method_16_code 9 = .ok (.invokestatic 115, 3) := by decide +kernel
theorem djdk_52_16_12 : decode jdk_52_method_16_code 12 = .ok (.istore 4, 2) := by decide +kernel
theorem djdk_52_16_14 : decode jdk_52_method_16_code 14 = .ok (.iload 4, 2) := by decide +kernel
theorem djdk_52_16_16 : decode jdk_52_method_16_code 16 = .ok (.iload_n 2, 1) := by decide +kernel
theorem djdk_52_16_17 : decode jdk_52_method_16_code 17 = .ok (.if_icmp .eq 40, 3) := by decide +kernel
theorem djdk_52_16_57 : decode jdk_52_method_16_code 57 = .ok (.aload_n 3, 1) := by decide +kernel
theorem djdk_52_16_58 : decode jdk_52_method_16_code 58 = .ok (.areturn, 1) := by decide +kernel
theorem efca2 (m : MethodId) (r0 : Addr) : entryFrame m #[(.ref r0), (.int (0 : Int32)), (.int (2 : Int32))] 6 = mkF m 0 #[.val (.ref r0), .val (.int (0 : Int32)), .val (.int (2 : Int32)), .unset, .unset, .unset] [] := by first | (simp [entryFrame, mkF, argsToLocals, Value.category]; done) | rfl
def Qca2 (Z : State) (r0 : Addr) (kC : ClassId) (c0 : Int32) (c1 : Int32) (h0 : Heap) (n0 : Nat) (v : Option Value) (h : Heap) (L : List Loc) : Prop := ∃ (q : Addr) (kq : ClassId), v = some (.ref q) ∧ Fr n0 L ∧ Keep h0 h [] ∧ h0.size ≤ q ∧ Arv Z h q kq .byte (2 : Int32) [(.int (nar .byte (c0.toInt8.toInt32))), (.int (nar .byte (c1.toInt8.toInt32)))] (.int (0 : Int32))
abbrev own_Kca2 (Z : State) (r0 : Addr) (kC : ClassId) (c0 : Int32) (c1 : Int32) (h0 : Heap) (n0 : Nat) (s : State) : Outcome → State → Prop := fun o U' => ∃ v L, o = .returned v ∧ Qca2 Z r0 kC c0 c1 h0 n0 v U'.heap L ∧ FrameEnd s o U' L ({ frames := 1, cells := 1, slots := 2, locals := 18 } : Room).cells ({ frames := 1, cells := 1, slots := 2, locals := 18 } : Room).slots
set_option maxRecDepth 65536 in
set_option maxHeartbeats 40000000 in
theorem rmca2 (l : Launch) (Z : State) (a0 : Array Value) (hw : ∀ d ∈ tables_1, d.before a0 Z = true) (ws : List Jvm.Cond) (r0 : Addr) (kC : ClassId) (c0 : Int32) (c1 : Int32) (h0 : Heap) (n0 : Nat) (Z0 : n0 ≤ h0.size) (O0 : Old Z n0 h0) (V0 : Arv Z h0 r0 kC .char (2 : Int32) [(.int c0), (.int c1)] (.int (0 : Int32))) (hc_c0 : ¬ (255 : Int32) < c0) (hc_c1 : ¬ (255 : Int32) < c1) :
    MetFree l (⟨"java/lang/StringUTF16", "compress", "([CII)[B"⟩ : MethodName) (head1 (Jvm.Cond.code (⟨"java/lang/StringUTF16", "compress", "([CII)[B"⟩ : MethodName) jdk_52_method_16_code 6 (some (.array .byte)) :: ws) ({ frames := 1, cells := 1, slots := 2, locals := 18 } : Room)) (fun a U => a = #[(.ref r0), (.int (0 : Int32)), (.int (2 : Int32))] ∧ Z.Warmed39 U.vm ∧ U.heap = h0) (fun _ _ _ _ _ => True) (fun _ U o U' => ∃ v L, o = .returned v ∧ Qca2 Z r0 kC c0 c1 h0 n0 v U'.heap L ∧ FrameEnd U o U' L ({ frames := 1, cells := 1, slots := 2, locals := 18 } : Room).cells ({ frames := 1, cells := 1, slots := 2, locals := 18 } : Room).slots) := by
  refine MetFree.of_bodySF (plainFor_of_name pn_java_lang_StringUTF16) hisR ?_
  intro p e s m args below meth c s₁ Bd hml0 hP hK
  obtain ⟨rfl, hZ, hh⟩ := hP
  have hx := Bd.exec
  have hby := Bd.bytes
  have hml : c.maxLocals = 6 := hml0
  have hown : s.vm.findClass "java/lang/StringUTF16" = some m.cls := findClass_of_methodNamed Bd.named
  have hnm := (name_of_methodNamed Bd.named Bd.method).1
  have X0 : Stand p l e ({ frames := 1, cells := 1, slots := 2, locals := 18 } : Room) s m #[(.ref r0), (.int (0 : Int32)), (.int (2 : Int32))] below meth c s₁ [] 0 0 := Stand.of_body Bd
  have e0 : s₁.heap = h0 := by rw [← hh, Bd.state]; rfl
  have N0 := Fr.nil n0
  refine own_by (p := p) (e := e) (below := below) (K := own_Kca2 Z r0 kC c0 c1 h0 n0 s) (W' := s₁.setTop (mkF m 0 #[.val (.ref r0), .val (.int (0 : Int32)), .val (.int (2 : Int32)), .unset, .unset, .unset] [])) (fun t k => castTop (efca2 m r0) k) ?_
  obtain ⟨T21, h21, k21, X21, e21, E21, A21, st21⟩ := newP X0 hx hZ (own_w hw 139) e0 (g := (mkF m 1 #[.val (.ref r0), .val (.int (0 : Int32)), .val (.int (2 : Int32)), .unset, .unset, .unset] [(.int (2 : Int32))])) rfl (hb hby djdk_52_16_1) rfl (by decide) (cap := 2) (by decide) (by decide) (by decide) (by decide)
  obtain ⟨b21, g21⟩ : ∃ z, z = h0.size := ⟨_, rfl⟩
  rw [← g21] at A21 st21
  have g_b21 : n0 ≤ b21 := Nat.le_trans (own_le O0) (Nat.le_of_eq g21.symm)
  have sz_b21 : h0.size ≤ b21 := Nat.le_trans (Keep.refl h0 []).1 (Nat.le_of_eq g21.symm)
  have ne_r0_b21 : r0 ≠ b21 := Nat.ne_of_lt (Nat.lt_of_lt_of_le V0.lt (Nat.le_of_eq g21.symm))
  have O21 := O0.ext E21
  have K21 := Keep.ext (Keep.refl h0 []) E21
  have V_b21 : Arv Z h21 b21 k21 .byte (2 : Int32) [(.int (0 : Int32)), (.int (0 : Int32))] (.int (0 : Int32)) := (Arv.new A21 (by decide)).pad (pad_rep [] (.int (0 : Int32)) 2)
  refine own_by (W' := (T21.setTop (mkF m 7 #[.val (.ref r0), .val (.int (0 : Int32)), .val (.int (2 : Int32)), .val (.ref b21), .unset, .unset] [(.ref b21), (.int (0 : Int32)), (.ref r0)]))) (fun t k => XS.iloadN X0.here hx rfl (hb hby djdk_52_16_0) rfl (st21 _ (XS.astoreN X21.here hx rfl (hb hby djdk_52_16_3) rfl rfl (l' := #[.val (.ref r0), .val (.int (0 : Int32)), .val (.int (2 : Int32)), .val (.ref b21), .unset, .unset]) rfl (XS.aloadN X21.here hx rfl (hb hby djdk_52_16_4) rfl rfl (XS.iloadN X21.here hx rfl (hb hby djdk_52_16_5) rfl (XS.aloadN X21.here hx rfl (hb hby djdk_52_16_6) rfl rfl k)))))) ?_
  obtain ⟨_, _, ⟨T22, L22, k22, n22⟩, -, X22, ⟨Lc22, hQ22, l22, y22, z22⟩, st22⟩ := Jvm.LawKit.callS X21 hx (y := (⟨"java/lang/StringUTF16", "compress", "([CI[BII)I"⟩ : MethodName)) hown (mvT hZ (own_w hw 193)) (mvT hZ (own_w hw 194)) (mvT hZ (own_w hw 191)) (mvT hZ (own_w hw 195)) (by decide) (backOf (W := 0) (rmcb2 l Z a0 hw [] r0 b21 kC k21 c0 c1 h21 n0 (own_le O21) O21 (V0.ext E21) V_b21 g_b21 ne_r0_b21 hc_c0 hc_c1) hZ (own_w hw 195) (own_w hw 191) (by decide) (by decide)) (g := (mkF m 9 #[.val (.ref r0), .val (.int (0 : Int32)), .val (.int (2 : Int32)), .val (.ref b21), .unset, .unset] [(.int (2 : Int32)), (.int (0 : Int32)), (.ref b21), (.int (0 : Int32)), (.ref r0)])) rfl (by rw [hml]; rfl) (argsL := [(.ref r0), (.int (0 : Int32)), (.ref b21), (.int (0 : Int32)), (.int (2 : Int32))]) (rest := []) (lenOf pd_18 rfl) rfl (by show 2 * 0 + _ ≤ _; exact Nat.le_of_eq rfl) (hb hby djdk_52_16_9) (fun _ _ => ⟨rfl, e21, (by decide : 1 + 0 ≤ _), (by decide : 2 + 0 ≤ _)⟩)
  dsimp only [Pt.U, Pt.locs, Pt.cells, Pt.slots] at X22 l22 y22 z22 st22 hQ22
  subst l22 y22 z22
  obtain ⟨rfl, N22q, Kq22, Vq22⟩ := hQ22
  have O22 := Old.keep O21 Kq22 (allS g_b21 all0)
  have K22 := Keep.trans K21 Kq22 (allS (Or.inr sz_b21) all0)
  have N22 := Fr.app N0 N22q
  refine own_by (W' := (T22.setTop (mkF m 17 #[.val (.ref r0), .val (.int (0 : Int32)), .val (.int (2 : Int32)), .val (.ref b21), .val (.int (2 : Int32)), .unset] [(.int (2 : Int32)), (.int (2 : Int32))]))) (fun t k => XS.iconst X21.here hx rfl (hb hby djdk_52_16_7) (XS.iloadN X21.here hx rfl (hb hby djdk_52_16_8) rfl (st22 _ (XS.istore X22.here hx rfl (hb hby djdk_52_16_12) rfl (l' := #[.val (.ref r0), .val (.int (0 : Int32)), .val (.int (2 : Int32)), .val (.ref b21), .val (.int (2 : Int32)), .unset]) rfl (XS.iload X22.here hx rfl (hb hby djdk_52_16_14) rfl (XS.iloadN X22.here hx rfl (hb hby djdk_52_16_16) rfl k)))))) ?_
  obtain ⟨fs, hr, hrun, hended, hW, hsame⟩ := X22.leave (v := some (.ref b21)) (fun h => by rw [Bd.returns] at h; cases h)
  refine own_by (W' := (T22.setTop (mkF m 58 #[.val (.ref r0), .val (.int (0 : Int32)), .val (.int (2 : Int32)), .val (.ref b21), .val (.int (2 : Int32)), .unset] [(.ref b21)]))) (fun t k => XS.icmpYes X22.here hx rfl (pc0 := 17) (pc' := 57) rfl (hb hby djdk_52_16_17) rfl (teq (rfl : (2 : Int32) = (2 : Int32))).1 (by decide) (by decide) (XS.aloadN X22.here hx rfl (hb hby djdk_52_16_57) rfl rfl k)) ?_
  refine ⟨_, _, retOut X22 hx Bd.returns rfl (Or.inr (Or.inr (Or.inr (Or.inr ⟨rfl, rfl, rfl⟩)))) (hb hby djdk_52_16_58) hr, hrun, hended, _, _, rfl, ?_, ⟨_, rfl⟩, hW, hsame.mono (by decide) (by decide)⟩
  show Qca2 Z r0 kC c0 c1 h0 n0 _ T22.heap _
  exact ⟨_, _, rfl, N22, K22, sz_b21, Vq22⟩
theorem djdk_52_15_0 : decode jdk_52_method_15_code 0 = .ok (.iload_n 1, 1) := by decide +kernel
theorem djdk_52_15_1 : decode jdk_52_method_15_code 1 = .ok (.aload_n 0, 1) := by decide +kernel
theorem djdk_52_15_2 : decode jdk_52_method_15_code 2 = .ok (.arraylength, 1) := by decide +kernel
theorem djdk_52_15_3 : decode jdk_52_method_15_code 3 = .ok (.isub, 1) := by decide +kernel
theorem djdk_52_15_4 : decode jdk_52_method_15_code 4 = .ok (.bipush 31, 2) := by decide +kernel
theorem djdk_52_15_6 : decode jdk_52_method_15_code 6 = .ok (.iushr, 1) := by decide +kernel
theorem djdk_52_15_7 : decode jdk_52_method_15_code 7 = .ok (.i2b, 1) := by decide +kernel
theorem djdk_52_15_8 : decode jdk_52_method_15_code 8 = .ok (.ireturn, 1) := by decide +kernel
theorem efcd2 (m : MethodId) (r0 : Addr) : entryFrame m #[(.ref r0), (.int (2 : Int32))] 2 = mkF m 0 #[.val (.ref r0), .val (.int (2 : Int32))] [] := by first | (simp [entryFrame, mkF, argsToLocals, Value.category]; done) | rfl
def Qcd2 (Z : State) (r0 : Addr) (kB : ClassId) (vl : List Value) (h0 : Heap) (n0 : Nat) (v : Option Value) (h : Heap) (L : List Loc) : Prop := v = some (.int (0 : Int32)) ∧ Fr n0 L ∧ h = h0
abbrev own_Kcd2 (Z : State) (r0 : Addr) (kB : ClassId) (vl : List Value) (h0 : Heap) (n0 : Nat) (s : State) : Outcome → State → Prop := fun o U' => ∃ v L, o = .returned v ∧ Qcd2 Z r0 kB vl h0 n0 v U'.heap L ∧ FrameEnd s o U' L ({ frames := 0, cells := 0, slots := 0, locals := 0 } : Room).cells ({ frames := 0, cells := 0, slots := 0, locals := 0 } : Room).slots
set_option maxRecDepth 65536 in
set_option maxHeartbeats 40000000 in
theorem rmcd2 (l : Launch) (Z : State) (a0 : Array Value) (hw : ∀ d ∈ tables_1, d.before a0 Z = true) (ws : List Jvm.Cond) (r0 : Addr) (kB : ClassId) (vl : List Value) (h0 : Heap) (n0 : Nat) (Z0 : n0 ≤ h0.size) (V0 : Arv Z h0 r0 kB .byte (2 : Int32) vl (.int (0 : Int32))) :
    MetFree l (⟨"java/lang/StringUTF16", "coderFromArrayLen", "([BI)B"⟩ : MethodName) (head1 (Jvm.Cond.code (⟨"java/lang/StringUTF16", "coderFromArrayLen", "([BI)B"⟩ : MethodName) jdk_52_method_15_code 2 (some .byte) :: ws) ({ frames := 0, cells := 0, slots := 0, locals := 0 } : Room)) (fun a U => a = #[(.ref r0), (.int (2 : Int32))] ∧ Z.Warmed39 U.vm ∧ U.heap = h0) (fun _ _ _ _ _ => True) (fun _ U o U' => ∃ v L, o = .returned v ∧ Qcd2 Z r0 kB vl h0 n0 v U'.heap L ∧ FrameEnd U o U' L ({ frames := 0, cells := 0, slots := 0, locals := 0 } : Room).cells ({ frames := 0, cells := 0, slots := 0, locals := 0 } : Room).slots) := by
  refine MetFree.of_bodySF (plainFor_of_name pn_java_lang_StringUTF16) hisR ?_
  intro p e s m args below meth c s₁ Bd hml0 hP hK
  obtain ⟨rfl, hZ, hh⟩ := hP
  have hx := Bd.exec
  have hby := Bd.bytes
  have hml : c.maxLocals = 2 := hml0
  have hown : s.vm.findClass "java/lang/StringUTF16" = some m.cls := findClass_of_methodNamed Bd.named
  have hnm := (name_of_methodNamed Bd.named Bd.method).1
  have X0 : Stand p l e ({ frames := 0, cells := 0, slots := 0, locals := 0 } : Room) s m #[(.ref r0), (.int (2 : Int32))] below meth c s₁ [] 0 0 := Stand.of_body Bd
  have e0 : s₁.heap = h0 := by rw [← hh, Bd.state]; rfl
  have N0 := Fr.nil n0
  refine own_by (p := p) (e := e) (below := below) (K := own_Kcd2 Z r0 kB vl h0 n0 s) (W' := s₁.setTop (mkF m 0 #[.val (.ref r0), .val (.int (2 : Int32))] [])) (fun t k => castTop (efcd2 m r0) k) ?_
  obtain ⟨clu21, Aru21, qu21, Su21, Ngu21, Hau21, Gau21⟩ := id V0
  refine own_by (W' := (s₁.setTop (mkF m 3 #[.val (.ref r0), .val (.int (2 : Int32))] [(.int clu21.slots.size.toInt32), (.int (2 : Int32))]))) (fun t k => XS.iloadN X0.here hx rfl (hb hby djdk_52_15_0) rfl (XS.aloadN X0.here hx rfl (hb hby djdk_52_15_1) rfl rfl ((X0.arraylength hx (by rw [e0]; exact Aru21.1) (State.isArrayOf_alike hZ.alike Aru21.2.1) (g := (mkF m 2 #[.val (.ref r0), .val (.int (2 : Int32))] [(.ref r0), (.int (2 : Int32))])) rfl rfl (hb hby djdk_52_15_2)) _ k))) ?_
  rw [len_of Su21 Ngu21]
  obtain ⟨fs, hr, hrun, hended, hW, hsame⟩ := X0.leave (v := some (.int (((((2 : Int32) - (2 : Int32)).toUInt32 >>> ((31 : Int32) &&& 31).toUInt32).toInt32).toInt8.toInt32))) (fun h => by rw [Bd.returns] at h; cases h)
  refine own_by (W' := (s₁.setTop (mkF m 8 #[.val (.ref r0), .val (.int (2 : Int32))] [(.int (((((2 : Int32) - (2 : Int32)).toUInt32 >>> ((31 : Int32) &&& 31).toUInt32).toInt32).toInt8.toInt32))]))) (fun t k => XS.isub X0.here hx rfl (hb hby djdk_52_15_3) rfl (XS.bipush X0.here hx rfl (hb hby djdk_52_15_4) (XS.iushr X0.here hx rfl (hb hby djdk_52_15_6) rfl (XS.i2b X0.here hx rfl (hb hby djdk_52_15_7) rfl k)))) ?_
  refine ⟨_, _, retOut X0 hx Bd.returns rfl (Or.inl ⟨rfl, Or.inr (Or.inr (Or.inl rfl)), _, rfl⟩) (hb hby djdk_52_15_8) hr, hrun, hended, _, _, rfl, ?_, ⟨_, rfl⟩, hW, hsame.mono (by decide) (by decide)⟩
  exact ⟨by rfl, N0, e0⟩
theorem pd_19 : parseMethodDescriptor "([CII)[B" = some ⟨[(.array .char), .int, .int], some (.array .byte)⟩ := by decide +kernel
theorem pd_20 : parseMethodDescriptor "([BI)B" = some ⟨[(.array .byte), .int], some .byte⟩ := by decide +kernel
theorem djdk_42_149_0 : decode jdk_42_method_149_code 0 = .ok (.aload_n 0, 1) := by decide +kernel
theorem djdk_42_149_1 : decode jdk_42_method_149_code 1 = .ok (.invokespecial 1, 3) := by decide +kernel
theorem djdk_42_149_4 : decode jdk_42_method_149_code 4 = .ok (.iload_n 3, 1) := by decide +kernel
theorem djdk_42_149_5 : decode jdk_42_method_149_code 5 = .ok (.ifCond .ne 22, 3) := by decide +kernel
theorem djdk_42_149_27 : decode jdk_42_method_149_code 27 = .ok (.getstatic 38, 3) := by decide +kernel
theorem djdk_42_149_30 : decode jdk_42_method_149_code 30 = .ok (.ifCond .eq 28, 3) := by decide +kernel
theorem djdk_42_149_33 : decode jdk_42_method_149_code 33 = .ok (.aload_n 1, 1) := by decide +kernel
theorem djdk_42_149_34 : decode jdk_42_method_149_code 34 = .ok (.iload_n 2, 1) := by decide +kernel
theorem djdk_42_149_35 : decode jdk_42_method_149_code 35 = .ok (.iload_n 3, 1) := by decide +kernel
theorem djdk_42_149_36 : decode jdk_42_method_149_code 36 = .ok (.invokestatic 177, 3) := by decide +kernel
theorem djdk_42_149_39 : decode jdk_42_method_149_code 39 = .ok (.astore 5, 2) := by decide +kernel
theorem djdk_42_149_41 : decode jdk_42_method_149_code 41 = .ok (.aload_n 0, 1) := by decide +kernel
theorem djdk_42_149_42 : decode jdk_42_method_149_code 42 = .ok (.aload 5, 2) := by decide +kernel
theorem djdk_42_149_44 : decode jdk_42_method_149_code 44 = .ok (.iload_n 3, 1) := by decide +kernel
theorem djdk_42_149_45 : decode jdk_42_method_149_code 45 = .ok (.invokestatic 47, 3) := by decide +kernel
theorem djdk_42_149_48 : decode jdk_42_method_149_code 48 = .ok (.putfield 15, 3) := by decide +kernel
theorem djdk_42_149_51 : decode jdk_42_method_149_code 51 = .ok (.aload_n 0, 1) := by decide +kernel
theorem djdk_42_149_52 : decode jdk_42_method_149_code 52 = .ok (.aload 5, 2) := by decide +kernel
theorem djdk_42_149_54 : decode jdk_42_method_149_code 54 = .ok (.putfield 9, 3) := by decide +kernel
theorem djdk_42_149_57 : decode jdk_42_method_149_code 57 = .ok (.return_, 1) := by decide +kernel
theorem efsb2 (m : MethodId) (r0 : Addr) (r1 : Addr) : entryFrame m #[(.ref r0), (.ref r1), (.int (0 : Int32)), (.int (2 : Int32)), .null] 6 = mkF m 0 #[.val (.ref r0), .val (.ref r1), .val (.int (0 : Int32)), .val (.int (2 : Int32)), .val .null, .unset] [] := by first | (simp [entryFrame, mkF, argsToLocals, Value.category]; done) | rfl
def Qsb2 (Z : State) (r0 : Addr) (r1 : Addr) (kC : ClassId) (c0 : Int32) (c1 : Int32) (wBOOLEAN : Addr) (wINTEGER : Addr) (wBITS : Addr) (wOCTETS : Addr) (wNULL : Addr) (wOBJECT_IDENTIFIER : Addr) (wTEXT : Addr) (wCOMPONENTS : Addr) (wELEMENTS : Addr) (wCHOICE : Addr) (wELEMENT : Addr) (cs : Int32) (wD : Addr) (kD : ClassId) (wC : Addr) (clC : Cell) (h0 : Heap) (n0 : Nat) (v : Option Value) (h : Heap) (L : List Loc) : Prop := v = none ∧ Fr n0 L ∧ Keep h0 h [r0] ∧ own_St Z h r0 (2 : Int32) [(.int (nar .byte (c0.toInt8.toInt32))), (.int (nar .byte (c1.toInt8.toInt32)))]
abbrev own_Ksb2 (Z : State) (r0 : Addr) (r1 : Addr) (kC : ClassId) (c0 : Int32) (c1 : Int32) (wBOOLEAN : Addr) (wINTEGER : Addr) (wBITS : Addr) (wOCTETS : Addr) (wNULL : Addr) (wOBJECT_IDENTIFIER : Addr) (wTEXT : Addr) (wCOMPONENTS : Addr) (wELEMENTS : Addr) (wCHOICE : Addr) (wELEMENT : Addr) (cs : Int32) (wD : Addr) (kD : ClassId) (wC : Addr) (clC : Cell) (h0 : Heap) (n0 : Nat) (s : State) : Outcome → State → Prop := fun o U' => ∃ v L, o = .returned v ∧ Qsb2 Z r0 r1 kC c0 c1 wBOOLEAN wINTEGER wBITS wOCTETS wNULL wOBJECT_IDENTIFIER wTEXT wCOMPONENTS wELEMENTS wCHOICE wELEMENT cs wD kD wC clC h0 n0 v U'.heap L ∧ FrameEnd s o U' L ({ frames := 2, cells := 1, slots := 2, locals := 35 } : Room).cells ({ frames := 2, cells := 1, slots := 2, locals := 35 } : Room).slots
set_option maxRecDepth 65536 in
set_option maxHeartbeats 40000000 in
theorem rmsb2 (l : Launch) (Z : State) (a0 : Array Value) (hw : ∀ d ∈ tables_1, d.before a0 Z = true) (ws : List Jvm.Cond) (r0 : Addr) (r1 : Addr) (kC : ClassId) (c0 : Int32) (c1 : Int32) (wBOOLEAN : Addr) (wINTEGER : Addr) (wBITS : Addr) (wOCTETS : Addr) (wNULL : Addr) (wOBJECT_IDENTIFIER : Addr) (wTEXT : Addr) (wCOMPONENTS : Addr) (wELEMENTS : Addr) (wCHOICE : Addr) (wELEMENT : Addr) (cs : Int32) (wD : Addr) (kD : ClassId) (wC : Addr) (clC : Cell) (h0 : Heap) (n0 : Nat) (Z0 : n0 ≤ h0.size) (O0 : Old Z n0 h0) (HW : own_Wd Z wBOOLEAN wINTEGER wBITS wOCTETS wNULL wOBJECT_IDENTIFIER wTEXT wCOMPONENTS wELEMENTS wCHOICE wELEMENT cs wD kD wC clC) (E0 : Exa Z h0 r0 "java/lang/String") (g_r0 : n0 ≤ r0) (F_value : Fld Z h0 r0 "java/lang/String" "value" "[B" .null) (F_coder : Fld Z h0 r0 "java/lang/String" "coder" "B" (.int (0 : Int32))) (V1 : Arv Z h0 r1 kC .char (2 : Int32) [(.int c0), (.int c1)] (.int (0 : Int32))) (hc_c0 : ¬ (255 : Int32) < c0) (hc_c1 : ¬ (255 : Int32) < c1) :
    MetFree l (⟨"java/lang/String", "<init>", "([CIILjava/lang/Void;)V"⟩ : MethodName) (head1 (Jvm.Cond.code (⟨"java/lang/String", "<init>", "([CIILjava/lang/Void;)V"⟩ : MethodName) jdk_42_method_149_code 6 none :: ws) ({ frames := 2, cells := 1, slots := 2, locals := 35 } : Room)) (fun a U => a = #[(.ref r0), (.ref r1), (.int (0 : Int32)), (.int (2 : Int32)), .null] ∧ Z.Warmed39 U.vm ∧ U.heap = h0) (fun _ _ _ _ _ => True) (fun _ U o U' => ∃ v L, o = .returned v ∧ Qsb2 Z r0 r1 kC c0 c1 wBOOLEAN wINTEGER wBITS wOCTETS wNULL wOBJECT_IDENTIFIER wTEXT wCOMPONENTS wELEMENTS wCHOICE wELEMENT cs wD kD wC clC h0 n0 v U'.heap L ∧ FrameEnd U o U' L ({ frames := 2, cells := 1, slots := 2, locals := 35 } : Room).cells ({ frames := 2, cells := 1, slots := 2, locals := 35 } : Room).slots) := by
  refine MetFree.of_bodySF (plainFor_of_name pn_java_lang_String) hisR ?_
  intro p e s m args below meth c s₁ Bd hml0 hP hK
  obtain ⟨rfl, hZ, hh⟩ := hP
  have hx := Bd.exec
  have hby := Bd.bytes
  have hml : c.maxLocals = 6 := hml0
  have hown : s.vm.findClass "java/lang/String" = some m.cls := findClass_of_methodNamed Bd.named
  have hnm := (name_of_methodNamed Bd.named Bd.method).1
  have X0 : Stand p l e ({ frames := 2, cells := 1, slots := 2, locals := 35 } : Room) s m #[(.ref r0), (.ref r1), (.int (0 : Int32)), (.int (2 : Int32)), .null] below meth c s₁ [] 0 0 := Stand.of_body Bd
  have e0 : s₁.heap = h0 := by rw [← hh, Bd.state]; rfl
  have N0 := Fr.nil n0
  refine own_by (p := p) (e := e) (below := below) (K := own_Ksb2 Z r0 r1 kC c0 c1 wBOOLEAN wINTEGER wBITS wOCTETS wNULL wOBJECT_IDENTIFIER wTEXT wCOMPONENTS wELEMENTS wCHOICE wELEMENT cs wD kD wC clC h0 n0 s) (W' := s₁.setTop (mkF m 0 #[.val (.ref r0), .val (.ref r1), .val (.int (0 : Int32)), .val (.int (2 : Int32)), .val .null, .unset] [])) (fun t k => castTop (efsb2 m r0 r1) k) ?_
  obtain ⟨T21, X21, e21, st21⟩ := initO X0 hx hZ hown (own_w hw 187) (own_w hw 55) (own_w hw 56) e0 (g := (mkF m 1 #[.val (.ref r0), .val (.ref r1), .val (.int (0 : Int32)), .val (.int (2 : Int32)), .val .null, .unset] [(.ref r0)])) rfl (by rw [hml]; rfl) rfl (hb hby djdk_42_149_1) (by decide) (W := 0) (by show 2 * 0 + _ ≤ _; exact Nat.le_of_eq rfl) (by decide)
  obtain ⟨T22, X22, e22, st22⟩ := getS (host := "") X21 hx hZ hown (own_w hw 188) Via.refl e21 (HW.2.2.2.2.2.2.2.2.2.2.2.2.2.2.2.2.2.2.2.2.2.2.2.2.2.2.2.2.2.2.2.2.2.1.ext O0.2) (g := (mkF m 27 #[.val (.ref r0), .val (.ref r1), .val (.int (0 : Int32)), .val (.int (2 : Int32)), .val .null, .unset] [])) rfl (hb hby djdk_42_149_27)
  refine own_by (W' := (T22.setTop (mkF m 33 #[.val (.ref r0), .val (.ref r1), .val (.int (0 : Int32)), .val (.int (2 : Int32)), .val .null, .unset] []))) (fun t k => XS.aloadN X0.here hx rfl (hb hby djdk_42_149_0) rfl rfl (st21 _ (XS.iloadN X21.here hx rfl (hb hby djdk_42_149_4) rfl (XS.ifYes X21.here hx rfl (pc0 := 5) (pc' := 27) rfl (hb hby djdk_42_149_5) rfl ((if0 _ _).trans (feq (by decide : ¬ ((2 : Int32) = (0 : Int32)))).2) (by decide) (by decide) (st22 _ (XS.ifNo X22.here hx rfl (hb hby djdk_42_149_30) rfl ((if0 _ _).trans (feq HW.2.2.2.2.2.2.2.2.2.2.2.2.2.2.2.2.2.2.2.2.2.2.2.2.2.2.2.2.2.2.2.2.2.2.1).1) k)))))) ?_
  obtain ⟨_, _, ⟨T23, L23, k23, n23⟩, -, X23, ⟨Lc23, hQ23, l23, y23, z23⟩, st23⟩ := Jvm.LawKit.callS X22 hx (y := (⟨"java/lang/StringUTF16", "compress", "([CII)[B"⟩ : MethodName)) hown (mvT hZ (own_w hw 189)) (mvT hZ (own_w hw 190)) (mvT hZ (own_w hw 191)) (mvT hZ (own_w hw 192)) (by decide) (backOf (W := 0) (rmca2 l Z a0 hw [] r1 kC c0 c1 h0 n0 Z0 O0 V1 hc_c0 hc_c1) hZ (own_w hw 192) (own_w hw 191) (by decide) (by decide)) (g := (mkF m 36 #[.val (.ref r0), .val (.ref r1), .val (.int (0 : Int32)), .val (.int (2 : Int32)), .val .null, .unset] [(.int (2 : Int32)), (.int (0 : Int32)), (.ref r1)])) rfl (by rw [hml]; rfl) (argsL := [(.ref r1), (.int (0 : Int32)), (.int (2 : Int32))]) (rest := []) (lenOf pd_19 rfl) rfl (by show 2 * 0 + _ ≤ _; exact Nat.le_of_eq rfl) (hb hby djdk_42_149_36) (fun _ _ => ⟨rfl, e22, (by decide : 0 + 1 ≤ _), (by decide : 0 + 2 ≤ _)⟩)
  dsimp only [Pt.U, Pt.locs, Pt.cells, Pt.slots] at X23 l23 y23 z23 st23 hQ23
  subst l23 y23 z23
  obtain ⟨fb23, kb23, rfl, N23q, Kq23, hsz23, Vq23⟩ := hQ23
  have ne_r0_fb23 : r0 ≠ fb23 := Nat.ne_of_lt (Nat.lt_of_lt_of_le E0.lt hsz23)
  have ne_r1_fb23 : r1 ≠ fb23 := Nat.ne_of_lt (Nat.lt_of_lt_of_le V1.lt hsz23)
  have O23 := Old.keep O0 Kq23 all0
  have K23 := Keep.trans (Keep.refl h0 [r0]) Kq23 all0
  have N23 := Fr.app N0 N23q
  refine own_by (W' := (T23.setTop (mkF m 42 #[.val (.ref r0), .val (.ref r1), .val (.int (0 : Int32)), .val (.int (2 : Int32)), .val .null, .val (.ref fb23)] [(.ref r0)]))) (fun t k => XS.aloadN X22.here hx rfl (hb hby djdk_42_149_33) rfl rfl (XS.iloadN X22.here hx rfl (hb hby djdk_42_149_34) rfl (XS.iloadN X22.here hx rfl (hb hby djdk_42_149_35) rfl (st23 _ (XS.astore X23.here hx rfl (hb hby djdk_42_149_39) rfl rfl (l' := #[.val (.ref r0), .val (.ref r1), .val (.int (0 : Int32)), .val (.int (2 : Int32)), .val .null, .val (.ref fb23)]) rfl (XS.aloadN X23.here hx rfl (hb hby djdk_42_149_41) rfl rfl k)))))) ?_
  obtain ⟨_, _, ⟨T24, L24, k24, n24⟩, -, X24, ⟨Lc24, hQ24, l24, y24, z24⟩, st24⟩ := Jvm.LawKit.callS X23 hx (y := (⟨"java/lang/StringUTF16", "coderFromArrayLen", "([BI)B"⟩ : MethodName)) hown (mvT hZ (own_w hw 196)) (mvT hZ (own_w hw 197)) (mvT hZ (own_w hw 191)) (mvT hZ (own_w hw 198)) (by decide) (backOf (W := 1) (rmcd2 l Z a0 hw [] fb23 kb23 [(.int (nar .byte (c0.toInt8.toInt32))), (.int (nar .byte (c1.toInt8.toInt32)))] T23.heap n0 (own_le O23) Vq23) hZ (own_w hw 198) (own_w hw 191) (by decide) (by decide)) (g := (mkF m 45 #[.val (.ref r0), .val (.ref r1), .val (.int (0 : Int32)), .val (.int (2 : Int32)), .val .null, .val (.ref fb23)] [(.int (2 : Int32)), (.ref fb23), (.ref r0)])) rfl (by rw [hml]; rfl) (argsL := [(.ref fb23), (.int (2 : Int32))]) (rest := [(.ref r0)]) (lenOf pd_20 rfl) rfl (by show 2 * 0 + _ ≤ _; exact Nat.le_of_eq rfl) (hb hby djdk_42_149_45) (fun _ _ => ⟨rfl, rfl, (by decide : 1 + 0 ≤ _), (by decide : 2 + 0 ≤ _)⟩)
  dsimp only [Pt.U, Pt.locs, Pt.cells, Pt.slots] at X24 l24 y24 z24 st24 hQ24
  subst l24 y24 z24
  obtain ⟨rfl, N24q, e24⟩ := hQ24
  have N24 := Fr.app N23 N24q
  obtain ⟨T25, h25, X25, e25, W25, st25⟩ := putFN X24 hx hZ hown (own_w hw 199) Via.refl e24 (F_coder.keep Kq23 nin0) (E0.keep Kq23) (Or.inr ⟨(own_w hw 200), rfl, hnm⟩) (own_w hw 177) (ty := .byte) (v' := .int (0 : Int32)) (by decide) rfl (by decide) (g := (mkF m 48 #[.val (.ref r0), .val (.ref r1), .val (.int (0 : Int32)), .val (.int (2 : Int32)), .val .null, .val (.ref fb23)] [(.int (0 : Int32)), (.ref r0)])) rfl rfl (hb hby djdk_42_149_48)
  have Fw25 := (F_coder.keep Kq23 nin0).same W25
  have O25 := Old.wr O23 W25 g_r0
  have N25 := Fr.snoc X25 N24 g_r0
  have K25 := Keep.wr K23 W25 (Or.inl (List.mem_of_getElem? (i := 0) rfl))
  refine own_by (W' := (T25.setTop (mkF m 54 #[.val (.ref r0), .val (.ref r1), .val (.int (0 : Int32)), .val (.int (2 : Int32)), .val .null, .val (.ref fb23)] [(.ref fb23), (.ref r0)]))) (fun t k => XS.aload X23.here hx rfl (hb hby djdk_42_149_42) rfl rfl (XS.iloadN X23.here hx rfl (hb hby djdk_42_149_44) rfl (st24 _ (st25 _ (XS.aloadN X25.here hx rfl (hb hby djdk_42_149_51) rfl rfl (XS.aload X25.here hx rfl (hb hby djdk_42_149_52) rfl rfl k)))))) ?_
  obtain ⟨T26, h26, X26, e26, W26, st26⟩ := putF X25 hx hZ hown (host := "") (Or.inl (own_w hw 201)) Via.refl e25 ((F_value.keep Kq23 nin0).other W25 (Or.inr (slot_ne (Or.inr (own_w hw 202)) (Or.inr (own_w hw 200)) (by decide) (t := (.array .byte)) (t' := .byte) (by decide) (by decide)))) ((E0.keep Kq23).wr W25) (Or.inr ⟨(own_w hw 202), rfl, hnm⟩) (own_w hw 177) (ty := (.array .byte)) (by decide) rfl rfl (g := (mkF m 54 #[.val (.ref r0), .val (.ref r1), .val (.int (0 : Int32)), .val (.int (2 : Int32)), .val .null, .val (.ref fb23)] [(.ref fb23), (.ref r0)])) rfl rfl (hb hby djdk_42_149_54)
  have Fw26 := ((F_value.keep Kq23 nin0).other W25 (Or.inr (slot_ne (Or.inr (own_w hw 202)) (Or.inr (own_w hw 200)) (by decide) (t := (.array .byte)) (t' := .byte) (by decide) (by decide)))).same W26
  have O26 := Old.wr O25 W26 g_r0
  have N26 := Fr.snoc X26 N25 g_r0
  have K26 := Keep.wr K25 W26 (Or.inl (List.mem_of_getElem? (i := 0) rfl))
  obtain ⟨fs, hr, hrun, hended, hW, hsame⟩ := X26.leave (v := none) (fun _ => rfl)
  refine own_by (W' := (T26.setTop (mkF m 57 #[.val (.ref r0), .val (.ref r1), .val (.int (0 : Int32)), .val (.int (2 : Int32)), .val .null, .val (.ref fb23)] []))) (fun t k => st26 _ k) ?_
  refine ⟨_, _, X26.returnOut hx Bd.returns (hb hby djdk_42_149_57) hr, hrun, hended, _, _, rfl, ?_, ⟨_, rfl⟩, hW, hsame.mono (by decide) (by decide)⟩
  show Qsb2 Z r0 r1 kC c0 c1 wBOOLEAN wINTEGER wBITS wOCTETS wNULL wOBJECT_IDENTIFIER wTEXT wCOMPONENTS wELEMENTS wCHOICE wELEMENT cs wD kD wC clC h0 n0 _ T26.heap _
  rw [e26]
  exact ⟨rfl, N26, K26, (((E0.keep Kq23).wr W25).wr W26), (Fw25.other W26 (Or.inr (slot_ne (Or.inr (own_w hw 200)) (Or.inr (own_w hw 202)) (by decide) (t := .byte) (t' := (.array .byte)) (by decide) (by decide)))), _, _, Fw26, ((Vq23.other W25 ne_r0_fb23.symm).other W26 ne_r0_fb23.symm)⟩
theorem pd_21 : parseMethodDescriptor "([CIILjava/lang/Void;)V" = some ⟨[(.array .char), .int, .int, (.object "java/lang/Void")], none⟩ := by decide +kernel
theorem djdk_42_3_0 : decode jdk_42_method_3_code 0 = .ok (.aload_n 0, 1) := by decide +kernel
theorem djdk_42_3_1 : decode jdk_42_method_3_code 1 = .ok (.aload_n 1, 1) := by decide +kernel
theorem djdk_42_3_2 : decode jdk_42_method_3_code 2 = .ok (.iconst 0, 1) := by decide +kernel
theorem djdk_42_3_3 : decode jdk_42_method_3_code 3 = .ok (.aload_n 1, 1) := by decide +kernel
theorem djdk_42_3_4 : decode jdk_42_method_3_code 4 = .ok (.arraylength, 1) := by decide +kernel
theorem djdk_42_3_5 : decode jdk_42_method_3_code 5 = .ok (.aconst_null, 1) := by decide +kernel
theorem djdk_42_3_6 : decode jdk_42_method_3_code 6 = .ok (.invokespecial 27, 3) := by decide +kernel
theorem djdk_42_3_9 : decode jdk_42_method_3_code 9 = .ok (.return_, 1) := by decide +kernel
theorem efsa2 (m : MethodId) (r0 : Addr) (r1 : Addr) : entryFrame m #[(.ref r0), (.ref r1)] 2 = mkF m 0 #[.val (.ref r0), .val (.ref r1)] [] := by first | (simp [entryFrame, mkF, argsToLocals, Value.category]; done) | rfl
def Qsa2 (Z : State) (r0 : Addr) (r1 : Addr) (kC : ClassId) (c0 : Int32) (c1 : Int32) (wBOOLEAN : Addr) (wINTEGER : Addr) (wBITS : Addr) (wOCTETS : Addr) (wNULL : Addr) (wOBJECT_IDENTIFIER : Addr) (wTEXT : Addr) (wCOMPONENTS : Addr) (wELEMENTS : Addr) (wCHOICE : Addr) (wELEMENT : Addr) (cs : Int32) (wD : Addr) (kD : ClassId) (wC : Addr) (clC : Cell) (h0 : Heap) (n0 : Nat) (v : Option Value) (h : Heap) (L : List Loc) : Prop := v = none ∧ Fr n0 L ∧ Keep h0 h [r0] ∧ own_St Z h r0 (2 : Int32) [(.int (nar .byte (c0.toInt8.toInt32))), (.int (nar .byte (c1.toInt8.toInt32)))]
abbrev own_Ksa2 (Z : State) (r0 : Addr) (r1 : Addr) (kC : ClassId) (c0 : Int32) (c1 : Int32) (wBOOLEAN : Addr) (wINTEGER : Addr) (wBITS : Addr) (wOCTETS : Addr) (wNULL : Addr) (wOBJECT_IDENTIFIER : Addr) (wTEXT : Addr) (wCOMPONENTS : Addr) (wELEMENTS : Addr) (wCHOICE : Addr) (wELEMENT : Addr) (cs : Int32) (wD : Addr) (kD : ClassId) (wC : Addr) (clC : Cell) (h0 : Heap) (n0 : Nat) (s : State) : Outcome → State → Prop := fun o U' => ∃ v L, o = .returned v ∧ Qsa2 Z r0 r1 kC c0 c1 wBOOLEAN wINTEGER wBITS wOCTETS wNULL wOBJECT_IDENTIFIER wTEXT wCOMPONENTS wELEMENTS wCHOICE wELEMENT cs wD kD wC clC h0 n0 v U'.heap L ∧ FrameEnd s o U' L ({ frames := 3, cells := 1, slots := 2, locals := 52 } : Room).cells ({ frames := 3, cells := 1, slots := 2, locals := 52 } : Room).slots
set_option maxRecDepth 65536 in
set_option maxHeartbeats 40000000 in
theorem rmsa2 (l : Launch) (Z : State) (a0 : Array Value) (hw : ∀ d ∈ tables_1, d.before a0 Z = true) (ws : List Jvm.Cond) (r0 : Addr) (r1 : Addr) (kC : ClassId) (c0 : Int32) (c1 : Int32) (wBOOLEAN : Addr) (wINTEGER : Addr) (wBITS : Addr) (wOCTETS : Addr) (wNULL : Addr) (wOBJECT_IDENTIFIER : Addr) (wTEXT : Addr) (wCOMPONENTS : Addr) (wELEMENTS : Addr) (wCHOICE : Addr) (wELEMENT : Addr) (cs : Int32) (wD : Addr) (kD : ClassId) (wC : Addr) (clC : Cell) (h0 : Heap) (n0 : Nat) (Z0 : n0 ≤ h0.size) (O0 : Old Z n0 h0) (HW : own_Wd Z wBOOLEAN wINTEGER wBITS wOCTETS wNULL wOBJECT_IDENTIFIER wTEXT wCOMPONENTS wELEMENTS wCHOICE wELEMENT cs wD kD wC clC) (E0 : Exa Z h0 r0 "java/lang/String") (g_r0 : n0 ≤ r0) (F_value : Fld Z h0 r0 "java/lang/String" "value" "[B" .null) (F_coder : Fld Z h0 r0 "java/lang/String" "coder" "B" (.int (0 : Int32))) (V1 : Arv Z h0 r1 kC .char (2 : Int32) [(.int c0), (.int c1)] (.int (0 : Int32))) (hc_c0 : ¬ (255 : Int32) < c0) (hc_c1 : ¬ (255 : Int32) < c1) :
    MetFree l (⟨"java/lang/String", "<init>", "([C)V"⟩ : MethodName) (head1 (Jvm.Cond.code (⟨"java/lang/String", "<init>", "([C)V"⟩ : MethodName) jdk_42_method_3_code 2 none :: ws) ({ frames := 3, cells := 1, slots := 2, locals := 52 } : Room)) (fun a U => a = #[(.ref r0), (.ref r1)] ∧ Z.Warmed39 U.vm ∧ U.heap = h0) (fun _ _ _ _ _ => True) (fun _ U o U' => ∃ v L, o = .returned v ∧ Qsa2 Z r0 r1 kC c0 c1 wBOOLEAN wINTEGER wBITS wOCTETS wNULL wOBJECT_IDENTIFIER wTEXT wCOMPONENTS wELEMENTS wCHOICE wELEMENT cs wD kD wC clC h0 n0 v U'.heap L ∧ FrameEnd U o U' L ({ frames := 3, cells := 1, slots := 2, locals := 52 } : Room).cells ({ frames := 3, cells := 1, slots := 2, locals := 52 } : Room).slots) := by
  refine MetFree.of_bodySF (plainFor_of_name pn_java_lang_String) hisR ?_
  intro p e s m args below meth c s₁ Bd hml0 hP hK
  obtain ⟨rfl, hZ, hh⟩ := hP
  have hx := Bd.exec
  have hby := Bd.bytes
  have hml : c.maxLocals = 2 := hml0
  have hown : s.vm.findClass "java/lang/String" = some m.cls := findClass_of_methodNamed Bd.named
  have hnm := (name_of_methodNamed Bd.named Bd.method).1
  have X0 : Stand p l e ({ frames := 3, cells := 1, slots := 2, locals := 52 } : Room) s m #[(.ref r0), (.ref r1)] below meth c s₁ [] 0 0 := Stand.of_body Bd
  have e0 : s₁.heap = h0 := by rw [← hh, Bd.state]; rfl
  have N0 := Fr.nil n0
  refine own_by (p := p) (e := e) (below := below) (K := own_Ksa2 Z r0 r1 kC c0 c1 wBOOLEAN wINTEGER wBITS wOCTETS wNULL wOBJECT_IDENTIFIER wTEXT wCOMPONENTS wELEMENTS wCHOICE wELEMENT cs wD kD wC clC h0 n0 s) (W' := s₁.setTop (mkF m 0 #[.val (.ref r0), .val (.ref r1)] [])) (fun t k => castTop (efsa2 m r0 r1) k) ?_
  obtain ⟨clu21, Aru21, qu21, Su21, Ngu21, Hau21, Gau21⟩ := id V1
  refine own_by (W' := (s₁.setTop (mkF m 5 #[.val (.ref r0), .val (.ref r1)] [(.int clu21.slots.size.toInt32), (.int (0 : Int32)), (.ref r1), (.ref r0)]))) (fun t k => XS.aloadN X0.here hx rfl (hb hby djdk_42_3_0) rfl rfl (XS.aloadN X0.here hx rfl (hb hby djdk_42_3_1) rfl rfl (XS.iconst X0.here hx rfl (hb hby djdk_42_3_2) (XS.aloadN X0.here hx rfl (hb hby djdk_42_3_3) rfl rfl ((X0.arraylength hx (by rw [e0]; exact Aru21.1) (State.isArrayOf_alike hZ.alike Aru21.2.1) (g := (mkF m 4 #[.val (.ref r0), .val (.ref r1)] [(.ref r1), (.int (0 : Int32)), (.ref r1), (.ref r0)])) rfl rfl (hb hby djdk_42_3_4)) _ k))))) ?_
  rw [len_of Su21 Ngu21]
  obtain ⟨_, _, ⟨T22, L22, k22, n22⟩, -, X22, ⟨Lc22, hQ22, l22, y22, z22⟩, st22⟩ := X0.specialBack hx (y := (⟨"java/lang/String", "<init>", "([CIILjava/lang/Void;)V"⟩ : MethodName)) rfl hown (mvT hZ (own_w hw 183)) (mvT hZ (own_w hw 184)) (mvT hZ (own_w hw 186)) (by decide) (backOf (W := 0) (rmsb2 l Z a0 hw [] r0 r1 kC c0 c1 wBOOLEAN wINTEGER wBITS wOCTETS wNULL wOBJECT_IDENTIFIER wTEXT wCOMPONENTS wELEMENTS wCHOICE wELEMENT cs wD kD wC clC h0 n0 Z0 O0 HW E0 g_r0 F_value F_coder V1 hc_c0 hc_c1) hZ (own_w hw 186) (own_w hw 178) (by decide) (by decide)) (g := (mkF m 6 #[.val (.ref r0), .val (.ref r1)] [.null, (.int (2 : Int32)), (.int (0 : Int32)), (.ref r1), (.ref r0)])) rfl (by rw [hml]; rfl) (Steps.refl _) (a := r0) (argsL := [(.ref r1), (.int (0 : Int32)), (.int (2 : Int32)), .null]) (rest := []) (lenOf pd_21 rfl) rfl (by show 2 * 0 + _ ≤ _; exact Nat.le_of_eq rfl) (hb hby djdk_42_3_6) (fun _ _ => ⟨rfl, e0, (by decide : 0 + 1 ≤ _), (by decide : 0 + 2 ≤ _)⟩)
  dsimp only [Pt.U, Pt.locs, Pt.cells, Pt.slots] at X22 l22 y22 z22 st22 hQ22
  subst l22 y22 z22
  obtain ⟨rfl, N22q, Kq22, Tq22⟩ := hQ22
  have O22 := Old.keep O0 Kq22 (allS g_r0 all0)
  have K22 := Keep.trans (Keep.refl h0 [r0]) Kq22 (allS (Or.inl (List.mem_of_getElem? (i := 0) rfl)) all0)
  have N22 := Fr.app N0 N22q
  obtain ⟨fs, hr, hrun, hended, hW, hsame⟩ := X22.leave (v := none) (fun _ => rfl)
  refine own_by (W' := (T22.setTop (mkF m 9 #[.val (.ref r0), .val (.ref r1)] []))) (fun t k => XS.aconstNull X0.here hx rfl (hb hby djdk_42_3_5) (Steps.trans st22 k)) ?_
  refine ⟨_, _, X22.returnOut hx Bd.returns (hb hby djdk_42_3_9) hr, hrun, hended, _, _, rfl, ?_, ⟨_, rfl⟩, hW, hsame.mono (by decide) (by decide)⟩
  show Qsa2 Z r0 r1 kC c0 c1 wBOOLEAN wINTEGER wBITS wOCTETS wNULL wOBJECT_IDENTIFIER wTEXT wCOMPONENTS wELEMENTS wCHOICE wELEMENT cs wD kD wC clC h0 n0 _ T22.heap _
  exact ⟨rfl, N22, K22, Tq22⟩
theorem efcb3 (m : MethodId) (r0 : Addr) (r2 : Addr) : entryFrame m #[(.ref r0), (.int (0 : Int32)), (.ref r2), (.int (0 : Int32)), (.int (3 : Int32))] 7 = mkF m 0 #[.val (.ref r0), .val (.int (0 : Int32)), .val (.ref r2), .val (.int (0 : Int32)), .val (.int (3 : Int32)), .unset, .unset] [] := by first | (simp [entryFrame, mkF, argsToLocals, Value.category]; done) | rfl
def Qcb3 (Z : State) (r0 : Addr) (r2 : Addr) (kC : ClassId) (kB : ClassId) (c0 : Int32) (c1 : Int32) (c2 : Int32) (h0 : Heap) (n0 : Nat) (v : Option Value) (h : Heap) (L : List Loc) : Prop := v = some (.int (3 : Int32)) ∧ Fr n0 L ∧ Keep h0 h [r2] ∧ Arv Z h r2 kB .byte (3 : Int32) [(.int (nar .byte (c0.toInt8.toInt32))), (.int (nar .byte (c1.toInt8.toInt32))), (.int (nar .byte (c2.toInt8.toInt32)))] (.int (0 : Int32))
abbrev own_Kcb3 (Z : State) (r0 : Addr) (r2 : Addr) (kC : ClassId) (kB : ClassId) (c0 : Int32) (c1 : Int32) (c2 : Int32) (h0 : Heap) (n0 : Nat) (s : State) : Outcome → State → Prop := fun o U' => ∃ v L, o = .returned v ∧ Qcb3 Z r0 r2 kC kB c0 c1 c2 h0 n0 v U'.heap L ∧ FrameEnd s o U' L ({ frames := 0, cells := 0, slots := 0, locals := 0 } : Room).cells ({ frames := 0, cells := 0, slots := 0, locals := 0 } : Room).slots
set_option maxRecDepth 65536 in
set_option maxHeartbeats 40000000 in
theorem rmcb3 (l : Launch) (Z : State) (a0 : Array Value) (hw : ∀ d ∈ tables_1, d.before a0 Z = true) (ws : List Jvm.Cond) (r0 : Addr) (r2 : Addr) (kC : ClassId) (kB : ClassId) (c0 : Int32) (c1 : Int32) (c2 : Int32) (h0 : Heap) (n0 : Nat) (Z0 : n0 ≤ h0.size) (O0 : Old Z n0 h0) (V0 : Arv Z h0 r0 kC .char (3 : Int32) [(.int c0), (.int c1), (.int c2)] (.int (0 : Int32))) (V2 : Arv Z h0 r2 kB .byte (3 : Int32) [(.int (0 : Int32)), (.int (0 : Int32)), (.int (0 : Int32))] (.int (0 : Int32))) (g_r2 : n0 ≤ r2) (hne : r0 ≠ r2) (hc_c0 : ¬ (255 : Int32) < c0) (hc_c1 : ¬ (255 : Int32) < c1) (hc_c2 : ¬ (255 : Int32) < c2) :
    MetFree l (⟨"java/lang/StringUTF16", "compress", "([CI[BII)I"⟩ : MethodName) (head1 (Jvm.Cond.code (⟨"java/lang/StringUTF16", "compress", "([CI[BII)I"⟩ : MethodName) jdk_52_method_21_code 7 (some .int) :: ws) ({ frames := 0, cells := 0, slots := 0, locals := 0 } : Room)) (fun a U => a = #[(.ref r0), (.int (0 : Int32)), (.ref r2), (.int (0 : Int32)), (.int (3 : Int32))] ∧ Z.Warmed39 U.vm ∧ U.heap = h0) (fun _ _ _ _ _ => True) (fun _ U o U' => ∃ v L, o = .returned v ∧ Qcb3 Z r0 r2 kC kB c0 c1 c2 h0 n0 v U'.heap L ∧ FrameEnd U o U' L ({ frames := 0, cells := 0, slots := 0, locals := 0 } : Room).cells ({ frames := 0, cells := 0, slots := 0, locals := 0 } : Room).slots) := by
  refine MetFree.of_bodySF (plainFor_of_name pn_java_lang_StringUTF16) hisR ?_
  intro p e s m args below meth c s₁ Bd hml0 hP hK
  obtain ⟨rfl, hZ, hh⟩ := hP
  have hx := Bd.exec
  have hby := Bd.bytes
  have hml : c.maxLocals = 7 := hml0
  have hown : s.vm.findClass "java/lang/StringUTF16" = some m.cls := findClass_of_methodNamed Bd.named
  have hnm := (name_of_methodNamed Bd.named Bd.method).1
  have X0 : Stand p l e ({ frames := 0, cells := 0, slots := 0, locals := 0 } : Room) s m #[(.ref r0), (.int (0 : Int32)), (.ref r2), (.int (0 : Int32)), (.int (3 : Int32))] below meth c s₁ [] 0 0 := Stand.of_body Bd
  have e0 : s₁.heap = h0 := by rw [← hh, Bd.state]; rfl
  have N0 := Fr.nil n0
  refine own_by (p := p) (e := e) (below := below) (K := own_Kcb3 Z r0 r2 kC kB c0 c1 c2 h0 n0 s) (W' := s₁.setTop (mkF m 0 #[.val (.ref r0), .val (.int (0 : Int32)), .val (.ref r2), .val (.int (0 : Int32)), .val (.int (3 : Int32)), .unset, .unset] [])) (fun t k => castTop (efcb3 m r0 r2) k) ?_
  refine own_by (W' := (s₁.setTop (mkF m 11 #[.val (.ref r0), .val (.int (0 : Int32)), .val (.ref r2), .val (.int (0 : Int32)), .val (.int (3 : Int32)), .val (.int (0 : Int32)), .unset] [(.ref r0)]))) (fun t k => XS.iconst X0.here hx rfl (hb hby djdk_52_21_0) (XS.istore X0.here hx rfl (hb hby djdk_52_21_1) rfl (l' := #[.val (.ref r0), .val (.int (0 : Int32)), .val (.ref r2), .val (.int (0 : Int32)), .val (.int (3 : Int32)), .val (.int (0 : Int32)), .unset]) rfl (XS.iload X0.here hx rfl (hb hby djdk_52_21_3) rfl (XS.iload X0.here hx rfl (hb hby djdk_52_21_5) rfl (XS.icmpNo X0.here hx rfl (hb hby djdk_52_21_7) rfl (tlt (by decide : (0 : Int32) < (3 : Int32))).2.1 (XS.aloadN X0.here hx rfl (hb hby djdk_52_21_10) rfl rfl k)))))) ?_
  obtain ⟨clu21, Aru21, qu21, Su21, Ngu21, Hau21, Gau21⟩ := id V0
  have hinu21 : ¬ ((0 : Int32) < 0 ∨ clu21.slots.size ≤ ((0 : Int32)).toNatClampNeg) := inb_of Su21 ⟨by decide, by decide⟩
  have hatu21 : clu21.slots[((0 : Int32)).toNatClampNeg]? = some (.int c0) := Has.at Hau21 hinu21 rfl
  refine own_by (W' := (s₁.setTop (mkF m 26 #[.val (.ref r0), .val (.int (0 : Int32)), .val (.ref r2), .val (.int (0 : Int32)), .val (.int (3 : Int32)), .val (.int (0 : Int32)), .val (.int c0)] []))) (fun t k => XS.iloadN X0.here hx rfl (hb hby djdk_52_21_11) rfl ((X0.caload hx (j := (0 : Int32)) (v := (.int c0)) (by rw [e0]; exact Aru21.1) (State.isArrayOf_alike hZ.alike Aru21.2.1) Aru21.2.2 hinu21 hatu21 (g := (mkF m 12 #[.val (.ref r0), .val (.int (0 : Int32)), .val (.ref r2), .val (.int (0 : Int32)), .val (.int (3 : Int32)), .val (.int (0 : Int32)), .unset] [(.int (0 : Int32)), (.ref r0)])) rfl rfl (hb hby djdk_52_21_12)) _ (XS.istore X0.here hx rfl (hb hby djdk_52_21_13) rfl (l' := #[.val (.ref r0), .val (.int (0 : Int32)), .val (.ref r2), .val (.int (0 : Int32)), .val (.int (3 : Int32)), .val (.int (0 : Int32)), .val (.int c0)]) rfl (XS.iload X0.here hx rfl (hb hby djdk_52_21_15) rfl (XS.sipush X0.here hx rfl (hb hby djdk_52_21_17) (XS.icmpYes X0.here hx rfl (pc0 := 20) (pc' := 26) rfl (hb hby djdk_52_21_20) rfl (flt hc_c0).2.2.2 (by decide) (by decide) k)))))) ?_
  obtain ⟨clu22, Aru22, qu22, Su22, Ngu22, Hau22, Gau22⟩ := id V2
  have hinu22 : ¬ ((0 : Int32) < 0 ∨ clu22.slots.size ≤ ((0 : Int32)).toNatClampNeg) := inb_of Su22 ⟨by decide, by decide⟩
  obtain ⟨T23, h23, X23, e23, W23, st23⟩ := stB X0 hx hZ e0 Aru22 (j := (0 : Int32)) hinu22 (g := (mkF m 31 #[.val (.ref r0), .val (.int (0 : Int32)), .val (.ref r2), .val (.int (0 : Int32)), .val (.int (3 : Int32)), .val (.int (0 : Int32)), .val (.int c0)] [(.int (c0.toInt8.toInt32)), (.int (0 : Int32)), (.ref r2)])) rfl rfl (hb hby djdk_52_21_31)
  have Vu22 : Arv Z h23 r2 kB .byte (3 : Int32) [(.int (nar .byte (c0.toInt8.toInt32))), (.int (0 : Int32)), (.int (0 : Int32))] (.int (0 : Int32)) := Arv.set Aru22 qu22 Su22 Ngu22 Hau22 Gau22 (fits_nar_byte _) W23 0 rfl (Nat.le_of_ble_eq_true rfl)
  have O23 := Old.wr O0 W23 g_r2
  have N23 := Fr.snoc X23 N0 g_r2
  have K23 := Keep.wr (Keep.refl h0 [r2]) W23 (Or.inl (List.mem_of_getElem? (i := 0) rfl))
  refine own_by (W' := (T23.setTop (mkF m 35 #[.val (.ref r0), .val (.int (1 : Int32)), .val (.ref r2), .val (.int (0 : Int32)), .val (.int (3 : Int32)), .val (.int (0 : Int32)), .val (.int c0)] []))) (fun t k => XS.aloadN X0.here hx rfl (hb hby djdk_52_21_26) rfl rfl (XS.iloadN X0.here hx rfl (hb hby djdk_52_21_27) rfl (XS.iload X0.here hx rfl (hb hby djdk_52_21_28) rfl (XS.i2b X0.here hx rfl (hb hby djdk_52_21_30) rfl (st23 _ (XS.iinc X23.here hx rfl (hb hby djdk_52_21_32) rfl (l' := #[.val (.ref r0), .val (.int (1 : Int32)), .val (.ref r2), .val (.int (0 : Int32)), .val (.int (3 : Int32)), .val (.int (0 : Int32)), .val (.int c0)]) rfl k)))))) ?_
  refine own_by (W' := (T23.setTop (mkF m 10 #[.val (.ref r0), .val (.int (1 : Int32)), .val (.ref r2), .val (.int (1 : Int32)), .val (.int (3 : Int32)), .val (.int (1 : Int32)), .val (.int c0)] []))) (fun t k => XS.iinc X23.here hx rfl (hb hby djdk_52_21_35) rfl (l' := #[.val (.ref r0), .val (.int (1 : Int32)), .val (.ref r2), .val (.int (1 : Int32)), .val (.int (3 : Int32)), .val (.int (0 : Int32)), .val (.int c0)]) rfl (XS.iinc X23.here hx rfl (hb hby djdk_52_21_38) rfl (l' := #[.val (.ref r0), .val (.int (1 : Int32)), .val (.ref r2), .val (.int (1 : Int32)), .val (.int (3 : Int32)), .val (.int (1 : Int32)), .val (.int c0)]) rfl (XS.goto X23.here hx rfl (pc0 := 41) (pc' := 3) rfl (hb hby djdk_52_21_41) (by decide) (by decide) (XS.iload X23.here hx rfl (hb hby djdk_52_21_3) rfl (XS.iload X23.here hx rfl (hb hby djdk_52_21_5) rfl (XS.icmpNo X23.here hx rfl (hb hby djdk_52_21_7) rfl (tlt (by decide : (1 : Int32) < (3 : Int32))).2.1 k)))))) ?_
  obtain ⟨clu24, Aru24, qu24, Su24, Ngu24, Hau24, Gau24⟩ := id (V0.other W23 hne)
  have hinu24 : ¬ ((1 : Int32) < 0 ∨ clu24.slots.size ≤ ((1 : Int32)).toNatClampNeg) := inb_of Su24 ⟨by decide, by decide⟩
  have hatu24 : clu24.slots[((1 : Int32)).toNatClampNeg]? = some (.int c1) := Has.at Hau24 hinu24 rfl
  refine own_by (W' := (T23.setTop (mkF m 20 #[.val (.ref r0), .val (.int (1 : Int32)), .val (.ref r2), .val (.int (1 : Int32)), .val (.int (3 : Int32)), .val (.int (1 : Int32)), .val (.int c1)] [(.int (255 : Int32)), (.int c1)]))) (fun t k => XS.aloadN X23.here hx rfl (hb hby djdk_52_21_10) rfl rfl (XS.iloadN X23.here hx rfl (hb hby djdk_52_21_11) rfl ((X23.caload hx (j := (1 : Int32)) (v := (.int c1)) (by rw [e23]; exact Aru24.1) (State.isArrayOf_alike hZ.alike Aru24.2.1) Aru24.2.2 hinu24 hatu24 (g := (mkF m 12 #[.val (.ref r0), .val (.int (1 : Int32)), .val (.ref r2), .val (.int (1 : Int32)), .val (.int (3 : Int32)), .val (.int (1 : Int32)), .val (.int c0)] [(.int (1 : Int32)), (.ref r0)])) rfl rfl (hb hby djdk_52_21_12)) _ (XS.istore X23.here hx rfl (hb hby djdk_52_21_13) rfl (l' := #[.val (.ref r0), .val (.int (1 : Int32)), .val (.ref r2), .val (.int (1 : Int32)), .val (.int (3 : Int32)), .val (.int (1 : Int32)), .val (.int c1)]) rfl (XS.iload X23.here hx rfl (hb hby djdk_52_21_15) rfl (XS.sipush X23.here hx rfl (hb hby djdk_52_21_17) k)))))) ?_
  obtain ⟨clu25, Aru25, qu25, Su25, Ngu25, Hau25, Gau25⟩ := id Vu22
  have hinu25 : ¬ ((1 : Int32) < 0 ∨ clu25.slots.size ≤ ((1 : Int32)).toNatClampNeg) := inb_of Su25 ⟨by decide, by decide⟩
  obtain ⟨T26, h26, X26, e26, W26, st26⟩ := stB X23 hx hZ e23 Aru25 (j := (1 : Int32)) hinu25 (g := (mkF m 31 #[.val (.ref r0), .val (.int (1 : Int32)), .val (.ref r2), .val (.int (1 : Int32)), .val (.int (3 : Int32)), .val (.int (1 : Int32)), .val (.int c1)] [(.int (c1.toInt8.toInt32)), (.int (1 : Int32)), (.ref r2)])) rfl rfl (hb hby djdk_52_21_31)
  have Vu25 : Arv Z h26 r2 kB .byte (3 : Int32) [(.int (nar .byte (c0.toInt8.toInt32))), (.int (nar .byte (c1.toInt8.toInt32))), (.int (0 : Int32))] (.int (0 : Int32)) := Arv.set Aru25 qu25 Su25 Ngu25 Hau25 Gau25 (fits_nar_byte _) W26 1 rfl (Nat.le_of_ble_eq_true rfl)
  have O26 := Old.wr O23 W26 g_r2
  have N26 := Fr.snoc X26 N23 g_r2
  have K26 := Keep.wr K23 W26 (Or.inl (List.mem_of_getElem? (i := 0) rfl))
  refine own_by (W' := (T26.setTop (mkF m 32 #[.val (.ref r0), .val (.int (1 : Int32)), .val (.ref r2), .val (.int (1 : Int32)), .val (.int (3 : Int32)), .val (.int (1 : Int32)), .val (.int c1)] []))) (fun t k => XS.icmpYes X23.here hx rfl (pc0 := 20) (pc' := 26) rfl (hb hby djdk_52_21_20) rfl (flt hc_c1).2.2.2 (by decide) (by decide) (XS.aloadN X23.here hx rfl (hb hby djdk_52_21_26) rfl rfl (XS.iloadN X23.here hx rfl (hb hby djdk_52_21_27) rfl (XS.iload X23.here hx rfl (hb hby djdk_52_21_28) rfl (XS.i2b X23.here hx rfl (hb hby djdk_52_21_30) rfl (st26 _ k)))))) ?_
  refine own_by (W' := (T26.setTop (mkF m 7 #[.val (.ref r0), .val (.int (2 : Int32)), .val (.ref r2), .val (.int (2 : Int32)), .val (.int (3 : Int32)), .val (.int (2 : Int32)), .val (.int c1)] [(.int (3 : Int32)), (.int (2 : Int32))]))) (fun t k => XS.iinc X26.here hx rfl (hb hby djdk_52_21_32) rfl (l' := #[.val (.ref r0), .val (.int (2 : Int32)), .val (.ref r2), .val (.int (1 : Int32)), .val (.int (3 : Int32)), .val (.int (1 : Int32)), .val (.int c1)]) rfl (XS.iinc X26.here hx rfl (hb hby djdk_52_21_35) rfl (l' := #[.val (.ref r0), .val (.int (2 : Int32)), .val (.ref r2), .val (.int (2 : Int32)), .val (.int (3 : Int32)), .val (.int (1 : Int32)), .val (.int c1)]) rfl (XS.iinc X26.here hx rfl (hb hby djdk_52_21_38) rfl (l' := #[.val (.ref r0), .val (.int (2 : Int32)), .val (.ref r2), .val (.int (2 : Int32)), .val (.int (3 : Int32)), .val (.int (2 : Int32)), .val (.int c1)]) rfl (XS.goto X26.here hx rfl (pc0 := 41) (pc' := 3) rfl (hb hby djdk_52_21_41) (by decide) (by decide) (XS.iload X26.here hx rfl (hb hby djdk_52_21_3) rfl (XS.iload X26.here hx rfl (hb hby djdk_52_21_5) rfl k)))))) ?_
  obtain ⟨clu27, Aru27, qu27, Su27, Ngu27, Hau27, Gau27⟩ := id ((V0.other W23 hne).other W26 hne)
  have hinu27 : ¬ ((2 : Int32) < 0 ∨ clu27.slots.size ≤ ((2 : Int32)).toNatClampNeg) := inb_of Su27 ⟨by decide, by decide⟩
  have hatu27 : clu27.slots[((2 : Int32)).toNatClampNeg]? = some (.int c2) := Has.at Hau27 hinu27 rfl
  refine own_by (W' := (T26.setTop (mkF m 17 #[.val (.ref r0), .val (.int (2 : Int32)), .val (.ref r2), .val (.int (2 : Int32)), .val (.int (3 : Int32)), .val (.int (2 : Int32)), .val (.int c2)] [(.int c2)]))) (fun t k => XS.icmpNo X26.here hx rfl (hb hby djdk_52_21_7) rfl (tlt (by decide : (2 : Int32) < (3 : Int32))).2.1 (XS.aloadN X26.here hx rfl (hb hby djdk_52_21_10) rfl rfl (XS.iloadN X26.here hx rfl (hb hby djdk_52_21_11) rfl ((X26.caload hx (j := (2 : Int32)) (v := (.int c2)) (by rw [e26]; exact Aru27.1) (State.isArrayOf_alike hZ.alike Aru27.2.1) Aru27.2.2 hinu27 hatu27 (g := (mkF m 12 #[.val (.ref r0), .val (.int (2 : Int32)), .val (.ref r2), .val (.int (2 : Int32)), .val (.int (3 : Int32)), .val (.int (2 : Int32)), .val (.int c1)] [(.int (2 : Int32)), (.ref r0)])) rfl rfl (hb hby djdk_52_21_12)) _ (XS.istore X26.here hx rfl (hb hby djdk_52_21_13) rfl (l' := #[.val (.ref r0), .val (.int (2 : Int32)), .val (.ref r2), .val (.int (2 : Int32)), .val (.int (3 : Int32)), .val (.int (2 : Int32)), .val (.int c2)]) rfl (XS.iload X26.here hx rfl (hb hby djdk_52_21_15) rfl k)))))) ?_
  refine own_by (W' := (T26.setTop (mkF m 31 #[.val (.ref r0), .val (.int (2 : Int32)), .val (.ref r2), .val (.int (2 : Int32)), .val (.int (3 : Int32)), .val (.int (2 : Int32)), .val (.int c2)] [(.int (c2.toInt8.toInt32)), (.int (2 : Int32)), (.ref r2)]))) (fun t k => XS.sipush X26.here hx rfl (hb hby djdk_52_21_17) (XS.icmpYes X26.here hx rfl (pc0 := 20) (pc' := 26) rfl (hb hby djdk_52_21_20) rfl (flt hc_c2).2.2.2 (by decide) (by decide) (XS.aloadN X26.here hx rfl (hb hby djdk_52_21_26) rfl rfl (XS.iloadN X26.here hx rfl (hb hby djdk_52_21_27) rfl (XS.iload X26.here hx rfl (hb hby djdk_52_21_28) rfl (XS.i2b X26.here hx rfl (hb hby djdk_52_21_30) rfl k)))))) ?_
  obtain ⟨clu28, Aru28, qu28, Su28, Ngu28, Hau28, Gau28⟩ := id Vu25
  have hinu28 : ¬ ((2 : Int32) < 0 ∨ clu28.slots.size ≤ ((2 : Int32)).toNatClampNeg) := inb_of Su28 ⟨by decide, by decide⟩
  obtain ⟨T29, h29, X29, e29, W29, st29⟩ := stB X26 hx hZ e26 Aru28 (j := (2 : Int32)) hinu28 (g := (mkF m 31 #[.val (.ref r0), .val (.int (2 : Int32)), .val (.ref r2), .val (.int (2 : Int32)), .val (.int (3 : Int32)), .val (.int (2 : Int32)), .val (.int c2)] [(.int (c2.toInt8.toInt32)), (.int (2 : Int32)), (.ref r2)])) rfl rfl (hb hby djdk_52_21_31)
  have Vu28 : Arv Z h29 r2 kB .byte (3 : Int32) [(.int (nar .byte (c0.toInt8.toInt32))), (.int (nar .byte (c1.toInt8.toInt32))), (.int (nar .byte (c2.toInt8.toInt32)))] (.int (0 : Int32)) := Arv.set Aru28 qu28 Su28 Ngu28 Hau28 Gau28 (fits_nar_byte _) W29 2 rfl (Nat.le_of_ble_eq_true rfl)
  have O29 := Old.wr O26 W29 g_r2
  have N29 := Fr.snoc X29 N26 g_r2
  have K29 := Keep.wr K26 W29 (Or.inl (List.mem_of_getElem? (i := 0) rfl))
  refine own_by (W' := (T29.setTop (mkF m 5 #[.val (.ref r0), .val (.int (3 : Int32)), .val (.ref r2), .val (.int (3 : Int32)), .val (.int (3 : Int32)), .val (.int (3 : Int32)), .val (.int c2)] [(.int (3 : Int32))]))) (fun t k => st29 _ (XS.iinc X29.here hx rfl (hb hby djdk_52_21_32) rfl (l' := #[.val (.ref r0), .val (.int (3 : Int32)), .val (.ref r2), .val (.int (2 : Int32)), .val (.int (3 : Int32)), .val (.int (2 : Int32)), .val (.int c2)]) rfl (XS.iinc X29.here hx rfl (hb hby djdk_52_21_35) rfl (l' := #[.val (.ref r0), .val (.int (3 : Int32)), .val (.ref r2), .val (.int (3 : Int32)), .val (.int (3 : Int32)), .val (.int (2 : Int32)), .val (.int c2)]) rfl (XS.iinc X29.here hx rfl (hb hby djdk_52_21_38) rfl (l' := #[.val (.ref r0), .val (.int (3 : Int32)), .val (.ref r2), .val (.int (3 : Int32)), .val (.int (3 : Int32)), .val (.int (3 : Int32)), .val (.int c2)]) rfl (XS.goto X29.here hx rfl (pc0 := 41) (pc' := 3) rfl (hb hby djdk_52_21_41) (by decide) (by decide) (XS.iload X29.here hx rfl (hb hby djdk_52_21_3) rfl k)))))) ?_
  obtain ⟨fs, hr, hrun, hended, hW, hsame⟩ := X29.leave (v := some (.int (3 : Int32))) (fun h => by rw [Bd.returns] at h; cases h)
  refine own_by (W' := (T29.setTop (mkF m 46 #[.val (.ref r0), .val (.int (3 : Int32)), .val (.ref r2), .val (.int (3 : Int32)), .val (.int (3 : Int32)), .val (.int (3 : Int32)), .val (.int c2)] [(.int (3 : Int32))]))) (fun t k => XS.iload X29.here hx rfl (hb hby djdk_52_21_5) rfl (XS.icmpYes X29.here hx rfl (pc0 := 7) (pc' := 44) rfl (hb hby djdk_52_21_7) rfl (flt (by decide : ¬ ((3 : Int32) < (3 : Int32)))).2.1 (by decide) (by decide) (XS.iload X29.here hx rfl (hb hby djdk_52_21_44) rfl k))) ?_
  refine ⟨_, _, retOut X29 hx Bd.returns rfl (Or.inl ⟨rfl, Or.inl rfl, _, rfl⟩) (hb hby djdk_52_21_46) hr, hrun, hended, _, _, rfl, ?_, ⟨_, rfl⟩, hW, hsame.mono (by decide) (by decide)⟩
  show Qcb3 Z r0 r2 kC kB c0 c1 c2 h0 n0 _ T29.heap _
  rw [e29]
  exact ⟨rfl, N29, K29, Vu28⟩
theorem efca3 (m : MethodId) (r0 : Addr) : entryFrame m #[(.ref r0), (.int (0 : Int32)), (.int (3 : Int32))] 6 = mkF m 0 #[.val (.ref r0), .val (.int (0 : Int32)), .val (.int (3 : Int32)), .unset, .unset, .unset] [] := by first | (simp [entryFrame, mkF, argsToLocals, Value.category]; done) | rfl
def Qca3 (Z : State) (r0 : Addr) (kC : ClassId) (c0 : Int32) (c1 : Int32) (c2 : Int32) (h0 : Heap) (n0 : Nat) (v : Option Value) (h : Heap) (L : List Loc) : Prop := ∃ (q : Addr) (kq : ClassId), v = some (.ref q) ∧ Fr n0 L ∧ Keep h0 h [] ∧ h0.size ≤ q ∧ Arv Z h q kq .byte (3 : Int32) [(.int (nar .byte (c0.toInt8.toInt32))), (.int (nar .byte (c1.toInt8.toInt32))), (.int (nar .byte (c2.toInt8.toInt32)))] (.int (0 : Int32))
abbrev own_Kca3 (Z : State) (r0 : Addr) (kC : ClassId) (c0 : Int32) (c1 : Int32) (c2 : Int32) (h0 : Heap) (n0 : Nat) (s : State) : Outcome → State → Prop := fun o U' => ∃ v L, o = .returned v ∧ Qca3 Z r0 kC c0 c1 c2 h0 n0 v U'.heap L ∧ FrameEnd s o U' L ({ frames := 1, cells := 1, slots := 3, locals := 18 } : Room).cells ({ frames := 1, cells := 1, slots := 3, locals := 18 } : Room).slots
set_option maxRecDepth 65536 in
set_option maxHeartbeats 40000000 in
theorem rmca3 (l : Launch) (Z : State) (a0 : Array Value) (hw : ∀ d ∈ tables_1, d.before a0 Z = true) (ws : List Jvm.Cond) (r0 : Addr) (kC : ClassId) (c0 : Int32) (c1 : Int32) (c2 : Int32) (h0 : Heap) (n0 : Nat) (Z0 : n0 ≤ h0.size) (O0 : Old Z n0 h0) (V0 : Arv Z h0 r0 kC .char (3 : Int32) [(.int c0), (.int c1), (.int c2)] (.int (0 : Int32))) (hc_c0 : ¬ (255 : Int32) < c0) (hc_c1 : ¬ (255 : Int32) < c1) (hc_c2 : ¬ (255 : Int32) < c2) :
    MetFree l (⟨"java/lang/StringUTF16", "compress", "([CII)[B"⟩ : MethodName) (head1 (Jvm.Cond.code (⟨"java/lang/StringUTF16", "compress", "([CII)[B"⟩ : MethodName) jdk_52_method_16_code 6 (some (.array .byte)) :: ws) ({ frames := 1, cells := 1, slots := 3, locals := 18 } : Room)) (fun a U => a = #[(.ref r0), (.int (0 : Int32)), (.int (3 : Int32))] ∧ Z.Warmed39 U.vm ∧ U.heap = h0) (fun _ _ _ _ _ => True) (fun _ U o U' => ∃ v L, o = .returned v ∧ Qca3 Z r0 kC c0 c1 c2 h0 n0 v U'.heap L ∧ FrameEnd U o U' L ({ frames := 1, cells := 1, slots := 3, locals := 18 } : Room).cells ({ frames := 1, cells := 1, slots := 3, locals := 18 } : Room).slots) := by
  refine MetFree.of_bodySF (plainFor_of_name pn_java_lang_StringUTF16) hisR ?_
  intro p e s m args below meth c s₁ Bd hml0 hP hK
  obtain ⟨rfl, hZ, hh⟩ := hP
  have hx := Bd.exec
  have hby := Bd.bytes
  have hml : c.maxLocals = 6 := hml0
  have hown : s.vm.findClass "java/lang/StringUTF16" = some m.cls := findClass_of_methodNamed Bd.named
  have hnm := (name_of_methodNamed Bd.named Bd.method).1
  have X0 : Stand p l e ({ frames := 1, cells := 1, slots := 3, locals := 18 } : Room) s m #[(.ref r0), (.int (0 : Int32)), (.int (3 : Int32))] below meth c s₁ [] 0 0 := Stand.of_body Bd
  have e0 : s₁.heap = h0 := by rw [← hh, Bd.state]; rfl
  have N0 := Fr.nil n0
  refine own_by (p := p) (e := e) (below := below) (K := own_Kca3 Z r0 kC c0 c1 c2 h0 n0 s) (W' := s₁.setTop (mkF m 0 #[.val (.ref r0), .val (.int (0 : Int32)), .val (.int (3 : Int32)), .unset, .unset, .unset] [])) (fun t k => castTop (efca3 m r0) k) ?_
  obtain ⟨T21, h21, k21, X21, e21, E21, A21, st21⟩ := newP X0 hx hZ (own_w hw 139) e0 (g := (mkF m 1 #[.val (.ref r0), .val (.int (0 : Int32)), .val (.int (3 : Int32)), .unset, .unset, .unset] [(.int (3 : Int32))])) rfl (hb hby djdk_52_16_1) rfl (by decide) (cap := 3) (by decide) (by decide) (by decide) (by decide)
  obtain ⟨b21, g21⟩ : ∃ z, z = h0.size := ⟨_, rfl⟩
  rw [← g21] at A21 st21
  have g_b21 : n0 ≤ b21 := Nat.le_trans (own_le O0) (Nat.le_of_eq g21.symm)
  have sz_b21 : h0.size ≤ b21 := Nat.le_trans (Keep.refl h0 []).1 (Nat.le_of_eq g21.symm)
  have ne_r0_b21 : r0 ≠ b21 := Nat.ne_of_lt (Nat.lt_of_lt_of_le V0.lt (Nat.le_of_eq g21.symm))
  have O21 := O0.ext E21
  have K21 := Keep.ext (Keep.refl h0 []) E21
  have V_b21 : Arv Z h21 b21 k21 .byte (3 : Int32) [(.int (0 : Int32)), (.int (0 : Int32)), (.int (0 : Int32))] (.int (0 : Int32)) := (Arv.new A21 (by decide)).pad (pad_rep [] (.int (0 : Int32)) 3)
  refine own_by (W' := (T21.setTop (mkF m 7 #[.val (.ref r0), .val (.int (0 : Int32)), .val (.int (3 : Int32)), .val (.ref b21), .unset, .unset] [(.ref b21), (.int (0 : Int32)), (.ref r0)]))) (fun t k => XS.iloadN X0.here hx rfl (hb hby djdk_52_16_0) rfl (st21 _ (XS.astoreN X21.here hx rfl (hb hby djdk_52_16_3) rfl rfl (l' := #[.val (.ref r0), .val (.int (0 : Int32)), .val (.int (3 : Int32)), .val (.ref b21), .unset, .unset]) rfl (XS.aloadN X21.here hx rfl (hb hby djdk_52_16_4) rfl rfl (XS.iloadN X21.here hx rfl (hb hby djdk_52_16_5) rfl (XS.aloadN X21.here hx rfl (hb hby djdk_52_16_6) rfl rfl k)))))) ?_
  obtain ⟨_, _, ⟨T22, L22, k22, n22⟩, -, X22, ⟨Lc22, hQ22, l22, y22, z22⟩, st22⟩ := Jvm.LawKit.callS X21 hx (y := (⟨"java/lang/StringUTF16", "compress", "([CI[BII)I"⟩ : MethodName)) hown (mvT hZ (own_w hw 193)) (mvT hZ (own_w hw 194)) (mvT hZ (own_w hw 191)) (mvT hZ (own_w hw 195)) (by decide) (backOf (W := 0) (rmcb3 l Z a0 hw [] r0 b21 kC k21 c0 c1 c2 h21 n0 (own_le O21) O21 (V0.ext E21) V_b21 g_b21 ne_r0_b21 hc_c0 hc_c1 hc_c2) hZ (own_w hw 195) (own_w hw 191) (by decide) (by decide)) (g := (mkF m 9 #[.val (.ref r0), .val (.int (0 : Int32)), .val (.int (3 : Int32)), .val (.ref b21), .unset, .unset] [(.int (3 : Int32)), (.int (0 : Int32)), (.ref b21), (.int (0 : Int32)), (.ref r0)])) rfl (by rw [hml]; rfl) (argsL := [(.ref r0), (.int (0 : Int32)), (.ref b21), (.int (0 : Int32)), (.int (3 : Int32))]) (rest := []) (lenOf pd_18 rfl) rfl (by show 2 * 0 + _ ≤ _; exact Nat.le_of_eq rfl) (hb hby djdk_52_16_9) (fun _ _ => ⟨rfl, e21, (by decide : 1 + 0 ≤ _), (by decide : 3 + 0 ≤ _)⟩)
  dsimp only [Pt.U, Pt.locs, Pt.cells, Pt.slots] at X22 l22 y22 z22 st22 hQ22
  subst l22 y22 z22
  obtain ⟨rfl, N22q, Kq22, Vq22⟩ := hQ22
  have O22 := Old.keep O21 Kq22 (allS g_b21 all0)
  have K22 := Keep.trans K21 Kq22 (allS (Or.inr sz_b21) all0)
  have N22 := Fr.app N0 N22q
  refine own_by (W' := (T22.setTop (mkF m 17 #[.val (.ref r0), .val (.int (0 : Int32)), .val (.int (3 : Int32)), .val (.ref b21), .val (.int (3 : Int32)), .unset] [(.int (3 : Int32)), (.int (3 : Int32))]))) (fun t k => XS.iconst X21.here hx rfl (hb hby djdk_52_16_7) (XS.iloadN X21.here hx rfl (hb hby djdk_52_16_8) rfl (st22 _ (XS.istore X22.here hx rfl (hb hby djdk_52_16_12) rfl (l' := #[.val (.ref r0), .val (.int (0 : Int32)), .val (.int (3 : Int32)), .val (.ref b21), .val (.int (3 : Int32)), .unset]) rfl (XS.iload X22.here hx rfl (hb hby djdk_52_16_14) rfl (XS.iloadN X22.here hx rfl (hb hby djdk_52_16_16) rfl k)))))) ?_
  obtain ⟨fs, hr, hrun, hended, hW, hsame⟩ := X22.leave (v := some (.ref b21)) (fun h => by rw [Bd.returns] at h; cases h)
  refine own_by (W' := (T22.setTop (mkF m 58 #[.val (.ref r0), .val (.int (0 : Int32)), .val (.int (3 : Int32)), .val (.ref b21), .val (.int (3 : Int32)), .unset] [(.ref b21)]))) (fun t k => XS.icmpYes X22.here hx rfl (pc0 := 17) (pc' := 57) rfl (hb hby djdk_52_16_17) rfl (teq (rfl : (3 : Int32) = (3 : Int32))).1 (by decide) (by decide) (XS.aloadN X22.here hx rfl (hb hby djdk_52_16_57) rfl rfl k)) ?_
  refine ⟨_, _, retOut X22 hx Bd.returns rfl (Or.inr (Or.inr (Or.inr (Or.inr ⟨rfl, rfl, rfl⟩)))) (hb hby djdk_52_16_58) hr, hrun, hended, _, _, rfl, ?_, ⟨_, rfl⟩, hW, hsame.mono (by decide) (by decide)⟩
  show Qca3 Z r0 kC c0 c1 c2 h0 n0 _ T22.heap _
  exact ⟨_, _, rfl, N22, K22, sz_b21, Vq22⟩
theorem efcd3 (m : MethodId) (r0 : Addr) : entryFrame m #[(.ref r0), (.int (3 : Int32))] 2 = mkF m 0 #[.val (.ref r0), .val (.int (3 : Int32))] [] := by first | (simp [entryFrame, mkF, argsToLocals, Value.category]; done) | rfl
def Qcd3 (Z : State) (r0 : Addr) (kB : ClassId) (vl : List Value) (h0 : Heap) (n0 : Nat) (v : Option Value) (h : Heap) (L : List Loc) : Prop := v = some (.int (0 : Int32)) ∧ Fr n0 L ∧ h = h0
abbrev own_Kcd3 (Z : State) (r0 : Addr) (kB : ClassId) (vl : List Value) (h0 : Heap) (n0 : Nat) (s : State) : Outcome → State → Prop := fun o U' => ∃ v L, o = .returned v ∧ Qcd3 Z r0 kB vl h0 n0 v U'.heap L ∧ FrameEnd s o U' L ({ frames := 0, cells := 0, slots := 0, locals := 0 } : Room).cells ({ frames := 0, cells := 0, slots := 0, locals := 0 } : Room).slots
set_option maxRecDepth 65536 in
set_option maxHeartbeats 40000000 in
theorem rmcd3 (l : Launch) (Z : State) (a0 : Array Value) (hw : ∀ d ∈ tables_1, d.before a0 Z = true) (ws : List Jvm.Cond) (r0 : Addr) (kB : ClassId) (vl : List Value) (h0 : Heap) (n0 : Nat) (Z0 : n0 ≤ h0.size) (V0 : Arv Z h0 r0 kB .byte (3 : Int32) vl (.int (0 : Int32))) :
    MetFree l (⟨"java/lang/StringUTF16", "coderFromArrayLen", "([BI)B"⟩ : MethodName) (head1 (Jvm.Cond.code (⟨"java/lang/StringUTF16", "coderFromArrayLen", "([BI)B"⟩ : MethodName) jdk_52_method_15_code 2 (some .byte) :: ws) ({ frames := 0, cells := 0, slots := 0, locals := 0 } : Room)) (fun a U => a = #[(.ref r0), (.int (3 : Int32))] ∧ Z.Warmed39 U.vm ∧ U.heap = h0) (fun _ _ _ _ _ => True) (fun _ U o U' => ∃ v L, o = .returned v ∧ Qcd3 Z r0 kB vl h0 n0 v U'.heap L ∧ FrameEnd U o U' L ({ frames := 0, cells := 0, slots := 0, locals := 0 } : Room).cells ({ frames := 0, cells := 0, slots := 0, locals := 0 } : Room).slots) := by
  refine MetFree.of_bodySF (plainFor_of_name pn_java_lang_StringUTF16) hisR ?_
  intro p e s m args below meth c s₁ Bd hml0 hP hK
  obtain ⟨rfl, hZ, hh⟩ := hP
  have hx := Bd.exec
  have hby := Bd.bytes
  have hml : c.maxLocals = 2 := hml0
  have hown : s.vm.findClass "java/lang/StringUTF16" = some m.cls := findClass_of_methodNamed Bd.named
  have hnm := (name_of_methodNamed Bd.named Bd.method).1
  have X0 : Stand p l e ({ frames := 0, cells := 0, slots := 0, locals := 0 } : Room) s m #[(.ref r0), (.int (3 : Int32))] below meth c s₁ [] 0 0 := Stand.of_body Bd
  have e0 : s₁.heap = h0 := by rw [← hh, Bd.state]; rfl
  have N0 := Fr.nil n0
  refine own_by (p := p) (e := e) (below := below) (K := own_Kcd3 Z r0 kB vl h0 n0 s) (W' := s₁.setTop (mkF m 0 #[.val (.ref r0), .val (.int (3 : Int32))] [])) (fun t k => castTop (efcd3 m r0) k) ?_
  obtain ⟨clu21, Aru21, qu21, Su21, Ngu21, Hau21, Gau21⟩ := id V0
  refine own_by (W' := (s₁.setTop (mkF m 3 #[.val (.ref r0), .val (.int (3 : Int32))] [(.int clu21.slots.size.toInt32), (.int (3 : Int32))]))) (fun t k => XS.iloadN X0.here hx rfl (hb hby djdk_52_15_0) rfl (XS.aloadN X0.here hx rfl (hb hby djdk_52_15_1) rfl rfl ((X0.arraylength hx (by rw [e0]; exact Aru21.1) (State.isArrayOf_alike hZ.alike Aru21.2.1) (g := (mkF m 2 #[.val (.ref r0), .val (.int (3 : Int32))] [(.ref r0), (.int (3 : Int32))])) rfl rfl (hb hby djdk_52_15_2)) _ k))) ?_
  rw [len_of Su21 Ngu21]
  obtain ⟨fs, hr, hrun, hended, hW, hsame⟩ := X0.leave (v := some (.int (((((3 : Int32) - (3 : Int32)).toUInt32 >>> ((31 : Int32) &&& 31).toUInt32).toInt32).toInt8.toInt32))) (fun h => by rw [Bd.returns] at h; cases h)
  refine own_by (W' := (s₁.setTop (mkF m 8 #[.val (.ref r0), .val (.int (3 : Int32))] [(.int (((((3 : Int32) - (3 : Int32)).toUInt32 >>> ((31 : Int32) &&& 31).toUInt32).toInt32).toInt8.toInt32))]))) (fun t k => XS.isub X0.here hx rfl (hb hby djdk_52_15_3) rfl (XS.bipush X0.here hx rfl (hb hby djdk_52_15_4) (XS.iushr X0.here hx rfl (hb hby djdk_52_15_6) rfl (XS.i2b X0.here hx rfl (hb hby djdk_52_15_7) rfl k)))) ?_
  refine ⟨_, _, retOut X0 hx Bd.returns rfl (Or.inl ⟨rfl, Or.inr (Or.inr (Or.inl rfl)), _, rfl⟩) (hb hby djdk_52_15_8) hr, hrun, hended, _, _, rfl, ?_, ⟨_, rfl⟩, hW, hsame.mono (by decide) (by decide)⟩
  exact ⟨by rfl, N0, e0⟩
theorem efsb3 (m : MethodId) (r0 : Addr) (r1 : Addr) : entryFrame m #[(.ref r0), (.ref r1), (.int (0 : Int32)), (.int (3 : Int32)), .null] 6 = mkF m 0 #[.val (.ref r0), .val (.ref r1), .val (.int (0 : Int32)), .val (.int (3 : Int32)), .val .null, .unset] [] := by first | (simp [entryFrame, mkF, argsToLocals, Value.category]; done) | rfl
def Qsb3 (Z : State) (r0 : Addr) (r1 : Addr) (kC : ClassId) (c0 : Int32) (c1 : Int32) (c2 : Int32) (wBOOLEAN : Addr) (wINTEGER : Addr) (wBITS : Addr) (wOCTETS : Addr) (wNULL : Addr) (wOBJECT_IDENTIFIER : Addr) (wTEXT : Addr) (wCOMPONENTS : Addr) (wELEMENTS : Addr) (wCHOICE : Addr) (wELEMENT : Addr) (cs : Int32) (wD : Addr) (kD : ClassId) (wC : Addr) (clC : Cell) (h0 : Heap) (n0 : Nat) (v : Option Value) (h : Heap) (L : List Loc) : Prop := v = none ∧ Fr n0 L ∧ Keep h0 h [r0] ∧ own_St Z h r0 (3 : Int32) [(.int (nar .byte (c0.toInt8.toInt32))), (.int (nar .byte (c1.toInt8.toInt32))), (.int (nar .byte (c2.toInt8.toInt32)))]
abbrev own_Ksb3 (Z : State) (r0 : Addr) (r1 : Addr) (kC : ClassId) (c0 : Int32) (c1 : Int32) (c2 : Int32) (wBOOLEAN : Addr) (wINTEGER : Addr) (wBITS : Addr) (wOCTETS : Addr) (wNULL : Addr) (wOBJECT_IDENTIFIER : Addr) (wTEXT : Addr) (wCOMPONENTS : Addr) (wELEMENTS : Addr) (wCHOICE : Addr) (wELEMENT : Addr) (cs : Int32) (wD : Addr) (kD : ClassId) (wC : Addr) (clC : Cell) (h0 : Heap) (n0 : Nat) (s : State) : Outcome → State → Prop := fun o U' => ∃ v L, o = .returned v ∧ Qsb3 Z r0 r1 kC c0 c1 c2 wBOOLEAN wINTEGER wBITS wOCTETS wNULL wOBJECT_IDENTIFIER wTEXT wCOMPONENTS wELEMENTS wCHOICE wELEMENT cs wD kD wC clC h0 n0 v U'.heap L ∧ FrameEnd s o U' L ({ frames := 2, cells := 1, slots := 3, locals := 35 } : Room).cells ({ frames := 2, cells := 1, slots := 3, locals := 35 } : Room).slots
set_option maxRecDepth 65536 in
set_option maxHeartbeats 40000000 in
theorem rmsb3 (l : Launch) (Z : State) (a0 : Array Value) (hw : ∀ d ∈ tables_1, d.before a0 Z = true) (ws : List Jvm.Cond) (r0 : Addr) (r1 : Addr) (kC : ClassId) (c0 : Int32) (c1 : Int32) (c2 : Int32) (wBOOLEAN : Addr) (wINTEGER : Addr) (wBITS : Addr) (wOCTETS : Addr) (wNULL : Addr) (wOBJECT_IDENTIFIER : Addr) (wTEXT : Addr) (wCOMPONENTS : Addr) (wELEMENTS : Addr) (wCHOICE : Addr) (wELEMENT : Addr) (cs : Int32) (wD : Addr) (kD : ClassId) (wC : Addr) (clC : Cell) (h0 : Heap) (n0 : Nat) (Z0 : n0 ≤ h0.size) (O0 : Old Z n0 h0) (HW : own_Wd Z wBOOLEAN wINTEGER wBITS wOCTETS wNULL wOBJECT_IDENTIFIER wTEXT wCOMPONENTS wELEMENTS wCHOICE wELEMENT cs wD kD wC clC) (E0 : Exa Z h0 r0 "java/lang/String") (g_r0 : n0 ≤ r0) (F_value : Fld Z h0 r0 "java/lang/String" "value" "[B" .null) (F_coder : Fld Z h0 r0 "java/lang/String" "coder" "B" (.int (0 : Int32))) (V1 : Arv Z h0 r1 kC .char (3 : Int32) [(.int c0), (.int c1), (.int c2)] (.int (0 : Int32))) (hc_c0 : ¬ (255 : Int32) < c0) (hc_c1 : ¬ (255 : Int32) < c1) (hc_c2 : ¬ (255 : Int32) < c2) :
    MetFree l (⟨"java/lang/String", "<init>", "([CIILjava/lang/Void;)V"⟩ : MethodName) (head1 (Jvm.Cond.code (⟨"java/lang/String", "<init>", "([CIILjava/lang/Void;)V"⟩ : MethodName) jdk_42_method_149_code 6 none :: ws) ({ frames := 2, cells := 1, slots := 3, locals := 35 } : Room)) (fun a U => a = #[(.ref r0), (.ref r1), (.int (0 : Int32)), (.int (3 : Int32)), .null] ∧ Z.Warmed39 U.vm ∧ U.heap = h0) (fun _ _ _ _ _ => True) (fun _ U o U' => ∃ v L, o = .returned v ∧ Qsb3 Z r0 r1 kC c0 c1 c2 wBOOLEAN wINTEGER wBITS wOCTETS wNULL wOBJECT_IDENTIFIER wTEXT wCOMPONENTS wELEMENTS wCHOICE wELEMENT cs wD kD wC clC h0 n0 v U'.heap L ∧ FrameEnd U o U' L ({ frames := 2, cells := 1, slots := 3, locals := 35 } : Room).cells ({ frames := 2, cells := 1, slots := 3, locals := 35 } : Room).slots) := by
  refine MetFree.of_bodySF (plainFor_of_name pn_java_lang_String) hisR ?_
  intro p e s m args below meth c s₁ Bd hml0 hP hK
  obtain ⟨rfl, hZ, hh⟩ := hP
  have hx := Bd.exec
  have hby := Bd.bytes
  have hml : c.maxLocals = 6 := hml0
  have hown : s.vm.findClass "java/lang/String" = some m.cls := findClass_of_methodNamed Bd.named
  have hnm := (name_of_methodNamed Bd.named Bd.method).1
  have X0 : Stand p l e ({ frames := 2, cells := 1, slots := 3, locals := 35 } : Room) s m #[(.ref r0), (.ref r1), (.int (0 : Int32)), (.int (3 : Int32)), .null] below meth c s₁ [] 0 0 := Stand.of_body Bd
  have e0 : s₁.heap = h0 := by rw [← hh, Bd.state]; rfl
  have N0 := Fr.nil n0
  refine own_by (p := p) (e := e) (below := below) (K := own_Ksb3 Z r0 r1 kC c0 c1 c2 wBOOLEAN wINTEGER wBITS wOCTETS wNULL wOBJECT_IDENTIFIER wTEXT wCOMPONENTS wELEMENTS wCHOICE wELEMENT cs wD kD wC clC h0 n0 s) (W' := s₁.setTop (mkF m 0 #[.val (.ref r0), .val (.ref r1), .val (.int (0 : Int32)), .val (.int (3 : Int32)), .val .null, .unset] [])) (fun t k => castTop (efsb3 m r0 r1) k) ?_
  obtain ⟨T21, X21, e21, st21⟩ := initO X0 hx hZ hown (own_w hw 187) (own_w hw 55) (own_w hw 56) e0 (g := (mkF m 1 #[.val (.ref r0), .val (.ref r1), .val (.int (0 : Int32)), .val (.int (3 : Int32)), .val .null, .unset] [(.ref r0)])) rfl (by rw [hml]; rfl) rfl (hb hby djdk_42_149_1) (by decide) (W := 0) (by show 2 * 0 + _ ≤ _; exact Nat.le_of_eq rfl) (by decide)
  obtain ⟨T22, X22, e22, st22⟩ := getS (host := "") X21 hx hZ hown (own_w hw 188) Via.refl e21 (HW.2.2.2.2.2.2.2.2.2.2.2.2.2.2.2.2.2.2.2.2.2.2.2.2.2.2.2.2.2.2.2.2.2.1.ext O0.2) (g := (mkF m 27 #[.val (.ref r0), .val (.ref r1), .val (.int (0 : Int32)), .val (.int (3 : Int32)), .val .null, .unset] [])) rfl (hb hby djdk_42_149_27)
  refine own_by (W' := (T22.setTop (mkF m 33 #[.val (.ref r0), .val (.ref r1), .val (.int (0 : Int32)), .val (.int (3 : Int32)), .val .null, .unset] []))) (fun t k => XS.aloadN X0.here hx rfl (hb hby djdk_42_149_0) rfl rfl (st21 _ (XS.iloadN X21.here hx rfl (hb hby djdk_42_149_4) rfl (XS.ifYes X21.here hx rfl (pc0 := 5) (pc' := 27) rfl (hb hby djdk_42_149_5) rfl ((if0 _ _).trans (feq (by decide : ¬ ((3 : Int32) = (0 : Int32)))).2) (by decide) (by decide) (st22 _ (XS.ifNo X22.here hx rfl (hb hby djdk_42_149_30) rfl ((if0 _ _).trans (feq HW.2.2.2.2.2.2.2.2.2.2.2.2.2.2.2.2.2.2.2.2.2.2.2.2.2.2.2.2.2.2.2.2.2.2.1).1) k)))))) ?_
  obtain ⟨_, _, ⟨T23, L23, k23, n23⟩, -, X23, ⟨Lc23, hQ23, l23, y23, z23⟩, st23⟩ := Jvm.LawKit.callS X22 hx (y := (⟨"java/lang/StringUTF16", "compress", "([CII)[B"⟩ : MethodName)) hown (mvT hZ (own_w hw 189)) (mvT hZ (own_w hw 190)) (mvT hZ (own_w hw 191)) (mvT hZ (own_w hw 192)) (by decide) (backOf (W := 0) (rmca3 l Z a0 hw [] r1 kC c0 c1 c2 h0 n0 Z0 O0 V1 hc_c0 hc_c1 hc_c2) hZ (own_w hw 192) (own_w hw 191) (by decide) (by decide)) (g := (mkF m 36 #[.val (.ref r0), .val (.ref r1), .val (.int (0 : Int32)), .val (.int (3 : Int32)), .val .null, .unset] [(.int (3 : Int32)), (.int (0 : Int32)), (.ref r1)])) rfl (by rw [hml]; rfl) (argsL := [(.ref r1), (.int (0 : Int32)), (.int (3 : Int32))]) (rest := []) (lenOf pd_19 rfl) rfl (by show 2 * 0 + _ ≤ _; exact Nat.le_of_eq rfl) (hb hby djdk_42_149_36) (fun _ _ => ⟨rfl, e22, (by decide : 0 + 1 ≤ _), (by decide : 0 + 3 ≤ _)⟩)
  dsimp only [Pt.U, Pt.locs, Pt.cells, Pt.slots] at X23 l23 y23 z23 st23 hQ23
  subst l23 y23 z23
  obtain ⟨fb23, kb23, rfl, N23q, Kq23, hsz23, Vq23⟩ := hQ23
  have ne_r0_fb23 : r0 ≠ fb23 := Nat.ne_of_lt (Nat.lt_of_lt_of_le E0.lt hsz23)
  have ne_r1_fb23 : r1 ≠ fb23 := Nat.ne_of_lt (Nat.lt_of_lt_of_le V1.lt hsz23)
  have O23 := Old.keep O0 Kq23 all0
  have K23 := Keep.trans (Keep.refl h0 [r0]) Kq23 all0
  have N23 := Fr.app N0 N23q
  refine own_by (W' := (T23.setTop (mkF m 42 #[.val (.ref r0), .val (.ref r1), .val (.int (0 : Int32)), .val (.int (3 : Int32)), .val .null, .val (.ref fb23)] [(.ref r0)]))) (fun t k => XS.aloadN X22.here hx rfl (hb hby djdk_42_149_33) rfl rfl (XS.iloadN X22.here hx rfl (hb hby djdk_42_149_34) rfl (XS.iloadN X22.here hx rfl (hb hby djdk_42_149_35) rfl (st23 _ (XS.astore X23.here hx rfl (hb hby djdk_42_149_39) rfl rfl (l' := #[.val (.ref r0), .val (.ref r1), .val (.int (0 : Int32)), .val (.int (3 : Int32)), .val .null, .val (.ref fb23)]) rfl (XS.aloadN X23.here hx rfl (hb hby djdk_42_149_41) rfl rfl k)))))) ?_
  obtain ⟨_, _, ⟨T24, L24, k24, n24⟩, -, X24, ⟨Lc24, hQ24, l24, y24, z24⟩, st24⟩ := Jvm.LawKit.callS X23 hx (y := (⟨"java/lang/StringUTF16", "coderFromArrayLen", "([BI)B"⟩ : MethodName)) hown (mvT hZ (own_w hw 196)) (mvT hZ (own_w hw 197)) (mvT hZ (own_w hw 191)) (mvT hZ (own_w hw 198)) (by decide) (backOf (W := 1) (rmcd3 l Z a0 hw [] fb23 kb23 [(.int (nar .byte (c0.toInt8.toInt32))), (.int (nar .byte (c1.toInt8.toInt32))), (.int (nar .byte (c2.toInt8.toInt32)))] T23.heap n0 (own_le O23) Vq23) hZ (own_w hw 198) (own_w hw 191) (by decide) (by decide)) (g := (mkF m 45 #[.val (.ref r0), .val (.ref r1), .val (.int (0 : Int32)), .val (.int (3 : Int32)), .val .null, .val (.ref fb23)] [(.int (3 : Int32)), (.ref fb23), (.ref r0)])) rfl (by rw [hml]; rfl) (argsL := [(.ref fb23), (.int (3 : Int32))]) (rest := [(.ref r0)]) (lenOf pd_20 rfl) rfl (by show 2 * 0 + _ ≤ _; exact Nat.le_of_eq rfl) (hb hby djdk_42_149_45) (fun _ _ => ⟨rfl, rfl, (by decide : 1 + 0 ≤ _), (by decide : 3 + 0 ≤ _)⟩)
  dsimp only [Pt.U, Pt.locs, Pt.cells, Pt.slots] at X24 l24 y24 z24 st24 hQ24
  subst l24 y24 z24
  obtain ⟨rfl, N24q, e24⟩ := hQ24
  have N24 := Fr.app N23 N24q
  obtain ⟨T25, h25, X25, e25, W25, st25⟩ := putFN X24 hx hZ hown (own_w hw 199) Via.refl e24 (F_coder.keep Kq23 nin0) (E0.keep Kq23) (Or.inr ⟨(own_w hw 200), rfl, hnm⟩) (own_w hw 177) (ty := .byte) (v' := .int (0 : Int32)) (by decide) rfl (by decide) (g := (mkF m 48 #[.val (.ref r0), .val (.ref r1), .val (.int (0 : Int32)), .val (.int (3 : Int32)), .val .null, .val (.ref fb23)] [(.int (0 : Int32)), (.ref r0)])) rfl rfl (hb hby djdk_42_149_48)
  have Fw25 := (F_coder.keep Kq23 nin0).same W25
  have O25 := Old.wr O23 W25 g_r0
  have N25 := Fr.snoc X25 N24 g_r0
  have K25 := Keep.wr K23 W25 (Or.inl (List.mem_of_getElem? (i := 0) rfl))
  refine own_by (W' := (T25.setTop (mkF m 54 #[.val (.ref r0), .val (.ref r1), .val (.int (0 : Int32)), .val (.int (3 : Int32)), .val .null, .val (.ref fb23)] [(.ref fb23), (.ref r0)]))) (fun t k => XS.aload X23.here hx rfl (hb hby djdk_42_149_42) rfl rfl (XS.iloadN X23.here hx rfl (hb hby djdk_42_149_44) rfl (st24 _ (st25 _ (XS.aloadN X25.here hx rfl (hb hby djdk_42_149_51) rfl rfl (XS.aload X25.here hx rfl (hb hby djdk_42_149_52) rfl rfl k)))))) ?_
  obtain ⟨T26, h26, X26, e26, W26, st26⟩ := putF X25 hx hZ hown (host := "") (Or.inl (own_w hw 201)) Via.refl e25 ((F_value.keep Kq23 nin0).other W25 (Or.inr (slot_ne (Or.inr (own_w hw 202)) (Or.inr (own_w hw 200)) (by decide) (t := (.array .byte)) (t' := .byte) (by decide) (by decide)))) ((E0.keep Kq23).wr W25) (Or.inr ⟨(own_w hw 202), rfl, hnm⟩) (own_w hw 177) (ty := (.array .byte)) (by decide) rfl rfl (g := (mkF m 54 #[.val (.ref r0), .val (.ref r1), .val (.int (0 : Int32)), .val (.int (3 : Int32)), .val .null, .val (.ref fb23)] [(.ref fb23), (.ref r0)])) rfl rfl (hb hby djdk_42_149_54)
  have Fw26 := ((F_value.keep Kq23 nin0).other W25 (Or.inr (slot_ne (Or.inr (own_w hw 202)) (Or.inr (own_w hw 200)) (by decide) (t := (.array .byte)) (t' := .byte) (by decide) (by decide)))).same W26
  have O26 := Old.wr O25 W26 g_r0
  have N26 := Fr.snoc X26 N25 g_r0
  have K26 := Keep.wr K25 W26 (Or.inl (List.mem_of_getElem? (i := 0) rfl))
  obtain ⟨fs, hr, hrun, hended, hW, hsame⟩ := X26.leave (v := none) (fun _ => rfl)
  refine own_by (W' := (T26.setTop (mkF m 57 #[.val (.ref r0), .val (.ref r1), .val (.int (0 : Int32)), .val (.int (3 : Int32)), .val .null, .val (.ref fb23)] []))) (fun t k => st26 _ k) ?_
  refine ⟨_, _, X26.returnOut hx Bd.returns (hb hby djdk_42_149_57) hr, hrun, hended, _, _, rfl, ?_, ⟨_, rfl⟩, hW, hsame.mono (by decide) (by decide)⟩
  show Qsb3 Z r0 r1 kC c0 c1 c2 wBOOLEAN wINTEGER wBITS wOCTETS wNULL wOBJECT_IDENTIFIER wTEXT wCOMPONENTS wELEMENTS wCHOICE wELEMENT cs wD kD wC clC h0 n0 _ T26.heap _
  rw [e26]
  exact ⟨rfl, N26, K26, (((E0.keep Kq23).wr W25).wr W26), (Fw25.other W26 (Or.inr (slot_ne (Or.inr (own_w hw 200)) (Or.inr (own_w hw 202)) (by decide) (t := .byte) (t' := (.array .byte)) (by decide) (by decide)))), _, _, Fw26, ((Vq23.other W25 ne_r0_fb23.symm).other W26 ne_r0_fb23.symm)⟩
theorem efsa3 (m : MethodId) (r0 : Addr) (r1 : Addr) : entryFrame m #[(.ref r0), (.ref r1)] 2 = mkF m 0 #[.val (.ref r0), .val (.ref r1)] [] := by first | (simp [entryFrame, mkF, argsToLocals, Value.category]; done) | rfl
def Qsa3 (Z : State) (r0 : Addr) (r1 : Addr) (kC : ClassId) (c0 : Int32) (c1 : Int32) (c2 : Int32) (wBOOLEAN : Addr) (wINTEGER : Addr) (wBITS : Addr) (wOCTETS : Addr) (wNULL : Addr) (wOBJECT_IDENTIFIER : Addr) (wTEXT : Addr) (wCOMPONENTS : Addr) (wELEMENTS : Addr) (wCHOICE : Addr) (wELEMENT : Addr) (cs : Int32) (wD : Addr) (kD : ClassId) (wC : Addr) (clC : Cell) (h0 : Heap) (n0 : Nat) (v : Option Value) (h : Heap) (L : List Loc) : Prop := v = none ∧ Fr n0 L ∧ Keep h0 h [r0] ∧ own_St Z h r0 (3 : Int32) [(.int (nar .byte (c0.toInt8.toInt32))), (.int (nar .byte (c1.toInt8.toInt32))), (.int (nar .byte (c2.toInt8.toInt32)))]
abbrev own_Ksa3 (Z : State) (r0 : Addr) (r1 : Addr) (kC : ClassId) (c0 : Int32) (c1 : Int32) (c2 : Int32) (wBOOLEAN : Addr) (wINTEGER : Addr) (wBITS : Addr) (wOCTETS : Addr) (wNULL : Addr) (wOBJECT_IDENTIFIER : Addr) (wTEXT : Addr) (wCOMPONENTS : Addr) (wELEMENTS : Addr) (wCHOICE : Addr) (wELEMENT : Addr) (cs : Int32) (wD : Addr) (kD : ClassId) (wC : Addr) (clC : Cell) (h0 : Heap) (n0 : Nat) (s : State) : Outcome → State → Prop := fun o U' => ∃ v L, o = .returned v ∧ Qsa3 Z r0 r1 kC c0 c1 c2 wBOOLEAN wINTEGER wBITS wOCTETS wNULL wOBJECT_IDENTIFIER wTEXT wCOMPONENTS wELEMENTS wCHOICE wELEMENT cs wD kD wC clC h0 n0 v U'.heap L ∧ FrameEnd s o U' L ({ frames := 3, cells := 1, slots := 3, locals := 52 } : Room).cells ({ frames := 3, cells := 1, slots := 3, locals := 52 } : Room).slots
set_option maxRecDepth 65536 in
set_option maxHeartbeats 40000000 in
theorem rmsa3 (l : Launch) (Z : State) (a0 : Array Value) (hw : ∀ d ∈ tables_1, d.before a0 Z = true) (ws : List Jvm.Cond) (r0 : Addr) (r1 : Addr) (kC : ClassId) (c0 : Int32) (c1 : Int32) (c2 : Int32) (wBOOLEAN : Addr) (wINTEGER : Addr) (wBITS : Addr) (wOCTETS : Addr) (wNULL : Addr) (wOBJECT_IDENTIFIER : Addr) (wTEXT : Addr) (wCOMPONENTS : Addr) (wELEMENTS : Addr) (wCHOICE : Addr) (wELEMENT : Addr) (cs : Int32) (wD : Addr) (kD : ClassId) (wC : Addr) (clC : Cell) (h0 : Heap) (n0 : Nat) (Z0 : n0 ≤ h0.size) (O0 : Old Z n0 h0) (HW : own_Wd Z wBOOLEAN wINTEGER wBITS wOCTETS wNULL wOBJECT_IDENTIFIER wTEXT wCOMPONENTS wELEMENTS wCHOICE wELEMENT cs wD kD wC clC) (E0 : Exa Z h0 r0 "java/lang/String") (g_r0 : n0 ≤ r0) (F_value : Fld Z h0 r0 "java/lang/String" "value" "[B" .null) (F_coder : Fld Z h0 r0 "java/lang/String" "coder" "B" (.int (0 : Int32))) (V1 : Arv Z h0 r1 kC .char (3 : Int32) [(.int c0), (.int c1), (.int c2)] (.int (0 : Int32))) (hc_c0 : ¬ (255 : Int32) < c0) (hc_c1 : ¬ (255 : Int32) < c1) (hc_c2 : ¬ (255 : Int32) < c2) :
    MetFree l (⟨"java/lang/String", "<init>", "([C)V"⟩ : MethodName) (head1 (Jvm.Cond.code (⟨"java/lang/String", "<init>", "([C)V"⟩ : MethodName) jdk_42_method_3_code 2 none :: ws) ({ frames := 3, cells := 1, slots := 3, locals := 52 } : Room)) (fun a U => a = #[(.ref r0), (.ref r1)] ∧ Z.Warmed39 U.vm ∧ U.heap = h0) (fun _ _ _ _ _ => True) (fun _ U o U' => ∃ v L, o = .returned v ∧ Qsa3 Z r0 r1 kC c0 c1 c2 wBOOLEAN wINTEGER wBITS wOCTETS wNULL wOBJECT_IDENTIFIER wTEXT wCOMPONENTS wELEMENTS wCHOICE wELEMENT cs wD kD wC clC h0 n0 v U'.heap L ∧ FrameEnd U o U' L ({ frames := 3, cells := 1, slots := 3, locals := 52 } : Room).cells ({ frames := 3, cells := 1, slots := 3, locals := 52 } : Room).slots) := by
  refine MetFree.of_bodySF (plainFor_of_name pn_java_lang_String) hisR ?_
  intro p e s m args below meth c s₁ Bd hml0 hP hK
  obtain ⟨rfl, hZ, hh⟩ := hP
  have hx := Bd.exec
  have hby := Bd.bytes
  have hml : c.maxLocals = 2 := hml0
  have hown : s.vm.findClass "java/lang/String" = some m.cls := findClass_of_methodNamed Bd.named
  have hnm := (name_of_methodNamed Bd.named Bd.method).1
  have X0 : Stand p l e ({ frames := 3, cells := 1, slots := 3, locals := 52 } : Room) s m #[(.ref r0), (.ref r1)] below meth c s₁ [] 0 0 := Stand.of_body Bd
  have e0 : s₁.heap = h0 := by rw [← hh, Bd.state]; rfl
  have N0 := Fr.nil n0
  refine own_by (p := p) (e := e) (below := below) (K := own_Ksa3 Z r0 r1 kC c0 c1 c2 wBOOLEAN wINTEGER wBITS wOCTETS wNULL wOBJECT_IDENTIFIER wTEXT wCOMPONENTS wELEMENTS wCHOICE wELEMENT cs wD kD wC clC h0 n0 s) (W' := s₁.setTop (mkF m 0 #[.val (.ref r0), .val (.ref r1)] [])) (fun t k => castTop (efsa3 m r0 r1) k) ?_
  obtain ⟨clu21, Aru21, qu21, Su21, Ngu21, Hau21, Gau21⟩ := id V1
  refine own_by (W' := (s₁.setTop (mkF m 5 #[.val (.ref r0), .val (.ref r1)] [(.int clu21.slots.size.toInt32), (.int (0 : Int32)), (.ref r1), (.ref r0)]))) (fun t k => XS.aloadN X0.here hx rfl (hb hby djdk_42_3_0) rfl rfl (XS.aloadN X0.here hx rfl (hb hby djdk_42_3_1) rfl rfl (XS.iconst X0.here hx rfl (hb hby djdk_42_3_2) (XS.aloadN X0.here hx rfl (hb hby djdk_42_3_3) rfl rfl ((X0.arraylength hx (by rw [e0]; exact Aru21.1) (State.isArrayOf_alike hZ.alike Aru21.2.1) (g := (mkF m 4 #[.val (.ref r0), .val (.ref r1)] [(.ref r1), (.int (0 : Int32)), (.ref r1), (.ref r0)])) rfl rfl (hb hby djdk_42_3_4)) _ k))))) ?_
  rw [len_of Su21 Ngu21]
  obtain ⟨_, _, ⟨T22, L22, k22, n22⟩, -, X22, ⟨Lc22, hQ22, l22, y22, z22⟩, st22⟩ := X0.specialBack hx (y := (⟨"java/lang/String", "<init>", "([CIILjava/lang/Void;)V"⟩ : MethodName)) rfl hown (mvT hZ (own_w hw 183)) (mvT hZ (own_w hw 184)) (mvT hZ (own_w hw 186)) (by decide) (backOf (W := 0) (rmsb3 l Z a0 hw [] r0 r1 kC c0 c1 c2 wBOOLEAN wINTEGER wBITS wOCTETS wNULL wOBJECT_IDENTIFIER wTEXT wCOMPONENTS wELEMENTS wCHOICE wELEMENT cs wD kD wC clC h0 n0 Z0 O0 HW E0 g_r0 F_value F_coder V1 hc_c0 hc_c1 hc_c2) hZ (own_w hw 186) (own_w hw 178) (by decide) (by decide)) (g := (mkF m 6 #[.val (.ref r0), .val (.ref r1)] [.null, (.int (3 : Int32)), (.int (0 : Int32)), (.ref r1), (.ref r0)])) rfl (by rw [hml]; rfl) (Steps.refl _) (a := r0) (argsL := [(.ref r1), (.int (0 : Int32)), (.int (3 : Int32)), .null]) (rest := []) (lenOf pd_21 rfl) rfl (by show 2 * 0 + _ ≤ _; exact Nat.le_of_eq rfl) (hb hby djdk_42_3_6) (fun _ _ => ⟨rfl, e0, (by decide : 0 + 1 ≤ _), (by decide : 0 + 3 ≤ _)⟩)
  dsimp only [Pt.U, Pt.locs, Pt.cells, Pt.slots] at X22 l22 y22 z22 st22 hQ22
  subst l22 y22 z22
  obtain ⟨rfl, N22q, Kq22, Tq22⟩ := hQ22
  have O22 := Old.keep O0 Kq22 (allS g_r0 all0)
  have K22 := Keep.trans (Keep.refl h0 [r0]) Kq22 (allS (Or.inl (List.mem_of_getElem? (i := 0) rfl)) all0)
  have N22 := Fr.app N0 N22q
  obtain ⟨fs, hr, hrun, hended, hW, hsame⟩ := X22.leave (v := none) (fun _ => rfl)
  refine own_by (W' := (T22.setTop (mkF m 9 #[.val (.ref r0), .val (.ref r1)] []))) (fun t k => XS.aconstNull X0.here hx rfl (hb hby djdk_42_3_5) (Steps.trans st22 k)) ?_
  refine ⟨_, _, X22.returnOut hx Bd.returns (hb hby djdk_42_3_9) hr, hrun, hended, _, _, rfl, ?_, ⟨_, rfl⟩, hW, hsame.mono (by decide) (by decide)⟩
  show Qsa3 Z r0 r1 kC c0 c1 c2 wBOOLEAN wINTEGER wBITS wOCTETS wNULL wOBJECT_IDENTIFIER wTEXT wCOMPONENTS wELEMENTS wCHOICE wELEMENT cs wD kD wC clC h0 n0 _ T22.heap _
  exact ⟨rfl, N22, K22, Tq22⟩
theorem pd_22 : parseMethodDescriptor "([BI)Lcom/example/tagwright/tagwright/universal/BitString;" = some ⟨[(.array .byte), .int], some (.object "com/example/tagwright/tagwright/universal/BitString")⟩ := by decide +kernel
theorem pd_23 : parseMethodDescriptor "(Ljava/lang/Object;)J" = some ⟨[(.object "java/lang/Object")], some .long⟩ := by decide +kernel
theorem pd_24 : parseMethodDescriptor "(C)Ljava/lang/String;" = some ⟨[.char], some (.object "java/lang/String")⟩ := by decide +kernel
theorem pd_25 : parseMethodDescriptor "([C)V" = some ⟨[(.array .char)], none⟩ := by decide +kernel
theorem pd_26 : parseMethodDescriptor "(I)Ljava/lang/Integer;" = some ⟨[.int], some (.object "java/lang/Integer")⟩ := by decide +kernel
theorem pd_27 : parseMethodDescriptor "(Ljava/lang/Object;)Z" = some ⟨[(.object "java/lang/Object")], some .boolean⟩ := by decide +kernel
theorem pn_com_example_tagwright_tagwright_typed_FormIsSizedPinLaw : plainName "com/example/tagwright/tagwright/typed/FormIsSizedPinLaw" = true := by first | (simp [plainName, overriddenIn]; done) | decide +kernel
theorem efL (m : MethodId) (p0 : Int32) (p1 : Int32) (p2 : Int32) : entryFrame m #[(.int p0), (.int p1), (.int p2)] maxLocals = mkF m 0 #[.val (.int p0), .val (.int p1), .val (.int p2), .unset, .unset, .unset, .unset, .unset, .unset, .unset, .unset, .unset, .unset, .unset, .unset] [] := by first | (simp [entryFrame, mkF, argsToLocals, Value.category, maxLocals]; done) | rfl
def QL (Z : State) (p0 : Int32) (p1 : Int32) (p2 : Int32) (wBOOLEAN : Addr) (wINTEGER : Addr) (wBITS : Addr) (wOCTETS : Addr) (wNULL : Addr) (wOBJECT_IDENTIFIER : Addr) (wTEXT : Addr) (wCOMPONENTS : Addr) (wELEMENTS : Addr) (wCHOICE : Addr) (wELEMENT : Addr) (cs : Int32) (wD : Addr) (kD : ClassId) (wC : Addr) (clC : Cell) (h0 : Heap) (n0 : Nat) (v : Option Value) (h : Heap) (L : List Loc) : Prop := v = some (.int 1) ∧ Fr n0 L
abbrev own_KL (Z : State) (p0 : Int32) (p1 : Int32) (p2 : Int32) (wBOOLEAN : Addr) (wINTEGER : Addr) (wBITS : Addr) (wOCTETS : Addr) (wNULL : Addr) (wOBJECT_IDENTIFIER : Addr) (wTEXT : Addr) (wCOMPONENTS : Addr) (wELEMENTS : Addr) (wCHOICE : Addr) (wELEMENT : Addr) (cs : Int32) (wD : Addr) (kD : ClassId) (wC : Addr) (clC : Cell) (h0 : Heap) (n0 : Nat) (s : State) : Outcome → State → Prop := fun o U' => ∃ v L, o = .returned v ∧ QL Z p0 p1 p2 wBOOLEAN wINTEGER wBITS wOCTETS wNULL wOBJECT_IDENTIFIER wTEXT wCOMPONENTS wELEMENTS wCHOICE wELEMENT cs wD kD wC clC h0 n0 v U'.heap L ∧ CHr Z consts_1 s.vm s.heap U'.vm U'.heap ∧ ReturnedEndW s o U' L room_1.cells room_1.slots
set_option maxRecDepth 65536 in
set_option maxHeartbeats 40000000 in
theorem rmL (l : Launch) (Z : State) (a0 : Array Value) (hw : ∀ d ∈ tables_1, d.before a0 Z = true) (ws : List Jvm.Cond) (p0 : Int32) (p1 : Int32) (p2 : Int32) (wBOOLEAN : Addr) (wINTEGER : Addr) (wBITS : Addr) (wOCTETS : Addr) (wNULL : Addr) (wOBJECT_IDENTIFIER : Addr) (wTEXT : Addr) (wCOMPONENTS : Addr) (wELEMENTS : Addr) (wCHOICE : Addr) (wELEMENT : Addr) (cs : Int32) (wD : Addr) (kD : ClassId) (wC : Addr) (clC : Cell) (h0 : Heap) (n0 : Nat) (Z0 : n0 ≤ h0.size) (O0 : Old Z n0 h0) (HW : own_Wd Z wBOOLEAN wINTEGER wBITS wOCTETS wNULL wOBJECT_IDENTIFIER wTEXT wCOMPONENTS wELEMENTS wCHOICE wELEMENT cs wD kD wC clC) :
    MetFree l x (head1 (Jvm.Cond.code x code maxLocals ret :: ws) room_1) (fun a U => a = #[(.int p0), (.int p1), (.int p2)] ∧ Z.Warmed39 U.vm ∧ U.heap = h0 ∧ CHv Z consts_1 U.vm h0) (fun _ _ _ _ _ => True) (fun _ U o U' => ∃ v L, o = .returned v ∧ QL Z p0 p1 p2 wBOOLEAN wINTEGER wBITS wOCTETS wNULL wOBJECT_IDENTIFIER wTEXT wCOMPONENTS wELEMENTS wCHOICE wELEMENT cs wD kD wC clC h0 n0 v U'.heap L ∧ CHr Z consts_1 U.vm U.heap U'.vm U'.heap ∧ ReturnedEndW U o U' L room_1.cells room_1.slots) := by
  refine MetFree.of_bodySF (plainFor_of_name pn_com_example_tagwright_tagwright_typed_FormIsSizedPinLaw) hisR ?_
  intro p e s m args below meth c s₁ Bd hml0 hP hK
  obtain ⟨rfl, hZ, hh, hCH⟩ := hP
  have hx := Bd.exec
  have hby := Bd.bytes
  have hml : c.maxLocals = 15 := hml0
  have hown : s.vm.findClass "com/example/tagwright/tagwright/typed/FormIsSizedPinLaw" = some m.cls := findClass_of_methodNamed Bd.named
  have hnm := (name_of_methodNamed Bd.named Bd.method).1
  have X0 : Stand p l e room_1 (s.setVm s.vm) m #[(.int p0), (.int p1), (.int p2)] below meth c s₁ [] 0 0 := Stand.of_body Bd
  have e0 : s₁.heap = h0 := by rw [← hh, Bd.state]; rfl
  have N0 := Fr.nil n0
  have hS0 : s.Since s.vm h0.size := (State.WarmedH.refl s).since _
  have C0 : CHr Z consts_1 s.vm h0 s.vm h0 := CHr.refl hCH
  refine own_by (p := p) (e := e) (below := below) (K := own_KL Z p0 p1 p2 wBOOLEAN wINTEGER wBITS wOCTETS wNULL wOBJECT_IDENTIFIER wTEXT wCOMPONENTS wELEMENTS wCHOICE wELEMENT cs wD kD wC clC h0 n0 s) (W' := s₁.setTop (mkF m 0 #[.val (.int p0), .val (.int p1), .val (.int p2), .unset, .unset, .unset, .unset, .unset, .unset, .unset, .unset, .unset, .unset, .unset, .unset] [])) (fun t k => castTop (efL m p0 p1 p2) k) ?_
  obtain ⟨T21, h21, k21, X21, e21, E21, A21, Ex21, Ov21, st21⟩ := newRE X0 hx hZ hown (own_w hw 0) (own_w hw 1) e0 (g := (mkF m 2 #[.val (.int p0), .val (.int p1), .val (.int p2), .unset, .unset, .unset, .unset, .unset, .unset, .unset, .unset, .unset, .unset, .unset, .unset] [(.int (11 : Int32))])) rfl (hb hby at_2) rfl (by decide) (cap := 11) (by decide) (by decide) (by decide) (by decide) (ad := "[Lcom/example/tagwright/tagwright/typed/Form;") (by decide)
  obtain ⟨b21, g21⟩ : ∃ z, z = h0.size := ⟨_, rfl⟩
  rw [← g21] at A21 Ex21 st21
  have g_b21 : n0 ≤ b21 := Nat.le_trans (own_le O0) (Nat.le_of_eq g21.symm)
  have sz_b21 : h0.size ≤ b21 := Nat.le_trans (Keep.refl h0 []).1 (Nat.le_of_eq g21.symm)
  have Sf21_b21 : Safe Z consts_1 s.vm _ b21 := Safe.ext E21 C0.1 (Safe.new (Nat.le_of_eq g21.symm))
  have C21 := CHr.trans C0 (CHr.ext E21 C0.1)
  have O21 := O0.ext E21
  have K21 := Keep.ext (Keep.refl h0 []) E21
  have V_b21 : Arv Z h21 b21 k21 (.object "com/example/tagwright/tagwright/typed/Form") (11 : Int32) [.null, .null, .null, .null, .null, .null, .null, .null, .null, .null, .null] .null := (Arv.new A21 (by decide)).pad (pad_rep [] .null 11)
  obtain ⟨T22, X22, e22, st22⟩ := getS (host := "") X21 hx hZ hown (own_w hw 2) Via.refl e21 (HW.1.ext O21.2) (g := (mkF m 7 #[.val (.int p0), .val (.int p1), .val (.int p2), .unset, .unset, .unset, .unset, .unset, .unset, .unset, .unset, .unset, .unset, .unset, .unset] [(.int (0 : Int32)), (.ref b21), (.ref b21)])) rfl (hb hby at_7)
  obtain ⟨clu23, Aru23, qu23, Su23, Ngu23, Hau23, Gau23⟩ := id V_b21
  have hinu23 : ¬ ((0 : Int32) < 0 ∨ clu23.slots.size ≤ ((0 : Int32)).toNatClampNeg) := inb_of Su23 ⟨by decide, by decide⟩
  obtain ⟨T24, h24, X24, e24, W24, st24⟩ := stR X22 hx hZ e22 Aru23 (j := (0 : Int32)) hinu23 rfl (Sto.ofV Aru23 qu23 Ov21 (Ins.self (HW.2.1.ext O21.2))) (g := (mkF m 10 #[.val (.int p0), .val (.int p1), .val (.int p2), .unset, .unset, .unset, .unset, .unset, .unset, .unset, .unset, .unset, .unset, .unset, .unset] [(.ref wBOOLEAN), (.int (0 : Int32)), (.ref b21), (.ref b21)])) rfl rfl (hb hby at_10)
  have Vu23 : Arv Z h24 b21 k21 (.object "com/example/tagwright/tagwright/typed/Form") (11 : Int32) [(.ref wBOOLEAN), .null, .null, .null, .null, .null, .null, .null, .null, .null, .null] .null := Arv.set Aru23 qu23 Su23 Ngu23 Hau23 Gau23 rfl W24 0 rfl (Nat.le_of_ble_eq_true rfl)
  have Sf24_b21 := Safe.wr W24 Sf21_b21 C21.1 Sf21_b21
  have C24 := CHr.trans C21 (CHr.wr W24 Sf21_b21 C21.1)
  have O24 := Old.wr O21 W24 g_b21
  have N24 := Fr.snoc X24 N0 g_b21
  have K24 := Keep.wr K21 W24 (Or.inr sz_b21)
  refine own_by (W' := (T24.setTop (mkF m 11 #[.val (.int p0), .val (.int p1), .val (.int p2), .unset, .unset, .unset, .unset, .unset, .unset, .unset, .unset, .unset, .unset, .unset, .unset] [(.ref b21)]))) (fun t k => XS.bipush X0.here hx rfl (hb hby at_0) (st21 _ (XS.dup X21.here hx rfl (hb hby at_5) rfl rfl (XS.iconst X21.here hx rfl (hb hby at_6) (st22 _ (st24 _ k)))))) ?_
  obtain ⟨T25, X25, e25, st25⟩ := getS (host := "") X24 hx hZ hown (own_w hw 6) Via.refl e24 (HW.2.2.2.1.ext O24.2) (g := (mkF m 13 #[.val (.int p0), .val (.int p1), .val (.int p2), .unset, .unset, .unset, .unset, .unset, .unset, .unset, .unset, .unset, .unset, .unset, .unset] [(.int (1 : Int32)), (.ref b21), (.ref b21)])) rfl (hb hby at_13)
  obtain ⟨clu26, Aru26, qu26, Su26, Ngu26, Hau26, Gau26⟩ := id Vu23
  have hinu26 : ¬ ((1 : Int32) < 0 ∨ clu26.slots.size ≤ ((1 : Int32)).toNatClampNeg) := inb_of Su26 ⟨by decide, by decide⟩
  obtain ⟨T27, h27, X27, e27, W27, st27⟩ := stR X25 hx hZ e25 Aru26 (j := (1 : Int32)) hinu26 rfl (Sto.ofV Aru26 qu26 Ov21 (Ins.self (HW.2.2.2.2.1.ext O24.2))) (g := (mkF m 16 #[.val (.int p0), .val (.int p1), .val (.int p2), .unset, .unset, .unset, .unset, .unset, .unset, .unset, .unset, .unset, .unset, .unset, .unset] [(.ref wINTEGER), (.int (1 : Int32)), (.ref b21), (.ref b21)])) rfl rfl (hb hby at_16)
  have Vu26 : Arv Z h27 b21 k21 (.object "com/example/tagwright/tagwright/typed/Form") (11 : Int32) [(.ref wBOOLEAN), (.ref wINTEGER), .null, .null, .null, .null, .null, .null, .null, .null, .null] .null := Arv.set Aru26 qu26 Su26 Ngu26 Hau26 Gau26 rfl W27 1 rfl (Nat.le_of_ble_eq_true rfl)
  have Sf27_b21 := Safe.wr W27 Sf24_b21 C24.1 Sf24_b21
  have C27 := CHr.trans C24 (CHr.wr W27 Sf24_b21 C24.1)
  have O27 := Old.wr O24 W27 g_b21
  have N27 := Fr.snoc X27 N24 g_b21
  have K27 := Keep.wr K24 W27 (Or.inr sz_b21)
  refine own_by (W' := (T27.setTop (mkF m 19 #[.val (.int p0), .val (.int p1), .val (.int p2), .unset, .unset, .unset, .unset, .unset, .unset, .unset, .unset, .unset, .unset, .unset, .unset] [(.int (2 : Int32)), (.ref b21), (.ref b21)]))) (fun t k => XS.dup X24.here hx rfl (hb hby at_11) rfl rfl (XS.iconst X24.here hx rfl (hb hby at_12) (st25 _ (st27 _ (XS.dup X27.here hx rfl (hb hby at_17) rfl rfl (XS.iconst X27.here hx rfl (hb hby at_18) k)))))) ?_
  obtain ⟨T28, X28, e28, st28⟩ := getS (host := "") X27 hx hZ hown (own_w hw 8) Via.refl e27 (HW.2.2.2.2.2.2.1.ext O27.2) (g := (mkF m 19 #[.val (.int p0), .val (.int p1), .val (.int p2), .unset, .unset, .unset, .unset, .unset, .unset, .unset, .unset, .unset, .unset, .unset, .unset] [(.int (2 : Int32)), (.ref b21), (.ref b21)])) rfl (hb hby at_19)
  obtain ⟨clu29, Aru29, qu29, Su29, Ngu29, Hau29, Gau29⟩ := id Vu26
  have hinu29 : ¬ ((2 : Int32) < 0 ∨ clu29.slots.size ≤ ((2 : Int32)).toNatClampNeg) := inb_of Su29 ⟨by decide, by decide⟩
  obtain ⟨T30, h30, X30, e30, W30, st30⟩ := stR X28 hx hZ e28 Aru29 (j := (2 : Int32)) hinu29 rfl (Sto.ofV Aru29 qu29 Ov21 (Ins.self (HW.2.2.2.2.2.2.2.1.ext O27.2))) (g := (mkF m 22 #[.val (.int p0), .val (.int p1), .val (.int p2), .unset, .unset, .unset, .unset, .unset, .unset, .unset, .unset, .unset, .unset, .unset, .unset] [(.ref wBITS), (.int (2 : Int32)), (.ref b21), (.ref b21)])) rfl rfl (hb hby at_22)
  have Vu29 : Arv Z h30 b21 k21 (.object "com/example/tagwright/tagwright/typed/Form") (11 : Int32) [(.ref wBOOLEAN), (.ref wINTEGER), (.ref wBITS), .null, .null, .null, .null, .null, .null, .null, .null] .null := Arv.set Aru29 qu29 Su29 Ngu29 Hau29 Gau29 rfl W30 2 rfl (Nat.le_of_ble_eq_true rfl)
  have Sf30_b21 := Safe.wr W30 Sf27_b21 C27.1 Sf27_b21
  have C30 := CHr.trans C27 (CHr.wr W30 Sf27_b21 C27.1)
  have O30 := Old.wr O27 W30 g_b21
  have N30 := Fr.snoc X30 N27 g_b21
  have K30 := Keep.wr K27 W30 (Or.inr sz_b21)
  obtain ⟨T31, X31, e31, st31⟩ := getS (host := "") X30 hx hZ hown (own_w hw 10) Via.refl e30 (HW.2.2.2.2.2.2.2.2.2.1.ext O30.2) (g := (mkF m 25 #[.val (.int p0), .val (.int p1), .val (.int p2), .unset, .unset, .unset, .unset, .unset, .unset, .unset, .unset, .unset, .unset, .unset, .unset] [(.int (3 : Int32)), (.ref b21), (.ref b21)])) rfl (hb hby at_25)
  obtain ⟨clu32, Aru32, qu32, Su32, Ngu32, Hau32, Gau32⟩ := id Vu29
  have hinu32 : ¬ ((3 : Int32) < 0 ∨ clu32.slots.size ≤ ((3 : Int32)).toNatClampNeg) := inb_of Su32 ⟨by decide, by decide⟩
  obtain ⟨T33, h33, X33, e33, W33, st33⟩ := stR X31 hx hZ e31 Aru32 (j := (3 : Int32)) hinu32 rfl (Sto.ofV Aru32 qu32 Ov21 (Ins.self (HW.2.2.2.2.2.2.2.2.2.2.1.ext O30.2))) (g := (mkF m 28 #[.val (.int p0), .val (.int p1), .val (.int p2), .unset, .unset, .unset, .unset, .unset, .unset, .unset, .unset, .unset, .unset, .unset, .unset] [(.ref wOCTETS), (.int (3 : Int32)), (.ref b21), (.ref b21)])) rfl rfl (hb hby at_28)
  have Vu32 : Arv Z h33 b21 k21 (.object "com/example/tagwright/tagwright/typed/Form") (11 : Int32) [(.ref wBOOLEAN), (.ref wINTEGER), (.ref wBITS), (.ref wOCTETS), .null, .null, .null, .null, .null, .null, .null] .null := Arv.set Aru32 qu32 Su32 Ngu32 Hau32 Gau32 rfl W33 3 rfl (Nat.le_of_ble_eq_true rfl)
  have Sf33_b21 := Safe.wr W33 Sf30_b21 C30.1 Sf30_b21
  have C33 := CHr.trans C30 (CHr.wr W33 Sf30_b21 C30.1)
  have O33 := Old.wr O30 W33 g_b21
  have N33 := Fr.snoc X33 N30 g_b21
  have K33 := Keep.wr K30 W33 (Or.inr sz_b21)
  refine own_by (W' := (T33.setTop (mkF m 29 #[.val (.int p0), .val (.int p1), .val (.int p2), .unset, .unset, .unset, .unset, .unset, .unset, .unset, .unset, .unset, .unset, .unset, .unset] [(.ref b21)]))) (fun t k => st28 _ (st30 _ (XS.dup X30.here hx rfl (hb hby at_23) rfl rfl (XS.iconst X30.here hx rfl (hb hby at_24) (st31 _ (st33 _ k)))))) ?_
  obtain ⟨T34, X34, e34, st34⟩ := getS (host := "") X33 hx hZ hown (own_w hw 12) Via.refl e33 (HW.2.2.2.2.2.2.2.2.2.2.2.2.1.ext O33.2) (g := (mkF m 31 #[.val (.int p0), .val (.int p1), .val (.int p2), .unset, .unset, .unset, .unset, .unset, .unset, .unset, .unset, .unset, .unset, .unset, .unset] [(.int (4 : Int32)), (.ref b21), (.ref b21)])) rfl (hb hby at_31)
  obtain ⟨clu35, Aru35, qu35, Su35, Ngu35, Hau35, Gau35⟩ := id Vu32
  have hinu35 : ¬ ((4 : Int32) < 0 ∨ clu35.slots.size ≤ ((4 : Int32)).toNatClampNeg) := inb_of Su35 ⟨by decide, by decide⟩
  obtain ⟨T36, h36, X36, e36, W36, st36⟩ := stR X34 hx hZ e34 Aru35 (j := (4 : Int32)) hinu35 rfl (Sto.ofV Aru35 qu35 Ov21 (Ins.self (HW.2.2.2.2.2.2.2.2.2.2.2.2.2.1.ext O33.2))) (g := (mkF m 34 #[.val (.int p0), .val (.int p1), .val (.int p2), .unset, .unset, .unset, .unset, .unset, .unset, .unset, .unset, .unset, .unset, .unset, .unset] [(.ref wNULL), (.int (4 : Int32)), (.ref b21), (.ref b21)])) rfl rfl (hb hby at_34)
  have Vu35 : Arv Z h36 b21 k21 (.object "com/example/tagwright/tagwright/typed/Form") (11 : Int32) [(.ref wBOOLEAN), (.ref wINTEGER), (.ref wBITS), (.ref wOCTETS), (.ref wNULL), .null, .null, .null, .null, .null, .null] .null := Arv.set Aru35 qu35 Su35 Ngu35 Hau35 Gau35 rfl W36 4 rfl (Nat.le_of_ble_eq_true rfl)
  have Sf36_b21 := Safe.wr W36 Sf33_b21 C33.1 Sf33_b21
  have C36 := CHr.trans C33 (CHr.wr W36 Sf33_b21 C33.1)
  have O36 := Old.wr O33 W36 g_b21
  have N36 := Fr.snoc X36 N33 g_b21
  have K36 := Keep.wr K33 W36 (Or.inr sz_b21)
  refine own_by (W' := (T36.setTop (mkF m 37 #[.val (.int p0), .val (.int p1), .val (.int p2), .unset, .unset, .unset, .unset, .unset, .unset, .unset, .unset, .unset, .unset, .unset, .unset] [(.int (5 : Int32)), (.ref b21), (.ref b21)]))) (fun t k => XS.dup X33.here hx rfl (hb hby at_29) rfl rfl (XS.iconst X33.here hx rfl (hb hby at_30) (st34 _ (st36 _ (XS.dup X36.here hx rfl (hb hby at_35) rfl rfl (XS.iconst X36.here hx rfl (hb hby at_36) k)))))) ?_
  obtain ⟨T37, X37, e37, st37⟩ := getS (host := "") X36 hx hZ hown (own_w hw 14) Via.refl e36 (HW.2.2.2.2.2.2.2.2.2.2.2.2.2.2.2.1.ext O36.2) (g := (mkF m 37 #[.val (.int p0), .val (.int p1), .val (.int p2), .unset, .unset, .unset, .unset, .unset, .unset, .unset, .unset, .unset, .unset, .unset, .unset] [(.int (5 : Int32)), (.ref b21), (.ref b21)])) rfl (hb hby at_37)
  obtain ⟨clu38, Aru38, qu38, Su38, Ngu38, Hau38, Gau38⟩ := id Vu35
  have hinu38 : ¬ ((5 : Int32) < 0 ∨ clu38.slots.size ≤ ((5 : Int32)).toNatClampNeg) := inb_of Su38 ⟨by decide, by decide⟩
  obtain ⟨T39, h39, X39, e39, W39, st39⟩ := stR X37 hx hZ e37 Aru38 (j := (5 : Int32)) hinu38 rfl (Sto.ofV Aru38 qu38 Ov21 (Ins.self (HW.2.2.2.2.2.2.2.2.2.2.2.2.2.2.2.2.1.ext O36.2))) (g := (mkF m 40 #[.val (.int p0), .val (.int p1), .val (.int p2), .unset, .unset, .unset, .unset, .unset, .unset, .unset, .unset, .unset, .unset, .unset, .unset] [(.ref wOBJECT_IDENTIFIER), (.int (5 : Int32)), (.ref b21), (.ref b21)])) rfl rfl (hb hby at_40)
  have Vu38 : Arv Z h39 b21 k21 (.object "com/example/tagwright/tagwright/typed/Form") (11 : Int32) [(.ref wBOOLEAN), (.ref wINTEGER), (.ref wBITS), (.ref wOCTETS), (.ref wNULL), (.ref wOBJECT_IDENTIFIER), .null, .null, .null, .null, .null] .null := Arv.set Aru38 qu38 Su38 Ngu38 Hau38 Gau38 rfl W39 5 rfl (Nat.le_of_ble_eq_true rfl)
  have Sf39_b21 := Safe.wr W39 Sf36_b21 C36.1 Sf36_b21
  have C39 := CHr.trans C36 (CHr.wr W39 Sf36_b21 C36.1)
  have O39 := Old.wr O36 W39 g_b21
  have N39 := Fr.snoc X39 N36 g_b21
  have K39 := Keep.wr K36 W39 (Or.inr sz_b21)
  obtain ⟨T40, X40, e40, st40⟩ := getS (host := "") X39 hx hZ hown (own_w hw 16) Via.refl e39 (HW.2.2.2.2.2.2.2.2.2.2.2.2.2.2.2.2.2.2.1.ext O39.2) (g := (mkF m 44 #[.val (.int p0), .val (.int p1), .val (.int p2), .unset, .unset, .unset, .unset, .unset, .unset, .unset, .unset, .unset, .unset, .unset, .unset] [(.int (6 : Int32)), (.ref b21), (.ref b21)])) rfl (hb hby at_44)
  obtain ⟨clu41, Aru41, qu41, Su41, Ngu41, Hau41, Gau41⟩ := id Vu38
  have hinu41 : ¬ ((6 : Int32) < 0 ∨ clu41.slots.size ≤ ((6 : Int32)).toNatClampNeg) := inb_of Su41 ⟨by decide, by decide⟩
  obtain ⟨T42, h42, X42, e42, W42, st42⟩ := stR X40 hx hZ e40 Aru41 (j := (6 : Int32)) hinu41 rfl (Sto.ofV Aru41 qu41 Ov21 (Ins.self (HW.2.2.2.2.2.2.2.2.2.2.2.2.2.2.2.2.2.2.2.1.ext O39.2))) (g := (mkF m 47 #[.val (.int p0), .val (.int p1), .val (.int p2), .unset, .unset, .unset, .unset, .unset, .unset, .unset, .unset, .unset, .unset, .unset, .unset] [(.ref wTEXT), (.int (6 : Int32)), (.ref b21), (.ref b21)])) rfl rfl (hb hby at_47)
  have Vu41 : Arv Z h42 b21 k21 (.object "com/example/tagwright/tagwright/typed/Form") (11 : Int32) [(.ref wBOOLEAN), (.ref wINTEGER), (.ref wBITS), (.ref wOCTETS), (.ref wNULL), (.ref wOBJECT_IDENTIFIER), (.ref wTEXT), .null, .null, .null, .null] .null := Arv.set Aru41 qu41 Su41 Ngu41 Hau41 Gau41 rfl W42 6 rfl (Nat.le_of_ble_eq_true rfl)
  have Sf42_b21 := Safe.wr W42 Sf39_b21 C39.1 Sf39_b21
  have C42 := CHr.trans C39 (CHr.wr W42 Sf39_b21 C39.1)
  have O42 := Old.wr O39 W42 g_b21
  have N42 := Fr.snoc X42 N39 g_b21
  have K42 := Keep.wr K39 W42 (Or.inr sz_b21)
  refine own_by (W' := (T42.setTop (mkF m 48 #[.val (.int p0), .val (.int p1), .val (.int p2), .unset, .unset, .unset, .unset, .unset, .unset, .unset, .unset, .unset, .unset, .unset, .unset] [(.ref b21)]))) (fun t k => st37 _ (st39 _ (XS.dup X39.here hx rfl (hb hby at_41) rfl rfl (XS.bipush X39.here hx rfl (hb hby at_42) (st40 _ (st42 _ k)))))) ?_
  obtain ⟨T43, X43, e43, st43⟩ := getS (host := "") X42 hx hZ hown (own_w hw 18) Via.refl e42 (HW.2.2.2.2.2.2.2.2.2.2.2.2.2.2.2.2.2.2.2.2.2.1.ext O42.2) (g := (mkF m 51 #[.val (.int p0), .val (.int p1), .val (.int p2), .unset, .unset, .unset, .unset, .unset, .unset, .unset, .unset, .unset, .unset, .unset, .unset] [(.int (7 : Int32)), (.ref b21), (.ref b21)])) rfl (hb hby at_51)
  obtain ⟨clu44, Aru44, qu44, Su44, Ngu44, Hau44, Gau44⟩ := id Vu41
  have hinu44 : ¬ ((7 : Int32) < 0 ∨ clu44.slots.size ≤ ((7 : Int32)).toNatClampNeg) := inb_of Su44 ⟨by decide, by decide⟩
  obtain ⟨T45, h45, X45, e45, W45, st45⟩ := stR X43 hx hZ e43 Aru44 (j := (7 : Int32)) hinu44 rfl (Sto.ofV Aru44 qu44 Ov21 (Ins.self (HW.2.2.2.2.2.2.2.2.2.2.2.2.2.2.2.2.2.2.2.2.2.2.1.ext O42.2))) (g := (mkF m 54 #[.val (.int p0), .val (.int p1), .val (.int p2), .unset, .unset, .unset, .unset, .unset, .unset, .unset, .unset, .unset, .unset, .unset, .unset] [(.ref wCOMPONENTS), (.int (7 : Int32)), (.ref b21), (.ref b21)])) rfl rfl (hb hby at_54)
  have Vu44 : Arv Z h45 b21 k21 (.object "com/example/tagwright/tagwright/typed/Form") (11 : Int32) [(.ref wBOOLEAN), (.ref wINTEGER), (.ref wBITS), (.ref wOCTETS), (.ref wNULL), (.ref wOBJECT_IDENTIFIER), (.ref wTEXT), (.ref wCOMPONENTS), .null, .null, .null] .null := Arv.set Aru44 qu44 Su44 Ngu44 Hau44 Gau44 rfl W45 7 rfl (Nat.le_of_ble_eq_true rfl)
  have Sf45_b21 := Safe.wr W45 Sf42_b21 C42.1 Sf42_b21
  have C45 := CHr.trans C42 (CHr.wr W45 Sf42_b21 C42.1)
  have O45 := Old.wr O42 W45 g_b21
  have N45 := Fr.snoc X45 N42 g_b21
  have K45 := Keep.wr K42 W45 (Or.inr sz_b21)
  refine own_by (W' := (T45.setTop (mkF m 58 #[.val (.int p0), .val (.int p1), .val (.int p2), .unset, .unset, .unset, .unset, .unset, .unset, .unset, .unset, .unset, .unset, .unset, .unset] [(.int (8 : Int32)), (.ref b21), (.ref b21)]))) (fun t k => XS.dup X42.here hx rfl (hb hby at_48) rfl rfl (XS.bipush X42.here hx rfl (hb hby at_49) (st43 _ (st45 _ (XS.dup X45.here hx rfl (hb hby at_55) rfl rfl (XS.bipush X45.here hx rfl (hb hby at_56) k)))))) ?_
  obtain ⟨T46, X46, e46, st46⟩ := getS (host := "") X45 hx hZ hown (own_w hw 20) Via.refl e45 (HW.2.2.2.2.2.2.2.2.2.2.2.2.2.2.2.2.2.2.2.2.2.2.2.2.1.ext O45.2) (g := (mkF m 58 #[.val (.int p0), .val (.int p1), .val (.int p2), .unset, .unset, .unset, .unset, .unset, .unset, .unset, .unset, .unset, .unset, .unset, .unset] [(.int (8 : Int32)), (.ref b21), (.ref b21)])) rfl (hb hby at_58)
  obtain ⟨clu47, Aru47, qu47, Su47, Ngu47, Hau47, Gau47⟩ := id Vu44
  have hinu47 : ¬ ((8 : Int32) < 0 ∨ clu47.slots.size ≤ ((8 : Int32)).toNatClampNeg) := inb_of Su47 ⟨by decide, by decide⟩
  obtain ⟨T48, h48, X48, e48, W48, st48⟩ := stR X46 hx hZ e46 Aru47 (j := (8 : Int32)) hinu47 rfl (Sto.ofV Aru47 qu47 Ov21 (Ins.self (HW.2.2.2.2.2.2.2.2.2.2.2.2.2.2.2.2.2.2.2.2.2.2.2.2.2.1.ext O45.2))) (g := (mkF m 61 #[.val (.int p0), .val (.int p1), .val (.int p2), .unset, .unset, .unset, .unset, .unset, .unset, .unset, .unset, .unset, .unset, .unset, .unset] [(.ref wELEMENTS), (.int (8 : Int32)), (.ref b21), (.ref b21)])) rfl rfl (hb hby at_61)
  have Vu47 : Arv Z h48 b21 k21 (.object "com/example/tagwright/tagwright/typed/Form") (11 : Int32) [(.ref wBOOLEAN), (.ref wINTEGER), (.ref wBITS), (.ref wOCTETS), (.ref wNULL), (.ref wOBJECT_IDENTIFIER), (.ref wTEXT), (.ref wCOMPONENTS), (.ref wELEMENTS), .null, .null] .null := Arv.set Aru47 qu47 Su47 Ngu47 Hau47 Gau47 rfl W48 8 rfl (Nat.le_of_ble_eq_true rfl)
  have Sf48_b21 := Safe.wr W48 Sf45_b21 C45.1 Sf45_b21
  have C48 := CHr.trans C45 (CHr.wr W48 Sf45_b21 C45.1)
  have O48 := Old.wr O45 W48 g_b21
  have N48 := Fr.snoc X48 N45 g_b21
  have K48 := Keep.wr K45 W48 (Or.inr sz_b21)
  obtain ⟨T49, X49, e49, st49⟩ := getS (host := "") X48 hx hZ hown (own_w hw 22) Via.refl e48 (HW.2.2.2.2.2.2.2.2.2.2.2.2.2.2.2.2.2.2.2.2.2.2.2.2.2.2.2.1.ext O48.2) (g := (mkF m 65 #[.val (.int p0), .val (.int p1), .val (.int p2), .unset, .unset, .unset, .unset, .unset, .unset, .unset, .unset, .unset, .unset, .unset, .unset] [(.int (9 : Int32)), (.ref b21), (.ref b21)])) rfl (hb hby at_65)
  obtain ⟨clu50, Aru50, qu50, Su50, Ngu50, Hau50, Gau50⟩ := id Vu47
  have hinu50 : ¬ ((9 : Int32) < 0 ∨ clu50.slots.size ≤ ((9 : Int32)).toNatClampNeg) := inb_of Su50 ⟨by decide, by decide⟩
  obtain ⟨T51, h51, X51, e51, W51, st51⟩ := stR X49 hx hZ e49 Aru50 (j := (9 : Int32)) hinu50 rfl (Sto.ofV Aru50 qu50 Ov21 (Ins.self (HW.2.2.2.2.2.2.2.2.2.2.2.2.2.2.2.2.2.2.2.2.2.2.2.2.2.2.2.2.1.ext O48.2))) (g := (mkF m 68 #[.val (.int p0), .val (.int p1), .val (.int p2), .unset, .unset, .unset, .unset, .unset, .unset, .unset, .unset, .unset, .unset, .unset, .unset] [(.ref wCHOICE), (.int (9 : Int32)), (.ref b21), (.ref b21)])) rfl rfl (hb hby at_68)
  have Vu50 : Arv Z h51 b21 k21 (.object "com/example/tagwright/tagwright/typed/Form") (11 : Int32) [(.ref wBOOLEAN), (.ref wINTEGER), (.ref wBITS), (.ref wOCTETS), (.ref wNULL), (.ref wOBJECT_IDENTIFIER), (.ref wTEXT), (.ref wCOMPONENTS), (.ref wELEMENTS), (.ref wCHOICE), .null] .null := Arv.set Aru50 qu50 Su50 Ngu50 Hau50 Gau50 rfl W51 9 rfl (Nat.le_of_ble_eq_true rfl)
  have Sf51_b21 := Safe.wr W51 Sf48_b21 C48.1 Sf48_b21
  have C51 := CHr.trans C48 (CHr.wr W51 Sf48_b21 C48.1)
  have O51 := Old.wr O48 W51 g_b21
  have N51 := Fr.snoc X51 N48 g_b21
  have K51 := Keep.wr K48 W51 (Or.inr sz_b21)
  refine own_by (W' := (T51.setTop (mkF m 69 #[.val (.int p0), .val (.int p1), .val (.int p2), .unset, .unset, .unset, .unset, .unset, .unset, .unset, .unset, .unset, .unset, .unset, .unset] [(.ref b21)]))) (fun t k => st46 _ (st48 _ (XS.dup X48.here hx rfl (hb hby at_62) rfl rfl (XS.bipush X48.here hx rfl (hb hby at_63) (st49 _ (st51 _ k)))))) ?_
  obtain ⟨T52, X52, e52, st52⟩ := getS (host := "") X51 hx hZ hown (own_w hw 24) Via.refl e51 (HW.2.2.2.2.2.2.2.2.2.2.2.2.2.2.2.2.2.2.2.2.2.2.2.2.2.2.2.2.2.2.1.ext O51.2) (g := (mkF m 72 #[.val (.int p0), .val (.int p1), .val (.int p2), .unset, .unset, .unset, .unset, .unset, .unset, .unset, .unset, .unset, .unset, .unset, .unset] [(.int (10 : Int32)), (.ref b21), (.ref b21)])) rfl (hb hby at_72)
  obtain ⟨clu53, Aru53, qu53, Su53, Ngu53, Hau53, Gau53⟩ := id Vu50
  have hinu53 : ¬ ((10 : Int32) < 0 ∨ clu53.slots.size ≤ ((10 : Int32)).toNatClampNeg) := inb_of Su53 ⟨by decide, by decide⟩
  obtain ⟨T54, h54, X54, e54, W54, st54⟩ := stR X52 hx hZ e52 Aru53 (j := (10 : Int32)) hinu53 rfl (Sto.ofV Aru53 qu53 Ov21 (Ins.self (HW.2.2.2.2.2.2.2.2.2.2.2.2.2.2.2.2.2.2.2.2.2.2.2.2.2.2.2.2.2.2.2.1.ext O51.2))) (g := (mkF m 75 #[.val (.int p0), .val (.int p1), .val (.int p2), .unset, .unset, .unset, .unset, .unset, .unset, .unset, .unset, .unset, .unset, .unset, .unset] [(.ref wELEMENT), (.int (10 : Int32)), (.ref b21), (.ref b21)])) rfl rfl (hb hby at_75)
  have Vu53 : Arv Z h54 b21 k21 (.object "com/example/tagwright/tagwright/typed/Form") (11 : Int32) [(.ref wBOOLEAN), (.ref wINTEGER), (.ref wBITS), (.ref wOCTETS), (.ref wNULL), (.ref wOBJECT_IDENTIFIER), (.ref wTEXT), (.ref wCOMPONENTS), (.ref wELEMENTS), (.ref wCHOICE), (.ref wELEMENT)] .null := Arv.set Aru53 qu53 Su53 Ngu53 Hau53 Gau53 rfl W54 10 rfl (Nat.le_of_ble_eq_true rfl)
  have Sf54_b21 := Safe.wr W54 Sf51_b21 C51.1 Sf51_b21
  have C54 := CHr.trans C51 (CHr.wr W54 Sf51_b21 C51.1)
  have O54 := Old.wr O51 W54 g_b21
  have N54 := Fr.snoc X54 N51 g_b21
  have K54 := Keep.wr K51 W54 (Or.inr sz_b21)
  refine own_by (W' := (T54.setTop (mkF m 78 #[.val (.int p0), .val (.int p1), .val (.int p2), .val (.ref b21), .unset, .unset, .unset, .unset, .unset, .unset, .unset, .unset, .unset, .unset, .unset] [(.int p0)]))) (fun t k => XS.dup X51.here hx rfl (hb hby at_69) rfl rfl (XS.bipush X51.here hx rfl (hb hby at_70) (st52 _ (st54 _ (XS.astoreN X54.here hx rfl (hb hby at_76) rfl rfl (l' := #[.val (.int p0), .val (.int p1), .val (.int p2), .val (.ref b21), .unset, .unset, .unset, .unset, .unset, .unset, .unset, .unset, .unset, .unset, .unset]) rfl (XS.iloadN X54.here hx rfl (hb hby at_77) rfl k)))))) ?_
  refine own_by (W' := (T54.setTop (mkF m 84 #[.val (.int p0), .val (.int p1), .val (.int p2), .val (.ref b21), .unset, .unset, .unset, .unset, .unset, .unset, .unset, .unset, .unset, .unset, .unset] [(.int ((p0 &&& (2147483647 : Int32)) % (11 : Int32)))]))) (fun t k => (X54.ldcInt hx hown (mvT hZ (own_w hw 26)) (g := (mkF m 78 #[.val (.int p0), .val (.int p1), .val (.int p2), .val (.ref b21), .unset, .unset, .unset, .unset, .unset, .unset, .unset, .unset, .unset, .unset, .unset] [(.int p0)])) rfl (hb hby at_78)) _ (XS.iand X54.here hx rfl (hb hby at_80) rfl (XS.bipush X54.here hx rfl (hb hby at_81) (iremM X54 hx rfl (hb hby at_83) rfl (by decide) k)))) ?_
  rcases own_rem11 p0 with hs | hs | hs | hs | hs | hs | hs | hs | hs | hs | hs
  ·
    rw [hs]
    obtain ⟨clu55, Aru55, qu55, Su55, Ngu55, Hau55, Gau55⟩ := id Vu53
    have hinu55 : ¬ ((0 : Int32) < 0 ∨ clu55.slots.size ≤ ((0 : Int32)).toNatClampNeg) := inb_of Su55 ⟨by decide, by decide⟩
    have hatu55 : clu55.slots[((0 : Int32)).toNatClampNeg]? = some (.ref wBOOLEAN) := Has.at Hau55 hinu55 rfl
    refine own_by (W' := (T54.setTop (mkF m 94 #[.val (.int p0), .val (.int p1), .val (.int p2), .val (.ref b21), .val (.int (0 : Int32)), .val (.ref wBOOLEAN), .unset, .unset, .unset, .unset, .unset, .unset, .unset, .unset, .unset] [(.int (0 : Int32))]))) (fun t k => XS.istore X54.here hx rfl (hb hby at_84) rfl (l' := #[.val (.int p0), .val (.int p1), .val (.int p2), .val (.ref b21), .val (.int (0 : Int32)), .unset, .unset, .unset, .unset, .unset, .unset, .unset, .unset, .unset, .unset]) rfl (XS.aloadN X54.here hx rfl (hb hby at_86) rfl rfl (XS.iload X54.here hx rfl (hb hby at_87) rfl ((X54.aaload hx (j := (0 : Int32)) (v := (.ref wBOOLEAN)) (by rw [e54]; exact Aru55.1) (State.isArrayOf_alike hZ.alike Aru55.2.1) rfl Aru55.2.2 hinu55 hatu55 (g := (mkF m 89 #[.val (.int p0), .val (.int p1), .val (.int p2), .val (.ref b21), .val (.int (0 : Int32)), .unset, .unset, .unset, .unset, .unset, .unset, .unset, .unset, .unset, .unset] [(.int (0 : Int32)), (.ref b21)])) rfl rfl (hb hby at_89)) _ (XS.astore X54.here hx rfl (hb hby at_90) rfl rfl (l' := #[.val (.int p0), .val (.int p1), .val (.int p2), .val (.ref b21), .val (.int (0 : Int32)), .val (.ref wBOOLEAN), .unset, .unset, .unset, .unset, .unset, .unset, .unset, .unset, .unset]) rfl (XS.iload X54.here hx rfl (hb hby at_92) rfl k)))))) ?_
    refine own_by (W' := (T54.setTop (mkF m 106 #[.val (.int p0), .val (.int p1), .val (.int p2), .val (.ref b21), .val (.int (0 : Int32)), .val (.ref wBOOLEAN), .unset, .unset, .unset, .unset, .unset, .unset, .unset, .unset, .unset] [(.int (0 : Int32))]))) (fun t k => XS.iconst X54.here hx rfl (hb hby at_94) (XS.icmpNo X54.here hx rfl (hb hby at_95) rfl (feq (by decide : ¬ ((0 : Int32) = (2 : Int32)))).1 (XS.iload X54.here hx rfl (hb hby at_98) rfl (XS.iconst X54.here hx rfl (hb hby at_100) (XS.icmpNo X54.here hx rfl (hb hby at_101) rfl (feq (by decide : ¬ ((0 : Int32) = (3 : Int32)))).1 (XS.iload X54.here hx rfl (hb hby at_104) rfl k)))))) ?_
    refine own_by (W' := (T54.setTop (mkF m 123 #[.val (.int p0), .val (.int p1), .val (.int p2), .val (.ref b21), .val (.int (0 : Int32)), .val (.ref wBOOLEAN), .unset, .unset, .unset, .unset, .unset, .unset, .unset, .unset, .unset] [(.int (0 : Int32))]))) (fun t k => XS.bipush X54.here hx rfl (hb hby at_106) (XS.icmpNo X54.here hx rfl (hb hby at_108) rfl (feq (by decide : ¬ ((0 : Int32) = (6 : Int32)))).1 (XS.iload X54.here hx rfl (hb hby at_111) rfl (XS.bipush X54.here hx rfl (hb hby at_113) (XS.icmpYes X54.here hx rfl (pc0 := 115) (pc' := 122) rfl (hb hby at_115) rfl (feq (by decide : ¬ ((0 : Int32) = (8 : Int32)))).2 (by decide) (by decide) (XS.iconst X54.here hx rfl (hb hby at_122) k)))))) ?_
    obtain ⟨cq56, kq56, q56a, q56b, q56c⟩ := isOf hZ e54 (HW.2.1.ext O54.2)
    obtain ⟨_, _, ⟨T56, L56, k56, n56⟩, -, X56, ⟨Lc56, hQ56, l56, y56, z56⟩, st56⟩ := X54.virtualBack hx (y := (⟨"com/example/tagwright/tagwright/typed/Form", "isSized", "()Z"⟩ : MethodName)) (z := (⟨"com/example/tagwright/tagwright/typed/Form", "isSized", "()Z"⟩ : MethodName)) hown (mvT hZ (own_w hw 27)) (mvT hZ (own_w hw 28)) (notFace_of_selects (args := #[]) (mvT hZ (own_w hw 30))) (mvT hZ (own_w hw 30)) (mvT hZ (own_w hw 29)) (by decide) (backOf (W := 0) (rm1 l Z a0 hw [] wBOOLEAN wBOOLEAN wINTEGER wBITS wOCTETS wNULL wOBJECT_IDENTIFIER wTEXT wCOMPONENTS wELEMENTS wCHOICE wELEMENT cs wD kD wC clC h54 n0 (own_le O54) O54 HW) hZ (own_w hw 31) (own_w hw 3) (by decide) (by decide)) q56a q56c (g := (mkF m 127 #[.val (.int p0), .val (.int p1), .val (.int p2), .val (.ref b21), .val (.int (0 : Int32)), .val (.ref wBOOLEAN), .val (.int (0 : Int32)), .unset, .unset, .unset, .unset, .unset, .unset, .unset, .unset] [(.ref wBOOLEAN)])) rfl (by rw [hml]; rfl) (Steps.refl _) (argsL := []) (rest := []) (lenOf pd_7 rfl) rfl (by show 2 * 0 + _ ≤ _; exact Nat.le_of_eq rfl) (hb hby at_127) (fun _ _ => ⟨rfl, e54, (by decide : 1 + 0 ≤ _), (by decide : 11 + 0 ≤ _)⟩)
    dsimp only [Pt.U, Pt.locs, Pt.cells, Pt.slots] at X56 l56 y56 z56 st56 hQ56
    subst l56 y56 z56
    obtain ⟨rfl, N56q, e56⟩ := hQ56
    have N56 := Fr.app N54 N56q
    have ho57 : (F1 wBOOLEAN wBOOLEAN wINTEGER wBITS wOCTETS wNULL wOBJECT_IDENTIFIER wTEXT wCOMPONENTS wELEMENTS wCHOICE wELEMENT cs wD kD wC clC) = (0 : Int32) := by rw [F1, if_neg (Fld.ne (HW.2.2.1) (HW.2.2.2.2.2.2.2.2.1) (by decide)), if_neg (Fld.ne (HW.2.2.1) (HW.2.2.2.2.2.2.2.2.2.2.2.1) (by decide)), if_neg (Fld.ne (HW.2.2.1) (HW.2.2.2.2.2.2.2.2.2.2.2.2.2.2.2.2.2.2.2.2.1) (by decide)), if_neg (Fld.ne (HW.2.2.1) (HW.2.2.2.2.2.2.2.2.2.2.2.2.2.2.2.2.2.2.2.2.2.2.2.2.2.2.1) (by decide))]
    refine own_by (W' := (T56.setTop (mkF m 139 #[.val (.int p0), .val (.int p1), .val (.int p2), .val (.ref b21), .val (.int (0 : Int32)), .val (.ref wBOOLEAN), .val (.int (0 : Int32)), .unset, .unset, .unset, .unset, .unset, .unset, .unset, .unset] [(.int (0 : Int32))]))) (fun t k => XS.istore X54.here hx rfl (hb hby at_123) rfl (l' := #[.val (.int p0), .val (.int p1), .val (.int p2), .val (.ref b21), .val (.int (0 : Int32)), .val (.ref wBOOLEAN), .val (.int (0 : Int32)), .unset, .unset, .unset, .unset, .unset, .unset, .unset, .unset]) rfl (XS.aload X54.here hx rfl (hb hby at_125) rfl rfl (Steps.trans st56 (XS.iload X56.here hx rfl (hb hby at_130) rfl (XS.icmpYes X56.here hx rfl (pc0 := 132) (pc' := 137) rfl (hb hby at_132) rfl (teq ho57).1 (by decide) (by decide) (XS.iload X56.here hx rfl (hb hby at_137) rfl k)))))) ?_
    obtain ⟨fs, hr, hrun, hended, hEnd⟩ := Jvm.Stand.leaveW (s := s) (vm₁ := s.vm) X56 hS0 (by rw [e56]; exact (Nat.le_trans (Nat.le_trans (Nat.le_trans (Nat.le_trans (Nat.le_trans (Nat.le_trans (Nat.le_trans (Nat.le_trans (Nat.le_trans (Nat.le_trans (Nat.le_trans (Nat.le_trans (Nat.le_refl _) E21.1) (Keep.of_wr W24).1) (Keep.of_wr W27).1) (Keep.of_wr W30).1) (Keep.of_wr W33).1) (Keep.of_wr W36).1) (Keep.of_wr W39).1) (Keep.of_wr W42).1) (Keep.of_wr W45).1) (Keep.of_wr W48).1) (Keep.of_wr W51).1) (Keep.of_wr W54).1)) (v := some (.int (1 : Int32))) (fun h => by rw [Bd.returns] at h; cases h)
    refine own_by (W' := (T56.setTop (mkF m 143 #[.val (.int p0), .val (.int p1), .val (.int p2), .val (.ref b21), .val (.int (0 : Int32)), .val (.ref wBOOLEAN), .val (.int (0 : Int32)), .unset, .unset, .unset, .unset, .unset, .unset, .unset, .unset] [(.int (1 : Int32))]))) (fun t k => XS.ifNo X56.here hx rfl (hb hby at_139) rfl ((if0 _ _).trans (teq (rfl : (0 : Int32) = (0 : Int32))).2) (XS.iconst X56.here hx rfl (hb hby at_142) k)) ?_
    refine ⟨_, _, retOut X56 hx Bd.returns rfl (Or.inl ⟨rfl, Or.inr (Or.inl rfl), _, rfl⟩) (hb hby at_143) hr, hrun, hended, _, _, rfl, ?_, (by rw [hh]; show CHr Z consts_1 s.vm h0 T56.vm T56.heap; rw [e56]; exact CHr.trans C54 (CHv.at (s := s) (vm0 := s.vm) X56 hZ (own_EW hw) C54.1)), hEnd.1, hEnd.2.1, hEnd.2.2.1, hEnd.2.2.2.mono (by decide) (by decide)⟩
    exact ⟨rfl, N56⟩
  ·
    rw [hs]
    obtain ⟨clu58, Aru58, qu58, Su58, Ngu58, Hau58, Gau58⟩ := id Vu53
    have hinu58 : ¬ ((1 : Int32) < 0 ∨ clu58.slots.size ≤ ((1 : Int32)).toNatClampNeg) := inb_of Su58 ⟨by decide, by decide⟩
    have hatu58 : clu58.slots[((1 : Int32)).toNatClampNeg]? = some (.ref wINTEGER) := Has.at Hau58 hinu58 rfl
    refine own_by (W' := (T54.setTop (mkF m 94 #[.val (.int p0), .val (.int p1), .val (.int p2), .val (.ref b21), .val (.int (1 : Int32)), .val (.ref wINTEGER), .unset, .unset, .unset, .unset, .unset, .unset, .unset, .unset, .unset] [(.int (1 : Int32))]))) (fun t k => XS.istore X54.here hx rfl (hb hby at_84) rfl (l' := #[.val (.int p0), .val (.int p1), .val (.int p2), .val (.ref b21), .val (.int (1 : Int32)), .unset, .unset, .unset, .unset, .unset, .unset, .unset, .unset, .unset, .unset]) rfl (XS.aloadN X54.here hx rfl (hb hby at_86) rfl rfl (XS.iload X54.here hx rfl (hb hby at_87) rfl ((X54.aaload hx (j := (1 : Int32)) (v := (.ref wINTEGER)) (by rw [e54]; exact Aru58.1) (State.isArrayOf_alike hZ.alike Aru58.2.1) rfl Aru58.2.2 hinu58 hatu58 (g := (mkF m 89 #[.val (.int p0), .val (.int p1), .val (.int p2), .val (.ref b21), .val (.int (1 : Int32)), .unset, .unset, .unset, .unset, .unset, .unset, .unset, .unset, .unset, .unset] [(.int (1 : Int32)), (.ref b21)])) rfl rfl (hb hby at_89)) _ (XS.astore X54.here hx rfl (hb hby at_90) rfl rfl (l' := #[.val (.int p0), .val (.int p1), .val (.int p2), .val (.ref b21), .val (.int (1 : Int32)), .val (.ref wINTEGER), .unset, .unset, .unset, .unset, .unset, .unset, .unset, .unset, .unset]) rfl (XS.iload X54.here hx rfl (hb hby at_92) rfl k)))))) ?_
    refine own_by (W' := (T54.setTop (mkF m 106 #[.val (.int p0), .val (.int p1), .val (.int p2), .val (.ref b21), .val (.int (1 : Int32)), .val (.ref wINTEGER), .unset, .unset, .unset, .unset, .unset, .unset, .unset, .unset, .unset] [(.int (1 : Int32))]))) (fun t k => XS.iconst X54.here hx rfl (hb hby at_94) (XS.icmpNo X54.here hx rfl (hb hby at_95) rfl (feq (by decide : ¬ ((1 : Int32) = (2 : Int32)))).1 (XS.iload X54.here hx rfl (hb hby at_98) rfl (XS.iconst X54.here hx rfl (hb hby at_100) (XS.icmpNo X54.here hx rfl (hb hby at_101) rfl (feq (by decide : ¬ ((1 : Int32) = (3 : Int32)))).1 (XS.iload X54.here hx rfl (hb hby at_104) rfl k)))))) ?_
    refine own_by (W' := (T54.setTop (mkF m 123 #[.val (.int p0), .val (.int p1), .val (.int p2), .val (.ref b21), .val (.int (1 : Int32)), .val (.ref wINTEGER), .unset, .unset, .unset, .unset, .unset, .unset, .unset, .unset, .unset] [(.int (0 : Int32))]))) (fun t k => XS.bipush X54.here hx rfl (hb hby at_106) (XS.icmpNo X54.here hx rfl (hb hby at_108) rfl (feq (by decide : ¬ ((1 : Int32) = (6 : Int32)))).1 (XS.iload X54.here hx rfl (hb hby at_111) rfl (XS.bipush X54.here hx rfl (hb hby at_113) (XS.icmpYes X54.here hx rfl (pc0 := 115) (pc' := 122) rfl (hb hby at_115) rfl (feq (by decide : ¬ ((1 : Int32) = (8 : Int32)))).2 (by decide) (by decide) (XS.iconst X54.here hx rfl (hb hby at_122) k)))))) ?_
    obtain ⟨cq59, kq59, q59a, q59b, q59c⟩ := isOf hZ e54 (HW.2.2.2.2.1.ext O54.2)
    obtain ⟨_, _, ⟨T59, L59, k59, n59⟩, -, X59, ⟨Lc59, hQ59, l59, y59, z59⟩, st59⟩ := X54.virtualBack hx (y := (⟨"com/example/tagwright/tagwright/typed/Form", "isSized", "()Z"⟩ : MethodName)) (z := (⟨"com/example/tagwright/tagwright/typed/Form", "isSized", "()Z"⟩ : MethodName)) hown (mvT hZ (own_w hw 27)) (mvT hZ (own_w hw 28)) (notFace_of_selects (args := #[]) (mvT hZ (own_w hw 30))) (mvT hZ (own_w hw 30)) (mvT hZ (own_w hw 29)) (by decide) (backOf (W := 0) (rm1 l Z a0 hw [] wINTEGER wBOOLEAN wINTEGER wBITS wOCTETS wNULL wOBJECT_IDENTIFIER wTEXT wCOMPONENTS wELEMENTS wCHOICE wELEMENT cs wD kD wC clC h54 n0 (own_le O54) O54 HW) hZ (own_w hw 31) (own_w hw 3) (by decide) (by decide)) q59a q59c (g := (mkF m 127 #[.val (.int p0), .val (.int p1), .val (.int p2), .val (.ref b21), .val (.int (1 : Int32)), .val (.ref wINTEGER), .val (.int (0 : Int32)), .unset, .unset, .unset, .unset, .unset, .unset, .unset, .unset] [(.ref wINTEGER)])) rfl (by rw [hml]; rfl) (Steps.refl _) (argsL := []) (rest := []) (lenOf pd_7 rfl) rfl (by show 2 * 0 + _ ≤ _; exact Nat.le_of_eq rfl) (hb hby at_127) (fun _ _ => ⟨rfl, e54, (by decide : 1 + 0 ≤ _), (by decide : 11 + 0 ≤ _)⟩)
    dsimp only [Pt.U, Pt.locs, Pt.cells, Pt.slots] at X59 l59 y59 z59 st59 hQ59
    subst l59 y59 z59
    obtain ⟨rfl, N59q, e59⟩ := hQ59
    have N59 := Fr.app N54 N59q
    have ho60 : (F1 wINTEGER wBOOLEAN wINTEGER wBITS wOCTETS wNULL wOBJECT_IDENTIFIER wTEXT wCOMPONENTS wELEMENTS wCHOICE wELEMENT cs wD kD wC clC) = (0 : Int32) := by rw [F1, if_neg (Fld.ne (HW.2.2.2.2.2.1) (HW.2.2.2.2.2.2.2.2.1) (by decide)), if_neg (Fld.ne (HW.2.2.2.2.2.1) (HW.2.2.2.2.2.2.2.2.2.2.2.1) (by decide)), if_neg (Fld.ne (HW.2.2.2.2.2.1) (HW.2.2.2.2.2.2.2.2.2.2.2.2.2.2.2.2.2.2.2.2.1) (by decide)), if_neg (Fld.ne (HW.2.2.2.2.2.1) (HW.2.2.2.2.2.2.2.2.2.2.2.2.2.2.2.2.2.2.2.2.2.2.2.2.2.2.1) (by decide))]
    refine own_by (W' := (T59.setTop (mkF m 139 #[.val (.int p0), .val (.int p1), .val (.int p2), .val (.ref b21), .val (.int (1 : Int32)), .val (.ref wINTEGER), .val (.int (0 : Int32)), .unset, .unset, .unset, .unset, .unset, .unset, .unset, .unset] [(.int (0 : Int32))]))) (fun t k => XS.istore X54.here hx rfl (hb hby at_123) rfl (l' := #[.val (.int p0), .val (.int p1), .val (.int p2), .val (.ref b21), .val (.int (1 : Int32)), .val (.ref wINTEGER), .val (.int (0 : Int32)), .unset, .unset, .unset, .unset, .unset, .unset, .unset, .unset]) rfl (XS.aload X54.here hx rfl (hb hby at_125) rfl rfl (Steps.trans st59 (XS.iload X59.here hx rfl (hb hby at_130) rfl (XS.icmpYes X59.here hx rfl (pc0 := 132) (pc' := 137) rfl (hb hby at_132) rfl (teq ho60).1 (by decide) (by decide) (XS.iload X59.here hx rfl (hb hby at_137) rfl k)))))) ?_
    obtain ⟨fs, hr, hrun, hended, hEnd⟩ := Jvm.Stand.leaveW (s := s) (vm₁ := s.vm) X59 hS0 (by rw [e59]; exact (Nat.le_trans (Nat.le_trans (Nat.le_trans (Nat.le_trans (Nat.le_trans (Nat.le_trans (Nat.le_trans (Nat.le_trans (Nat.le_trans (Nat.le_trans (Nat.le_trans (Nat.le_trans (Nat.le_refl _) E21.1) (Keep.of_wr W24).1) (Keep.of_wr W27).1) (Keep.of_wr W30).1) (Keep.of_wr W33).1) (Keep.of_wr W36).1) (Keep.of_wr W39).1) (Keep.of_wr W42).1) (Keep.of_wr W45).1) (Keep.of_wr W48).1) (Keep.of_wr W51).1) (Keep.of_wr W54).1)) (v := some (.int (1 : Int32))) (fun h => by rw [Bd.returns] at h; cases h)
    refine own_by (W' := (T59.setTop (mkF m 143 #[.val (.int p0), .val (.int p1), .val (.int p2), .val (.ref b21), .val (.int (1 : Int32)), .val (.ref wINTEGER), .val (.int (0 : Int32)), .unset, .unset, .unset, .unset, .unset, .unset, .unset, .unset] [(.int (1 : Int32))]))) (fun t k => XS.ifNo X59.here hx rfl (hb hby at_139) rfl ((if0 _ _).trans (teq (rfl : (0 : Int32) = (0 : Int32))).2) (XS.iconst X59.here hx rfl (hb hby at_142) k)) ?_
    refine ⟨_, _, retOut X59 hx Bd.returns rfl (Or.inl ⟨rfl, Or.inr (Or.inl rfl), _, rfl⟩) (hb hby at_143) hr, hrun, hended, _, _, rfl, ?_, (by rw [hh]; show CHr Z consts_1 s.vm h0 T59.vm T59.heap; rw [e59]; exact CHr.trans C54 (CHv.at (s := s) (vm0 := s.vm) X59 hZ (own_EW hw) C54.1)), hEnd.1, hEnd.2.1, hEnd.2.2.1, hEnd.2.2.2.mono (by decide) (by decide)⟩
    exact ⟨rfl, N59⟩
  ·
    rw [hs]
    obtain ⟨clu61, Aru61, qu61, Su61, Ngu61, Hau61, Gau61⟩ := id Vu53
    have hinu61 : ¬ ((2 : Int32) < 0 ∨ clu61.slots.size ≤ ((2 : Int32)).toNatClampNeg) := inb_of Su61 ⟨by decide, by decide⟩
    have hatu61 : clu61.slots[((2 : Int32)).toNatClampNeg]? = some (.ref wBITS) := Has.at Hau61 hinu61 rfl
    refine own_by (W' := (T54.setTop (mkF m 94 #[.val (.int p0), .val (.int p1), .val (.int p2), .val (.ref b21), .val (.int (2 : Int32)), .val (.ref wBITS), .unset, .unset, .unset, .unset, .unset, .unset, .unset, .unset, .unset] [(.int (2 : Int32))]))) (fun t k => XS.istore X54.here hx rfl (hb hby at_84) rfl (l' := #[.val (.int p0), .val (.int p1), .val (.int p2), .val (.ref b21), .val (.int (2 : Int32)), .unset, .unset, .unset, .unset, .unset, .unset, .unset, .unset, .unset, .unset]) rfl (XS.aloadN X54.here hx rfl (hb hby at_86) rfl rfl (XS.iload X54.here hx rfl (hb hby at_87) rfl ((X54.aaload hx (j := (2 : Int32)) (v := (.ref wBITS)) (by rw [e54]; exact Aru61.1) (State.isArrayOf_alike hZ.alike Aru61.2.1) rfl Aru61.2.2 hinu61 hatu61 (g := (mkF m 89 #[.val (.int p0), .val (.int p1), .val (.int p2), .val (.ref b21), .val (.int (2 : Int32)), .unset, .unset, .unset, .unset, .unset, .unset, .unset, .unset, .unset, .unset] [(.int (2 : Int32)), (.ref b21)])) rfl rfl (hb hby at_89)) _ (XS.astore X54.here hx rfl (hb hby at_90) rfl rfl (l' := #[.val (.int p0), .val (.int p1), .val (.int p2), .val (.ref b21), .val (.int (2 : Int32)), .val (.ref wBITS), .unset, .unset, .unset, .unset, .unset, .unset, .unset, .unset, .unset]) rfl (XS.iload X54.here hx rfl (hb hby at_92) rfl k)))))) ?_
    refine own_by (W' := (T54.setTop (mkF m 127 #[.val (.int p0), .val (.int p1), .val (.int p2), .val (.ref b21), .val (.int (2 : Int32)), .val (.ref wBITS), .val (.int (1 : Int32)), .unset, .unset, .unset, .unset, .unset, .unset, .unset, .unset] [(.ref wBITS)]))) (fun t k => XS.iconst X54.here hx rfl (hb hby at_94) (XS.icmpYes X54.here hx rfl (pc0 := 95) (pc' := 118) rfl (hb hby at_95) rfl (teq (rfl : (2 : Int32) = (2 : Int32))).1 (by decide) (by decide) (XS.iconst X54.here hx rfl (hb hby at_118) (XS.goto X54.here hx rfl (pc0 := 119) (pc' := 123) rfl (hb hby at_119) (by decide) (by decide) (XS.istore X54.here hx rfl (hb hby at_123) rfl (l' := #[.val (.int p0), .val (.int p1), .val (.int p2), .val (.ref b21), .val (.int (2 : Int32)), .val (.ref wBITS), .val (.int (1 : Int32)), .unset, .unset, .unset, .unset, .unset, .unset, .unset, .unset]) rfl (XS.aload X54.here hx rfl (hb hby at_125) rfl rfl k)))))) ?_
    obtain ⟨cq62, kq62, q62a, q62b, q62c⟩ := isOf hZ e54 (HW.2.2.2.2.2.2.2.1.ext O54.2)
    obtain ⟨_, _, ⟨T62, L62, k62, n62⟩, -, X62, ⟨Lc62, hQ62, l62, y62, z62⟩, st62⟩ := X54.virtualBack hx (y := (⟨"com/example/tagwright/tagwright/typed/Form", "isSized", "()Z"⟩ : MethodName)) (z := (⟨"com/example/tagwright/tagwright/typed/Form", "isSized", "()Z"⟩ : MethodName)) hown (mvT hZ (own_w hw 27)) (mvT hZ (own_w hw 28)) (notFace_of_selects (args := #[]) (mvT hZ (own_w hw 30))) (mvT hZ (own_w hw 30)) (mvT hZ (own_w hw 29)) (by decide) (backOf (W := 0) (rm1 l Z a0 hw [] wBITS wBOOLEAN wINTEGER wBITS wOCTETS wNULL wOBJECT_IDENTIFIER wTEXT wCOMPONENTS wELEMENTS wCHOICE wELEMENT cs wD kD wC clC h54 n0 (own_le O54) O54 HW) hZ (own_w hw 31) (own_w hw 3) (by decide) (by decide)) q62a q62c (g := (mkF m 127 #[.val (.int p0), .val (.int p1), .val (.int p2), .val (.ref b21), .val (.int (2 : Int32)), .val (.ref wBITS), .val (.int (1 : Int32)), .unset, .unset, .unset, .unset, .unset, .unset, .unset, .unset] [(.ref wBITS)])) rfl (by rw [hml]; rfl) (Steps.refl _) (argsL := []) (rest := []) (lenOf pd_7 rfl) rfl (by show 2 * 0 + _ ≤ _; exact Nat.le_of_eq rfl) (hb hby at_127) (fun _ _ => ⟨rfl, e54, (by decide : 1 + 0 ≤ _), (by decide : 11 + 0 ≤ _)⟩)
    dsimp only [Pt.U, Pt.locs, Pt.cells, Pt.slots] at X62 l62 y62 z62 st62 hQ62
    subst l62 y62 z62
    obtain ⟨rfl, N62q, e62⟩ := hQ62
    have N62 := Fr.app N54 N62q
    have ho63 : (F1 wBITS wBOOLEAN wINTEGER wBITS wOCTETS wNULL wOBJECT_IDENTIFIER wTEXT wCOMPONENTS wELEMENTS wCHOICE wELEMENT cs wD kD wC clC) = (1 : Int32) := by rw [F1, if_pos rfl]
    refine own_by (W' := (T62.setTop (mkF m 145 #[.val (.int p0), .val (.int p1), .val (.int p2), .val (.ref b21), .val (.int (2 : Int32)), .val (.ref wBITS), .val (.int (1 : Int32)), .unset, .unset, .unset, .unset, .unset, .unset, .unset, .unset] [(.int p1)]))) (fun t k => Steps.trans st62 (XS.iload X62.here hx rfl (hb hby at_130) rfl (XS.icmpYes X62.here hx rfl (pc0 := 132) (pc' := 137) rfl (hb hby at_132) rfl (teq ho63).1 (by decide) (by decide) (XS.iload X62.here hx rfl (hb hby at_137) rfl (XS.ifYes X62.here hx rfl (pc0 := 139) (pc' := 144) rfl (hb hby at_139) rfl ((if0 _ _).trans (feq (by decide : ¬ ((1 : Int32) = (0 : Int32)))).2) (by decide) (by decide) (XS.iloadN X62.here hx rfl (hb hby at_144) rfl k)))))) ?_
    refine own_by (W' := (T62.setTop (mkF m 147 #[.val (.int p0), .val (.int p1), .val (.int p2), .val (.ref b21), .val (.int (2 : Int32)), .val (.ref wBITS), .val (.int (1 : Int32)), .unset, .unset, .unset, .unset, .unset, .unset, .unset, .unset] [(.int (p1 &&& (3 : Int32)))]))) (fun t k => XS.iconst X62.here hx rfl (hb hby at_145) (XS.iand X62.here hx rfl (hb hby at_146) rfl k)) ?_
    rcases own_and3 p1 with hs | hs | hs | hs
    ·
      rw [hs]
      refine own_by (W' := (T62.setTop (mkF m 160 #[.val (.int p0), .val (.int p1), .val (.int p2), .val (.ref b21), .val (.int (2 : Int32)), .val (.ref wBITS), .val (.int (1 : Int32)), .val (.int (0 : Int32)), .unset, .unset, .unset, .unset, .unset, .unset, .unset] []))) (fun t k => XS.istore X62.here hx rfl (hb hby at_147) rfl (l' := #[.val (.int p0), .val (.int p1), .val (.int p2), .val (.ref b21), .val (.int (2 : Int32)), .val (.ref wBITS), .val (.int (1 : Int32)), .val (.int (0 : Int32)), .unset, .unset, .unset, .unset, .unset, .unset, .unset]) rfl (XS.iload X62.here hx rfl (hb hby at_149) rfl (XS.iconst X62.here hx rfl (hb hby at_151) (XS.icmpNo X62.here hx rfl (hb hby at_152) rfl (teq (rfl : (2 : Int32) = (2 : Int32))).2 (XS.iload X62.here hx rfl (hb hby at_155) rfl (XS.ifNo X62.here hx rfl (hb hby at_157) rfl ((if0 _ _).trans (teq (rfl : (0 : Int32) = (0 : Int32))).2) k)))))) ?_
      obtain ⟨T64, h64, k64, X64, e64, E64, A64, Ex64, st64⟩ := newPE X62 hx hZ (own_w hw 139) e62 (g := (mkF m 172 #[.val (.int p0), .val (.int p1), .val (.int p2), .val (.ref b21), .val (.int (2 : Int32)), .val (.ref wBITS), .val (.int (1 : Int32)), .val (.int (0 : Int32)), .unset, .unset, .unset, .val (.int (0 : Int32)), .unset, .unset, .unset] [(.int (0 : Int32))])) rfl (hb hby at_172) rfl (by decide) (cap := 0) (by decide) (by decide) (by decide) (by decide) (ad := "[B") (by decide)
      obtain ⟨b64, g64⟩ : ∃ z, z = h54.size := ⟨_, rfl⟩
      rw [← g64] at A64 Ex64 st64
      have g_b64 : n0 ≤ b64 := Nat.le_trans (own_le O54) (Nat.le_of_eq g64.symm)
      have sz_b64 : h0.size ≤ b64 := Nat.le_trans K54.1 (Nat.le_of_eq g64.symm)
      have ne_b21_b64 : b21 ≠ b64 := Nat.ne_of_lt (Nat.lt_of_lt_of_le Vu53.lt (Nat.le_of_eq g64.symm))
      have Sf64_b64 : Safe Z consts_1 s.vm _ b64 := Safe.ext E64 C54.1 (Safe.new (Nat.le_of_eq g64.symm))
      have Sf64_b21 := Safe.ext E64 C54.1 Sf54_b21
      have C64 := CHr.trans C54 (CHr.ext E64 C54.1)
      have O64 := O54.ext E64
      have K64 := Keep.ext K54 E64
      have V_b64 : Arv Z h64 b64 k64 .byte (0 : Int32) [] (.int (0 : Int32)) := Arv.new A64 (by decide)
      refine own_by (W' := (T64.setTop (mkF m 176 #[.val (.int p0), .val (.int p1), .val (.int p2), .val (.ref b21), .val (.int (2 : Int32)), .val (.ref wBITS), .val (.int (1 : Int32)), .val (.int (0 : Int32)), .unset, .unset, .unset, .val (.int (0 : Int32)), .unset, .unset, .unset] [(.int (0 : Int32)), (.ref b64)]))) (fun t k => XS.iconst X62.here hx rfl (hb hby at_160) (XS.goto X62.here hx rfl (pc0 := 161) (pc' := 168) rfl (hb hby at_161) (by decide) (by decide) (XS.istore X62.here hx rfl (hb hby at_168) rfl (l' := #[.val (.int p0), .val (.int p1), .val (.int p2), .val (.ref b21), .val (.int (2 : Int32)), .val (.ref wBITS), .val (.int (1 : Int32)), .val (.int (0 : Int32)), .unset, .unset, .unset, .val (.int (0 : Int32)), .unset, .unset, .unset]) rfl (XS.iload X62.here hx rfl (hb hby at_170) rfl (st64 _ (XS.iload X64.here hx rfl (hb hby at_174) rfl k)))))) ?_
      obtain ⟨_, _, ⟨T65, L65, k65, n65⟩, -, X65, ⟨Lc65, hQ65, l65, y65, z65⟩, st65⟩ := Jvm.LawKit.callS X64 hx (y := (⟨"com/example/tagwright/tagwright/universal/BitString", "of", "([BI)Lcom/example/tagwright/tagwright/universal/BitString;"⟩ : MethodName)) hown (mvT hZ (own_w hw 142)) (mvT hZ (own_w hw 143)) (mvT hZ (own_w hw 144)) (mvT hZ (own_w hw 145)) (by decide) (backOf (W := 0) (rmof0 l Z a0 hw [] b64 k64 h64 n0 (own_le O64) O64 Ex64 V_b64) hZ (own_w hw 145) (own_w hw 144) (by decide) (by decide)) (g := (mkF m 176 #[.val (.int p0), .val (.int p1), .val (.int p2), .val (.ref b21), .val (.int (2 : Int32)), .val (.ref wBITS), .val (.int (1 : Int32)), .val (.int (0 : Int32)), .unset, .unset, .unset, .val (.int (0 : Int32)), .unset, .unset, .unset] [(.int (0 : Int32)), (.ref b64)])) rfl (by rw [hml]; rfl) (argsL := [(.ref b64), (.int (0 : Int32))]) (rest := []) (lenOf pd_22 rfl) rfl (by show 2 * 0 + _ ≤ _; exact Nat.le_of_eq rfl) (hb hby at_176) (fun _ _ => ⟨rfl, e64, (by decide : 2 + 2 ≤ _), (by decide : 11 + 2 ≤ _)⟩)
      dsimp only [Pt.U, Pt.locs, Pt.cells, Pt.slots] at X65 l65 y65 z65 st65 hQ65
      subst l65 y65 z65
      obtain ⟨fb65, fo65, kb65, rfl, N65q, Kq65, Eq65, Fq65_u, Fq65_o, Vq65⟩ := hQ65
      have O65 := Old.keep O64 Kq65 all0
      have K65 := Keep.trans K64 Kq65 all0
      have Sf65_b21 := Safe.keep Kq65 all0 C64.1 Sf64_b21
      have Sf65_b64 := Safe.keep Kq65 all0 C64.1 Sf64_b64
      have C65 := CHr.trans C64 (CHr.keep Kq65 all0 C64.1)
      have N65 := Fr.app N62 N65q
      refine own_by (W' := (T65.setTop (mkF m 188 #[.val (.int p0), .val (.int p1), .val (.int p2), .val (.ref b21), .val (.int (2 : Int32)), .val (.ref wBITS), .val (.int (1 : Int32)), .val (.int (0 : Int32)), .val (.ref fb65), .unset, .unset, .val (.int (0 : Int32)), .unset, .unset, .unset] [(.long ((8 : Int64) * ((0 : Int32).toInt64)))]))) (fun t k => st65 _ (XS.astore X65.here hx rfl (hb hby at_179) rfl rfl (l' := #[.val (.int p0), .val (.int p1), .val (.int p2), .val (.ref b21), .val (.int (2 : Int32)), .val (.ref wBITS), .val (.int (1 : Int32)), .val (.int (0 : Int32)), .val (.ref fb65), .unset, .unset, .val (.int (0 : Int32)), .unset, .unset, .unset]) rfl ((X65.ldc2Long hx hown (mvT hZ (own_w hw 167)) (g := (mkF m 181 #[.val (.int p0), .val (.int p1), .val (.int p2), .val (.ref b21), .val (.int (2 : Int32)), .val (.ref wBITS), .val (.int (1 : Int32)), .val (.int (0 : Int32)), .val (.ref fb65), .unset, .unset, .val (.int (0 : Int32)), .unset, .unset, .unset] [])) rfl (hb hby at_181)) _ (XS.iload X65.here hx rfl (hb hby at_184) rfl (XS.i2l X65.here hx rfl (hb hby at_186) rfl (XS.lmul X65.here hx rfl (hb hby at_187) rfl k)))))) ?_
      refine own_by (W' := (T65.setTop (mkF m 420 #[.val (.int p0), .val (.int p1), .val (.int p2), .val (.ref b21), .val (.int (2 : Int32)), .val (.ref wBITS), .val (.int (1 : Int32)), .val (.int (0 : Int32)), .val (.ref fb65), .val (.long (((8 : Int64) * ((0 : Int32).toInt64)) - ((0 : Int32).toInt64))), .second, .val (.int (0 : Int32)), .unset, .unset, .unset] [(.ref wBITS)]))) (fun t k => XS.iload X65.here hx rfl (hb hby at_188) rfl (XS.i2l X65.here hx rfl (hb hby at_190) rfl (XS.lsub X65.here hx rfl (hb hby at_191) rfl (XS.lstore X65.here hx rfl (hb hby at_192) rfl (l' := #[.val (.int p0), .val (.int p1), .val (.int p2), .val (.ref b21), .val (.int (2 : Int32)), .val (.ref wBITS), .val (.int (1 : Int32)), .val (.int (0 : Int32)), .val (.ref fb65), .val (.long (((8 : Int64) * ((0 : Int32).toInt64)) - ((0 : Int32).toInt64))), .second, .val (.int (0 : Int32)), .unset, .unset, .unset]) rfl (XS.goto X65.here hx rfl (pc0 := 194) (pc' := 418) rfl (hb hby at_194) (by decide) (by decide) (XS.aload X65.here hx rfl (hb hby at_418) rfl rfl k)))))) ?_
      obtain ⟨cq66, kq66, q66a, q66b, q66c⟩ := isOf hZ rfl (HW.2.2.2.2.2.2.2.1.ext O65.2)
      obtain ⟨_, _, ⟨T66, L66, k66, n66⟩, -, X66, ⟨Lc66, hQ66, l66, y66, z66⟩, st66⟩ := X65.virtualBack hx (y := (⟨"com/example/tagwright/tagwright/typed/Form", "sizeOf", "(Ljava/lang/Object;)J"⟩ : MethodName)) (z := (⟨"com/example/tagwright/tagwright/typed/Form", "sizeOf", "(Ljava/lang/Object;)J"⟩ : MethodName)) hown (mvT hZ (own_w hw 62)) (mvT hZ (own_w hw 63)) (notFace_of_selects (args := #[]) (mvT hZ (own_w hw 65))) (mvT hZ (own_w hw 65)) (mvT hZ (own_w hw 64)) (by decide) (backOf (W := 0) (rmZBITS l Z a0 hw [] fb65 (0 : Int32) fo65 kb65 (0 : Int32) [] wBOOLEAN wINTEGER wBITS wOCTETS wNULL wOBJECT_IDENTIFIER wTEXT wCOMPONENTS wELEMENTS wCHOICE wELEMENT cs wD kD wC clC T65.heap n0 (own_le O65) O65 HW Eq65 Fq65_u Fq65_o Vq65) hZ (own_w hw 66) (own_w hw 3) (by decide) (by decide)) q66a q66c (g := (mkF m 422 #[.val (.int p0), .val (.int p1), .val (.int p2), .val (.ref b21), .val (.int (2 : Int32)), .val (.ref wBITS), .val (.int (1 : Int32)), .val (.int (0 : Int32)), .val (.ref fb65), .val (.long (((8 : Int64) * ((0 : Int32).toInt64)) - ((0 : Int32).toInt64))), .second, .val (.int (0 : Int32)), .unset, .unset, .unset] [(.ref fb65), (.ref wBITS)])) rfl (by rw [hml]; rfl) (Steps.refl _) (argsL := [(.ref fb65)]) (rest := []) (lenOf pd_23 rfl) rfl (by show 2 * 0 + _ ≤ _; exact Nat.le_of_eq rfl) (hb hby at_422) (fun _ _ => ⟨rfl, rfl, (by decide : 4 + 0 ≤ _), (by decide : 13 + 0 ≤ _)⟩)
      dsimp only [Pt.U, Pt.locs, Pt.cells, Pt.slots] at X66 l66 y66 z66 st66 hQ66
      subst l66 y66 z66
      obtain ⟨rfl, N66q, e66⟩ := hQ66
      have N66 := Fr.app N65 N66q
      have ho67 : ((((0 : Int32).toInt64) * (8 : Int64)) - ((0 : Int32).toInt64)) = (((8 : Int64) * ((0 : Int32).toInt64)) - ((0 : Int32).toInt64)) := by rw [Int64.mul_comm]
      refine own_by (W' := (T66.setTop (mkF m 432 #[.val (.int p0), .val (.int p1), .val (.int p2), .val (.ref b21), .val (.int (2 : Int32)), .val (.ref wBITS), .val (.int (1 : Int32)), .val (.int (0 : Int32)), .val (.ref fb65), .val (.long (((8 : Int64) * ((0 : Int32).toInt64)) - ((0 : Int32).toInt64))), .second, .val (.int (0 : Int32)), .unset, .unset, .unset] [(.int (1 : Int32))]))) (fun t k => XS.aload X65.here hx rfl (hb hby at_420) rfl rfl (Steps.trans st66 (XS.lload X66.here hx rfl (hb hby at_425) rfl (XS.lcmp X66.here hx rfl (hb hby at_427) rfl (XS.ifNo X66.here hx rfl (hb hby at_428) rfl (own_lceq ho67).2 (XS.iconst X66.here hx rfl (hb hby at_431) k)))))) ?_
      obtain ⟨fs, hr, hrun, hended, hEnd⟩ := Jvm.Stand.leaveW (s := s) (vm₁ := s.vm) X66 hS0 (by rw [e66]; exact (Nat.le_trans (Nat.le_trans (Nat.le_trans (Nat.le_trans (Nat.le_trans (Nat.le_trans (Nat.le_trans (Nat.le_trans (Nat.le_trans (Nat.le_trans (Nat.le_trans (Nat.le_trans (Nat.le_trans (Nat.le_trans (Nat.le_refl _) E21.1) (Keep.of_wr W24).1) (Keep.of_wr W27).1) (Keep.of_wr W30).1) (Keep.of_wr W33).1) (Keep.of_wr W36).1) (Keep.of_wr W39).1) (Keep.of_wr W42).1) (Keep.of_wr W45).1) (Keep.of_wr W48).1) (Keep.of_wr W51).1) (Keep.of_wr W54).1) E64.1) Kq65.1)) (v := some (.int (1 : Int32))) (fun h => by rw [Bd.returns] at h; cases h)
      refine own_by (W' := (T66.setTop (mkF m 436 #[.val (.int p0), .val (.int p1), .val (.int p2), .val (.ref b21), .val (.int (2 : Int32)), .val (.ref wBITS), .val (.int (1 : Int32)), .val (.int (0 : Int32)), .val (.ref fb65), .val (.long (((8 : Int64) * ((0 : Int32).toInt64)) - ((0 : Int32).toInt64))), .second, .val (.int (0 : Int32)), .unset, .unset, .unset] [(.int (1 : Int32))]))) (fun t k => XS.goto X66.here hx rfl (pc0 := 432) (pc' := 436) rfl (hb hby at_432) (by decide) (by decide) k) ?_
      refine ⟨_, _, retOut X66 hx Bd.returns rfl (Or.inl ⟨rfl, Or.inr (Or.inl rfl), _, rfl⟩) (hb hby at_436) hr, hrun, hended, _, _, rfl, ?_, (by rw [hh]; show CHr Z consts_1 s.vm h0 T66.vm T66.heap; rw [e66]; exact CHr.trans C65 (CHv.at (s := s) (vm0 := s.vm) X66 hZ (own_EW hw) C65.1)), hEnd.1, hEnd.2.1, hEnd.2.2.1, hEnd.2.2.2.mono (by decide) (by decide)⟩
      exact ⟨rfl, N66⟩
    ·
      rw [hs]
      refine own_by (W' := (T62.setTop (mkF m 164 #[.val (.int p0), .val (.int p1), .val (.int p2), .val (.ref b21), .val (.int (2 : Int32)), .val (.ref wBITS), .val (.int (1 : Int32)), .val (.int (1 : Int32)), .unset, .unset, .unset, .unset, .unset, .unset, .unset] []))) (fun t k => XS.istore X62.here hx rfl (hb hby at_147) rfl (l' := #[.val (.int p0), .val (.int p1), .val (.int p2), .val (.ref b21), .val (.int (2 : Int32)), .val (.ref wBITS), .val (.int (1 : Int32)), .val (.int (1 : Int32)), .unset, .unset, .unset, .unset, .unset, .unset, .unset]) rfl (XS.iload X62.here hx rfl (hb hby at_149) rfl (XS.iconst X62.here hx rfl (hb hby at_151) (XS.icmpNo X62.here hx rfl (hb hby at_152) rfl (teq (rfl : (2 : Int32) = (2 : Int32))).2 (XS.iload X62.here hx rfl (hb hby at_155) rfl (XS.ifYes X62.here hx rfl (pc0 := 157) (pc' := 164) rfl (hb hby at_157) rfl ((if0 _ _).trans (feq (by decide : ¬ ((1 : Int32) = (0 : Int32)))).2) (by decide) (by decide) k)))))) ?_
      refine own_by (W' := (T62.setTop (mkF m 170 #[.val (.int p0), .val (.int p1), .val (.int p2), .val (.ref b21), .val (.int (2 : Int32)), .val (.ref wBITS), .val (.int (1 : Int32)), .val (.int (1 : Int32)), .unset, .unset, .unset, .val (.int (p2 &&& (7 : Int32))), .unset, .unset, .unset] []))) (fun t k => XS.iloadN X62.here hx rfl (hb hby at_164) rfl (XS.bipush X62.here hx rfl (hb hby at_165) (XS.iand X62.here hx rfl (hb hby at_167) rfl (XS.istore X62.here hx rfl (hb hby at_168) rfl (l' := #[.val (.int p0), .val (.int p1), .val (.int p2), .val (.ref b21), .val (.int (2 : Int32)), .val (.ref wBITS), .val (.int (1 : Int32)), .val (.int (1 : Int32)), .unset, .unset, .unset, .val (.int (p2 &&& (7 : Int32))), .unset, .unset, .unset]) rfl k)))) ?_
      generalize hv_uu : (p2 &&& (7 : Int32)) = uu
      obtain ⟨T68, h68, k68, X68, e68, E68, A68, Ex68, st68⟩ := newPE X62 hx hZ (own_w hw 139) e62 (g := (mkF m 172 #[.val (.int p0), .val (.int p1), .val (.int p2), .val (.ref b21), .val (.int (2 : Int32)), .val (.ref wBITS), .val (.int (1 : Int32)), .val (.int (1 : Int32)), .unset, .unset, .unset, .val (.int uu), .unset, .unset, .unset] [(.int (1 : Int32))])) rfl (hb hby at_172) rfl (by decide) (cap := 1) (by decide) (by decide) (by decide) (by decide) (ad := "[B") (by decide)
      obtain ⟨b68, g68⟩ : ∃ z, z = h54.size := ⟨_, rfl⟩
      rw [← g68] at A68 Ex68 st68
      have g_b68 : n0 ≤ b68 := Nat.le_trans (own_le O54) (Nat.le_of_eq g68.symm)
      have sz_b68 : h0.size ≤ b68 := Nat.le_trans K54.1 (Nat.le_of_eq g68.symm)
      have ne_b21_b68 : b21 ≠ b68 := Nat.ne_of_lt (Nat.lt_of_lt_of_le Vu53.lt (Nat.le_of_eq g68.symm))
      have Sf68_b68 : Safe Z consts_1 s.vm _ b68 := Safe.ext E68 C54.1 (Safe.new (Nat.le_of_eq g68.symm))
      have Sf68_b21 := Safe.ext E68 C54.1 Sf54_b21
      have C68 := CHr.trans C54 (CHr.ext E68 C54.1)
      have O68 := O54.ext E68
      have K68 := Keep.ext K54 E68
      have V_b68 : Arv Z h68 b68 k68 .byte (1 : Int32) [(.int (0 : Int32))] (.int (0 : Int32)) := (Arv.new A68 (by decide)).pad (pad_rep [] (.int (0 : Int32)) 1)
      obtain ⟨_, _, ⟨T69, L69, k69, n69⟩, -, X69, ⟨Lc69, hQ69, l69, y69, z69⟩, st69⟩ := Jvm.LawKit.callS X68 hx (y := (⟨"com/example/tagwright/tagwright/universal/BitString", "of", "([BI)Lcom/example/tagwright/tagwright/universal/BitString;"⟩ : MethodName)) hown (mvT hZ (own_w hw 142)) (mvT hZ (own_w hw 143)) (mvT hZ (own_w hw 144)) (mvT hZ (own_w hw 145)) (by decide) (backOf (W := 0) (rmof1 l Z a0 hw [] b68 uu k68 h68 n0 (own_le O68) O68 Ex68 V_b68 (own_and7 hv_uu).1 (own_and7 hv_uu).2) hZ (own_w hw 145) (own_w hw 144) (by decide) (by decide)) (g := (mkF m 176 #[.val (.int p0), .val (.int p1), .val (.int p2), .val (.ref b21), .val (.int (2 : Int32)), .val (.ref wBITS), .val (.int (1 : Int32)), .val (.int (1 : Int32)), .unset, .unset, .unset, .val (.int uu), .unset, .unset, .unset] [(.int uu), (.ref b68)])) rfl (by rw [hml]; rfl) (argsL := [(.ref b68), (.int uu)]) (rest := []) (lenOf pd_22 rfl) rfl (by show 2 * 0 + _ ≤ _; exact Nat.le_of_eq rfl) (hb hby at_176) (fun _ _ => ⟨rfl, e68, (by decide : 2 + 2 ≤ _), (by decide : 12 + 3 ≤ _)⟩)
      dsimp only [Pt.U, Pt.locs, Pt.cells, Pt.slots] at X69 l69 y69 z69 st69 hQ69
      subst l69 y69 z69
      obtain ⟨fb69, fo69, kb69, rfl, N69q, Kq69, Eq69, Fq69_u, Fq69_o, Vq69⟩ := hQ69
      have O69 := Old.keep O68 Kq69 all0
      have K69 := Keep.trans K68 Kq69 all0
      have Sf69_b21 := Safe.keep Kq69 all0 C68.1 Sf68_b21
      have Sf69_b68 := Safe.keep Kq69 all0 C68.1 Sf68_b68
      have C69 := CHr.trans C68 (CHr.keep Kq69 all0 C68.1)
      have N69 := Fr.app N62 N69q
      refine own_by (W' := (T69.setTop (mkF m 184 #[.val (.int p0), .val (.int p1), .val (.int p2), .val (.ref b21), .val (.int (2 : Int32)), .val (.ref wBITS), .val (.int (1 : Int32)), .val (.int (1 : Int32)), .val (.ref fb69), .unset, .unset, .val (.int uu), .unset, .unset, .unset] [(.long (8 : Int64))]))) (fun t k => XS.iload X62.here hx rfl (hb hby at_170) rfl (st68 _ (XS.iload X68.here hx rfl (hb hby at_174) rfl (st69 _ (XS.astore X69.here hx rfl (hb hby at_179) rfl rfl (l' := #[.val (.int p0), .val (.int p1), .val (.int p2), .val (.ref b21), .val (.int (2 : Int32)), .val (.ref wBITS), .val (.int (1 : Int32)), .val (.int (1 : Int32)), .val (.ref fb69), .unset, .unset, .val (.int uu), .unset, .unset, .unset]) rfl ((X69.ldc2Long hx hown (mvT hZ (own_w hw 167)) (g := (mkF m 181 #[.val (.int p0), .val (.int p1), .val (.int p2), .val (.ref b21), .val (.int (2 : Int32)), .val (.ref wBITS), .val (.int (1 : Int32)), .val (.int (1 : Int32)), .val (.ref fb69), .unset, .unset, .val (.int uu), .unset, .unset, .unset] [])) rfl (hb hby at_181)) _ k)))))) ?_
      refine own_by (W' := (T69.setTop (mkF m 192 #[.val (.int p0), .val (.int p1), .val (.int p2), .val (.ref b21), .val (.int (2 : Int32)), .val (.ref wBITS), .val (.int (1 : Int32)), .val (.int (1 : Int32)), .val (.ref fb69), .unset, .unset, .val (.int uu), .unset, .unset, .unset] [(.long (((8 : Int64) * ((1 : Int32).toInt64)) - (uu.toInt64)))]))) (fun t k => XS.iload X69.here hx rfl (hb hby at_184) rfl (XS.i2l X69.here hx rfl (hb hby at_186) rfl (XS.lmul X69.here hx rfl (hb hby at_187) rfl (XS.iload X69.here hx rfl (hb hby at_188) rfl (XS.i2l X69.here hx rfl (hb hby at_190) rfl (XS.lsub X69.here hx rfl (hb hby at_191) rfl k)))))) ?_
      obtain ⟨cq70, kq70, q70a, q70b, q70c⟩ := isOf hZ rfl (HW.2.2.2.2.2.2.2.1.ext O69.2)
      obtain ⟨_, _, ⟨T70, L70, k70, n70⟩, -, X70, ⟨Lc70, hQ70, l70, y70, z70⟩, st70⟩ := X69.virtualBack hx (y := (⟨"com/example/tagwright/tagwright/typed/Form", "sizeOf", "(Ljava/lang/Object;)J"⟩ : MethodName)) (z := (⟨"com/example/tagwright/tagwright/typed/Form", "sizeOf", "(Ljava/lang/Object;)J"⟩ : MethodName)) hown (mvT hZ (own_w hw 62)) (mvT hZ (own_w hw 63)) (notFace_of_selects (args := #[]) (mvT hZ (own_w hw 65))) (mvT hZ (own_w hw 65)) (mvT hZ (own_w hw 64)) (by decide) (backOf (W := 0) (rmZBITS l Z a0 hw [] fb69 uu fo69 kb69 (1 : Int32) [(.int (0 : Int32))] wBOOLEAN wINTEGER wBITS wOCTETS wNULL wOBJECT_IDENTIFIER wTEXT wCOMPONENTS wELEMENTS wCHOICE wELEMENT cs wD kD wC clC T69.heap n0 (own_le O69) O69 HW Eq69 Fq69_u Fq69_o Vq69) hZ (own_w hw 66) (own_w hw 3) (by decide) (by decide)) q70a q70c (g := (mkF m 422 #[.val (.int p0), .val (.int p1), .val (.int p2), .val (.ref b21), .val (.int (2 : Int32)), .val (.ref wBITS), .val (.int (1 : Int32)), .val (.int (1 : Int32)), .val (.ref fb69), .val (.long (((8 : Int64) * ((1 : Int32).toInt64)) - (uu.toInt64))), .second, .val (.int uu), .unset, .unset, .unset] [(.ref fb69), (.ref wBITS)])) rfl (by rw [hml]; rfl) (Steps.refl _) (argsL := [(.ref fb69)]) (rest := []) (lenOf pd_23 rfl) rfl (by show 2 * 0 + _ ≤ _; exact Nat.le_of_eq rfl) (hb hby at_422) (fun _ _ => ⟨rfl, rfl, (by decide : 4 + 0 ≤ _), (by decide : 15 + 0 ≤ _)⟩)
      dsimp only [Pt.U, Pt.locs, Pt.cells, Pt.slots] at X70 l70 y70 z70 st70 hQ70
      subst l70 y70 z70
      obtain ⟨rfl, N70q, e70⟩ := hQ70
      have N70 := Fr.app N69 N70q
      refine own_by (W' := (T70.setTop (mkF m 427 #[.val (.int p0), .val (.int p1), .val (.int p2), .val (.ref b21), .val (.int (2 : Int32)), .val (.ref wBITS), .val (.int (1 : Int32)), .val (.int (1 : Int32)), .val (.ref fb69), .val (.long (((8 : Int64) * ((1 : Int32).toInt64)) - (uu.toInt64))), .second, .val (.int uu), .unset, .unset, .unset] [(.long (((8 : Int64) * ((1 : Int32).toInt64)) - (uu.toInt64))), (.long ((((1 : Int32).toInt64) * (8 : Int64)) - (uu.toInt64)))]))) (fun t k => XS.lstore X69.here hx rfl (hb hby at_192) rfl (l' := #[.val (.int p0), .val (.int p1), .val (.int p2), .val (.ref b21), .val (.int (2 : Int32)), .val (.ref wBITS), .val (.int (1 : Int32)), .val (.int (1 : Int32)), .val (.ref fb69), .val (.long (((8 : Int64) * ((1 : Int32).toInt64)) - (uu.toInt64))), .second, .val (.int uu), .unset, .unset, .unset]) rfl (XS.goto X69.here hx rfl (pc0 := 194) (pc' := 418) rfl (hb hby at_194) (by decide) (by decide) (XS.aload X69.here hx rfl (hb hby at_418) rfl rfl (XS.aload X69.here hx rfl (hb hby at_420) rfl rfl (Steps.trans st70 (XS.lload X70.here hx rfl (hb hby at_425) rfl k)))))) ?_
      have ho71 : ((((1 : Int32).toInt64) * (8 : Int64)) - (uu.toInt64)) = (((8 : Int64) * ((1 : Int32).toInt64)) - (uu.toInt64)) := by rw [Int64.mul_comm]
      obtain ⟨fs, hr, hrun, hended, hEnd⟩ := Jvm.Stand.leaveW (s := s) (vm₁ := s.vm) X70 hS0 (by rw [e70]; exact (Nat.le_trans (Nat.le_trans (Nat.le_trans (Nat.le_trans (Nat.le_trans (Nat.le_trans (Nat.le_trans (Nat.le_trans (Nat.le_trans (Nat.le_trans (Nat.le_trans (Nat.le_trans (Nat.le_trans (Nat.le_trans (Nat.le_refl _) E21.1) (Keep.of_wr W24).1) (Keep.of_wr W27).1) (Keep.of_wr W30).1) (Keep.of_wr W33).1) (Keep.of_wr W36).1) (Keep.of_wr W39).1) (Keep.of_wr W42).1) (Keep.of_wr W45).1) (Keep.of_wr W48).1) (Keep.of_wr W51).1) (Keep.of_wr W54).1) E68.1) Kq69.1)) (v := some (.int (1 : Int32))) (fun h => by rw [Bd.returns] at h; cases h)
      refine own_by (W' := (T70.setTop (mkF m 436 #[.val (.int p0), .val (.int p1), .val (.int p2), .val (.ref b21), .val (.int (2 : Int32)), .val (.ref wBITS), .val (.int (1 : Int32)), .val (.int (1 : Int32)), .val (.ref fb69), .val (.long (((8 : Int64) * ((1 : Int32).toInt64)) - (uu.toInt64))), .second, .val (.int uu), .unset, .unset, .unset] [(.int (1 : Int32))]))) (fun t k => XS.lcmp X70.here hx rfl (hb hby at_427) rfl (XS.ifNo X70.here hx rfl (hb hby at_428) rfl (own_lceq ho71).2 (XS.iconst X70.here hx rfl (hb hby at_431) (XS.goto X70.here hx rfl (pc0 := 432) (pc' := 436) rfl (hb hby at_432) (by decide) (by decide) k)))) ?_
      refine ⟨_, _, retOut X70 hx Bd.returns rfl (Or.inl ⟨rfl, Or.inr (Or.inl rfl), _, rfl⟩) (hb hby at_436) hr, hrun, hended, _, _, rfl, ?_, (by rw [hh]; show CHr Z consts_1 s.vm h0 T70.vm T70.heap; rw [e70]; exact CHr.trans C69 (CHv.at (s := s) (vm0 := s.vm) X70 hZ (own_EW hw) C69.1)), hEnd.1, hEnd.2.1, hEnd.2.2.1, hEnd.2.2.2.mono (by decide) (by decide)⟩
      exact ⟨rfl, N70⟩
    ·
      rw [hs]
      refine own_by (W' := (T62.setTop (mkF m 164 #[.val (.int p0), .val (.int p1), .val (.int p2), .val (.ref b21), .val (.int (2 : Int32)), .val (.ref wBITS), .val (.int (1 : Int32)), .val (.int (2 : Int32)), .unset, .unset, .unset, .unset, .unset, .unset, .unset] []))) (fun t k => XS.istore X62.here hx rfl (hb hby at_147) rfl (l' := #[.val (.int p0), .val (.int p1), .val (.int p2), .val (.ref b21), .val (.int (2 : Int32)), .val (.ref wBITS), .val (.int (1 : Int32)), .val (.int (2 : Int32)), .unset, .unset, .unset, .unset, .unset, .unset, .unset]) rfl (XS.iload X62.here hx rfl (hb hby at_149) rfl (XS.iconst X62.here hx rfl (hb hby at_151) (XS.icmpNo X62.here hx rfl (hb hby at_152) rfl (teq (rfl : (2 : Int32) = (2 : Int32))).2 (XS.iload X62.here hx rfl (hb hby at_155) rfl (XS.ifYes X62.here hx rfl (pc0 := 157) (pc' := 164) rfl (hb hby at_157) rfl ((if0 _ _).trans (feq (by decide : ¬ ((2 : Int32) = (0 : Int32)))).2) (by decide) (by decide) k)))))) ?_
      refine own_by (W' := (T62.setTop (mkF m 170 #[.val (.int p0), .val (.int p1), .val (.int p2), .val (.ref b21), .val (.int (2 : Int32)), .val (.ref wBITS), .val (.int (1 : Int32)), .val (.int (2 : Int32)), .unset, .unset, .unset, .val (.int (p2 &&& (7 : Int32))), .unset, .unset, .unset] []))) (fun t k => XS.iloadN X62.here hx rfl (hb hby at_164) rfl (XS.bipush X62.here hx rfl (hb hby at_165) (XS.iand X62.here hx rfl (hb hby at_167) rfl (XS.istore X62.here hx rfl (hb hby at_168) rfl (l' := #[.val (.int p0), .val (.int p1), .val (.int p2), .val (.ref b21), .val (.int (2 : Int32)), .val (.ref wBITS), .val (.int (1 : Int32)), .val (.int (2 : Int32)), .unset, .unset, .unset, .val (.int (p2 &&& (7 : Int32))), .unset, .unset, .unset]) rfl k)))) ?_
      generalize hv_uu : (p2 &&& (7 : Int32)) = uu
      obtain ⟨T72, h72, k72, X72, e72, E72, A72, Ex72, st72⟩ := newPE X62 hx hZ (own_w hw 139) e62 (g := (mkF m 172 #[.val (.int p0), .val (.int p1), .val (.int p2), .val (.ref b21), .val (.int (2 : Int32)), .val (.ref wBITS), .val (.int (1 : Int32)), .val (.int (2 : Int32)), .unset, .unset, .unset, .val (.int uu), .unset, .unset, .unset] [(.int (2 : Int32))])) rfl (hb hby at_172) rfl (by decide) (cap := 2) (by decide) (by decide) (by decide) (by decide) (ad := "[B") (by decide)
      obtain ⟨b72, g72⟩ : ∃ z, z = h54.size := ⟨_, rfl⟩
      rw [← g72] at A72 Ex72 st72
      have g_b72 : n0 ≤ b72 := Nat.le_trans (own_le O54) (Nat.le_of_eq g72.symm)
      have sz_b72 : h0.size ≤ b72 := Nat.le_trans K54.1 (Nat.le_of_eq g72.symm)
      have ne_b21_b72 : b21 ≠ b72 := Nat.ne_of_lt (Nat.lt_of_lt_of_le Vu53.lt (Nat.le_of_eq g72.symm))
      have Sf72_b72 : Safe Z consts_1 s.vm _ b72 := Safe.ext E72 C54.1 (Safe.new (Nat.le_of_eq g72.symm))
      have Sf72_b21 := Safe.ext E72 C54.1 Sf54_b21
      have C72 := CHr.trans C54 (CHr.ext E72 C54.1)
      have O72 := O54.ext E72
      have K72 := Keep.ext K54 E72
      have V_b72 : Arv Z h72 b72 k72 .byte (2 : Int32) [(.int (0 : Int32)), (.int (0 : Int32))] (.int (0 : Int32)) := (Arv.new A72 (by decide)).pad (pad_rep [] (.int (0 : Int32)) 2)
      obtain ⟨_, _, ⟨T73, L73, k73, n73⟩, -, X73, ⟨Lc73, hQ73, l73, y73, z73⟩, st73⟩ := Jvm.LawKit.callS X72 hx (y := (⟨"com/example/tagwright/tagwright/universal/BitString", "of", "([BI)Lcom/example/tagwright/tagwright/universal/BitString;"⟩ : MethodName)) hown (mvT hZ (own_w hw 142)) (mvT hZ (own_w hw 143)) (mvT hZ (own_w hw 144)) (mvT hZ (own_w hw 145)) (by decide) (backOf (W := 0) (rmof2 l Z a0 hw [] b72 uu k72 h72 n0 (own_le O72) O72 Ex72 V_b72 (own_and7 hv_uu).1 (own_and7 hv_uu).2) hZ (own_w hw 145) (own_w hw 144) (by decide) (by decide)) (g := (mkF m 176 #[.val (.int p0), .val (.int p1), .val (.int p2), .val (.ref b21), .val (.int (2 : Int32)), .val (.ref wBITS), .val (.int (1 : Int32)), .val (.int (2 : Int32)), .unset, .unset, .unset, .val (.int uu), .unset, .unset, .unset] [(.int uu), (.ref b72)])) rfl (by rw [hml]; rfl) (argsL := [(.ref b72), (.int uu)]) (rest := []) (lenOf pd_22 rfl) rfl (by show 2 * 0 + _ ≤ _; exact Nat.le_of_eq rfl) (hb hby at_176) (fun _ _ => ⟨rfl, e72, (by decide : 2 + 2 ≤ _), (by decide : 13 + 4 ≤ _)⟩)
      dsimp only [Pt.U, Pt.locs, Pt.cells, Pt.slots] at X73 l73 y73 z73 st73 hQ73
      subst l73 y73 z73
      obtain ⟨fb73, fo73, kb73, rfl, N73q, Kq73, Eq73, Fq73_u, Fq73_o, Vq73⟩ := hQ73
      have O73 := Old.keep O72 Kq73 all0
      have K73 := Keep.trans K72 Kq73 all0
      have Sf73_b21 := Safe.keep Kq73 all0 C72.1 Sf72_b21
      have Sf73_b72 := Safe.keep Kq73 all0 C72.1 Sf72_b72
      have C73 := CHr.trans C72 (CHr.keep Kq73 all0 C72.1)
      have N73 := Fr.app N62 N73q
      refine own_by (W' := (T73.setTop (mkF m 184 #[.val (.int p0), .val (.int p1), .val (.int p2), .val (.ref b21), .val (.int (2 : Int32)), .val (.ref wBITS), .val (.int (1 : Int32)), .val (.int (2 : Int32)), .val (.ref fb73), .unset, .unset, .val (.int uu), .unset, .unset, .unset] [(.long (8 : Int64))]))) (fun t k => XS.iload X62.here hx rfl (hb hby at_170) rfl (st72 _ (XS.iload X72.here hx rfl (hb hby at_174) rfl (st73 _ (XS.astore X73.here hx rfl (hb hby at_179) rfl rfl (l' := #[.val (.int p0), .val (.int p1), .val (.int p2), .val (.ref b21), .val (.int (2 : Int32)), .val (.ref wBITS), .val (.int (1 : Int32)), .val (.int (2 : Int32)), .val (.ref fb73), .unset, .unset, .val (.int uu), .unset, .unset, .unset]) rfl ((X73.ldc2Long hx hown (mvT hZ (own_w hw 167)) (g := (mkF m 181 #[.val (.int p0), .val (.int p1), .val (.int p2), .val (.ref b21), .val (.int (2 : Int32)), .val (.ref wBITS), .val (.int (1 : Int32)), .val (.int (2 : Int32)), .val (.ref fb73), .unset, .unset, .val (.int uu), .unset, .unset, .unset] [])) rfl (hb hby at_181)) _ k)))))) ?_
      refine own_by (W' := (T73.setTop (mkF m 192 #[.val (.int p0), .val (.int p1), .val (.int p2), .val (.ref b21), .val (.int (2 : Int32)), .val (.ref wBITS), .val (.int (1 : Int32)), .val (.int (2 : Int32)), .val (.ref fb73), .unset, .unset, .val (.int uu), .unset, .unset, .unset] [(.long (((8 : Int64) * ((2 : Int32).toInt64)) - (uu.toInt64)))]))) (fun t k => XS.iload X73.here hx rfl (hb hby at_184) rfl (XS.i2l X73.here hx rfl (hb hby at_186) rfl (XS.lmul X73.here hx rfl (hb hby at_187) rfl (XS.iload X73.here hx rfl (hb hby at_188) rfl (XS.i2l X73.here hx rfl (hb hby at_190) rfl (XS.lsub X73.here hx rfl (hb hby at_191) rfl k)))))) ?_
      obtain ⟨cq74, kq74, q74a, q74b, q74c⟩ := isOf hZ rfl (HW.2.2.2.2.2.2.2.1.ext O73.2)
      obtain ⟨_, _, ⟨T74, L74, k74, n74⟩, -, X74, ⟨Lc74, hQ74, l74, y74, z74⟩, st74⟩ := X73.virtualBack hx (y := (⟨"com/example/tagwright/tagwright/typed/Form", "sizeOf", "(Ljava/lang/Object;)J"⟩ : MethodName)) (z := (⟨"com/example/tagwright/tagwright/typed/Form", "sizeOf", "(Ljava/lang/Object;)J"⟩ : MethodName)) hown (mvT hZ (own_w hw 62)) (mvT hZ (own_w hw 63)) (notFace_of_selects (args := #[]) (mvT hZ (own_w hw 65))) (mvT hZ (own_w hw 65)) (mvT hZ (own_w hw 64)) (by decide) (backOf (W := 0) (rmZBITS l Z a0 hw [] fb73 uu fo73 kb73 (2 : Int32) [(.int (0 : Int32)), (.int (0 : Int32))] wBOOLEAN wINTEGER wBITS wOCTETS wNULL wOBJECT_IDENTIFIER wTEXT wCOMPONENTS wELEMENTS wCHOICE wELEMENT cs wD kD wC clC T73.heap n0 (own_le O73) O73 HW Eq73 Fq73_u Fq73_o Vq73) hZ (own_w hw 66) (own_w hw 3) (by decide) (by decide)) q74a q74c (g := (mkF m 422 #[.val (.int p0), .val (.int p1), .val (.int p2), .val (.ref b21), .val (.int (2 : Int32)), .val (.ref wBITS), .val (.int (1 : Int32)), .val (.int (2 : Int32)), .val (.ref fb73), .val (.long (((8 : Int64) * ((2 : Int32).toInt64)) - (uu.toInt64))), .second, .val (.int uu), .unset, .unset, .unset] [(.ref fb73), (.ref wBITS)])) rfl (by rw [hml]; rfl) (Steps.refl _) (argsL := [(.ref fb73)]) (rest := []) (lenOf pd_23 rfl) rfl (by show 2 * 0 + _ ≤ _; exact Nat.le_of_eq rfl) (hb hby at_422) (fun _ _ => ⟨rfl, rfl, (by decide : 4 + 0 ≤ _), (by decide : 17 + 0 ≤ _)⟩)
      dsimp only [Pt.U, Pt.locs, Pt.cells, Pt.slots] at X74 l74 y74 z74 st74 hQ74
      subst l74 y74 z74
      obtain ⟨rfl, N74q, e74⟩ := hQ74
      have N74 := Fr.app N73 N74q
      refine own_by (W' := (T74.setTop (mkF m 427 #[.val (.int p0), .val (.int p1), .val (.int p2), .val (.ref b21), .val (.int (2 : Int32)), .val (.ref wBITS), .val (.int (1 : Int32)), .val (.int (2 : Int32)), .val (.ref fb73), .val (.long (((8 : Int64) * ((2 : Int32).toInt64)) - (uu.toInt64))), .second, .val (.int uu), .unset, .unset, .unset] [(.long (((8 : Int64) * ((2 : Int32).toInt64)) - (uu.toInt64))), (.long ((((2 : Int32).toInt64) * (8 : Int64)) - (uu.toInt64)))]))) (fun t k => XS.lstore X73.here hx rfl (hb hby at_192) rfl (l' := #[.val (.int p0), .val (.int p1), .val (.int p2), .val (.ref b21), .val (.int (2 : Int32)), .val (.ref wBITS), .val (.int (1 : Int32)), .val (.int (2 : Int32)), .val (.ref fb73), .val (.long (((8 : Int64) * ((2 : Int32).toInt64)) - (uu.toInt64))), .second, .val (.int uu), .unset, .unset, .unset]) rfl (XS.goto X73.here hx rfl (pc0 := 194) (pc' := 418) rfl (hb hby at_194) (by decide) (by decide) (XS.aload X73.here hx rfl (hb hby at_418) rfl rfl (XS.aload X73.here hx rfl (hb hby at_420) rfl rfl (Steps.trans st74 (XS.lload X74.here hx rfl (hb hby at_425) rfl k)))))) ?_
      have ho75 : ((((2 : Int32).toInt64) * (8 : Int64)) - (uu.toInt64)) = (((8 : Int64) * ((2 : Int32).toInt64)) - (uu.toInt64)) := by rw [Int64.mul_comm]
      obtain ⟨fs, hr, hrun, hended, hEnd⟩ := Jvm.Stand.leaveW (s := s) (vm₁ := s.vm) X74 hS0 (by rw [e74]; exact (Nat.le_trans (Nat.le_trans (Nat.le_trans (Nat.le_trans (Nat.le_trans (Nat.le_trans (Nat.le_trans (Nat.le_trans (Nat.le_trans (Nat.le_trans (Nat.le_trans (Nat.le_trans (Nat.le_trans (Nat.le_trans (Nat.le_refl _) E21.1) (Keep.of_wr W24).1) (Keep.of_wr W27).1) (Keep.of_wr W30).1) (Keep.of_wr W33).1) (Keep.of_wr W36).1) (Keep.of_wr W39).1) (Keep.of_wr W42).1) (Keep.of_wr W45).1) (Keep.of_wr W48).1) (Keep.of_wr W51).1) (Keep.of_wr W54).1) E72.1) Kq73.1)) (v := some (.int (1 : Int32))) (fun h => by rw [Bd.returns] at h; cases h)
      refine own_by (W' := (T74.setTop (mkF m 436 #[.val (.int p0), .val (.int p1), .val (.int p2), .val (.ref b21), .val (.int (2 : Int32)), .val (.ref wBITS), .val (.int (1 : Int32)), .val (.int (2 : Int32)), .val (.ref fb73), .val (.long (((8 : Int64) * ((2 : Int32).toInt64)) - (uu.toInt64))), .second, .val (.int uu), .unset, .unset, .unset] [(.int (1 : Int32))]))) (fun t k => XS.lcmp X74.here hx rfl (hb hby at_427) rfl (XS.ifNo X74.here hx rfl (hb hby at_428) rfl (own_lceq ho75).2 (XS.iconst X74.here hx rfl (hb hby at_431) (XS.goto X74.here hx rfl (pc0 := 432) (pc' := 436) rfl (hb hby at_432) (by decide) (by decide) k)))) ?_
      refine ⟨_, _, retOut X74 hx Bd.returns rfl (Or.inl ⟨rfl, Or.inr (Or.inl rfl), _, rfl⟩) (hb hby at_436) hr, hrun, hended, _, _, rfl, ?_, (by rw [hh]; show CHr Z consts_1 s.vm h0 T74.vm T74.heap; rw [e74]; exact CHr.trans C73 (CHv.at (s := s) (vm0 := s.vm) X74 hZ (own_EW hw) C73.1)), hEnd.1, hEnd.2.1, hEnd.2.2.1, hEnd.2.2.2.mono (by decide) (by decide)⟩
      exact ⟨rfl, N74⟩
    ·
      rw [hs]
      refine own_by (W' := (T62.setTop (mkF m 164 #[.val (.int p0), .val (.int p1), .val (.int p2), .val (.ref b21), .val (.int (2 : Int32)), .val (.ref wBITS), .val (.int (1 : Int32)), .val (.int (3 : Int32)), .unset, .unset, .unset, .unset, .unset, .unset, .unset] []))) (fun t k => XS.istore X62.here hx rfl (hb hby at_147) rfl (l' := #[.val (.int p0), .val (.int p1), .val (.int p2), .val (.ref b21), .val (.int (2 : Int32)), .val (.ref wBITS), .val (.int (1 : Int32)), .val (.int (3 : Int32)), .unset, .unset, .unset, .unset, .unset, .unset, .unset]) rfl (XS.iload X62.here hx rfl (hb hby at_149) rfl (XS.iconst X62.here hx rfl (hb hby at_151) (XS.icmpNo X62.here hx rfl (hb hby at_152) rfl (teq (rfl : (2 : Int32) = (2 : Int32))).2 (XS.iload X62.here hx rfl (hb hby at_155) rfl (XS.ifYes X62.here hx rfl (pc0 := 157) (pc' := 164) rfl (hb hby at_157) rfl ((if0 _ _).trans (feq (by decide : ¬ ((3 : Int32) = (0 : Int32)))).2) (by decide) (by decide) k)))))) ?_
      refine own_by (W' := (T62.setTop (mkF m 170 #[.val (.int p0), .val (.int p1), .val (.int p2), .val (.ref b21), .val (.int (2 : Int32)), .val (.ref wBITS), .val (.int (1 : Int32)), .val (.int (3 : Int32)), .unset, .unset, .unset, .val (.int (p2 &&& (7 : Int32))), .unset, .unset, .unset] []))) (fun t k => XS.iloadN X62.here hx rfl (hb hby at_164) rfl (XS.bipush X62.here hx rfl (hb hby at_165) (XS.iand X62.here hx rfl (hb hby at_167) rfl (XS.istore X62.here hx rfl (hb hby at_168) rfl (l' := #[.val (.int p0), .val (.int p1), .val (.int p2), .val (.ref b21), .val (.int (2 : Int32)), .val (.ref wBITS), .val (.int (1 : Int32)), .val (.int (3 : Int32)), .unset, .unset, .unset, .val (.int (p2 &&& (7 : Int32))), .unset, .unset, .unset]) rfl k)))) ?_
      generalize hv_uu : (p2 &&& (7 : Int32)) = uu
      obtain ⟨T76, h76, k76, X76, e76, E76, A76, Ex76, st76⟩ := newPE X62 hx hZ (own_w hw 139) e62 (g := (mkF m 172 #[.val (.int p0), .val (.int p1), .val (.int p2), .val (.ref b21), .val (.int (2 : Int32)), .val (.ref wBITS), .val (.int (1 : Int32)), .val (.int (3 : Int32)), .unset, .unset, .unset, .val (.int uu), .unset, .unset, .unset] [(.int (3 : Int32))])) rfl (hb hby at_172) rfl (by decide) (cap := 3) (by decide) (by decide) (by decide) (by decide) (ad := "[B") (by decide)
      obtain ⟨b76, g76⟩ : ∃ z, z = h54.size := ⟨_, rfl⟩
      rw [← g76] at A76 Ex76 st76
      have g_b76 : n0 ≤ b76 := Nat.le_trans (own_le O54) (Nat.le_of_eq g76.symm)
      have sz_b76 : h0.size ≤ b76 := Nat.le_trans K54.1 (Nat.le_of_eq g76.symm)
      have ne_b21_b76 : b21 ≠ b76 := Nat.ne_of_lt (Nat.lt_of_lt_of_le Vu53.lt (Nat.le_of_eq g76.symm))
      have Sf76_b76 : Safe Z consts_1 s.vm _ b76 := Safe.ext E76 C54.1 (Safe.new (Nat.le_of_eq g76.symm))
      have Sf76_b21 := Safe.ext E76 C54.1 Sf54_b21
      have C76 := CHr.trans C54 (CHr.ext E76 C54.1)
      have O76 := O54.ext E76
      have K76 := Keep.ext K54 E76
      have V_b76 : Arv Z h76 b76 k76 .byte (3 : Int32) [(.int (0 : Int32)), (.int (0 : Int32)), (.int (0 : Int32))] (.int (0 : Int32)) := (Arv.new A76 (by decide)).pad (pad_rep [] (.int (0 : Int32)) 3)
      obtain ⟨_, _, ⟨T77, L77, k77, n77⟩, -, X77, ⟨Lc77, hQ77, l77, y77, z77⟩, st77⟩ := Jvm.LawKit.callS X76 hx (y := (⟨"com/example/tagwright/tagwright/universal/BitString", "of", "([BI)Lcom/example/tagwright/tagwright/universal/BitString;"⟩ : MethodName)) hown (mvT hZ (own_w hw 142)) (mvT hZ (own_w hw 143)) (mvT hZ (own_w hw 144)) (mvT hZ (own_w hw 145)) (by decide) (backOf (W := 0) (rmof3 l Z a0 hw [] b76 uu k76 h76 n0 (own_le O76) O76 Ex76 V_b76 (own_and7 hv_uu).1 (own_and7 hv_uu).2) hZ (own_w hw 145) (own_w hw 144) (by decide) (by decide)) (g := (mkF m 176 #[.val (.int p0), .val (.int p1), .val (.int p2), .val (.ref b21), .val (.int (2 : Int32)), .val (.ref wBITS), .val (.int (1 : Int32)), .val (.int (3 : Int32)), .unset, .unset, .unset, .val (.int uu), .unset, .unset, .unset] [(.int uu), (.ref b76)])) rfl (by rw [hml]; rfl) (argsL := [(.ref b76), (.int uu)]) (rest := []) (lenOf pd_22 rfl) rfl (by show 2 * 0 + _ ≤ _; exact Nat.le_of_eq rfl) (hb hby at_176) (fun _ _ => ⟨rfl, e76, (by decide : 2 + 2 ≤ _), (by decide : 14 + 5 ≤ _)⟩)
      dsimp only [Pt.U, Pt.locs, Pt.cells, Pt.slots] at X77 l77 y77 z77 st77 hQ77
      subst l77 y77 z77
      obtain ⟨fb77, fo77, kb77, rfl, N77q, Kq77, Eq77, Fq77_u, Fq77_o, Vq77⟩ := hQ77
      have O77 := Old.keep O76 Kq77 all0
      have K77 := Keep.trans K76 Kq77 all0
      have Sf77_b21 := Safe.keep Kq77 all0 C76.1 Sf76_b21
      have Sf77_b76 := Safe.keep Kq77 all0 C76.1 Sf76_b76
      have C77 := CHr.trans C76 (CHr.keep Kq77 all0 C76.1)
      have N77 := Fr.app N62 N77q
      refine own_by (W' := (T77.setTop (mkF m 184 #[.val (.int p0), .val (.int p1), .val (.int p2), .val (.ref b21), .val (.int (2 : Int32)), .val (.ref wBITS), .val (.int (1 : Int32)), .val (.int (3 : Int32)), .val (.ref fb77), .unset, .unset, .val (.int uu), .unset, .unset, .unset] [(.long (8 : Int64))]))) (fun t k => XS.iload X62.here hx rfl (hb hby at_170) rfl (st76 _ (XS.iload X76.here hx rfl (hb hby at_174) rfl (st77 _ (XS.astore X77.here hx rfl (hb hby at_179) rfl rfl (l' := #[.val (.int p0), .val (.int p1), .val (.int p2), .val (.ref b21), .val (.int (2 : Int32)), .val (.ref wBITS), .val (.int (1 : Int32)), .val (.int (3 : Int32)), .val (.ref fb77), .unset, .unset, .val (.int uu), .unset, .unset, .unset]) rfl ((X77.ldc2Long hx hown (mvT hZ (own_w hw 167)) (g := (mkF m 181 #[.val (.int p0), .val (.int p1), .val (.int p2), .val (.ref b21), .val (.int (2 : Int32)), .val (.ref wBITS), .val (.int (1 : Int32)), .val (.int (3 : Int32)), .val (.ref fb77), .unset, .unset, .val (.int uu), .unset, .unset, .unset] [])) rfl (hb hby at_181)) _ k)))))) ?_
      refine own_by (W' := (T77.setTop (mkF m 192 #[.val (.int p0), .val (.int p1), .val (.int p2), .val (.ref b21), .val (.int (2 : Int32)), .val (.ref wBITS), .val (.int (1 : Int32)), .val (.int (3 : Int32)), .val (.ref fb77), .unset, .unset, .val (.int uu), .unset, .unset, .unset] [(.long (((8 : Int64) * ((3 : Int32).toInt64)) - (uu.toInt64)))]))) (fun t k => XS.iload X77.here hx rfl (hb hby at_184) rfl (XS.i2l X77.here hx rfl (hb hby at_186) rfl (XS.lmul X77.here hx rfl (hb hby at_187) rfl (XS.iload X77.here hx rfl (hb hby at_188) rfl (XS.i2l X77.here hx rfl (hb hby at_190) rfl (XS.lsub X77.here hx rfl (hb hby at_191) rfl k)))))) ?_
      obtain ⟨cq78, kq78, q78a, q78b, q78c⟩ := isOf hZ rfl (HW.2.2.2.2.2.2.2.1.ext O77.2)
      obtain ⟨_, _, ⟨T78, L78, k78, n78⟩, -, X78, ⟨Lc78, hQ78, l78, y78, z78⟩, st78⟩ := X77.virtualBack hx (y := (⟨"com/example/tagwright/tagwright/typed/Form", "sizeOf", "(Ljava/lang/Object;)J"⟩ : MethodName)) (z := (⟨"com/example/tagwright/tagwright/typed/Form", "sizeOf", "(Ljava/lang/Object;)J"⟩ : MethodName)) hown (mvT hZ (own_w hw 62)) (mvT hZ (own_w hw 63)) (notFace_of_selects (args := #[]) (mvT hZ (own_w hw 65))) (mvT hZ (own_w hw 65)) (mvT hZ (own_w hw 64)) (by decide) (backOf (W := 0) (rmZBITS l Z a0 hw [] fb77 uu fo77 kb77 (3 : Int32) [(.int (0 : Int32)), (.int (0 : Int32)), (.int (0 : Int32))] wBOOLEAN wINTEGER wBITS wOCTETS wNULL wOBJECT_IDENTIFIER wTEXT wCOMPONENTS wELEMENTS wCHOICE wELEMENT cs wD kD wC clC T77.heap n0 (own_le O77) O77 HW Eq77 Fq77_u Fq77_o Vq77) hZ (own_w hw 66) (own_w hw 3) (by decide) (by decide)) q78a q78c (g := (mkF m 422 #[.val (.int p0), .val (.int p1), .val (.int p2), .val (.ref b21), .val (.int (2 : Int32)), .val (.ref wBITS), .val (.int (1 : Int32)), .val (.int (3 : Int32)), .val (.ref fb77), .val (.long (((8 : Int64) * ((3 : Int32).toInt64)) - (uu.toInt64))), .second, .val (.int uu), .unset, .unset, .unset] [(.ref fb77), (.ref wBITS)])) rfl (by rw [hml]; rfl) (Steps.refl _) (argsL := [(.ref fb77)]) (rest := []) (lenOf pd_23 rfl) rfl (by show 2 * 0 + _ ≤ _; exact Nat.le_of_eq rfl) (hb hby at_422) (fun _ _ => ⟨rfl, rfl, (by decide : 4 + 0 ≤ _), (by decide : 19 + 0 ≤ _)⟩)
      dsimp only [Pt.U, Pt.locs, Pt.cells, Pt.slots] at X78 l78 y78 z78 st78 hQ78
      subst l78 y78 z78
      obtain ⟨rfl, N78q, e78⟩ := hQ78
      have N78 := Fr.app N77 N78q
      refine own_by (W' := (T78.setTop (mkF m 427 #[.val (.int p0), .val (.int p1), .val (.int p2), .val (.ref b21), .val (.int (2 : Int32)), .val (.ref wBITS), .val (.int (1 : Int32)), .val (.int (3 : Int32)), .val (.ref fb77), .val (.long (((8 : Int64) * ((3 : Int32).toInt64)) - (uu.toInt64))), .second, .val (.int uu), .unset, .unset, .unset] [(.long (((8 : Int64) * ((3 : Int32).toInt64)) - (uu.toInt64))), (.long ((((3 : Int32).toInt64) * (8 : Int64)) - (uu.toInt64)))]))) (fun t k => XS.lstore X77.here hx rfl (hb hby at_192) rfl (l' := #[.val (.int p0), .val (.int p1), .val (.int p2), .val (.ref b21), .val (.int (2 : Int32)), .val (.ref wBITS), .val (.int (1 : Int32)), .val (.int (3 : Int32)), .val (.ref fb77), .val (.long (((8 : Int64) * ((3 : Int32).toInt64)) - (uu.toInt64))), .second, .val (.int uu), .unset, .unset, .unset]) rfl (XS.goto X77.here hx rfl (pc0 := 194) (pc' := 418) rfl (hb hby at_194) (by decide) (by decide) (XS.aload X77.here hx rfl (hb hby at_418) rfl rfl (XS.aload X77.here hx rfl (hb hby at_420) rfl rfl (Steps.trans st78 (XS.lload X78.here hx rfl (hb hby at_425) rfl k)))))) ?_
      have ho79 : ((((3 : Int32).toInt64) * (8 : Int64)) - (uu.toInt64)) = (((8 : Int64) * ((3 : Int32).toInt64)) - (uu.toInt64)) := by rw [Int64.mul_comm]
      obtain ⟨fs, hr, hrun, hended, hEnd⟩ := Jvm.Stand.leaveW (s := s) (vm₁ := s.vm) X78 hS0 (by rw [e78]; exact (Nat.le_trans (Nat.le_trans (Nat.le_trans (Nat.le_trans (Nat.le_trans (Nat.le_trans (Nat.le_trans (Nat.le_trans (Nat.le_trans (Nat.le_trans (Nat.le_trans (Nat.le_trans (Nat.le_trans (Nat.le_trans (Nat.le_refl _) E21.1) (Keep.of_wr W24).1) (Keep.of_wr W27).1) (Keep.of_wr W30).1) (Keep.of_wr W33).1) (Keep.of_wr W36).1) (Keep.of_wr W39).1) (Keep.of_wr W42).1) (Keep.of_wr W45).1) (Keep.of_wr W48).1) (Keep.of_wr W51).1) (Keep.of_wr W54).1) E76.1) Kq77.1)) (v := some (.int (1 : Int32))) (fun h => by rw [Bd.returns] at h; cases h)
      refine own_by (W' := (T78.setTop (mkF m 436 #[.val (.int p0), .val (.int p1), .val (.int p2), .val (.ref b21), .val (.int (2 : Int32)), .val (.ref wBITS), .val (.int (1 : Int32)), .val (.int (3 : Int32)), .val (.ref fb77), .val (.long (((8 : Int64) * ((3 : Int32).toInt64)) - (uu.toInt64))), .second, .val (.int uu), .unset, .unset, .unset] [(.int (1 : Int32))]))) (fun t k => XS.lcmp X78.here hx rfl (hb hby at_427) rfl (XS.ifNo X78.here hx rfl (hb hby at_428) rfl (own_lceq ho79).2 (XS.iconst X78.here hx rfl (hb hby at_431) (XS.goto X78.here hx rfl (pc0 := 432) (pc' := 436) rfl (hb hby at_432) (by decide) (by decide) k)))) ?_
      refine ⟨_, _, retOut X78 hx Bd.returns rfl (Or.inl ⟨rfl, Or.inr (Or.inl rfl), _, rfl⟩) (hb hby at_436) hr, hrun, hended, _, _, rfl, ?_, (by rw [hh]; show CHr Z consts_1 s.vm h0 T78.vm T78.heap; rw [e78]; exact CHr.trans C77 (CHv.at (s := s) (vm0 := s.vm) X78 hZ (own_EW hw) C77.1)), hEnd.1, hEnd.2.1, hEnd.2.2.1, hEnd.2.2.2.mono (by decide) (by decide)⟩
      exact ⟨rfl, N78⟩
  ·
    rw [hs]
    obtain ⟨clu80, Aru80, qu80, Su80, Ngu80, Hau80, Gau80⟩ := id Vu53
    have hinu80 : ¬ ((3 : Int32) < 0 ∨ clu80.slots.size ≤ ((3 : Int32)).toNatClampNeg) := inb_of Su80 ⟨by decide, by decide⟩
    have hatu80 : clu80.slots[((3 : Int32)).toNatClampNeg]? = some (.ref wOCTETS) := Has.at Hau80 hinu80 rfl
    refine own_by (W' := (T54.setTop (mkF m 94 #[.val (.int p0), .val (.int p1), .val (.int p2), .val (.ref b21), .val (.int (3 : Int32)), .val (.ref wOCTETS), .unset, .unset, .unset, .unset, .unset, .unset, .unset, .unset, .unset] [(.int (3 : Int32))]))) (fun t k => XS.istore X54.here hx rfl (hb hby at_84) rfl (l' := #[.val (.int p0), .val (.int p1), .val (.int p2), .val (.ref b21), .val (.int (3 : Int32)), .unset, .unset, .unset, .unset, .unset, .unset, .unset, .unset, .unset, .unset]) rfl (XS.aloadN X54.here hx rfl (hb hby at_86) rfl rfl (XS.iload X54.here hx rfl (hb hby at_87) rfl ((X54.aaload hx (j := (3 : Int32)) (v := (.ref wOCTETS)) (by rw [e54]; exact Aru80.1) (State.isArrayOf_alike hZ.alike Aru80.2.1) rfl Aru80.2.2 hinu80 hatu80 (g := (mkF m 89 #[.val (.int p0), .val (.int p1), .val (.int p2), .val (.ref b21), .val (.int (3 : Int32)), .unset, .unset, .unset, .unset, .unset, .unset, .unset, .unset, .unset, .unset] [(.int (3 : Int32)), (.ref b21)])) rfl rfl (hb hby at_89)) _ (XS.astore X54.here hx rfl (hb hby at_90) rfl rfl (l' := #[.val (.int p0), .val (.int p1), .val (.int p2), .val (.ref b21), .val (.int (3 : Int32)), .val (.ref wOCTETS), .unset, .unset, .unset, .unset, .unset, .unset, .unset, .unset, .unset]) rfl (XS.iload X54.here hx rfl (hb hby at_92) rfl k)))))) ?_
    refine own_by (W' := (T54.setTop (mkF m 119 #[.val (.int p0), .val (.int p1), .val (.int p2), .val (.ref b21), .val (.int (3 : Int32)), .val (.ref wOCTETS), .unset, .unset, .unset, .unset, .unset, .unset, .unset, .unset, .unset] [(.int (1 : Int32))]))) (fun t k => XS.iconst X54.here hx rfl (hb hby at_94) (XS.icmpNo X54.here hx rfl (hb hby at_95) rfl (feq (by decide : ¬ ((3 : Int32) = (2 : Int32)))).1 (XS.iload X54.here hx rfl (hb hby at_98) rfl (XS.iconst X54.here hx rfl (hb hby at_100) (XS.icmpYes X54.here hx rfl (pc0 := 101) (pc' := 118) rfl (hb hby at_101) rfl (teq (rfl : (3 : Int32) = (3 : Int32))).1 (by decide) (by decide) (XS.iconst X54.here hx rfl (hb hby at_118) k)))))) ?_
    obtain ⟨cq81, kq81, q81a, q81b, q81c⟩ := isOf hZ e54 (HW.2.2.2.2.2.2.2.2.2.2.1.ext O54.2)
    obtain ⟨_, _, ⟨T81, L81, k81, n81⟩, -, X81, ⟨Lc81, hQ81, l81, y81, z81⟩, st81⟩ := X54.virtualBack hx (y := (⟨"com/example/tagwright/tagwright/typed/Form", "isSized", "()Z"⟩ : MethodName)) (z := (⟨"com/example/tagwright/tagwright/typed/Form", "isSized", "()Z"⟩ : MethodName)) hown (mvT hZ (own_w hw 27)) (mvT hZ (own_w hw 28)) (notFace_of_selects (args := #[]) (mvT hZ (own_w hw 30))) (mvT hZ (own_w hw 30)) (mvT hZ (own_w hw 29)) (by decide) (backOf (W := 0) (rm1 l Z a0 hw [] wOCTETS wBOOLEAN wINTEGER wBITS wOCTETS wNULL wOBJECT_IDENTIFIER wTEXT wCOMPONENTS wELEMENTS wCHOICE wELEMENT cs wD kD wC clC h54 n0 (own_le O54) O54 HW) hZ (own_w hw 31) (own_w hw 3) (by decide) (by decide)) q81a q81c (g := (mkF m 127 #[.val (.int p0), .val (.int p1), .val (.int p2), .val (.ref b21), .val (.int (3 : Int32)), .val (.ref wOCTETS), .val (.int (1 : Int32)), .unset, .unset, .unset, .unset, .unset, .unset, .unset, .unset] [(.ref wOCTETS)])) rfl (by rw [hml]; rfl) (Steps.refl _) (argsL := []) (rest := []) (lenOf pd_7 rfl) rfl (by show 2 * 0 + _ ≤ _; exact Nat.le_of_eq rfl) (hb hby at_127) (fun _ _ => ⟨rfl, e54, (by decide : 1 + 0 ≤ _), (by decide : 11 + 0 ≤ _)⟩)
    dsimp only [Pt.U, Pt.locs, Pt.cells, Pt.slots] at X81 l81 y81 z81 st81 hQ81
    subst l81 y81 z81
    obtain ⟨rfl, N81q, e81⟩ := hQ81
    have N81 := Fr.app N54 N81q
    have ho82 : (F1 wOCTETS wBOOLEAN wINTEGER wBITS wOCTETS wNULL wOBJECT_IDENTIFIER wTEXT wCOMPONENTS wELEMENTS wCHOICE wELEMENT cs wD kD wC clC) = (1 : Int32) := by rw [F1, if_neg (Fld.ne (HW.2.2.2.2.2.2.2.2.2.2.2.1) (HW.2.2.2.2.2.2.2.2.1) (by decide)), if_pos rfl]
    refine own_by (W' := (T81.setTop (mkF m 137 #[.val (.int p0), .val (.int p1), .val (.int p2), .val (.ref b21), .val (.int (3 : Int32)), .val (.ref wOCTETS), .val (.int (1 : Int32)), .unset, .unset, .unset, .unset, .unset, .unset, .unset, .unset] []))) (fun t k => XS.goto X54.here hx rfl (pc0 := 119) (pc' := 123) rfl (hb hby at_119) (by decide) (by decide) (XS.istore X54.here hx rfl (hb hby at_123) rfl (l' := #[.val (.int p0), .val (.int p1), .val (.int p2), .val (.ref b21), .val (.int (3 : Int32)), .val (.ref wOCTETS), .val (.int (1 : Int32)), .unset, .unset, .unset, .unset, .unset, .unset, .unset, .unset]) rfl (XS.aload X54.here hx rfl (hb hby at_125) rfl rfl (Steps.trans st81 (XS.iload X81.here hx rfl (hb hby at_130) rfl (XS.icmpYes X81.here hx rfl (pc0 := 132) (pc' := 137) rfl (hb hby at_132) rfl (teq ho82).1 (by decide) (by decide) k)))))) ?_
    refine own_by (W' := (T81.setTop (mkF m 147 #[.val (.int p0), .val (.int p1), .val (.int p2), .val (.ref b21), .val (.int (3 : Int32)), .val (.ref wOCTETS), .val (.int (1 : Int32)), .unset, .unset, .unset, .unset, .unset, .unset, .unset, .unset] [(.int (p1 &&& (3 : Int32)))]))) (fun t k => XS.iload X81.here hx rfl (hb hby at_137) rfl (XS.ifYes X81.here hx rfl (pc0 := 139) (pc' := 144) rfl (hb hby at_139) rfl ((if0 _ _).trans (feq (by decide : ¬ ((1 : Int32) = (0 : Int32)))).2) (by decide) (by decide) (XS.iloadN X81.here hx rfl (hb hby at_144) rfl (XS.iconst X81.here hx rfl (hb hby at_145) (XS.iand X81.here hx rfl (hb hby at_146) rfl k))))) ?_
    rcases own_and3 p1 with hs | hs | hs | hs
    ·
      rw [hs]
      refine own_by (W' := (T81.setTop (mkF m 200 #[.val (.int p0), .val (.int p1), .val (.int p2), .val (.ref b21), .val (.int (3 : Int32)), .val (.ref wOCTETS), .val (.int (1 : Int32)), .val (.int (0 : Int32)), .unset, .unset, .unset, .unset, .unset, .unset, .unset] [(.int (3 : Int32)), (.int (3 : Int32))]))) (fun t k => XS.istore X81.here hx rfl (hb hby at_147) rfl (l' := #[.val (.int p0), .val (.int p1), .val (.int p2), .val (.ref b21), .val (.int (3 : Int32)), .val (.ref wOCTETS), .val (.int (1 : Int32)), .val (.int (0 : Int32)), .unset, .unset, .unset, .unset, .unset, .unset, .unset]) rfl (XS.iload X81.here hx rfl (hb hby at_149) rfl (XS.iconst X81.here hx rfl (hb hby at_151) (XS.icmpYes X81.here hx rfl (pc0 := 152) (pc' := 197) rfl (hb hby at_152) rfl (feq (by decide : ¬ ((3 : Int32) = (2 : Int32)))).2 (by decide) (by decide) (XS.iload X81.here hx rfl (hb hby at_197) rfl (XS.iconst X81.here hx rfl (hb hby at_199) k)))))) ?_
      obtain ⟨T83, h83, k83, X83, e83, E83, A83, Ex83, st83⟩ := newPE X81 hx hZ (own_w hw 139) e81 (g := (mkF m 205 #[.val (.int p0), .val (.int p1), .val (.int p2), .val (.ref b21), .val (.int (3 : Int32)), .val (.ref wOCTETS), .val (.int (1 : Int32)), .val (.int (0 : Int32)), .unset, .unset, .unset, .unset, .unset, .unset, .unset] [(.int (0 : Int32))])) rfl (hb hby at_205) rfl (by decide) (cap := 0) (by decide) (by decide) (by decide) (by decide) (ad := "[B") (by decide)
      obtain ⟨b83, g83⟩ : ∃ z, z = h54.size := ⟨_, rfl⟩
      rw [← g83] at A83 Ex83 st83
      have g_b83 : n0 ≤ b83 := Nat.le_trans (own_le O54) (Nat.le_of_eq g83.symm)
      have sz_b83 : h0.size ≤ b83 := Nat.le_trans K54.1 (Nat.le_of_eq g83.symm)
      have ne_b21_b83 : b21 ≠ b83 := Nat.ne_of_lt (Nat.lt_of_lt_of_le Vu53.lt (Nat.le_of_eq g83.symm))
      have Sf83_b83 : Safe Z consts_1 s.vm _ b83 := Safe.ext E83 C54.1 (Safe.new (Nat.le_of_eq g83.symm))
      have Sf83_b21 := Safe.ext E83 C54.1 Sf54_b21
      have C83 := CHr.trans C54 (CHr.ext E83 C54.1)
      have O83 := O54.ext E83
      have K83 := Keep.ext K54 E83
      have V_b83 : Arv Z h83 b83 k83 .byte (0 : Int32) [] (.int (0 : Int32)) := Arv.new A83 (by decide)
      refine own_by (W' := (T83.setTop (mkF m 212 #[.val (.int p0), .val (.int p1), .val (.int p2), .val (.ref b21), .val (.int (3 : Int32)), .val (.ref wOCTETS), .val (.int (1 : Int32)), .val (.int (0 : Int32)), .val (.ref b83), .unset, .unset, .unset, .unset, .unset, .unset] [(.long ((0 : Int32).toInt64))]))) (fun t k => XS.icmpNo X81.here hx rfl (hb hby at_200) rfl (teq (rfl : (3 : Int32) = (3 : Int32))).2 (XS.iload X81.here hx rfl (hb hby at_203) rfl (st83 _ (XS.astore X83.here hx rfl (hb hby at_207) rfl rfl (l' := #[.val (.int p0), .val (.int p1), .val (.int p2), .val (.ref b21), .val (.int (3 : Int32)), .val (.ref wOCTETS), .val (.int (1 : Int32)), .val (.int (0 : Int32)), .val (.ref b83), .unset, .unset, .unset, .unset, .unset, .unset]) rfl (XS.iload X83.here hx rfl (hb hby at_209) rfl (XS.i2l X83.here hx rfl (hb hby at_211) rfl k)))))) ?_
      obtain ⟨cq84, kq84, q84a, q84b, q84c⟩ := isOf hZ e83 (HW.2.2.2.2.2.2.2.2.2.2.1.ext O83.2)
      obtain ⟨_, _, ⟨T84, L84, k84, n84⟩, -, X84, ⟨Lc84, hQ84, l84, y84, z84⟩, st84⟩ := X83.virtualBack hx (y := (⟨"com/example/tagwright/tagwright/typed/Form", "sizeOf", "(Ljava/lang/Object;)J"⟩ : MethodName)) (z := (⟨"com/example/tagwright/tagwright/typed/Form", "sizeOf", "(Ljava/lang/Object;)J"⟩ : MethodName)) hown (mvT hZ (own_w hw 62)) (mvT hZ (own_w hw 63)) (notFace_of_selects (args := #[]) (mvT hZ (own_w hw 65))) (mvT hZ (own_w hw 65)) (mvT hZ (own_w hw 64)) (by decide) (backOf (W := 0) (rmZOCTETS l Z a0 hw [] b83 k83 (0 : Int32) [] wBOOLEAN wINTEGER wBITS wOCTETS wNULL wOBJECT_IDENTIFIER wTEXT wCOMPONENTS wELEMENTS wCHOICE wELEMENT cs wD kD wC clC h83 n0 (own_le O83) O83 HW Ex83 V_b83) hZ (own_w hw 66) (own_w hw 3) (by decide) (by decide)) q84a q84c (g := (mkF m 422 #[.val (.int p0), .val (.int p1), .val (.int p2), .val (.ref b21), .val (.int (3 : Int32)), .val (.ref wOCTETS), .val (.int (1 : Int32)), .val (.int (0 : Int32)), .val (.ref b83), .val (.long ((0 : Int32).toInt64)), .second, .unset, .unset, .unset, .unset] [(.ref b83), (.ref wOCTETS)])) rfl (by rw [hml]; rfl) (Steps.refl _) (argsL := [(.ref b83)]) (rest := []) (lenOf pd_23 rfl) rfl (by show 2 * 0 + _ ≤ _; exact Nat.le_of_eq rfl) (hb hby at_422) (fun _ _ => ⟨rfl, e83, (by decide : 2 + 0 ≤ _), (by decide : 11 + 0 ≤ _)⟩)
      dsimp only [Pt.U, Pt.locs, Pt.cells, Pt.slots] at X84 l84 y84 z84 st84 hQ84
      subst l84 y84 z84
      obtain ⟨rfl, N84q, e84⟩ := hQ84
      have N84 := Fr.app N81 N84q
      refine own_by (W' := (T84.setTop (mkF m 427 #[.val (.int p0), .val (.int p1), .val (.int p2), .val (.ref b21), .val (.int (3 : Int32)), .val (.ref wOCTETS), .val (.int (1 : Int32)), .val (.int (0 : Int32)), .val (.ref b83), .val (.long ((0 : Int32).toInt64)), .second, .unset, .unset, .unset, .unset] [(.long ((0 : Int32).toInt64)), (.long ((0 : Int32).toInt64))]))) (fun t k => XS.lstore X83.here hx rfl (hb hby at_212) rfl (l' := #[.val (.int p0), .val (.int p1), .val (.int p2), .val (.ref b21), .val (.int (3 : Int32)), .val (.ref wOCTETS), .val (.int (1 : Int32)), .val (.int (0 : Int32)), .val (.ref b83), .val (.long ((0 : Int32).toInt64)), .second, .unset, .unset, .unset, .unset]) rfl (XS.goto X83.here hx rfl (pc0 := 214) (pc' := 418) rfl (hb hby at_214) (by decide) (by decide) (XS.aload X83.here hx rfl (hb hby at_418) rfl rfl (XS.aload X83.here hx rfl (hb hby at_420) rfl rfl (Steps.trans st84 (XS.lload X84.here hx rfl (hb hby at_425) rfl k)))))) ?_
      obtain ⟨fs, hr, hrun, hended, hEnd⟩ := Jvm.Stand.leaveW (s := s) (vm₁ := s.vm) X84 hS0 (by rw [e84]; exact (Nat.le_trans (Nat.le_trans (Nat.le_trans (Nat.le_trans (Nat.le_trans (Nat.le_trans (Nat.le_trans (Nat.le_trans (Nat.le_trans (Nat.le_trans (Nat.le_trans (Nat.le_trans (Nat.le_trans (Nat.le_refl _) E21.1) (Keep.of_wr W24).1) (Keep.of_wr W27).1) (Keep.of_wr W30).1) (Keep.of_wr W33).1) (Keep.of_wr W36).1) (Keep.of_wr W39).1) (Keep.of_wr W42).1) (Keep.of_wr W45).1) (Keep.of_wr W48).1) (Keep.of_wr W51).1) (Keep.of_wr W54).1) E83.1)) (v := some (.int (1 : Int32))) (fun h => by rw [Bd.returns] at h; cases h)
      refine own_by (W' := (T84.setTop (mkF m 436 #[.val (.int p0), .val (.int p1), .val (.int p2), .val (.ref b21), .val (.int (3 : Int32)), .val (.ref wOCTETS), .val (.int (1 : Int32)), .val (.int (0 : Int32)), .val (.ref b83), .val (.long ((0 : Int32).toInt64)), .second, .unset, .unset, .unset, .unset] [(.int (1 : Int32))]))) (fun t k => XS.lcmp X84.here hx rfl (hb hby at_427) rfl (XS.ifNo X84.here hx rfl (hb hby at_428) rfl (own_lceq (rfl : ((0 : Int32).toInt64) = ((0 : Int32).toInt64))).2 (XS.iconst X84.here hx rfl (hb hby at_431) (XS.goto X84.here hx rfl (pc0 := 432) (pc' := 436) rfl (hb hby at_432) (by decide) (by decide) k)))) ?_
      refine ⟨_, _, retOut X84 hx Bd.returns rfl (Or.inl ⟨rfl, Or.inr (Or.inl rfl), _, rfl⟩) (hb hby at_436) hr, hrun, hended, _, _, rfl, ?_, (by rw [hh]; show CHr Z consts_1 s.vm h0 T84.vm T84.heap; rw [e84]; exact CHr.trans C83 (CHv.at (s := s) (vm0 := s.vm) X84 hZ (own_EW hw) C83.1)), hEnd.1, hEnd.2.1, hEnd.2.2.1, hEnd.2.2.2.mono (by decide) (by decide)⟩
      exact ⟨rfl, N84⟩
    ·
      rw [hs]
      refine own_by (W' := (T81.setTop (mkF m 200 #[.val (.int p0), .val (.int p1), .val (.int p2), .val (.ref b21), .val (.int (3 : Int32)), .val (.ref wOCTETS), .val (.int (1 : Int32)), .val (.int (1 : Int32)), .unset, .unset, .unset, .unset, .unset, .unset, .unset] [(.int (3 : Int32)), (.int (3 : Int32))]))) (fun t k => XS.istore X81.here hx rfl (hb hby at_147) rfl (l' := #[.val (.int p0), .val (.int p1), .val (.int p2), .val (.ref b21), .val (.int (3 : Int32)), .val (.ref wOCTETS), .val (.int (1 : Int32)), .val (.int (1 : Int32)), .unset, .unset, .unset, .unset, .unset, .unset, .unset]) rfl (XS.iload X81.here hx rfl (hb hby at_149) rfl (XS.iconst X81.here hx rfl (hb hby at_151) (XS.icmpYes X81.here hx rfl (pc0 := 152) (pc' := 197) rfl (hb hby at_152) rfl (feq (by decide : ¬ ((3 : Int32) = (2 : Int32)))).2 (by decide) (by decide) (XS.iload X81.here hx rfl (hb hby at_197) rfl (XS.iconst X81.here hx rfl (hb hby at_199) k)))))) ?_
      obtain ⟨T85, h85, k85, X85, e85, E85, A85, Ex85, st85⟩ := newPE X81 hx hZ (own_w hw 139) e81 (g := (mkF m 205 #[.val (.int p0), .val (.int p1), .val (.int p2), .val (.ref b21), .val (.int (3 : Int32)), .val (.ref wOCTETS), .val (.int (1 : Int32)), .val (.int (1 : Int32)), .unset, .unset, .unset, .unset, .unset, .unset, .unset] [(.int (1 : Int32))])) rfl (hb hby at_205) rfl (by decide) (cap := 1) (by decide) (by decide) (by decide) (by decide) (ad := "[B") (by decide)
      obtain ⟨b85, g85⟩ : ∃ z, z = h54.size := ⟨_, rfl⟩
      rw [← g85] at A85 Ex85 st85
      have g_b85 : n0 ≤ b85 := Nat.le_trans (own_le O54) (Nat.le_of_eq g85.symm)
      have sz_b85 : h0.size ≤ b85 := Nat.le_trans K54.1 (Nat.le_of_eq g85.symm)
      have ne_b21_b85 : b21 ≠ b85 := Nat.ne_of_lt (Nat.lt_of_lt_of_le Vu53.lt (Nat.le_of_eq g85.symm))
      have Sf85_b85 : Safe Z consts_1 s.vm _ b85 := Safe.ext E85 C54.1 (Safe.new (Nat.le_of_eq g85.symm))
      have Sf85_b21 := Safe.ext E85 C54.1 Sf54_b21
      have C85 := CHr.trans C54 (CHr.ext E85 C54.1)
      have O85 := O54.ext E85
      have K85 := Keep.ext K54 E85
      have V_b85 : Arv Z h85 b85 k85 .byte (1 : Int32) [(.int (0 : Int32))] (.int (0 : Int32)) := (Arv.new A85 (by decide)).pad (pad_rep [] (.int (0 : Int32)) 1)
      refine own_by (W' := (T85.setTop (mkF m 212 #[.val (.int p0), .val (.int p1), .val (.int p2), .val (.ref b21), .val (.int (3 : Int32)), .val (.ref wOCTETS), .val (.int (1 : Int32)), .val (.int (1 : Int32)), .val (.ref b85), .unset, .unset, .unset, .unset, .unset, .unset] [(.long ((1 : Int32).toInt64))]))) (fun t k => XS.icmpNo X81.here hx rfl (hb hby at_200) rfl (teq (rfl : (3 : Int32) = (3 : Int32))).2 (XS.iload X81.here hx rfl (hb hby at_203) rfl (st85 _ (XS.astore X85.here hx rfl (hb hby at_207) rfl rfl (l' := #[.val (.int p0), .val (.int p1), .val (.int p2), .val (.ref b21), .val (.int (3 : Int32)), .val (.ref wOCTETS), .val (.int (1 : Int32)), .val (.int (1 : Int32)), .val (.ref b85), .unset, .unset, .unset, .unset, .unset, .unset]) rfl (XS.iload X85.here hx rfl (hb hby at_209) rfl (XS.i2l X85.here hx rfl (hb hby at_211) rfl k)))))) ?_
      obtain ⟨cq86, kq86, q86a, q86b, q86c⟩ := isOf hZ e85 (HW.2.2.2.2.2.2.2.2.2.2.1.ext O85.2)
      obtain ⟨_, _, ⟨T86, L86, k86, n86⟩, -, X86, ⟨Lc86, hQ86, l86, y86, z86⟩, st86⟩ := X85.virtualBack hx (y := (⟨"com/example/tagwright/tagwright/typed/Form", "sizeOf", "(Ljava/lang/Object;)J"⟩ : MethodName)) (z := (⟨"com/example/tagwright/tagwright/typed/Form", "sizeOf", "(Ljava/lang/Object;)J"⟩ : MethodName)) hown (mvT hZ (own_w hw 62)) (mvT hZ (own_w hw 63)) (notFace_of_selects (args := #[]) (mvT hZ (own_w hw 65))) (mvT hZ (own_w hw 65)) (mvT hZ (own_w hw 64)) (by decide) (backOf (W := 0) (rmZOCTETS l Z a0 hw [] b85 k85 (1 : Int32) [(.int (0 : Int32))] wBOOLEAN wINTEGER wBITS wOCTETS wNULL wOBJECT_IDENTIFIER wTEXT wCOMPONENTS wELEMENTS wCHOICE wELEMENT cs wD kD wC clC h85 n0 (own_le O85) O85 HW Ex85 V_b85) hZ (own_w hw 66) (own_w hw 3) (by decide) (by decide)) q86a q86c (g := (mkF m 422 #[.val (.int p0), .val (.int p1), .val (.int p2), .val (.ref b21), .val (.int (3 : Int32)), .val (.ref wOCTETS), .val (.int (1 : Int32)), .val (.int (1 : Int32)), .val (.ref b85), .val (.long ((1 : Int32).toInt64)), .second, .unset, .unset, .unset, .unset] [(.ref b85), (.ref wOCTETS)])) rfl (by rw [hml]; rfl) (Steps.refl _) (argsL := [(.ref b85)]) (rest := []) (lenOf pd_23 rfl) rfl (by show 2 * 0 + _ ≤ _; exact Nat.le_of_eq rfl) (hb hby at_422) (fun _ _ => ⟨rfl, e85, (by decide : 2 + 0 ≤ _), (by decide : 12 + 0 ≤ _)⟩)
      dsimp only [Pt.U, Pt.locs, Pt.cells, Pt.slots] at X86 l86 y86 z86 st86 hQ86
      subst l86 y86 z86
      obtain ⟨rfl, N86q, e86⟩ := hQ86
      have N86 := Fr.app N81 N86q
      refine own_by (W' := (T86.setTop (mkF m 427 #[.val (.int p0), .val (.int p1), .val (.int p2), .val (.ref b21), .val (.int (3 : Int32)), .val (.ref wOCTETS), .val (.int (1 : Int32)), .val (.int (1 : Int32)), .val (.ref b85), .val (.long ((1 : Int32).toInt64)), .second, .unset, .unset, .unset, .unset] [(.long ((1 : Int32).toInt64)), (.long ((1 : Int32).toInt64))]))) (fun t k => XS.lstore X85.here hx rfl (hb hby at_212) rfl (l' := #[.val (.int p0), .val (.int p1), .val (.int p2), .val (.ref b21), .val (.int (3 : Int32)), .val (.ref wOCTETS), .val (.int (1 : Int32)), .val (.int (1 : Int32)), .val (.ref b85), .val (.long ((1 : Int32).toInt64)), .second, .unset, .unset, .unset, .unset]) rfl (XS.goto X85.here hx rfl (pc0 := 214) (pc' := 418) rfl (hb hby at_214) (by decide) (by decide) (XS.aload X85.here hx rfl (hb hby at_418) rfl rfl (XS.aload X85.here hx rfl (hb hby at_420) rfl rfl (Steps.trans st86 (XS.lload X86.here hx rfl (hb hby at_425) rfl k)))))) ?_
      obtain ⟨fs, hr, hrun, hended, hEnd⟩ := Jvm.Stand.leaveW (s := s) (vm₁ := s.vm) X86 hS0 (by rw [e86]; exact (Nat.le_trans (Nat.le_trans (Nat.le_trans (Nat.le_trans (Nat.le_trans (Nat.le_trans (Nat.le_trans (Nat.le_trans (Nat.le_trans (Nat.le_trans (Nat.le_trans (Nat.le_trans (Nat.le_trans (Nat.le_refl _) E21.1) (Keep.of_wr W24).1) (Keep.of_wr W27).1) (Keep.of_wr W30).1) (Keep.of_wr W33).1) (Keep.of_wr W36).1) (Keep.of_wr W39).1) (Keep.of_wr W42).1) (Keep.of_wr W45).1) (Keep.of_wr W48).1) (Keep.of_wr W51).1) (Keep.of_wr W54).1) E85.1)) (v := some (.int (1 : Int32))) (fun h => by rw [Bd.returns] at h; cases h)
      refine own_by (W' := (T86.setTop (mkF m 436 #[.val (.int p0), .val (.int p1), .val (.int p2), .val (.ref b21), .val (.int (3 : Int32)), .val (.ref wOCTETS), .val (.int (1 : Int32)), .val (.int (1 : Int32)), .val (.ref b85), .val (.long ((1 : Int32).toInt64)), .second, .unset, .unset, .unset, .unset] [(.int (1 : Int32))]))) (fun t k => XS.lcmp X86.here hx rfl (hb hby at_427) rfl (XS.ifNo X86.here hx rfl (hb hby at_428) rfl (own_lceq (rfl : ((1 : Int32).toInt64) = ((1 : Int32).toInt64))).2 (XS.iconst X86.here hx rfl (hb hby at_431) (XS.goto X86.here hx rfl (pc0 := 432) (pc' := 436) rfl (hb hby at_432) (by decide) (by decide) k)))) ?_
      refine ⟨_, _, retOut X86 hx Bd.returns rfl (Or.inl ⟨rfl, Or.inr (Or.inl rfl), _, rfl⟩) (hb hby at_436) hr, hrun, hended, _, _, rfl, ?_, (by rw [hh]; show CHr Z consts_1 s.vm h0 T86.vm T86.heap; rw [e86]; exact CHr.trans C85 (CHv.at (s := s) (vm0 := s.vm) X86 hZ (own_EW hw) C85.1)), hEnd.1, hEnd.2.1, hEnd.2.2.1, hEnd.2.2.2.mono (by decide) (by decide)⟩
      exact ⟨rfl, N86⟩
    ·
      rw [hs]
      refine own_by (W' := (T81.setTop (mkF m 200 #[.val (.int p0), .val (.int p1), .val (.int p2), .val (.ref b21), .val (.int (3 : Int32)), .val (.ref wOCTETS), .val (.int (1 : Int32)), .val (.int (2 : Int32)), .unset, .unset, .unset, .unset, .unset, .unset, .unset] [(.int (3 : Int32)), (.int (3 : Int32))]))) (fun t k => XS.istore X81.here hx rfl (hb hby at_147) rfl (l' := #[.val (.int p0), .val (.int p1), .val (.int p2), .val (.ref b21), .val (.int (3 : Int32)), .val (.ref wOCTETS), .val (.int (1 : Int32)), .val (.int (2 : Int32)), .unset, .unset, .unset, .unset, .unset, .unset, .unset]) rfl (XS.iload X81.here hx rfl (hb hby at_149) rfl (XS.iconst X81.here hx rfl (hb hby at_151) (XS.icmpYes X81.here hx rfl (pc0 := 152) (pc' := 197) rfl (hb hby at_152) rfl (feq (by decide : ¬ ((3 : Int32) = (2 : Int32)))).2 (by decide) (by decide) (XS.iload X81.here hx rfl (hb hby at_197) rfl (XS.iconst X81.here hx rfl (hb hby at_199) k)))))) ?_
      obtain ⟨T87, h87, k87, X87, e87, E87, A87, Ex87, st87⟩ := newPE X81 hx hZ (own_w hw 139) e81 (g := (mkF m 205 #[.val (.int p0), .val (.int p1), .val (.int p2), .val (.ref b21), .val (.int (3 : Int32)), .val (.ref wOCTETS), .val (.int (1 : Int32)), .val (.int (2 : Int32)), .unset, .unset, .unset, .unset, .unset, .unset, .unset] [(.int (2 : Int32))])) rfl (hb hby at_205) rfl (by decide) (cap := 2) (by decide) (by decide) (by decide) (by decide) (ad := "[B") (by decide)
      obtain ⟨b87, g87⟩ : ∃ z, z = h54.size := ⟨_, rfl⟩
      rw [← g87] at A87 Ex87 st87
      have g_b87 : n0 ≤ b87 := Nat.le_trans (own_le O54) (Nat.le_of_eq g87.symm)
      have sz_b87 : h0.size ≤ b87 := Nat.le_trans K54.1 (Nat.le_of_eq g87.symm)
      have ne_b21_b87 : b21 ≠ b87 := Nat.ne_of_lt (Nat.lt_of_lt_of_le Vu53.lt (Nat.le_of_eq g87.symm))
      have Sf87_b87 : Safe Z consts_1 s.vm _ b87 := Safe.ext E87 C54.1 (Safe.new (Nat.le_of_eq g87.symm))
      have Sf87_b21 := Safe.ext E87 C54.1 Sf54_b21
      have C87 := CHr.trans C54 (CHr.ext E87 C54.1)
      have O87 := O54.ext E87
      have K87 := Keep.ext K54 E87
      have V_b87 : Arv Z h87 b87 k87 .byte (2 : Int32) [(.int (0 : Int32)), (.int (0 : Int32))] (.int (0 : Int32)) := (Arv.new A87 (by decide)).pad (pad_rep [] (.int (0 : Int32)) 2)
      refine own_by (W' := (T87.setTop (mkF m 212 #[.val (.int p0), .val (.int p1), .val (.int p2), .val (.ref b21), .val (.int (3 : Int32)), .val (.ref wOCTETS), .val (.int (1 : Int32)), .val (.int (2 : Int32)), .val (.ref b87), .unset, .unset, .unset, .unset, .unset, .unset] [(.long ((2 : Int32).toInt64))]))) (fun t k => XS.icmpNo X81.here hx rfl (hb hby at_200) rfl (teq (rfl : (3 : Int32) = (3 : Int32))).2 (XS.iload X81.here hx rfl (hb hby at_203) rfl (st87 _ (XS.astore X87.here hx rfl (hb hby at_207) rfl rfl (l' := #[.val (.int p0), .val (.int p1), .val (.int p2), .val (.ref b21), .val (.int (3 : Int32)), .val (.ref wOCTETS), .val (.int (1 : Int32)), .val (.int (2 : Int32)), .val (.ref b87), .unset, .unset, .unset, .unset, .unset, .unset]) rfl (XS.iload X87.here hx rfl (hb hby at_209) rfl (XS.i2l X87.here hx rfl (hb hby at_211) rfl k)))))) ?_
      obtain ⟨cq88, kq88, q88a, q88b, q88c⟩ := isOf hZ e87 (HW.2.2.2.2.2.2.2.2.2.2.1.ext O87.2)
      obtain ⟨_, _, ⟨T88, L88, k88, n88⟩, -, X88, ⟨Lc88, hQ88, l88, y88, z88⟩, st88⟩ := X87.virtualBack hx (y := (⟨"com/example/tagwright/tagwright/typed/Form", "sizeOf", "(Ljava/lang/Object;)J"⟩ : MethodName)) (z := (⟨"com/example/tagwright/tagwright/typed/Form", "sizeOf", "(Ljava/lang/Object;)J"⟩ : MethodName)) hown (mvT hZ (own_w hw 62)) (mvT hZ (own_w hw 63)) (notFace_of_selects (args := #[]) (mvT hZ (own_w hw 65))) (mvT hZ (own_w hw 65)) (mvT hZ (own_w hw 64)) (by decide) (backOf (W := 0) (rmZOCTETS l Z a0 hw [] b87 k87 (2 : Int32) [(.int (0 : Int32)), (.int (0 : Int32))] wBOOLEAN wINTEGER wBITS wOCTETS wNULL wOBJECT_IDENTIFIER wTEXT wCOMPONENTS wELEMENTS wCHOICE wELEMENT cs wD kD wC clC h87 n0 (own_le O87) O87 HW Ex87 V_b87) hZ (own_w hw 66) (own_w hw 3) (by decide) (by decide)) q88a q88c (g := (mkF m 422 #[.val (.int p0), .val (.int p1), .val (.int p2), .val (.ref b21), .val (.int (3 : Int32)), .val (.ref wOCTETS), .val (.int (1 : Int32)), .val (.int (2 : Int32)), .val (.ref b87), .val (.long ((2 : Int32).toInt64)), .second, .unset, .unset, .unset, .unset] [(.ref b87), (.ref wOCTETS)])) rfl (by rw [hml]; rfl) (Steps.refl _) (argsL := [(.ref b87)]) (rest := []) (lenOf pd_23 rfl) rfl (by show 2 * 0 + _ ≤ _; exact Nat.le_of_eq rfl) (hb hby at_422) (fun _ _ => ⟨rfl, e87, (by decide : 2 + 0 ≤ _), (by decide : 13 + 0 ≤ _)⟩)
      dsimp only [Pt.U, Pt.locs, Pt.cells, Pt.slots] at X88 l88 y88 z88 st88 hQ88
      subst l88 y88 z88
      obtain ⟨rfl, N88q, e88⟩ := hQ88
      have N88 := Fr.app N81 N88q
      refine own_by (W' := (T88.setTop (mkF m 427 #[.val (.int p0), .val (.int p1), .val (.int p2), .val (.ref b21), .val (.int (3 : Int32)), .val (.ref wOCTETS), .val (.int (1 : Int32)), .val (.int (2 : Int32)), .val (.ref b87), .val (.long ((2 : Int32).toInt64)), .second, .unset, .unset, .unset, .unset] [(.long ((2 : Int32).toInt64)), (.long ((2 : Int32).toInt64))]))) (fun t k => XS.lstore X87.here hx rfl (hb hby at_212) rfl (l' := #[.val (.int p0), .val (.int p1), .val (.int p2), .val (.ref b21), .val (.int (3 : Int32)), .val (.ref wOCTETS), .val (.int (1 : Int32)), .val (.int (2 : Int32)), .val (.ref b87), .val (.long ((2 : Int32).toInt64)), .second, .unset, .unset, .unset, .unset]) rfl (XS.goto X87.here hx rfl (pc0 := 214) (pc' := 418) rfl (hb hby at_214) (by decide) (by decide) (XS.aload X87.here hx rfl (hb hby at_418) rfl rfl (XS.aload X87.here hx rfl (hb hby at_420) rfl rfl (Steps.trans st88 (XS.lload X88.here hx rfl (hb hby at_425) rfl k)))))) ?_
      obtain ⟨fs, hr, hrun, hended, hEnd⟩ := Jvm.Stand.leaveW (s := s) (vm₁ := s.vm) X88 hS0 (by rw [e88]; exact (Nat.le_trans (Nat.le_trans (Nat.le_trans (Nat.le_trans (Nat.le_trans (Nat.le_trans (Nat.le_trans (Nat.le_trans (Nat.le_trans (Nat.le_trans (Nat.le_trans (Nat.le_trans (Nat.le_trans (Nat.le_refl _) E21.1) (Keep.of_wr W24).1) (Keep.of_wr W27).1) (Keep.of_wr W30).1) (Keep.of_wr W33).1) (Keep.of_wr W36).1) (Keep.of_wr W39).1) (Keep.of_wr W42).1) (Keep.of_wr W45).1) (Keep.of_wr W48).1) (Keep.of_wr W51).1) (Keep.of_wr W54).1) E87.1)) (v := some (.int (1 : Int32))) (fun h => by rw [Bd.returns] at h; cases h)
      refine own_by (W' := (T88.setTop (mkF m 436 #[.val (.int p0), .val (.int p1), .val (.int p2), .val (.ref b21), .val (.int (3 : Int32)), .val (.ref wOCTETS), .val (.int (1 : Int32)), .val (.int (2 : Int32)), .val (.ref b87), .val (.long ((2 : Int32).toInt64)), .second, .unset, .unset, .unset, .unset] [(.int (1 : Int32))]))) (fun t k => XS.lcmp X88.here hx rfl (hb hby at_427) rfl (XS.ifNo X88.here hx rfl (hb hby at_428) rfl (own_lceq (rfl : ((2 : Int32).toInt64) = ((2 : Int32).toInt64))).2 (XS.iconst X88.here hx rfl (hb hby at_431) (XS.goto X88.here hx rfl (pc0 := 432) (pc' := 436) rfl (hb hby at_432) (by decide) (by decide) k)))) ?_
      refine ⟨_, _, retOut X88 hx Bd.returns rfl (Or.inl ⟨rfl, Or.inr (Or.inl rfl), _, rfl⟩) (hb hby at_436) hr, hrun, hended, _, _, rfl, ?_, (by rw [hh]; show CHr Z consts_1 s.vm h0 T88.vm T88.heap; rw [e88]; exact CHr.trans C87 (CHv.at (s := s) (vm0 := s.vm) X88 hZ (own_EW hw) C87.1)), hEnd.1, hEnd.2.1, hEnd.2.2.1, hEnd.2.2.2.mono (by decide) (by decide)⟩
      exact ⟨rfl, N88⟩
    ·
      rw [hs]
      refine own_by (W' := (T81.setTop (mkF m 200 #[.val (.int p0), .val (.int p1), .val (.int p2), .val (.ref b21), .val (.int (3 : Int32)), .val (.ref wOCTETS), .val (.int (1 : Int32)), .val (.int (3 : Int32)), .unset, .unset, .unset, .unset, .unset, .unset, .unset] [(.int (3 : Int32)), (.int (3 : Int32))]))) (fun t k => XS.istore X81.here hx rfl (hb hby at_147) rfl (l' := #[.val (.int p0), .val (.int p1), .val (.int p2), .val (.ref b21), .val (.int (3 : Int32)), .val (.ref wOCTETS), .val (.int (1 : Int32)), .val (.int (3 : Int32)), .unset, .unset, .unset, .unset, .unset, .unset, .unset]) rfl (XS.iload X81.here hx rfl (hb hby at_149) rfl (XS.iconst X81.here hx rfl (hb hby at_151) (XS.icmpYes X81.here hx rfl (pc0 := 152) (pc' := 197) rfl (hb hby at_152) rfl (feq (by decide : ¬ ((3 : Int32) = (2 : Int32)))).2 (by decide) (by decide) (XS.iload X81.here hx rfl (hb hby at_197) rfl (XS.iconst X81.here hx rfl (hb hby at_199) k)))))) ?_
      obtain ⟨T89, h89, k89, X89, e89, E89, A89, Ex89, st89⟩ := newPE X81 hx hZ (own_w hw 139) e81 (g := (mkF m 205 #[.val (.int p0), .val (.int p1), .val (.int p2), .val (.ref b21), .val (.int (3 : Int32)), .val (.ref wOCTETS), .val (.int (1 : Int32)), .val (.int (3 : Int32)), .unset, .unset, .unset, .unset, .unset, .unset, .unset] [(.int (3 : Int32))])) rfl (hb hby at_205) rfl (by decide) (cap := 3) (by decide) (by decide) (by decide) (by decide) (ad := "[B") (by decide)
      obtain ⟨b89, g89⟩ : ∃ z, z = h54.size := ⟨_, rfl⟩
      rw [← g89] at A89 Ex89 st89
      have g_b89 : n0 ≤ b89 := Nat.le_trans (own_le O54) (Nat.le_of_eq g89.symm)
      have sz_b89 : h0.size ≤ b89 := Nat.le_trans K54.1 (Nat.le_of_eq g89.symm)
      have ne_b21_b89 : b21 ≠ b89 := Nat.ne_of_lt (Nat.lt_of_lt_of_le Vu53.lt (Nat.le_of_eq g89.symm))
      have Sf89_b89 : Safe Z consts_1 s.vm _ b89 := Safe.ext E89 C54.1 (Safe.new (Nat.le_of_eq g89.symm))
      have Sf89_b21 := Safe.ext E89 C54.1 Sf54_b21
      have C89 := CHr.trans C54 (CHr.ext E89 C54.1)
      have O89 := O54.ext E89
      have K89 := Keep.ext K54 E89
      have V_b89 : Arv Z h89 b89 k89 .byte (3 : Int32) [(.int (0 : Int32)), (.int (0 : Int32)), (.int (0 : Int32))] (.int (0 : Int32)) := (Arv.new A89 (by decide)).pad (pad_rep [] (.int (0 : Int32)) 3)
      refine own_by (W' := (T89.setTop (mkF m 212 #[.val (.int p0), .val (.int p1), .val (.int p2), .val (.ref b21), .val (.int (3 : Int32)), .val (.ref wOCTETS), .val (.int (1 : Int32)), .val (.int (3 : Int32)), .val (.ref b89), .unset, .unset, .unset, .unset, .unset, .unset] [(.long ((3 : Int32).toInt64))]))) (fun t k => XS.icmpNo X81.here hx rfl (hb hby at_200) rfl (teq (rfl : (3 : Int32) = (3 : Int32))).2 (XS.iload X81.here hx rfl (hb hby at_203) rfl (st89 _ (XS.astore X89.here hx rfl (hb hby at_207) rfl rfl (l' := #[.val (.int p0), .val (.int p1), .val (.int p2), .val (.ref b21), .val (.int (3 : Int32)), .val (.ref wOCTETS), .val (.int (1 : Int32)), .val (.int (3 : Int32)), .val (.ref b89), .unset, .unset, .unset, .unset, .unset, .unset]) rfl (XS.iload X89.here hx rfl (hb hby at_209) rfl (XS.i2l X89.here hx rfl (hb hby at_211) rfl k)))))) ?_
      obtain ⟨cq90, kq90, q90a, q90b, q90c⟩ := isOf hZ e89 (HW.2.2.2.2.2.2.2.2.2.2.1.ext O89.2)
      obtain ⟨_, _, ⟨T90, L90, k90, n90⟩, -, X90, ⟨Lc90, hQ90, l90, y90, z90⟩, st90⟩ := X89.virtualBack hx (y := (⟨"com/example/tagwright/tagwright/typed/Form", "sizeOf", "(Ljava/lang/Object;)J"⟩ : MethodName)) (z := (⟨"com/example/tagwright/tagwright/typed/Form", "sizeOf", "(Ljava/lang/Object;)J"⟩ : MethodName)) hown (mvT hZ (own_w hw 62)) (mvT hZ (own_w hw 63)) (notFace_of_selects (args := #[]) (mvT hZ (own_w hw 65))) (mvT hZ (own_w hw 65)) (mvT hZ (own_w hw 64)) (by decide) (backOf (W := 0) (rmZOCTETS l Z a0 hw [] b89 k89 (3 : Int32) [(.int (0 : Int32)), (.int (0 : Int32)), (.int (0 : Int32))] wBOOLEAN wINTEGER wBITS wOCTETS wNULL wOBJECT_IDENTIFIER wTEXT wCOMPONENTS wELEMENTS wCHOICE wELEMENT cs wD kD wC clC h89 n0 (own_le O89) O89 HW Ex89 V_b89) hZ (own_w hw 66) (own_w hw 3) (by decide) (by decide)) q90a q90c (g := (mkF m 422 #[.val (.int p0), .val (.int p1), .val (.int p2), .val (.ref b21), .val (.int (3 : Int32)), .val (.ref wOCTETS), .val (.int (1 : Int32)), .val (.int (3 : Int32)), .val (.ref b89), .val (.long ((3 : Int32).toInt64)), .second, .unset, .unset, .unset, .unset] [(.ref b89), (.ref wOCTETS)])) rfl (by rw [hml]; rfl) (Steps.refl _) (argsL := [(.ref b89)]) (rest := []) (lenOf pd_23 rfl) rfl (by show 2 * 0 + _ ≤ _; exact Nat.le_of_eq rfl) (hb hby at_422) (fun _ _ => ⟨rfl, e89, (by decide : 2 + 0 ≤ _), (by decide : 14 + 0 ≤ _)⟩)
      dsimp only [Pt.U, Pt.locs, Pt.cells, Pt.slots] at X90 l90 y90 z90 st90 hQ90
      subst l90 y90 z90
      obtain ⟨rfl, N90q, e90⟩ := hQ90
      have N90 := Fr.app N81 N90q
      refine own_by (W' := (T90.setTop (mkF m 427 #[.val (.int p0), .val (.int p1), .val (.int p2), .val (.ref b21), .val (.int (3 : Int32)), .val (.ref wOCTETS), .val (.int (1 : Int32)), .val (.int (3 : Int32)), .val (.ref b89), .val (.long ((3 : Int32).toInt64)), .second, .unset, .unset, .unset, .unset] [(.long ((3 : Int32).toInt64)), (.long ((3 : Int32).toInt64))]))) (fun t k => XS.lstore X89.here hx rfl (hb hby at_212) rfl (l' := #[.val (.int p0), .val (.int p1), .val (.int p2), .val (.ref b21), .val (.int (3 : Int32)), .val (.ref wOCTETS), .val (.int (1 : Int32)), .val (.int (3 : Int32)), .val (.ref b89), .val (.long ((3 : Int32).toInt64)), .second, .unset, .unset, .unset, .unset]) rfl (XS.goto X89.here hx rfl (pc0 := 214) (pc' := 418) rfl (hb hby at_214) (by decide) (by decide) (XS.aload X89.here hx rfl (hb hby at_418) rfl rfl (XS.aload X89.here hx rfl (hb hby at_420) rfl rfl (Steps.trans st90 (XS.lload X90.here hx rfl (hb hby at_425) rfl k)))))) ?_
      obtain ⟨fs, hr, hrun, hended, hEnd⟩ := Jvm.Stand.leaveW (s := s) (vm₁ := s.vm) X90 hS0 (by rw [e90]; exact (Nat.le_trans (Nat.le_trans (Nat.le_trans (Nat.le_trans (Nat.le_trans (Nat.le_trans (Nat.le_trans (Nat.le_trans (Nat.le_trans (Nat.le_trans (Nat.le_trans (Nat.le_trans (Nat.le_trans (Nat.le_refl _) E21.1) (Keep.of_wr W24).1) (Keep.of_wr W27).1) (Keep.of_wr W30).1) (Keep.of_wr W33).1) (Keep.of_wr W36).1) (Keep.of_wr W39).1) (Keep.of_wr W42).1) (Keep.of_wr W45).1) (Keep.of_wr W48).1) (Keep.of_wr W51).1) (Keep.of_wr W54).1) E89.1)) (v := some (.int (1 : Int32))) (fun h => by rw [Bd.returns] at h; cases h)
      refine own_by (W' := (T90.setTop (mkF m 436 #[.val (.int p0), .val (.int p1), .val (.int p2), .val (.ref b21), .val (.int (3 : Int32)), .val (.ref wOCTETS), .val (.int (1 : Int32)), .val (.int (3 : Int32)), .val (.ref b89), .val (.long ((3 : Int32).toInt64)), .second, .unset, .unset, .unset, .unset] [(.int (1 : Int32))]))) (fun t k => XS.lcmp X90.here hx rfl (hb hby at_427) rfl (XS.ifNo X90.here hx rfl (hb hby at_428) rfl (own_lceq (rfl : ((3 : Int32).toInt64) = ((3 : Int32).toInt64))).2 (XS.iconst X90.here hx rfl (hb hby at_431) (XS.goto X90.here hx rfl (pc0 := 432) (pc' := 436) rfl (hb hby at_432) (by decide) (by decide) k)))) ?_
      refine ⟨_, _, retOut X90 hx Bd.returns rfl (Or.inl ⟨rfl, Or.inr (Or.inl rfl), _, rfl⟩) (hb hby at_436) hr, hrun, hended, _, _, rfl, ?_, (by rw [hh]; show CHr Z consts_1 s.vm h0 T90.vm T90.heap; rw [e90]; exact CHr.trans C89 (CHv.at (s := s) (vm0 := s.vm) X90 hZ (own_EW hw) C89.1)), hEnd.1, hEnd.2.1, hEnd.2.2.1, hEnd.2.2.2.mono (by decide) (by decide)⟩
      exact ⟨rfl, N90⟩
  ·
    rw [hs]
    obtain ⟨clu91, Aru91, qu91, Su91, Ngu91, Hau91, Gau91⟩ := id Vu53
    have hinu91 : ¬ ((4 : Int32) < 0 ∨ clu91.slots.size ≤ ((4 : Int32)).toNatClampNeg) := inb_of Su91 ⟨by decide, by decide⟩
    have hatu91 : clu91.slots[((4 : Int32)).toNatClampNeg]? = some (.ref wNULL) := Has.at Hau91 hinu91 rfl
    refine own_by (W' := (T54.setTop (mkF m 94 #[.val (.int p0), .val (.int p1), .val (.int p2), .val (.ref b21), .val (.int (4 : Int32)), .val (.ref wNULL), .unset, .unset, .unset, .unset, .unset, .unset, .unset, .unset, .unset] [(.int (4 : Int32))]))) (fun t k => XS.istore X54.here hx rfl (hb hby at_84) rfl (l' := #[.val (.int p0), .val (.int p1), .val (.int p2), .val (.ref b21), .val (.int (4 : Int32)), .unset, .unset, .unset, .unset, .unset, .unset, .unset, .unset, .unset, .unset]) rfl (XS.aloadN X54.here hx rfl (hb hby at_86) rfl rfl (XS.iload X54.here hx rfl (hb hby at_87) rfl ((X54.aaload hx (j := (4 : Int32)) (v := (.ref wNULL)) (by rw [e54]; exact Aru91.1) (State.isArrayOf_alike hZ.alike Aru91.2.1) rfl Aru91.2.2 hinu91 hatu91 (g := (mkF m 89 #[.val (.int p0), .val (.int p1), .val (.int p2), .val (.ref b21), .val (.int (4 : Int32)), .unset, .unset, .unset, .unset, .unset, .unset, .unset, .unset, .unset, .unset] [(.int (4 : Int32)), (.ref b21)])) rfl rfl (hb hby at_89)) _ (XS.astore X54.here hx rfl (hb hby at_90) rfl rfl (l' := #[.val (.int p0), .val (.int p1), .val (.int p2), .val (.ref b21), .val (.int (4 : Int32)), .val (.ref wNULL), .unset, .unset, .unset, .unset, .unset, .unset, .unset, .unset, .unset]) rfl (XS.iload X54.here hx rfl (hb hby at_92) rfl k)))))) ?_
    refine own_by (W' := (T54.setTop (mkF m 106 #[.val (.int p0), .val (.int p1), .val (.int p2), .val (.ref b21), .val (.int (4 : Int32)), .val (.ref wNULL), .unset, .unset, .unset, .unset, .unset, .unset, .unset, .unset, .unset] [(.int (4 : Int32))]))) (fun t k => XS.iconst X54.here hx rfl (hb hby at_94) (XS.icmpNo X54.here hx rfl (hb hby at_95) rfl (feq (by decide : ¬ ((4 : Int32) = (2 : Int32)))).1 (XS.iload X54.here hx rfl (hb hby at_98) rfl (XS.iconst X54.here hx rfl (hb hby at_100) (XS.icmpNo X54.here hx rfl (hb hby at_101) rfl (feq (by decide : ¬ ((4 : Int32) = (3 : Int32)))).1 (XS.iload X54.here hx rfl (hb hby at_104) rfl k)))))) ?_
    refine own_by (W' := (T54.setTop (mkF m 123 #[.val (.int p0), .val (.int p1), .val (.int p2), .val (.ref b21), .val (.int (4 : Int32)), .val (.ref wNULL), .unset, .unset, .unset, .unset, .unset, .unset, .unset, .unset, .unset] [(.int (0 : Int32))]))) (fun t k => XS.bipush X54.here hx rfl (hb hby at_106) (XS.icmpNo X54.here hx rfl (hb hby at_108) rfl (feq (by decide : ¬ ((4 : Int32) = (6 : Int32)))).1 (XS.iload X54.here hx rfl (hb hby at_111) rfl (XS.bipush X54.here hx rfl (hb hby at_113) (XS.icmpYes X54.here hx rfl (pc0 := 115) (pc' := 122) rfl (hb hby at_115) rfl (feq (by decide : ¬ ((4 : Int32) = (8 : Int32)))).2 (by decide) (by decide) (XS.iconst X54.here hx rfl (hb hby at_122) k)))))) ?_
    obtain ⟨cq92, kq92, q92a, q92b, q92c⟩ := isOf hZ e54 (HW.2.2.2.2.2.2.2.2.2.2.2.2.2.1.ext O54.2)
    obtain ⟨_, _, ⟨T92, L92, k92, n92⟩, -, X92, ⟨Lc92, hQ92, l92, y92, z92⟩, st92⟩ := X54.virtualBack hx (y := (⟨"com/example/tagwright/tagwright/typed/Form", "isSized", "()Z"⟩ : MethodName)) (z := (⟨"com/example/tagwright/tagwright/typed/Form", "isSized", "()Z"⟩ : MethodName)) hown (mvT hZ (own_w hw 27)) (mvT hZ (own_w hw 28)) (notFace_of_selects (args := #[]) (mvT hZ (own_w hw 30))) (mvT hZ (own_w hw 30)) (mvT hZ (own_w hw 29)) (by decide) (backOf (W := 0) (rm1 l Z a0 hw [] wNULL wBOOLEAN wINTEGER wBITS wOCTETS wNULL wOBJECT_IDENTIFIER wTEXT wCOMPONENTS wELEMENTS wCHOICE wELEMENT cs wD kD wC clC h54 n0 (own_le O54) O54 HW) hZ (own_w hw 31) (own_w hw 3) (by decide) (by decide)) q92a q92c (g := (mkF m 127 #[.val (.int p0), .val (.int p1), .val (.int p2), .val (.ref b21), .val (.int (4 : Int32)), .val (.ref wNULL), .val (.int (0 : Int32)), .unset, .unset, .unset, .unset, .unset, .unset, .unset, .unset] [(.ref wNULL)])) rfl (by rw [hml]; rfl) (Steps.refl _) (argsL := []) (rest := []) (lenOf pd_7 rfl) rfl (by show 2 * 0 + _ ≤ _; exact Nat.le_of_eq rfl) (hb hby at_127) (fun _ _ => ⟨rfl, e54, (by decide : 1 + 0 ≤ _), (by decide : 11 + 0 ≤ _)⟩)
    dsimp only [Pt.U, Pt.locs, Pt.cells, Pt.slots] at X92 l92 y92 z92 st92 hQ92
    subst l92 y92 z92
    obtain ⟨rfl, N92q, e92⟩ := hQ92
    have N92 := Fr.app N54 N92q
    have ho93 : (F1 wNULL wBOOLEAN wINTEGER wBITS wOCTETS wNULL wOBJECT_IDENTIFIER wTEXT wCOMPONENTS wELEMENTS wCHOICE wELEMENT cs wD kD wC clC) = (0 : Int32) := by rw [F1, if_neg (Fld.ne (HW.2.2.2.2.2.2.2.2.2.2.2.2.2.2.1) (HW.2.2.2.2.2.2.2.2.1) (by decide)), if_neg (Fld.ne (HW.2.2.2.2.2.2.2.2.2.2.2.2.2.2.1) (HW.2.2.2.2.2.2.2.2.2.2.2.1) (by decide)), if_neg (Fld.ne (HW.2.2.2.2.2.2.2.2.2.2.2.2.2.2.1) (HW.2.2.2.2.2.2.2.2.2.2.2.2.2.2.2.2.2.2.2.2.1) (by decide)), if_neg (Fld.ne (HW.2.2.2.2.2.2.2.2.2.2.2.2.2.2.1) (HW.2.2.2.2.2.2.2.2.2.2.2.2.2.2.2.2.2.2.2.2.2.2.2.2.2.2.1) (by decide))]
    refine own_by (W' := (T92.setTop (mkF m 139 #[.val (.int p0), .val (.int p1), .val (.int p2), .val (.ref b21), .val (.int (4 : Int32)), .val (.ref wNULL), .val (.int (0 : Int32)), .unset, .unset, .unset, .unset, .unset, .unset, .unset, .unset] [(.int (0 : Int32))]))) (fun t k => XS.istore X54.here hx rfl (hb hby at_123) rfl (l' := #[.val (.int p0), .val (.int p1), .val (.int p2), .val (.ref b21), .val (.int (4 : Int32)), .val (.ref wNULL), .val (.int (0 : Int32)), .unset, .unset, .unset, .unset, .unset, .unset, .unset, .unset]) rfl (XS.aload X54.here hx rfl (hb hby at_125) rfl rfl (Steps.trans st92 (XS.iload X92.here hx rfl (hb hby at_130) rfl (XS.icmpYes X92.here hx rfl (pc0 := 132) (pc' := 137) rfl (hb hby at_132) rfl (teq ho93).1 (by decide) (by decide) (XS.iload X92.here hx rfl (hb hby at_137) rfl k)))))) ?_
    obtain ⟨fs, hr, hrun, hended, hEnd⟩ := Jvm.Stand.leaveW (s := s) (vm₁ := s.vm) X92 hS0 (by rw [e92]; exact (Nat.le_trans (Nat.le_trans (Nat.le_trans (Nat.le_trans (Nat.le_trans (Nat.le_trans (Nat.le_trans (Nat.le_trans (Nat.le_trans (Nat.le_trans (Nat.le_trans (Nat.le_trans (Nat.le_refl _) E21.1) (Keep.of_wr W24).1) (Keep.of_wr W27).1) (Keep.of_wr W30).1) (Keep.of_wr W33).1) (Keep.of_wr W36).1) (Keep.of_wr W39).1) (Keep.of_wr W42).1) (Keep.of_wr W45).1) (Keep.of_wr W48).1) (Keep.of_wr W51).1) (Keep.of_wr W54).1)) (v := some (.int (1 : Int32))) (fun h => by rw [Bd.returns] at h; cases h)
    refine own_by (W' := (T92.setTop (mkF m 143 #[.val (.int p0), .val (.int p1), .val (.int p2), .val (.ref b21), .val (.int (4 : Int32)), .val (.ref wNULL), .val (.int (0 : Int32)), .unset, .unset, .unset, .unset, .unset, .unset, .unset, .unset] [(.int (1 : Int32))]))) (fun t k => XS.ifNo X92.here hx rfl (hb hby at_139) rfl ((if0 _ _).trans (teq (rfl : (0 : Int32) = (0 : Int32))).2) (XS.iconst X92.here hx rfl (hb hby at_142) k)) ?_
    refine ⟨_, _, retOut X92 hx Bd.returns rfl (Or.inl ⟨rfl, Or.inr (Or.inl rfl), _, rfl⟩) (hb hby at_143) hr, hrun, hended, _, _, rfl, ?_, (by rw [hh]; show CHr Z consts_1 s.vm h0 T92.vm T92.heap; rw [e92]; exact CHr.trans C54 (CHv.at (s := s) (vm0 := s.vm) X92 hZ (own_EW hw) C54.1)), hEnd.1, hEnd.2.1, hEnd.2.2.1, hEnd.2.2.2.mono (by decide) (by decide)⟩
    exact ⟨rfl, N92⟩
  ·
    rw [hs]
    obtain ⟨clu94, Aru94, qu94, Su94, Ngu94, Hau94, Gau94⟩ := id Vu53
    have hinu94 : ¬ ((5 : Int32) < 0 ∨ clu94.slots.size ≤ ((5 : Int32)).toNatClampNeg) := inb_of Su94 ⟨by decide, by decide⟩
    have hatu94 : clu94.slots[((5 : Int32)).toNatClampNeg]? = some (.ref wOBJECT_IDENTIFIER) := Has.at Hau94 hinu94 rfl
    refine own_by (W' := (T54.setTop (mkF m 94 #[.val (.int p0), .val (.int p1), .val (.int p2), .val (.ref b21), .val (.int (5 : Int32)), .val (.ref wOBJECT_IDENTIFIER), .unset, .unset, .unset, .unset, .unset, .unset, .unset, .unset, .unset] [(.int (5 : Int32))]))) (fun t k => XS.istore X54.here hx rfl (hb hby at_84) rfl (l' := #[.val (.int p0), .val (.int p1), .val (.int p2), .val (.ref b21), .val (.int (5 : Int32)), .unset, .unset, .unset, .unset, .unset, .unset, .unset, .unset, .unset, .unset]) rfl (XS.aloadN X54.here hx rfl (hb hby at_86) rfl rfl (XS.iload X54.here hx rfl (hb hby at_87) rfl ((X54.aaload hx (j := (5 : Int32)) (v := (.ref wOBJECT_IDENTIFIER)) (by rw [e54]; exact Aru94.1) (State.isArrayOf_alike hZ.alike Aru94.2.1) rfl Aru94.2.2 hinu94 hatu94 (g := (mkF m 89 #[.val (.int p0), .val (.int p1), .val (.int p2), .val (.ref b21), .val (.int (5 : Int32)), .unset, .unset, .unset, .unset, .unset, .unset, .unset, .unset, .unset, .unset] [(.int (5 : Int32)), (.ref b21)])) rfl rfl (hb hby at_89)) _ (XS.astore X54.here hx rfl (hb hby at_90) rfl rfl (l' := #[.val (.int p0), .val (.int p1), .val (.int p2), .val (.ref b21), .val (.int (5 : Int32)), .val (.ref wOBJECT_IDENTIFIER), .unset, .unset, .unset, .unset, .unset, .unset, .unset, .unset, .unset]) rfl (XS.iload X54.here hx rfl (hb hby at_92) rfl k)))))) ?_
    refine own_by (W' := (T54.setTop (mkF m 106 #[.val (.int p0), .val (.int p1), .val (.int p2), .val (.ref b21), .val (.int (5 : Int32)), .val (.ref wOBJECT_IDENTIFIER), .unset, .unset, .unset, .unset, .unset, .unset, .unset, .unset, .unset] [(.int (5 : Int32))]))) (fun t k => XS.iconst X54.here hx rfl (hb hby at_94) (XS.icmpNo X54.here hx rfl (hb hby at_95) rfl (feq (by decide : ¬ ((5 : Int32) = (2 : Int32)))).1 (XS.iload X54.here hx rfl (hb hby at_98) rfl (XS.iconst X54.here hx rfl (hb hby at_100) (XS.icmpNo X54.here hx rfl (hb hby at_101) rfl (feq (by decide : ¬ ((5 : Int32) = (3 : Int32)))).1 (XS.iload X54.here hx rfl (hb hby at_104) rfl k)))))) ?_
    refine own_by (W' := (T54.setTop (mkF m 123 #[.val (.int p0), .val (.int p1), .val (.int p2), .val (.ref b21), .val (.int (5 : Int32)), .val (.ref wOBJECT_IDENTIFIER), .unset, .unset, .unset, .unset, .unset, .unset, .unset, .unset, .unset] [(.int (0 : Int32))]))) (fun t k => XS.bipush X54.here hx rfl (hb hby at_106) (XS.icmpNo X54.here hx rfl (hb hby at_108) rfl (feq (by decide : ¬ ((5 : Int32) = (6 : Int32)))).1 (XS.iload X54.here hx rfl (hb hby at_111) rfl (XS.bipush X54.here hx rfl (hb hby at_113) (XS.icmpYes X54.here hx rfl (pc0 := 115) (pc' := 122) rfl (hb hby at_115) rfl (feq (by decide : ¬ ((5 : Int32) = (8 : Int32)))).2 (by decide) (by decide) (XS.iconst X54.here hx rfl (hb hby at_122) k)))))) ?_
    obtain ⟨cq95, kq95, q95a, q95b, q95c⟩ := isOf hZ e54 (HW.2.2.2.2.2.2.2.2.2.2.2.2.2.2.2.2.1.ext O54.2)
    obtain ⟨_, _, ⟨T95, L95, k95, n95⟩, -, X95, ⟨Lc95, hQ95, l95, y95, z95⟩, st95⟩ := X54.virtualBack hx (y := (⟨"com/example/tagwright/tagwright/typed/Form", "isSized", "()Z"⟩ : MethodName)) (z := (⟨"com/example/tagwright/tagwright/typed/Form", "isSized", "()Z"⟩ : MethodName)) hown (mvT hZ (own_w hw 27)) (mvT hZ (own_w hw 28)) (notFace_of_selects (args := #[]) (mvT hZ (own_w hw 30))) (mvT hZ (own_w hw 30)) (mvT hZ (own_w hw 29)) (by decide) (backOf (W := 0) (rm1 l Z a0 hw [] wOBJECT_IDENTIFIER wBOOLEAN wINTEGER wBITS wOCTETS wNULL wOBJECT_IDENTIFIER wTEXT wCOMPONENTS wELEMENTS wCHOICE wELEMENT cs wD kD wC clC h54 n0 (own_le O54) O54 HW) hZ (own_w hw 31) (own_w hw 3) (by decide) (by decide)) q95a q95c (g := (mkF m 127 #[.val (.int p0), .val (.int p1), .val (.int p2), .val (.ref b21), .val (.int (5 : Int32)), .val (.ref wOBJECT_IDENTIFIER), .val (.int (0 : Int32)), .unset, .unset, .unset, .unset, .unset, .unset, .unset, .unset] [(.ref wOBJECT_IDENTIFIER)])) rfl (by rw [hml]; rfl) (Steps.refl _) (argsL := []) (rest := []) (lenOf pd_7 rfl) rfl (by show 2 * 0 + _ ≤ _; exact Nat.le_of_eq rfl) (hb hby at_127) (fun _ _ => ⟨rfl, e54, (by decide : 1 + 0 ≤ _), (by decide : 11 + 0 ≤ _)⟩)
    dsimp only [Pt.U, Pt.locs, Pt.cells, Pt.slots] at X95 l95 y95 z95 st95 hQ95
    subst l95 y95 z95
    obtain ⟨rfl, N95q, e95⟩ := hQ95
    have N95 := Fr.app N54 N95q
    have ho96 : (F1 wOBJECT_IDENTIFIER wBOOLEAN wINTEGER wBITS wOCTETS wNULL wOBJECT_IDENTIFIER wTEXT wCOMPONENTS wELEMENTS wCHOICE wELEMENT cs wD kD wC clC) = (0 : Int32) := by rw [F1, if_neg (Fld.ne (HW.2.2.2.2.2.2.2.2.2.2.2.2.2.2.2.2.2.1) (HW.2.2.2.2.2.2.2.2.1) (by decide)), if_neg (Fld.ne (HW.2.2.2.2.2.2.2.2.2.2.2.2.2.2.2.2.2.1) (HW.2.2.2.2.2.2.2.2.2.2.2.1) (by decide)), if_neg (Fld.ne (HW.2.2.2.2.2.2.2.2.2.2.2.2.2.2.2.2.2.1) (HW.2.2.2.2.2.2.2.2.2.2.2.2.2.2.2.2.2.2.2.2.1) (by decide)), if_neg (Fld.ne (HW.2.2.2.2.2.2.2.2.2.2.2.2.2.2.2.2.2.1) (HW.2.2.2.2.2.2.2.2.2.2.2.2.2.2.2.2.2.2.2.2.2.2.2.2.2.2.1) (by decide))]
    refine own_by (W' := (T95.setTop (mkF m 139 #[.val (.int p0), .val (.int p1), .val (.int p2), .val (.ref b21), .val (.int (5 : Int32)), .val (.ref wOBJECT_IDENTIFIER), .val (.int (0 : Int32)), .unset, .unset, .unset, .unset, .unset, .unset, .unset, .unset] [(.int (0 : Int32))]))) (fun t k => XS.istore X54.here hx rfl (hb hby at_123) rfl (l' := #[.val (.int p0), .val (.int p1), .val (.int p2), .val (.ref b21), .val (.int (5 : Int32)), .val (.ref wOBJECT_IDENTIFIER), .val (.int (0 : Int32)), .unset, .unset, .unset, .unset, .unset, .unset, .unset, .unset]) rfl (XS.aload X54.here hx rfl (hb hby at_125) rfl rfl (Steps.trans st95 (XS.iload X95.here hx rfl (hb hby at_130) rfl (XS.icmpYes X95.here hx rfl (pc0 := 132) (pc' := 137) rfl (hb hby at_132) rfl (teq ho96).1 (by decide) (by decide) (XS.iload X95.here hx rfl (hb hby at_137) rfl k)))))) ?_
    obtain ⟨fs, hr, hrun, hended, hEnd⟩ := Jvm.Stand.leaveW (s := s) (vm₁ := s.vm) X95 hS0 (by rw [e95]; exact (Nat.le_trans (Nat.le_trans (Nat.le_trans (Nat.le_trans (Nat.le_trans (Nat.le_trans (Nat.le_trans (Nat.le_trans (Nat.le_trans (Nat.le_trans (Nat.le_trans (Nat.le_trans (Nat.le_refl _) E21.1) (Keep.of_wr W24).1) (Keep.of_wr W27).1) (Keep.of_wr W30).1) (Keep.of_wr W33).1) (Keep.of_wr W36).1) (Keep.of_wr W39).1) (Keep.of_wr W42).1) (Keep.of_wr W45).1) (Keep.of_wr W48).1) (Keep.of_wr W51).1) (Keep.of_wr W54).1)) (v := some (.int (1 : Int32))) (fun h => by rw [Bd.returns] at h; cases h)
    refine own_by (W' := (T95.setTop (mkF m 143 #[.val (.int p0), .val (.int p1), .val (.int p2), .val (.ref b21), .val (.int (5 : Int32)), .val (.ref wOBJECT_IDENTIFIER), .val (.int (0 : Int32)), .unset, .unset, .unset, .unset, .unset, .unset, .unset, .unset] [(.int (1 : Int32))]))) (fun t k => XS.ifNo X95.here hx rfl (hb hby at_139) rfl ((if0 _ _).trans (teq (rfl : (0 : Int32) = (0 : Int32))).2) (XS.iconst X95.here hx rfl (hb hby at_142) k)) ?_
    refine ⟨_, _, retOut X95 hx Bd.returns rfl (Or.inl ⟨rfl, Or.inr (Or.inl rfl), _, rfl⟩) (hb hby at_143) hr, hrun, hended, _, _, rfl, ?_, (by rw [hh]; show CHr Z consts_1 s.vm h0 T95.vm T95.heap; rw [e95]; exact CHr.trans C54 (CHv.at (s := s) (vm0 := s.vm) X95 hZ (own_EW hw) C54.1)), hEnd.1, hEnd.2.1, hEnd.2.2.1, hEnd.2.2.2.mono (by decide) (by decide)⟩
    exact ⟨rfl, N95⟩
  ·
    rw [hs]
    obtain ⟨clu97, Aru97, qu97, Su97, Ngu97, Hau97, Gau97⟩ := id Vu53
    have hinu97 : ¬ ((6 : Int32) < 0 ∨ clu97.slots.size ≤ ((6 : Int32)).toNatClampNeg) := inb_of Su97 ⟨by decide, by decide⟩
    have hatu97 : clu97.slots[((6 : Int32)).toNatClampNeg]? = some (.ref wTEXT) := Has.at Hau97 hinu97 rfl
    refine own_by (W' := (T54.setTop (mkF m 94 #[.val (.int p0), .val (.int p1), .val (.int p2), .val (.ref b21), .val (.int (6 : Int32)), .val (.ref wTEXT), .unset, .unset, .unset, .unset, .unset, .unset, .unset, .unset, .unset] [(.int (6 : Int32))]))) (fun t k => XS.istore X54.here hx rfl (hb hby at_84) rfl (l' := #[.val (.int p0), .val (.int p1), .val (.int p2), .val (.ref b21), .val (.int (6 : Int32)), .unset, .unset, .unset, .unset, .unset, .unset, .unset, .unset, .unset, .unset]) rfl (XS.aloadN X54.here hx rfl (hb hby at_86) rfl rfl (XS.iload X54.here hx rfl (hb hby at_87) rfl ((X54.aaload hx (j := (6 : Int32)) (v := (.ref wTEXT)) (by rw [e54]; exact Aru97.1) (State.isArrayOf_alike hZ.alike Aru97.2.1) rfl Aru97.2.2 hinu97 hatu97 (g := (mkF m 89 #[.val (.int p0), .val (.int p1), .val (.int p2), .val (.ref b21), .val (.int (6 : Int32)), .unset, .unset, .unset, .unset, .unset, .unset, .unset, .unset, .unset, .unset] [(.int (6 : Int32)), (.ref b21)])) rfl rfl (hb hby at_89)) _ (XS.astore X54.here hx rfl (hb hby at_90) rfl rfl (l' := #[.val (.int p0), .val (.int p1), .val (.int p2), .val (.ref b21), .val (.int (6 : Int32)), .val (.ref wTEXT), .unset, .unset, .unset, .unset, .unset, .unset, .unset, .unset, .unset]) rfl (XS.iload X54.here hx rfl (hb hby at_92) rfl k)))))) ?_
    refine own_by (W' := (T54.setTop (mkF m 106 #[.val (.int p0), .val (.int p1), .val (.int p2), .val (.ref b21), .val (.int (6 : Int32)), .val (.ref wTEXT), .unset, .unset, .unset, .unset, .unset, .unset, .unset, .unset, .unset] [(.int (6 : Int32))]))) (fun t k => XS.iconst X54.here hx rfl (hb hby at_94) (XS.icmpNo X54.here hx rfl (hb hby at_95) rfl (feq (by decide : ¬ ((6 : Int32) = (2 : Int32)))).1 (XS.iload X54.here hx rfl (hb hby at_98) rfl (XS.iconst X54.here hx rfl (hb hby at_100) (XS.icmpNo X54.here hx rfl (hb hby at_101) rfl (feq (by decide : ¬ ((6 : Int32) = (3 : Int32)))).1 (XS.iload X54.here hx rfl (hb hby at_104) rfl k)))))) ?_
    refine own_by (W' := (T54.setTop (mkF m 127 #[.val (.int p0), .val (.int p1), .val (.int p2), .val (.ref b21), .val (.int (6 : Int32)), .val (.ref wTEXT), .val (.int (1 : Int32)), .unset, .unset, .unset, .unset, .unset, .unset, .unset, .unset] [(.ref wTEXT)]))) (fun t k => XS.bipush X54.here hx rfl (hb hby at_106) (XS.icmpYes X54.here hx rfl (pc0 := 108) (pc' := 118) rfl (hb hby at_108) rfl (teq (rfl : (6 : Int32) = (6 : Int32))).1 (by decide) (by decide) (XS.iconst X54.here hx rfl (hb hby at_118) (XS.goto X54.here hx rfl (pc0 := 119) (pc' := 123) rfl (hb hby at_119) (by decide) (by decide) (XS.istore X54.here hx rfl (hb hby at_123) rfl (l' := #[.val (.int p0), .val (.int p1), .val (.int p2), .val (.ref b21), .val (.int (6 : Int32)), .val (.ref wTEXT), .val (.int (1 : Int32)), .unset, .unset, .unset, .unset, .unset, .unset, .unset, .unset]) rfl (XS.aload X54.here hx rfl (hb hby at_125) rfl rfl k)))))) ?_
    obtain ⟨cq98, kq98, q98a, q98b, q98c⟩ := isOf hZ e54 (HW.2.2.2.2.2.2.2.2.2.2.2.2.2.2.2.2.2.2.2.1.ext O54.2)
    obtain ⟨_, _, ⟨T98, L98, k98, n98⟩, -, X98, ⟨Lc98, hQ98, l98, y98, z98⟩, st98⟩ := X54.virtualBack hx (y := (⟨"com/example/tagwright/tagwright/typed/Form", "isSized", "()Z"⟩ : MethodName)) (z := (⟨"com/example/tagwright/tagwright/typed/Form", "isSized", "()Z"⟩ : MethodName)) hown (mvT hZ (own_w hw 27)) (mvT hZ (own_w hw 28)) (notFace_of_selects (args := #[]) (mvT hZ (own_w hw 30))) (mvT hZ (own_w hw 30)) (mvT hZ (own_w hw 29)) (by decide) (backOf (W := 0) (rm1 l Z a0 hw [] wTEXT wBOOLEAN wINTEGER wBITS wOCTETS wNULL wOBJECT_IDENTIFIER wTEXT wCOMPONENTS wELEMENTS wCHOICE wELEMENT cs wD kD wC clC h54 n0 (own_le O54) O54 HW) hZ (own_w hw 31) (own_w hw 3) (by decide) (by decide)) q98a q98c (g := (mkF m 127 #[.val (.int p0), .val (.int p1), .val (.int p2), .val (.ref b21), .val (.int (6 : Int32)), .val (.ref wTEXT), .val (.int (1 : Int32)), .unset, .unset, .unset, .unset, .unset, .unset, .unset, .unset] [(.ref wTEXT)])) rfl (by rw [hml]; rfl) (Steps.refl _) (argsL := []) (rest := []) (lenOf pd_7 rfl) rfl (by show 2 * 0 + _ ≤ _; exact Nat.le_of_eq rfl) (hb hby at_127) (fun _ _ => ⟨rfl, e54, (by decide : 1 + 0 ≤ _), (by decide : 11 + 0 ≤ _)⟩)
    dsimp only [Pt.U, Pt.locs, Pt.cells, Pt.slots] at X98 l98 y98 z98 st98 hQ98
    subst l98 y98 z98
    obtain ⟨rfl, N98q, e98⟩ := hQ98
    have N98 := Fr.app N54 N98q
    have ho99 : (F1 wTEXT wBOOLEAN wINTEGER wBITS wOCTETS wNULL wOBJECT_IDENTIFIER wTEXT wCOMPONENTS wELEMENTS wCHOICE wELEMENT cs wD kD wC clC) = (1 : Int32) := by rw [F1, if_neg (Fld.ne (HW.2.2.2.2.2.2.2.2.2.2.2.2.2.2.2.2.2.2.2.2.1) (HW.2.2.2.2.2.2.2.2.1) (by decide)), if_neg (Fld.ne (HW.2.2.2.2.2.2.2.2.2.2.2.2.2.2.2.2.2.2.2.2.1) (HW.2.2.2.2.2.2.2.2.2.2.2.1) (by decide)), if_pos rfl]
    refine own_by (W' := (T98.setTop (mkF m 145 #[.val (.int p0), .val (.int p1), .val (.int p2), .val (.ref b21), .val (.int (6 : Int32)), .val (.ref wTEXT), .val (.int (1 : Int32)), .unset, .unset, .unset, .unset, .unset, .unset, .unset, .unset] [(.int p1)]))) (fun t k => Steps.trans st98 (XS.iload X98.here hx rfl (hb hby at_130) rfl (XS.icmpYes X98.here hx rfl (pc0 := 132) (pc' := 137) rfl (hb hby at_132) rfl (teq ho99).1 (by decide) (by decide) (XS.iload X98.here hx rfl (hb hby at_137) rfl (XS.ifYes X98.here hx rfl (pc0 := 139) (pc' := 144) rfl (hb hby at_139) rfl ((if0 _ _).trans (feq (by decide : ¬ ((1 : Int32) = (0 : Int32)))).2) (by decide) (by decide) (XS.iloadN X98.here hx rfl (hb hby at_144) rfl k)))))) ?_
    refine own_by (W' := (T98.setTop (mkF m 147 #[.val (.int p0), .val (.int p1), .val (.int p2), .val (.ref b21), .val (.int (6 : Int32)), .val (.ref wTEXT), .val (.int (1 : Int32)), .unset, .unset, .unset, .unset, .unset, .unset, .unset, .unset] [(.int (p1 &&& (3 : Int32)))]))) (fun t k => XS.iconst X98.here hx rfl (hb hby at_145) (XS.iand X98.here hx rfl (hb hby at_146) rfl k)) ?_
    rcases own_and3 p1 with hs | hs | hs | hs
    ·
      rw [hs]
      refine own_by (W' := (T98.setTop (mkF m 200 #[.val (.int p0), .val (.int p1), .val (.int p2), .val (.ref b21), .val (.int (6 : Int32)), .val (.ref wTEXT), .val (.int (1 : Int32)), .val (.int (0 : Int32)), .unset, .unset, .unset, .unset, .unset, .unset, .unset] [(.int (3 : Int32)), (.int (6 : Int32))]))) (fun t k => XS.istore X98.here hx rfl (hb hby at_147) rfl (l' := #[.val (.int p0), .val (.int p1), .val (.int p2), .val (.ref b21), .val (.int (6 : Int32)), .val (.ref wTEXT), .val (.int (1 : Int32)), .val (.int (0 : Int32)), .unset, .unset, .unset, .unset, .unset, .unset, .unset]) rfl (XS.iload X98.here hx rfl (hb hby at_149) rfl (XS.iconst X98.here hx rfl (hb hby at_151) (XS.icmpYes X98.here hx rfl (pc0 := 152) (pc' := 197) rfl (hb hby at_152) rfl (feq (by decide : ¬ ((6 : Int32) = (2 : Int32)))).2 (by decide) (by decide) (XS.iload X98.here hx rfl (hb hby at_197) rfl (XS.iconst X98.here hx rfl (hb hby at_199) k)))))) ?_
      refine own_by (W' := (T98.setTop (mkF m 228 #[.val (.int p0), .val (.int p1), .val (.int p2), .val (.ref b21), .val (.int (6 : Int32)), .val (.ref wTEXT), .val (.int (1 : Int32)), .val (.int (0 : Int32)), .unset, .unset, .unset, .unset, .unset, .unset, .unset] [(.int (255 : Int32)), (.int p2)]))) (fun t k => XS.icmpYes X98.here hx rfl (pc0 := 200) (pc' := 217) rfl (hb hby at_200) rfl (feq (by decide : ¬ ((6 : Int32) = (3 : Int32)))).2 (by decide) (by decide) (XS.iload X98.here hx rfl (hb hby at_217) rfl (XS.bipush X98.here hx rfl (hb hby at_219) (XS.icmpNo X98.here hx rfl (hb hby at_221) rfl (teq (rfl : (6 : Int32) = (6 : Int32))).2 (XS.iloadN X98.here hx rfl (hb hby at_224) rfl (XS.sipush X98.here hx rfl (hb hby at_225) k)))))) ?_
      refine own_by (W' := (T98.setTop (mkF m 232 #[.val (.int p0), .val (.int p1), .val (.int p2), .val (.ref b21), .val (.int (6 : Int32)), .val (.ref wTEXT), .val (.int (1 : Int32)), .val (.int (0 : Int32)), .unset, .unset, .unset, .val (.int ((p2 &&& (255 : Int32)).toUInt32.toUInt16.toUInt32.toInt32)), .unset, .unset, .unset] []))) (fun t k => XS.iand X98.here hx rfl (hb hby at_228) rfl (XS.i2c X98.here hx rfl (hb hby at_229) rfl (XS.istore X98.here hx rfl (hb hby at_230) rfl (l' := #[.val (.int p0), .val (.int p1), .val (.int p2), .val (.ref b21), .val (.int (6 : Int32)), .val (.ref wTEXT), .val (.int (1 : Int32)), .val (.int (0 : Int32)), .unset, .unset, .unset, .val (.int ((p2 &&& (255 : Int32)).toUInt32.toUInt16.toUInt32.toInt32)), .unset, .unset, .unset]) rfl k))) ?_
      generalize hv_c0 : ((p2 &&& (255 : Int32)).toUInt32.toUInt16.toUInt32.toInt32) = c0
      refine own_by (W' := (T98.setTop (mkF m 241 #[.val (.int p0), .val (.int p1), .val (.int p2), .val (.ref b21), .val (.int (6 : Int32)), .val (.ref wTEXT), .val (.int (1 : Int32)), .val (.int (0 : Int32)), .unset, .unset, .unset, .val (.int c0), .unset, .unset, .unset] [(.int ((((p2.toUInt32 >>> ((8 : Int32) &&& 31).toUInt32).toInt32) &&& (255 : Int32)).toUInt32.toUInt16.toUInt32.toInt32))]))) (fun t k => XS.iloadN X98.here hx rfl (hb hby at_232) rfl (XS.bipush X98.here hx rfl (hb hby at_233) (XS.iushr X98.here hx rfl (hb hby at_235) rfl (XS.sipush X98.here hx rfl (hb hby at_236) (XS.iand X98.here hx rfl (hb hby at_239) rfl (XS.i2c X98.here hx rfl (hb hby at_240) rfl k)))))) ?_
      refine own_by (W' := (T98.setTop (mkF m 243 #[.val (.int p0), .val (.int p1), .val (.int p2), .val (.ref b21), .val (.int (6 : Int32)), .val (.ref wTEXT), .val (.int (1 : Int32)), .val (.int (0 : Int32)), .unset, .unset, .unset, .val (.int c0), .val (.int ((((p2.toUInt32 >>> ((8 : Int32) &&& 31).toUInt32).toInt32) &&& (255 : Int32)).toUInt32.toUInt16.toUInt32.toInt32)), .unset, .unset] []))) (fun t k => XS.istore X98.here hx rfl (hb hby at_241) rfl (l' := #[.val (.int p0), .val (.int p1), .val (.int p2), .val (.ref b21), .val (.int (6 : Int32)), .val (.ref wTEXT), .val (.int (1 : Int32)), .val (.int (0 : Int32)), .unset, .unset, .unset, .val (.int c0), .val (.int ((((p2.toUInt32 >>> ((8 : Int32) &&& 31).toUInt32).toInt32) &&& (255 : Int32)).toUInt32.toUInt16.toUInt32.toInt32)), .unset, .unset]) rfl k) ?_
      generalize hv_c1 : ((((p2.toUInt32 >>> ((8 : Int32) &&& 31).toUInt32).toInt32) &&& (255 : Int32)).toUInt32.toUInt16.toUInt32.toInt32) = c1
      refine own_by (W' := (T98.setTop (mkF m 252 #[.val (.int p0), .val (.int p1), .val (.int p2), .val (.ref b21), .val (.int (6 : Int32)), .val (.ref wTEXT), .val (.int (1 : Int32)), .val (.int (0 : Int32)), .unset, .unset, .unset, .val (.int c0), .val (.int c1), .unset, .unset] [(.int ((((p2.toUInt32 >>> ((16 : Int32) &&& 31).toUInt32).toInt32) &&& (255 : Int32)).toUInt32.toUInt16.toUInt32.toInt32))]))) (fun t k => XS.iloadN X98.here hx rfl (hb hby at_243) rfl (XS.bipush X98.here hx rfl (hb hby at_244) (XS.iushr X98.here hx rfl (hb hby at_246) rfl (XS.sipush X98.here hx rfl (hb hby at_247) (XS.iand X98.here hx rfl (hb hby at_250) rfl (XS.i2c X98.here hx rfl (hb hby at_251) rfl k)))))) ?_
      refine own_by (W' := (T98.setTop (mkF m 254 #[.val (.int p0), .val (.int p1), .val (.int p2), .val (.ref b21), .val (.int (6 : Int32)), .val (.ref wTEXT), .val (.int (1 : Int32)), .val (.int (0 : Int32)), .unset, .unset, .unset, .val (.int c0), .val (.int c1), .val (.int ((((p2.toUInt32 >>> ((16 : Int32) &&& 31).toUInt32).toInt32) &&& (255 : Int32)).toUInt32.toUInt16.toUInt32.toInt32)), .unset] []))) (fun t k => XS.istore X98.here hx rfl (hb hby at_252) rfl (l' := #[.val (.int p0), .val (.int p1), .val (.int p2), .val (.ref b21), .val (.int (6 : Int32)), .val (.ref wTEXT), .val (.int (1 : Int32)), .val (.int (0 : Int32)), .unset, .unset, .unset, .val (.int c0), .val (.int c1), .val (.int ((((p2.toUInt32 >>> ((16 : Int32) &&& 31).toUInt32).toInt32) &&& (255 : Int32)).toUInt32.toUInt16.toUInt32.toInt32)), .unset]) rfl k) ?_
      generalize hv_c2 : ((((p2.toUInt32 >>> ((16 : Int32) &&& 31).toUInt32).toInt32) &&& (255 : Int32)).toUInt32.toUInt16.toUInt32.toInt32) = c2
      obtain ⟨a100, T100, h100, k100, lb100, lk100, X100, e100, E100, hS100, hk100, hZ100, hown100, Le100, Lc100_, Lv100, La100, -, -, Cm100, -, Ln100, st100⟩ := ldcCH (s := s) (vm0 := s.vm) X98 hx hZ hown (own_w hw 233) (own_wS hw) e98 hS0 (Nat.le_trans (Nat.le_trans (Nat.le_trans (Nat.le_trans (Nat.le_trans (Nat.le_trans (Nat.le_trans (Nat.le_trans (Nat.le_trans (Nat.le_trans (Nat.le_trans (Nat.le_trans (Nat.le_refl _) E21.1) (Keep.of_wr W24).1) (Keep.of_wr W27).1) (Keep.of_wr W30).1) (Keep.of_wr W33).1) (Keep.of_wr W36).1) (Keep.of_wr W39).1) (Keep.of_wr W42).1) (Keep.of_wr W45).1) (Keep.of_wr W48).1) (Keep.of_wr W51).1) (Keep.of_wr W54).1) (own_EW hw) (List.mem_of_getElem? (i := 0) rfl) C54.1 (vs := []) (z := (0 : Int32)) ⟨by decide +kernel, by rfl⟩ (by decide) (by decide) (g := (mkF m 259 #[.val (.int p0), .val (.int p1), .val (.int p2), .val (.ref b21), .val (.int (6 : Int32)), .val (.ref wTEXT), .val (.int (1 : Int32)), .val (.int (0 : Int32)), .unset, .unset, .unset, .val (.int c0), .val (.int c1), .val (.int c2), .unset] [])) rfl (hb hby at_259) (n := 0) (by decide +kernel) (by decide) (by decide) (by decide)
      have Sf100_b21 := CHr.safe Cm100 (((((((((((Ex21.wr W24).wr W27).wr W30).wr W33).wr W36).wr W39).wr W42).wr W45).wr W48).wr W51).wr W54).lt Sf54_b21
      have C100 := CHr.trans C54 Cm100
      have O100 := O54.ext E100
      have K100 := Keep.ext K54 E100
      have ne_b21_a100 := (Ln100 _ Sf100_b21).1
      have ne_b21_lb100 := (Ln100 _ Sf100_b21).2
      have LT100 : own_St Z h100 a100 (0 : Int32) [] := ⟨Le100, Lc100_, _, _, Lv100, La100⟩
      refine own_by (W' := (T100.setTop (mkF m 342 #[.val (.int p0), .val (.int p1), .val (.int p2), .val (.ref b21), .val (.int (6 : Int32)), .val (.ref wTEXT), .val (.int (1 : Int32)), .val (.int (0 : Int32)), .unset, .unset, .unset, .val (.int c0), .val (.int c1), .val (.int c2), .val (.ref a100)] [(.ref a100)]))) (fun t k => XS.iload X98.here hx rfl (hb hby at_254) rfl (XS.ifNo X98.here hx rfl (hb hby at_256) rfl ((if0 _ _).trans (teq (rfl : (0 : Int32) = (0 : Int32))).2) (st100 _ (XS.astore X100.here hx rfl (hb hby at_261) rfl rfl (l' := #[.val (.int p0), .val (.int p1), .val (.int p2), .val (.ref b21), .val (.int (6 : Int32)), .val (.ref wTEXT), .val (.int (1 : Int32)), .val (.int (0 : Int32)), .unset, .unset, .unset, .val (.int c0), .val (.int c1), .val (.int c2), .val (.ref a100)]) rfl (XS.goto X100.here hx rfl (pc0 := 263) (pc' := 340) rfl (hb hby at_263) (by decide) (by decide) (XS.aload X100.here hx rfl (hb hby at_340) rfl rfl k)))))) ?_
      refine own_by (W' := (T100.setTop (mkF m 420 #[.val (.int p0), .val (.int p1), .val (.int p2), .val (.ref b21), .val (.int (6 : Int32)), .val (.ref wTEXT), .val (.int (1 : Int32)), .val (.int (0 : Int32)), .val (.ref a100), .val (.long ((0 : Int32).toInt64)), .second, .val (.int c0), .val (.int c1), .val (.int c2), .val (.ref a100)] [(.ref wTEXT)]))) (fun t k => XS.astore X100.here hx rfl (hb hby at_342) rfl rfl (l' := #[.val (.int p0), .val (.int p1), .val (.int p2), .val (.ref b21), .val (.int (6 : Int32)), .val (.ref wTEXT), .val (.int (1 : Int32)), .val (.int (0 : Int32)), .val (.ref a100), .unset, .unset, .val (.int c0), .val (.int c1), .val (.int c2), .val (.ref a100)]) rfl (XS.iload X100.here hx rfl (hb hby at_344) rfl (XS.i2l X100.here hx rfl (hb hby at_346) rfl (XS.lstore X100.here hx rfl (hb hby at_347) rfl (l' := #[.val (.int p0), .val (.int p1), .val (.int p2), .val (.ref b21), .val (.int (6 : Int32)), .val (.ref wTEXT), .val (.int (1 : Int32)), .val (.int (0 : Int32)), .val (.ref a100), .val (.long ((0 : Int32).toInt64)), .second, .val (.int c0), .val (.int c1), .val (.int c2), .val (.ref a100)]) rfl (XS.goto X100.here hx rfl (pc0 := 349) (pc' := 418) rfl (hb hby at_349) (by decide) (by decide) (XS.aload X100.here hx rfl (hb hby at_418) rfl rfl k)))))) ?_
      obtain ⟨cq101, kq101, q101a, q101b, q101c⟩ := isOf hZ100 e100 (HW.2.2.2.2.2.2.2.2.2.2.2.2.2.2.2.2.2.2.2.1.ext O100.2)
      obtain ⟨_, _, ⟨T101, L101, k101, n101⟩, -, X101, ⟨Lc101, hQ101, l101, y101, z101⟩, st101⟩ := X100.virtualBack hx (y := (⟨"com/example/tagwright/tagwright/typed/Form", "sizeOf", "(Ljava/lang/Object;)J"⟩ : MethodName)) (z := (⟨"com/example/tagwright/tagwright/typed/Form", "sizeOf", "(Ljava/lang/Object;)J"⟩ : MethodName)) hown100 (mvT hZ100 (own_w hw 62)) (mvT hZ100 (own_w hw 63)) (notFace_of_selects (args := #[]) (mvT hZ100 (own_w hw 65))) (mvT hZ100 (own_w hw 65)) (mvT hZ100 (own_w hw 64)) (by decide) (backOf (W := 0) (rmZTEXT l Z a0 hw [] a100 (0 : Int32) [] wBOOLEAN wINTEGER wBITS wOCTETS wNULL wOBJECT_IDENTIFIER wTEXT wCOMPONENTS wELEMENTS wCHOICE wELEMENT cs wD kD wC clC h100 n0 (own_le O100) O100 HW LT100) hZ100 (own_w hw 66) (own_w hw 3) (by decide) (by decide)) q101a q101c (g := (mkF m 422 #[.val (.int p0), .val (.int p1), .val (.int p2), .val (.ref b21), .val (.int (6 : Int32)), .val (.ref wTEXT), .val (.int (1 : Int32)), .val (.int (0 : Int32)), .val (.ref a100), .val (.long ((0 : Int32).toInt64)), .second, .val (.int c0), .val (.int c1), .val (.int c2), .val (.ref a100)] [(.ref a100), (.ref wTEXT)])) rfl (by rw [hml]; rfl) (Steps.refl _) (argsL := [(.ref a100)]) (rest := []) (lenOf pd_23 rfl) rfl (by show 2 * 0 + _ ≤ _; exact Nat.le_of_eq rfl) (hb hby at_422) (fun _ _ => ⟨rfl, e100, (by decide : 3 + 0 ≤ _), (by decide : 15 + 0 ≤ _)⟩)
      dsimp only [Pt.U, Pt.locs, Pt.cells, Pt.slots] at X101 l101 y101 z101 st101 hQ101
      subst l101 y101 z101
      obtain ⟨rfl, N101q, e101⟩ := hQ101
      have N101 := Fr.app N98 N101q
      refine own_by (W' := (T101.setTop (mkF m 432 #[.val (.int p0), .val (.int p1), .val (.int p2), .val (.ref b21), .val (.int (6 : Int32)), .val (.ref wTEXT), .val (.int (1 : Int32)), .val (.int (0 : Int32)), .val (.ref a100), .val (.long ((0 : Int32).toInt64)), .second, .val (.int c0), .val (.int c1), .val (.int c2), .val (.ref a100)] [(.int (1 : Int32))]))) (fun t k => XS.aload X100.here hx rfl (hb hby at_420) rfl rfl (Steps.trans st101 (XS.lload X101.here hx rfl (hb hby at_425) rfl (XS.lcmp X101.here hx rfl (hb hby at_427) rfl (XS.ifNo X101.here hx rfl (hb hby at_428) rfl (own_lceq (rfl : ((0 : Int32).toInt64) = ((0 : Int32).toInt64))).2 (XS.iconst X101.here hx rfl (hb hby at_431) k)))))) ?_
      obtain ⟨fs, hr, hrun, hended, hEnd⟩ := Jvm.Stand.leaveW (s := s) (vm₁ := T100.vm) X101 hS100 (by rw [e101]; exact hk100) (v := some (.int (1 : Int32))) (fun h => by rw [Bd.returns] at h; cases h)
      refine own_by (W' := (T101.setTop (mkF m 436 #[.val (.int p0), .val (.int p1), .val (.int p2), .val (.ref b21), .val (.int (6 : Int32)), .val (.ref wTEXT), .val (.int (1 : Int32)), .val (.int (0 : Int32)), .val (.ref a100), .val (.long ((0 : Int32).toInt64)), .second, .val (.int c0), .val (.int c1), .val (.int c2), .val (.ref a100)] [(.int (1 : Int32))]))) (fun t k => XS.goto X101.here hx rfl (pc0 := 432) (pc' := 436) rfl (hb hby at_432) (by decide) (by decide) k) ?_
      refine ⟨_, _, retOut X101 hx Bd.returns rfl (Or.inl ⟨rfl, Or.inr (Or.inl rfl), _, rfl⟩) (hb hby at_436) hr, hrun, hended, _, _, rfl, ?_, (by rw [hh]; show CHr Z consts_1 s.vm h0 T101.vm T101.heap; rw [e101]; exact CHr.trans C100 (CHv.at (s := s) (vm0 := T100.vm) X101 hZ100 (own_EW hw) C100.1)), hEnd.1, hEnd.2.1, hEnd.2.2.1, hEnd.2.2.2.mono (by decide) (by decide)⟩
      exact ⟨rfl, N101⟩
    ·
      rw [hs]
      refine own_by (W' := (T98.setTop (mkF m 200 #[.val (.int p0), .val (.int p1), .val (.int p2), .val (.ref b21), .val (.int (6 : Int32)), .val (.ref wTEXT), .val (.int (1 : Int32)), .val (.int (1 : Int32)), .unset, .unset, .unset, .unset, .unset, .unset, .unset] [(.int (3 : Int32)), (.int (6 : Int32))]))) (fun t k => XS.istore X98.here hx rfl (hb hby at_147) rfl (l' := #[.val (.int p0), .val (.int p1), .val (.int p2), .val (.ref b21), .val (.int (6 : Int32)), .val (.ref wTEXT), .val (.int (1 : Int32)), .val (.int (1 : Int32)), .unset, .unset, .unset, .unset, .unset, .unset, .unset]) rfl (XS.iload X98.here hx rfl (hb hby at_149) rfl (XS.iconst X98.here hx rfl (hb hby at_151) (XS.icmpYes X98.here hx rfl (pc0 := 152) (pc' := 197) rfl (hb hby at_152) rfl (feq (by decide : ¬ ((6 : Int32) = (2 : Int32)))).2 (by decide) (by decide) (XS.iload X98.here hx rfl (hb hby at_197) rfl (XS.iconst X98.here hx rfl (hb hby at_199) k)))))) ?_
      refine own_by (W' := (T98.setTop (mkF m 228 #[.val (.int p0), .val (.int p1), .val (.int p2), .val (.ref b21), .val (.int (6 : Int32)), .val (.ref wTEXT), .val (.int (1 : Int32)), .val (.int (1 : Int32)), .unset, .unset, .unset, .unset, .unset, .unset, .unset] [(.int (255 : Int32)), (.int p2)]))) (fun t k => XS.icmpYes X98.here hx rfl (pc0 := 200) (pc' := 217) rfl (hb hby at_200) rfl (feq (by decide : ¬ ((6 : Int32) = (3 : Int32)))).2 (by decide) (by decide) (XS.iload X98.here hx rfl (hb hby at_217) rfl (XS.bipush X98.here hx rfl (hb hby at_219) (XS.icmpNo X98.here hx rfl (hb hby at_221) rfl (teq (rfl : (6 : Int32) = (6 : Int32))).2 (XS.iloadN X98.here hx rfl (hb hby at_224) rfl (XS.sipush X98.here hx rfl (hb hby at_225) k)))))) ?_
      refine own_by (W' := (T98.setTop (mkF m 232 #[.val (.int p0), .val (.int p1), .val (.int p2), .val (.ref b21), .val (.int (6 : Int32)), .val (.ref wTEXT), .val (.int (1 : Int32)), .val (.int (1 : Int32)), .unset, .unset, .unset, .val (.int ((p2 &&& (255 : Int32)).toUInt32.toUInt16.toUInt32.toInt32)), .unset, .unset, .unset] []))) (fun t k => XS.iand X98.here hx rfl (hb hby at_228) rfl (XS.i2c X98.here hx rfl (hb hby at_229) rfl (XS.istore X98.here hx rfl (hb hby at_230) rfl (l' := #[.val (.int p0), .val (.int p1), .val (.int p2), .val (.ref b21), .val (.int (6 : Int32)), .val (.ref wTEXT), .val (.int (1 : Int32)), .val (.int (1 : Int32)), .unset, .unset, .unset, .val (.int ((p2 &&& (255 : Int32)).toUInt32.toUInt16.toUInt32.toInt32)), .unset, .unset, .unset]) rfl k))) ?_
      generalize hv_c0 : ((p2 &&& (255 : Int32)).toUInt32.toUInt16.toUInt32.toInt32) = c0
      refine own_by (W' := (T98.setTop (mkF m 241 #[.val (.int p0), .val (.int p1), .val (.int p2), .val (.ref b21), .val (.int (6 : Int32)), .val (.ref wTEXT), .val (.int (1 : Int32)), .val (.int (1 : Int32)), .unset, .unset, .unset, .val (.int c0), .unset, .unset, .unset] [(.int ((((p2.toUInt32 >>> ((8 : Int32) &&& 31).toUInt32).toInt32) &&& (255 : Int32)).toUInt32.toUInt16.toUInt32.toInt32))]))) (fun t k => XS.iloadN X98.here hx rfl (hb hby at_232) rfl (XS.bipush X98.here hx rfl (hb hby at_233) (XS.iushr X98.here hx rfl (hb hby at_235) rfl (XS.sipush X98.here hx rfl (hb hby at_236) (XS.iand X98.here hx rfl (hb hby at_239) rfl (XS.i2c X98.here hx rfl (hb hby at_240) rfl k)))))) ?_
      refine own_by (W' := (T98.setTop (mkF m 243 #[.val (.int p0), .val (.int p1), .val (.int p2), .val (.ref b21), .val (.int (6 : Int32)), .val (.ref wTEXT), .val (.int (1 : Int32)), .val (.int (1 : Int32)), .unset, .unset, .unset, .val (.int c0), .val (.int ((((p2.toUInt32 >>> ((8 : Int32) &&& 31).toUInt32).toInt32) &&& (255 : Int32)).toUInt32.toUInt16.toUInt32.toInt32)), .unset, .unset] []))) (fun t k => XS.istore X98.here hx rfl (hb hby at_241) rfl (l' := #[.val (.int p0), .val (.int p1), .val (.int p2), .val (.ref b21), .val (.int (6 : Int32)), .val (.ref wTEXT), .val (.int (1 : Int32)), .val (.int (1 : Int32)), .unset, .unset, .unset, .val (.int c0), .val (.int ((((p2.toUInt32 >>> ((8 : Int32) &&& 31).toUInt32).toInt32) &&& (255 : Int32)).toUInt32.toUInt16.toUInt32.toInt32)), .unset, .unset]) rfl k) ?_
      generalize hv_c1 : ((((p2.toUInt32 >>> ((8 : Int32) &&& 31).toUInt32).toInt32) &&& (255 : Int32)).toUInt32.toUInt16.toUInt32.toInt32) = c1
      refine own_by (W' := (T98.setTop (mkF m 252 #[.val (.int p0), .val (.int p1), .val (.int p2), .val (.ref b21), .val (.int (6 : Int32)), .val (.ref wTEXT), .val (.int (1 : Int32)), .val (.int (1 : Int32)), .unset, .unset, .unset, .val (.int c0), .val (.int c1), .unset, .unset] [(.int ((((p2.toUInt32 >>> ((16 : Int32) &&& 31).toUInt32).toInt32) &&& (255 : Int32)).toUInt32.toUInt16.toUInt32.toInt32))]))) (fun t k => XS.iloadN X98.here hx rfl (hb hby at_243) rfl (XS.bipush X98.here hx rfl (hb hby at_244) (XS.iushr X98.here hx rfl (hb hby at_246) rfl (XS.sipush X98.here hx rfl (hb hby at_247) (XS.iand X98.here hx rfl (hb hby at_250) rfl (XS.i2c X98.here hx rfl (hb hby at_251) rfl k)))))) ?_
      refine own_by (W' := (T98.setTop (mkF m 254 #[.val (.int p0), .val (.int p1), .val (.int p2), .val (.ref b21), .val (.int (6 : Int32)), .val (.ref wTEXT), .val (.int (1 : Int32)), .val (.int (1 : Int32)), .unset, .unset, .unset, .val (.int c0), .val (.int c1), .val (.int ((((p2.toUInt32 >>> ((16 : Int32) &&& 31).toUInt32).toInt32) &&& (255 : Int32)).toUInt32.toUInt16.toUInt32.toInt32)), .unset] []))) (fun t k => XS.istore X98.here hx rfl (hb hby at_252) rfl (l' := #[.val (.int p0), .val (.int p1), .val (.int p2), .val (.ref b21), .val (.int (6 : Int32)), .val (.ref wTEXT), .val (.int (1 : Int32)), .val (.int (1 : Int32)), .unset, .unset, .unset, .val (.int c0), .val (.int c1), .val (.int ((((p2.toUInt32 >>> ((16 : Int32) &&& 31).toUInt32).toInt32) &&& (255 : Int32)).toUInt32.toUInt16.toUInt32.toInt32)), .unset]) rfl k) ?_
      generalize hv_c2 : ((((p2.toUInt32 >>> ((16 : Int32) &&& 31).toUInt32).toInt32) &&& (255 : Int32)).toUInt32.toUInt16.toUInt32.toInt32) = c2
      refine own_by (W' := (T98.setTop (mkF m 274 #[.val (.int p0), .val (.int p1), .val (.int p2), .val (.ref b21), .val (.int (6 : Int32)), .val (.ref wTEXT), .val (.int (1 : Int32)), .val (.int (1 : Int32)), .unset, .unset, .unset, .val (.int c0), .val (.int c1), .val (.int c2), .unset] [(.int c0)]))) (fun t k => XS.iload X98.here hx rfl (hb hby at_254) rfl (XS.ifYes X98.here hx rfl (pc0 := 256) (pc' := 266) rfl (hb hby at_256) rfl ((if0 _ _).trans (feq (by decide : ¬ ((1 : Int32) = (0 : Int32)))).2) (by decide) (by decide) (XS.iload X98.here hx rfl (hb hby at_266) rfl (XS.iconst X98.here hx rfl (hb hby at_268) (XS.icmpNo X98.here hx rfl (hb hby at_269) rfl (teq (rfl : (1 : Int32) = (1 : Int32))).2 (XS.iload X98.here hx rfl (hb hby at_272) rfl k)))))) ?_
      obtain ⟨_, _, ⟨T102, L102, k102, n102⟩, -, X102, ⟨Lc102, hQ102, l102, y102, z102⟩, st102⟩ := Jvm.LawKit.callS X98 hx (y := (⟨"java/lang/String", "valueOf", "(C)Ljava/lang/String;"⟩ : MethodName)) hown (mvT hZ (own_w hw 236)) (mvT hZ (own_w hw 237)) (mvT hZ (own_w hw 178)) (mvT hZ (own_w hw 238)) (by decide) (backOf (W := 0) (rmVC l Z a0 hw [] c0 wBOOLEAN wINTEGER wBITS wOCTETS wNULL wOBJECT_IDENTIFIER wTEXT wCOMPONENTS wELEMENTS wCHOICE wELEMENT cs wD kD wC clC h54 n0 (own_le O54) O54 HW (own_ch_of hv_c0).2) hZ (own_w hw 238) (own_w hw 178) (by decide) (by decide)) (g := (mkF m 274 #[.val (.int p0), .val (.int p1), .val (.int p2), .val (.ref b21), .val (.int (6 : Int32)), .val (.ref wTEXT), .val (.int (1 : Int32)), .val (.int (1 : Int32)), .unset, .unset, .unset, .val (.int c0), .val (.int c1), .val (.int c2), .unset] [(.int c0)])) rfl (by rw [hml]; rfl) (argsL := [(.int c0)]) (rest := []) (lenOf pd_24 rfl) rfl (by show 2 * 0 + _ ≤ _; exact Nat.le_of_eq rfl) (hb hby at_274) (fun _ _ => ⟨rfl, e98, (by decide : 1 + 2 ≤ _), (by decide : 11 + 5 ≤ _)⟩)
      dsimp only [Pt.U, Pt.locs, Pt.cells, Pt.slots] at X102 l102 y102 z102 st102 hQ102
      subst l102 y102 z102
      obtain ⟨fb102, rfl, N102q, Kq102, Tq102⟩ := hQ102
      have O102 := Old.keep O54 Kq102 all0
      have K102 := Keep.trans K54 Kq102 all0
      have Sf102_b21 := Safe.keep Kq102 all0 C54.1 Sf54_b21
      have C102 := CHr.trans C54 (CHr.keep Kq102 all0 C54.1)
      have N102 := Fr.app N98 N102q
      refine own_by (W' := (T102.setTop (mkF m 346 #[.val (.int p0), .val (.int p1), .val (.int p2), .val (.ref b21), .val (.int (6 : Int32)), .val (.ref wTEXT), .val (.int (1 : Int32)), .val (.int (1 : Int32)), .val (.ref fb102), .unset, .unset, .val (.int c0), .val (.int c1), .val (.int c2), .val (.ref fb102)] [(.int (1 : Int32))]))) (fun t k => st102 _ (XS.astore X102.here hx rfl (hb hby at_277) rfl rfl (l' := #[.val (.int p0), .val (.int p1), .val (.int p2), .val (.ref b21), .val (.int (6 : Int32)), .val (.ref wTEXT), .val (.int (1 : Int32)), .val (.int (1 : Int32)), .unset, .unset, .unset, .val (.int c0), .val (.int c1), .val (.int c2), .val (.ref fb102)]) rfl (XS.goto X102.here hx rfl (pc0 := 279) (pc' := 340) rfl (hb hby at_279) (by decide) (by decide) (XS.aload X102.here hx rfl (hb hby at_340) rfl rfl (XS.astore X102.here hx rfl (hb hby at_342) rfl rfl (l' := #[.val (.int p0), .val (.int p1), .val (.int p2), .val (.ref b21), .val (.int (6 : Int32)), .val (.ref wTEXT), .val (.int (1 : Int32)), .val (.int (1 : Int32)), .val (.ref fb102), .unset, .unset, .val (.int c0), .val (.int c1), .val (.int c2), .val (.ref fb102)]) rfl (XS.iload X102.here hx rfl (hb hby at_344) rfl k)))))) ?_
      obtain ⟨cq103, kq103, q103a, q103b, q103c⟩ := isOf hZ rfl (HW.2.2.2.2.2.2.2.2.2.2.2.2.2.2.2.2.2.2.2.1.ext O102.2)
      obtain ⟨_, _, ⟨T103, L103, k103, n103⟩, -, X103, ⟨Lc103, hQ103, l103, y103, z103⟩, st103⟩ := X102.virtualBack hx (y := (⟨"com/example/tagwright/tagwright/typed/Form", "sizeOf", "(Ljava/lang/Object;)J"⟩ : MethodName)) (z := (⟨"com/example/tagwright/tagwright/typed/Form", "sizeOf", "(Ljava/lang/Object;)J"⟩ : MethodName)) hown (mvT hZ (own_w hw 62)) (mvT hZ (own_w hw 63)) (notFace_of_selects (args := #[]) (mvT hZ (own_w hw 65))) (mvT hZ (own_w hw 65)) (mvT hZ (own_w hw 64)) (by decide) (backOf (W := 0) (rmZTEXT l Z a0 hw [] fb102 (1 : Int32) [(.int (nar .byte (c0.toInt8.toInt32)))] wBOOLEAN wINTEGER wBITS wOCTETS wNULL wOBJECT_IDENTIFIER wTEXT wCOMPONENTS wELEMENTS wCHOICE wELEMENT cs wD kD wC clC T102.heap n0 (own_le O102) O102 HW Tq102) hZ (own_w hw 66) (own_w hw 3) (by decide) (by decide)) q103a q103c (g := (mkF m 422 #[.val (.int p0), .val (.int p1), .val (.int p2), .val (.ref b21), .val (.int (6 : Int32)), .val (.ref wTEXT), .val (.int (1 : Int32)), .val (.int (1 : Int32)), .val (.ref fb102), .val (.long ((1 : Int32).toInt64)), .second, .val (.int c0), .val (.int c1), .val (.int c2), .val (.ref fb102)] [(.ref fb102), (.ref wTEXT)])) rfl (by rw [hml]; rfl) (Steps.refl _) (argsL := [(.ref fb102)]) (rest := []) (lenOf pd_23 rfl) rfl (by show 2 * 0 + _ ≤ _; exact Nat.le_of_eq rfl) (hb hby at_422) (fun _ _ => ⟨rfl, rfl, (by decide : 3 + 0 ≤ _), (by decide : 16 + 0 ≤ _)⟩)
      dsimp only [Pt.U, Pt.locs, Pt.cells, Pt.slots] at X103 l103 y103 z103 st103 hQ103
      subst l103 y103 z103
      obtain ⟨rfl, N103q, e103⟩ := hQ103
      have N103 := Fr.app N102 N103q
      refine own_by (W' := (T103.setTop (mkF m 425 #[.val (.int p0), .val (.int p1), .val (.int p2), .val (.ref b21), .val (.int (6 : Int32)), .val (.ref wTEXT), .val (.int (1 : Int32)), .val (.int (1 : Int32)), .val (.ref fb102), .val (.long ((1 : Int32).toInt64)), .second, .val (.int c0), .val (.int c1), .val (.int c2), .val (.ref fb102)] [(.long ((1 : Int32).toInt64))]))) (fun t k => XS.i2l X102.here hx rfl (hb hby at_346) rfl (XS.lstore X102.here hx rfl (hb hby at_347) rfl (l' := #[.val (.int p0), .val (.int p1), .val (.int p2), .val (.ref b21), .val (.int (6 : Int32)), .val (.ref wTEXT), .val (.int (1 : Int32)), .val (.int (1 : Int32)), .val (.ref fb102), .val (.long ((1 : Int32).toInt64)), .second, .val (.int c0), .val (.int c1), .val (.int c2), .val (.ref fb102)]) rfl (XS.goto X102.here hx rfl (pc0 := 349) (pc' := 418) rfl (hb hby at_349) (by decide) (by decide) (XS.aload X102.here hx rfl (hb hby at_418) rfl rfl (XS.aload X102.here hx rfl (hb hby at_420) rfl rfl (Steps.trans st103 k)))))) ?_
      obtain ⟨fs, hr, hrun, hended, hEnd⟩ := Jvm.Stand.leaveW (s := s) (vm₁ := s.vm) X103 hS0 (by rw [e103]; exact (Nat.le_trans (Nat.le_trans (Nat.le_trans (Nat.le_trans (Nat.le_trans (Nat.le_trans (Nat.le_trans (Nat.le_trans (Nat.le_trans (Nat.le_trans (Nat.le_trans (Nat.le_trans (Nat.le_trans (Nat.le_refl _) E21.1) (Keep.of_wr W24).1) (Keep.of_wr W27).1) (Keep.of_wr W30).1) (Keep.of_wr W33).1) (Keep.of_wr W36).1) (Keep.of_wr W39).1) (Keep.of_wr W42).1) (Keep.of_wr W45).1) (Keep.of_wr W48).1) (Keep.of_wr W51).1) (Keep.of_wr W54).1) Kq102.1)) (v := some (.int (1 : Int32))) (fun h => by rw [Bd.returns] at h; cases h)
      refine own_by (W' := (T103.setTop (mkF m 436 #[.val (.int p0), .val (.int p1), .val (.int p2), .val (.ref b21), .val (.int (6 : Int32)), .val (.ref wTEXT), .val (.int (1 : Int32)), .val (.int (1 : Int32)), .val (.ref fb102), .val (.long ((1 : Int32).toInt64)), .second, .val (.int c0), .val (.int c1), .val (.int c2), .val (.ref fb102)] [(.int (1 : Int32))]))) (fun t k => XS.lload X103.here hx rfl (hb hby at_425) rfl (XS.lcmp X103.here hx rfl (hb hby at_427) rfl (XS.ifNo X103.here hx rfl (hb hby at_428) rfl (own_lceq (rfl : ((1 : Int32).toInt64) = ((1 : Int32).toInt64))).2 (XS.iconst X103.here hx rfl (hb hby at_431) (XS.goto X103.here hx rfl (pc0 := 432) (pc' := 436) rfl (hb hby at_432) (by decide) (by decide) k))))) ?_
      refine ⟨_, _, retOut X103 hx Bd.returns rfl (Or.inl ⟨rfl, Or.inr (Or.inl rfl), _, rfl⟩) (hb hby at_436) hr, hrun, hended, _, _, rfl, ?_, (by rw [hh]; show CHr Z consts_1 s.vm h0 T103.vm T103.heap; rw [e103]; exact CHr.trans C102 (CHv.at (s := s) (vm0 := s.vm) X103 hZ (own_EW hw) C102.1)), hEnd.1, hEnd.2.1, hEnd.2.2.1, hEnd.2.2.2.mono (by decide) (by decide)⟩
      exact ⟨rfl, N103⟩
    ·
      rw [hs]
      refine own_by (W' := (T98.setTop (mkF m 200 #[.val (.int p0), .val (.int p1), .val (.int p2), .val (.ref b21), .val (.int (6 : Int32)), .val (.ref wTEXT), .val (.int (1 : Int32)), .val (.int (2 : Int32)), .unset, .unset, .unset, .unset, .unset, .unset, .unset] [(.int (3 : Int32)), (.int (6 : Int32))]))) (fun t k => XS.istore X98.here hx rfl (hb hby at_147) rfl (l' := #[.val (.int p0), .val (.int p1), .val (.int p2), .val (.ref b21), .val (.int (6 : Int32)), .val (.ref wTEXT), .val (.int (1 : Int32)), .val (.int (2 : Int32)), .unset, .unset, .unset, .unset, .unset, .unset, .unset]) rfl (XS.iload X98.here hx rfl (hb hby at_149) rfl (XS.iconst X98.here hx rfl (hb hby at_151) (XS.icmpYes X98.here hx rfl (pc0 := 152) (pc' := 197) rfl (hb hby at_152) rfl (feq (by decide : ¬ ((6 : Int32) = (2 : Int32)))).2 (by decide) (by decide) (XS.iload X98.here hx rfl (hb hby at_197) rfl (XS.iconst X98.here hx rfl (hb hby at_199) k)))))) ?_
      refine own_by (W' := (T98.setTop (mkF m 228 #[.val (.int p0), .val (.int p1), .val (.int p2), .val (.ref b21), .val (.int (6 : Int32)), .val (.ref wTEXT), .val (.int (1 : Int32)), .val (.int (2 : Int32)), .unset, .unset, .unset, .unset, .unset, .unset, .unset] [(.int (255 : Int32)), (.int p2)]))) (fun t k => XS.icmpYes X98.here hx rfl (pc0 := 200) (pc' := 217) rfl (hb hby at_200) rfl (feq (by decide : ¬ ((6 : Int32) = (3 : Int32)))).2 (by decide) (by decide) (XS.iload X98.here hx rfl (hb hby at_217) rfl (XS.bipush X98.here hx rfl (hb hby at_219) (XS.icmpNo X98.here hx rfl (hb hby at_221) rfl (teq (rfl : (6 : Int32) = (6 : Int32))).2 (XS.iloadN X98.here hx rfl (hb hby at_224) rfl (XS.sipush X98.here hx rfl (hb hby at_225) k)))))) ?_
      refine own_by (W' := (T98.setTop (mkF m 232 #[.val (.int p0), .val (.int p1), .val (.int p2), .val (.ref b21), .val (.int (6 : Int32)), .val (.ref wTEXT), .val (.int (1 : Int32)), .val (.int (2 : Int32)), .unset, .unset, .unset, .val (.int ((p2 &&& (255 : Int32)).toUInt32.toUInt16.toUInt32.toInt32)), .unset, .unset, .unset] []))) (fun t k => XS.iand X98.here hx rfl (hb hby at_228) rfl (XS.i2c X98.here hx rfl (hb hby at_229) rfl (XS.istore X98.here hx rfl (hb hby at_230) rfl (l' := #[.val (.int p0), .val (.int p1), .val (.int p2), .val (.ref b21), .val (.int (6 : Int32)), .val (.ref wTEXT), .val (.int (1 : Int32)), .val (.int (2 : Int32)), .unset, .unset, .unset, .val (.int ((p2 &&& (255 : Int32)).toUInt32.toUInt16.toUInt32.toInt32)), .unset, .unset, .unset]) rfl k))) ?_
      generalize hv_c0 : ((p2 &&& (255 : Int32)).toUInt32.toUInt16.toUInt32.toInt32) = c0
      refine own_by (W' := (T98.setTop (mkF m 241 #[.val (.int p0), .val (.int p1), .val (.int p2), .val (.ref b21), .val (.int (6 : Int32)), .val (.ref wTEXT), .val (.int (1 : Int32)), .val (.int (2 : Int32)), .unset, .unset, .unset, .val (.int c0), .unset, .unset, .unset] [(.int ((((p2.toUInt32 >>> ((8 : Int32) &&& 31).toUInt32).toInt32) &&& (255 : Int32)).toUInt32.toUInt16.toUInt32.toInt32))]))) (fun t k => XS.iloadN X98.here hx rfl (hb hby at_232) rfl (XS.bipush X98.here hx rfl (hb hby at_233) (XS.iushr X98.here hx rfl (hb hby at_235) rfl (XS.sipush X98.here hx rfl (hb hby at_236) (XS.iand X98.here hx rfl (hb hby at_239) rfl (XS.i2c X98.here hx rfl (hb hby at_240) rfl k)))))) ?_
      refine own_by (W' := (T98.setTop (mkF m 243 #[.val (.int p0), .val (.int p1), .val (.int p2), .val (.ref b21), .val (.int (6 : Int32)), .val (.ref wTEXT), .val (.int (1 : Int32)), .val (.int (2 : Int32)), .unset, .unset, .unset, .val (.int c0), .val (.int ((((p2.toUInt32 >>> ((8 : Int32) &&& 31).toUInt32).toInt32) &&& (255 : Int32)).toUInt32.toUInt16.toUInt32.toInt32)), .unset, .unset] []))) (fun t k => XS.istore X98.here hx rfl (hb hby at_241) rfl (l' := #[.val (.int p0), .val (.int p1), .val (.int p2), .val (.ref b21), .val (.int (6 : Int32)), .val (.ref wTEXT), .val (.int (1 : Int32)), .val (.int (2 : Int32)), .unset, .unset, .unset, .val (.int c0), .val (.int ((((p2.toUInt32 >>> ((8 : Int32) &&& 31).toUInt32).toInt32) &&& (255 : Int32)).toUInt32.toUInt16.toUInt32.toInt32)), .unset, .unset]) rfl k) ?_
      generalize hv_c1 : ((((p2.toUInt32 >>> ((8 : Int32) &&& 31).toUInt32).toInt32) &&& (255 : Int32)).toUInt32.toUInt16.toUInt32.toInt32) = c1
      refine own_by (W' := (T98.setTop (mkF m 252 #[.val (.int p0), .val (.int p1), .val (.int p2), .val (.ref b21), .val (.int (6 : Int32)), .val (.ref wTEXT), .val (.int (1 : Int32)), .val (.int (2 : Int32)), .unset, .unset, .unset, .val (.int c0), .val (.int c1), .unset, .unset] [(.int ((((p2.toUInt32 >>> ((16 : Int32) &&& 31).toUInt32).toInt32) &&& (255 : Int32)).toUInt32.toUInt16.toUInt32.toInt32))]))) (fun t k => XS.iloadN X98.here hx rfl (hb hby at_243) rfl (XS.bipush X98.here hx rfl (hb hby at_244) (XS.iushr X98.here hx rfl (hb hby at_246) rfl (XS.sipush X98.here hx rfl (hb hby at_247) (XS.iand X98.here hx rfl (hb hby at_250) rfl (XS.i2c X98.here hx rfl (hb hby at_251) rfl k)))))) ?_
      refine own_by (W' := (T98.setTop (mkF m 254 #[.val (.int p0), .val (.int p1), .val (.int p2), .val (.ref b21), .val (.int (6 : Int32)), .val (.ref wTEXT), .val (.int (1 : Int32)), .val (.int (2 : Int32)), .unset, .unset, .unset, .val (.int c0), .val (.int c1), .val (.int ((((p2.toUInt32 >>> ((16 : Int32) &&& 31).toUInt32).toInt32) &&& (255 : Int32)).toUInt32.toUInt16.toUInt32.toInt32)), .unset] []))) (fun t k => XS.istore X98.here hx rfl (hb hby at_252) rfl (l' := #[.val (.int p0), .val (.int p1), .val (.int p2), .val (.ref b21), .val (.int (6 : Int32)), .val (.ref wTEXT), .val (.int (1 : Int32)), .val (.int (2 : Int32)), .unset, .unset, .unset, .val (.int c0), .val (.int c1), .val (.int ((((p2.toUInt32 >>> ((16 : Int32) &&& 31).toUInt32).toInt32) &&& (255 : Int32)).toUInt32.toUInt16.toUInt32.toInt32)), .unset]) rfl k) ?_
      generalize hv_c2 : ((((p2.toUInt32 >>> ((16 : Int32) &&& 31).toUInt32).toInt32) &&& (255 : Int32)).toUInt32.toUInt16.toUInt32.toInt32) = c2
      refine own_by (W' := (T98.setTop (mkF m 284 #[.val (.int p0), .val (.int p1), .val (.int p2), .val (.ref b21), .val (.int (6 : Int32)), .val (.ref wTEXT), .val (.int (1 : Int32)), .val (.int (2 : Int32)), .unset, .unset, .unset, .val (.int c0), .val (.int c1), .val (.int c2), .unset] [(.int (2 : Int32))]))) (fun t k => XS.iload X98.here hx rfl (hb hby at_254) rfl (XS.ifYes X98.here hx rfl (pc0 := 256) (pc' := 266) rfl (hb hby at_256) rfl ((if0 _ _).trans (feq (by decide : ¬ ((2 : Int32) = (0 : Int32)))).2) (by decide) (by decide) (XS.iload X98.here hx rfl (hb hby at_266) rfl (XS.iconst X98.here hx rfl (hb hby at_268) (XS.icmpYes X98.here hx rfl (pc0 := 269) (pc' := 282) rfl (hb hby at_269) rfl (feq (by decide : ¬ ((2 : Int32) = (1 : Int32)))).2 (by decide) (by decide) (XS.iload X98.here hx rfl (hb hby at_282) rfl k)))))) ?_
      obtain ⟨T104, h104, X104, e104, E104, A104, D104, -, st104⟩ := newO X98 hx hZ hown (own_w hw 176) (own_w hw 177) (own_w hw 178) e98 (g := (mkF m 288 #[.val (.int p0), .val (.int p1), .val (.int p2), .val (.ref b21), .val (.int (6 : Int32)), .val (.ref wTEXT), .val (.int (1 : Int32)), .val (.int (2 : Int32)), .unset, .unset, .unset, .val (.int c0), .val (.int c1), .val (.int c2), .unset] [])) rfl (hb hby at_288) (by decide) (by decide)
      obtain ⟨b104, g104⟩ : ∃ z, z = h54.size := ⟨_, rfl⟩
      rw [← g104] at A104 D104 st104
      have g_b104 : n0 ≤ b104 := Nat.le_trans (own_le O54) (Nat.le_of_eq g104.symm)
      have sz_b104 : h0.size ≤ b104 := Nat.le_trans K54.1 (Nat.le_of_eq g104.symm)
      have ne_b21_b104 : b21 ≠ b104 := Nat.ne_of_lt (Nat.lt_of_lt_of_le Vu53.lt (Nat.le_of_eq g104.symm))
      have Sf104_b104 : Safe Z consts_1 s.vm _ b104 := Safe.ext E104 C54.1 (Safe.new (Nat.le_of_eq g104.symm))
      have Sf104_b21 := Safe.ext E104 C54.1 Sf54_b21
      have C104 := CHr.trans C54 (CHr.ext E104 C54.1)
      have O104 := O54.ext E104
      have K104 := Keep.ext K54 E104
      have F_coder_b104 : Fld Z h104 b104 "java/lang/String" "coder" "B" (.int (0 : Int32)) := D104 (Or.inr (own_w hw 200)) (ty := .byte) (by decide)
      have F_value_b104 : Fld Z h104 b104 "java/lang/String" "value" "[B" .null := D104 (Or.inr (own_w hw 202)) (ty := (.array .byte)) (by decide)
      obtain ⟨T105, h105, k105, X105, e105, E105, A105, Ex105, st105⟩ := newPE X104 hx hZ (own_w hw 179) e104 (g := (mkF m 293 #[.val (.int p0), .val (.int p1), .val (.int p2), .val (.ref b21), .val (.int (6 : Int32)), .val (.ref wTEXT), .val (.int (1 : Int32)), .val (.int (2 : Int32)), .unset, .unset, .unset, .val (.int c0), .val (.int c1), .val (.int c2), .unset] [(.int (2 : Int32)), (.ref b104), (.ref b104)])) rfl (hb hby at_293) rfl (by decide) (cap := 2) (by decide) (by decide) (by decide) (by decide) (ad := "[C") (by decide)
      obtain ⟨b105, g105⟩ : ∃ z, z = h104.size := ⟨_, rfl⟩
      rw [← g105] at A105 Ex105 st105
      have g_b105 : n0 ≤ b105 := Nat.le_trans (own_le O104) (Nat.le_of_eq g105.symm)
      have sz_b105 : h0.size ≤ b105 := Nat.le_trans K104.1 (Nat.le_of_eq g105.symm)
      have ne_b21_b105 : b21 ≠ b105 := Nat.ne_of_lt (Nat.lt_of_lt_of_le (Vu53.ext E104).lt (Nat.le_of_eq g105.symm))
      have ne_b104_b105 : b104 ≠ b105 := Nat.ne_of_lt (Nat.lt_of_lt_of_le A104.lt (Nat.le_of_eq g105.symm))
      have Sf105_b105 : Safe Z consts_1 s.vm _ b105 := Safe.ext E105 C104.1 (Safe.new (Nat.le_of_eq g105.symm))
      have Sf105_b21 := Safe.ext E105 C104.1 Sf104_b21
      have Sf105_b104 := Safe.ext E105 C104.1 Sf104_b104
      have C105 := CHr.trans C104 (CHr.ext E105 C104.1)
      have O105 := O104.ext E105
      have K105 := Keep.ext K104 E105
      have V_b105 : Arv Z h105 b105 k105 .char (2 : Int32) [(.int (0 : Int32)), (.int (0 : Int32))] (.int (0 : Int32)) := (Arv.new A105 (by decide)).pad (pad_rep [] (.int (0 : Int32)) 2)
      refine own_by (W' := (T105.setTop (mkF m 295 #[.val (.int p0), .val (.int p1), .val (.int p2), .val (.ref b21), .val (.int (6 : Int32)), .val (.ref wTEXT), .val (.int (1 : Int32)), .val (.int (2 : Int32)), .unset, .unset, .unset, .val (.int c0), .val (.int c1), .val (.int c2), .unset] [(.ref b105), (.ref b104), (.ref b104)]))) (fun t k => XS.iconst X98.here hx rfl (hb hby at_284) (XS.icmpNo X98.here hx rfl (hb hby at_285) rfl (teq (rfl : (2 : Int32) = (2 : Int32))).2 (st104 _ (XS.dup X104.here hx rfl (hb hby at_291) rfl rfl (XS.iconst X104.here hx rfl (hb hby at_292) (st105 _ k)))))) ?_
      obtain ⟨clu106, Aru106, qu106, Su106, Ngu106, Hau106, Gau106⟩ := id V_b105
      have hinu106 : ¬ ((0 : Int32) < 0 ∨ clu106.slots.size ≤ ((0 : Int32)).toNatClampNeg) := inb_of Su106 ⟨by decide, by decide⟩
      obtain ⟨T107, h107, X107, e107, W107, st107⟩ := stC X105 hx hZ e105 Aru106 (j := (0 : Int32)) hinu106 (g := (mkF m 299 #[.val (.int p0), .val (.int p1), .val (.int p2), .val (.ref b21), .val (.int (6 : Int32)), .val (.ref wTEXT), .val (.int (1 : Int32)), .val (.int (2 : Int32)), .unset, .unset, .unset, .val (.int c0), .val (.int c1), .val (.int c2), .unset] [(.int c0), (.int (0 : Int32)), (.ref b105), (.ref b105), (.ref b104), (.ref b104)])) rfl rfl (hb hby at_299)
      have Vu106 : Arv Z h107 b105 k105 .char (2 : Int32) [(.int (nar .char c0)), (.int (0 : Int32))] (.int (0 : Int32)) := Arv.set Aru106 qu106 Su106 Ngu106 Hau106 Gau106 (fits_nar_char _) W107 0 rfl (Nat.le_of_ble_eq_true rfl)
      rw [show nar .char c0 = c0 from (own_ch_of hv_c0).1] at Vu106
      have Sf107_b21 := Safe.wr W107 Sf105_b105 C105.1 Sf105_b21
      have Sf107_b104 := Safe.wr W107 Sf105_b105 C105.1 Sf105_b104
      have Sf107_b105 := Safe.wr W107 Sf105_b105 C105.1 Sf105_b105
      have C107 := CHr.trans C105 (CHr.wr W107 Sf105_b105 C105.1)
      have O107 := Old.wr O105 W107 g_b105
      have N107 := Fr.snoc X107 N98 g_b105
      have K107 := Keep.wr K105 W107 (Or.inr sz_b105)
      refine own_by (W' := (T107.setTop (mkF m 302 #[.val (.int p0), .val (.int p1), .val (.int p2), .val (.ref b21), .val (.int (6 : Int32)), .val (.ref wTEXT), .val (.int (1 : Int32)), .val (.int (2 : Int32)), .unset, .unset, .unset, .val (.int c0), .val (.int c1), .val (.int c2), .unset] [(.int (1 : Int32)), (.ref b105), (.ref b105), (.ref b104), (.ref b104)]))) (fun t k => XS.dup X105.here hx rfl (hb hby at_295) rfl rfl (XS.iconst X105.here hx rfl (hb hby at_296) (XS.iload X105.here hx rfl (hb hby at_297) rfl (st107 _ (XS.dup X107.here hx rfl (hb hby at_300) rfl rfl (XS.iconst X107.here hx rfl (hb hby at_301) k)))))) ?_
      obtain ⟨clu108, Aru108, qu108, Su108, Ngu108, Hau108, Gau108⟩ := id Vu106
      have hinu108 : ¬ ((1 : Int32) < 0 ∨ clu108.slots.size ≤ ((1 : Int32)).toNatClampNeg) := inb_of Su108 ⟨by decide, by decide⟩
      obtain ⟨T109, h109, X109, e109, W109, st109⟩ := stC X107 hx hZ e107 Aru108 (j := (1 : Int32)) hinu108 (g := (mkF m 304 #[.val (.int p0), .val (.int p1), .val (.int p2), .val (.ref b21), .val (.int (6 : Int32)), .val (.ref wTEXT), .val (.int (1 : Int32)), .val (.int (2 : Int32)), .unset, .unset, .unset, .val (.int c0), .val (.int c1), .val (.int c2), .unset] [(.int c1), (.int (1 : Int32)), (.ref b105), (.ref b105), (.ref b104), (.ref b104)])) rfl rfl (hb hby at_304)
      have Vu108 : Arv Z h109 b105 k105 .char (2 : Int32) [(.int c0), (.int (nar .char c1))] (.int (0 : Int32)) := Arv.set Aru108 qu108 Su108 Ngu108 Hau108 Gau108 (fits_nar_char _) W109 1 rfl (Nat.le_of_ble_eq_true rfl)
      rw [show nar .char c1 = c1 from (own_ch_of hv_c1).1] at Vu108
      have Sf109_b21 := Safe.wr W109 Sf107_b105 C107.1 Sf107_b21
      have Sf109_b104 := Safe.wr W109 Sf107_b105 C107.1 Sf107_b104
      have Sf109_b105 := Safe.wr W109 Sf107_b105 C107.1 Sf107_b105
      have C109 := CHr.trans C107 (CHr.wr W109 Sf107_b105 C107.1)
      have O109 := Old.wr O107 W109 g_b105
      have N109 := Fr.snoc X109 N107 g_b105
      have K109 := Keep.wr K107 W109 (Or.inr sz_b105)
      obtain ⟨_, _, ⟨T110, L110, k110, n110⟩, -, X110, ⟨Lc110, hQ110, l110, y110, z110⟩, st110⟩ := X109.specialBack hx (y := (⟨"java/lang/String", "<init>", "([C)V"⟩ : MethodName)) rfl hown (mvT hZ (own_w hw 180)) (mvT hZ (own_w hw 181)) (mvT hZ (own_w hw 182)) (by decide) (backOf (W := 1) (rmsa2 l Z a0 hw [] b104 b105 k105 c0 c1 wBOOLEAN wINTEGER wBITS wOCTETS wNULL wOBJECT_IDENTIFIER wTEXT wCOMPONENTS wELEMENTS wCHOICE wELEMENT cs wD kD wC clC h109 n0 (own_le O109) O109 HW (((A104.ext E105).wr W107).wr W109) g_b104 (((F_value_b104.ext E105).other W107 (Or.inl ne_b104_b105)).other W109 (Or.inl ne_b104_b105)) (((F_coder_b104.ext E105).other W107 (Or.inl ne_b104_b105)).other W109 (Or.inl ne_b104_b105)) Vu108 (own_ch_of hv_c0).2 (own_ch_of hv_c1).2) hZ (own_w hw 182) (own_w hw 178) (by decide) (by decide)) (g := (mkF m 305 #[.val (.int p0), .val (.int p1), .val (.int p2), .val (.ref b21), .val (.int (6 : Int32)), .val (.ref wTEXT), .val (.int (1 : Int32)), .val (.int (2 : Int32)), .unset, .unset, .unset, .val (.int c0), .val (.int c1), .val (.int c2), .unset] [(.ref b105), (.ref b104), (.ref b104)])) rfl (by rw [hml]; rfl) (Steps.refl _) (a := b104) (argsL := [(.ref b105)]) (rest := [(.ref b104)]) (lenOf pd_25 rfl) rfl (by show 2 * 0 + _ ≤ _; exact Nat.le_of_eq rfl) (hb hby at_305) (fun _ _ => ⟨rfl, e109, (by decide : 3 + 1 ≤ _), (by decide : 17 + 2 ≤ _)⟩)
      dsimp only [Pt.U, Pt.locs, Pt.cells, Pt.slots] at X110 l110 y110 z110 st110 hQ110
      subst l110 y110 z110
      obtain ⟨rfl, N110q, Kq110, Tq110⟩ := hQ110
      have O110 := Old.keep O109 Kq110 (allS g_b104 all0)
      have K110 := Keep.trans K109 Kq110 (allS (Or.inr sz_b104) all0)
      have Sf110_b21 := Safe.keep Kq110 (allS Sf109_b104 all0) C109.1 Sf109_b21
      have Sf110_b104 := Safe.keep Kq110 (allS Sf109_b104 all0) C109.1 Sf109_b104
      have Sf110_b105 := Safe.keep Kq110 (allS Sf109_b104 all0) C109.1 Sf109_b105
      have C110 := CHr.trans C109 (CHr.keep Kq110 (allS Sf109_b104 all0) C109.1)
      have N110 := Fr.app N109 N110q
      refine own_by (W' := (T110.setTop (mkF m 342 #[.val (.int p0), .val (.int p1), .val (.int p2), .val (.ref b21), .val (.int (6 : Int32)), .val (.ref wTEXT), .val (.int (1 : Int32)), .val (.int (2 : Int32)), .unset, .unset, .unset, .val (.int c0), .val (.int c1), .val (.int c2), .val (.ref b104)] [(.ref b104)]))) (fun t k => XS.iload X107.here hx rfl (hb hby at_302) rfl (st109 _ (Steps.trans st110 (XS.astore X110.here hx rfl (hb hby at_308) rfl rfl (l' := #[.val (.int p0), .val (.int p1), .val (.int p2), .val (.ref b21), .val (.int (6 : Int32)), .val (.ref wTEXT), .val (.int (1 : Int32)), .val (.int (2 : Int32)), .unset, .unset, .unset, .val (.int c0), .val (.int c1), .val (.int c2), .val (.ref b104)]) rfl (XS.goto X110.here hx rfl (pc0 := 310) (pc' := 340) rfl (hb hby at_310) (by decide) (by decide) (XS.aload X110.here hx rfl (hb hby at_340) rfl rfl k)))))) ?_
      refine own_by (W' := (T110.setTop (mkF m 420 #[.val (.int p0), .val (.int p1), .val (.int p2), .val (.ref b21), .val (.int (6 : Int32)), .val (.ref wTEXT), .val (.int (1 : Int32)), .val (.int (2 : Int32)), .val (.ref b104), .val (.long ((2 : Int32).toInt64)), .second, .val (.int c0), .val (.int c1), .val (.int c2), .val (.ref b104)] [(.ref wTEXT)]))) (fun t k => XS.astore X110.here hx rfl (hb hby at_342) rfl rfl (l' := #[.val (.int p0), .val (.int p1), .val (.int p2), .val (.ref b21), .val (.int (6 : Int32)), .val (.ref wTEXT), .val (.int (1 : Int32)), .val (.int (2 : Int32)), .val (.ref b104), .unset, .unset, .val (.int c0), .val (.int c1), .val (.int c2), .val (.ref b104)]) rfl (XS.iload X110.here hx rfl (hb hby at_344) rfl (XS.i2l X110.here hx rfl (hb hby at_346) rfl (XS.lstore X110.here hx rfl (hb hby at_347) rfl (l' := #[.val (.int p0), .val (.int p1), .val (.int p2), .val (.ref b21), .val (.int (6 : Int32)), .val (.ref wTEXT), .val (.int (1 : Int32)), .val (.int (2 : Int32)), .val (.ref b104), .val (.long ((2 : Int32).toInt64)), .second, .val (.int c0), .val (.int c1), .val (.int c2), .val (.ref b104)]) rfl (XS.goto X110.here hx rfl (pc0 := 349) (pc' := 418) rfl (hb hby at_349) (by decide) (by decide) (XS.aload X110.here hx rfl (hb hby at_418) rfl rfl k)))))) ?_
      obtain ⟨cq111, kq111, q111a, q111b, q111c⟩ := isOf hZ rfl (HW.2.2.2.2.2.2.2.2.2.2.2.2.2.2.2.2.2.2.2.1.ext O110.2)
      obtain ⟨_, _, ⟨T111, L111, k111, n111⟩, -, X111, ⟨Lc111, hQ111, l111, y111, z111⟩, st111⟩ := X110.virtualBack hx (y := (⟨"com/example/tagwright/tagwright/typed/Form", "sizeOf", "(Ljava/lang/Object;)J"⟩ : MethodName)) (z := (⟨"com/example/tagwright/tagwright/typed/Form", "sizeOf", "(Ljava/lang/Object;)J"⟩ : MethodName)) hown (mvT hZ (own_w hw 62)) (mvT hZ (own_w hw 63)) (notFace_of_selects (args := #[]) (mvT hZ (own_w hw 65))) (mvT hZ (own_w hw 65)) (mvT hZ (own_w hw 64)) (by decide) (backOf (W := 0) (rmZTEXT l Z a0 hw [] b104 (2 : Int32) [(.int (nar .byte (c0.toInt8.toInt32))), (.int (nar .byte (c1.toInt8.toInt32)))] wBOOLEAN wINTEGER wBITS wOCTETS wNULL wOBJECT_IDENTIFIER wTEXT wCOMPONENTS wELEMENTS wCHOICE wELEMENT cs wD kD wC clC T110.heap n0 (own_le O110) O110 HW Tq110) hZ (own_w hw 66) (own_w hw 3) (by decide) (by decide)) q111a q111c (g := (mkF m 422 #[.val (.int p0), .val (.int p1), .val (.int p2), .val (.ref b21), .val (.int (6 : Int32)), .val (.ref wTEXT), .val (.int (1 : Int32)), .val (.int (2 : Int32)), .val (.ref b104), .val (.long ((2 : Int32).toInt64)), .second, .val (.int c0), .val (.int c1), .val (.int c2), .val (.ref b104)] [(.ref b104), (.ref wTEXT)])) rfl (by rw [hml]; rfl) (Steps.refl _) (argsL := [(.ref b104)]) (rest := []) (lenOf pd_23 rfl) rfl (by show 2 * 0 + _ ≤ _; exact Nat.le_of_eq rfl) (hb hby at_422) (fun _ _ => ⟨rfl, rfl, (by decide : 4 + 0 ≤ _), (by decide : 19 + 0 ≤ _)⟩)
      dsimp only [Pt.U, Pt.locs, Pt.cells, Pt.slots] at X111 l111 y111 z111 st111 hQ111
      subst l111 y111 z111
      obtain ⟨rfl, N111q, e111⟩ := hQ111
      have N111 := Fr.app N110 N111q
      refine own_by (W' := (T111.setTop (mkF m 432 #[.val (.int p0), .val (.int p1), .val (.int p2), .val (.ref b21), .val (.int (6 : Int32)), .val (.ref wTEXT), .val (.int (1 : Int32)), .val (.int (2 : Int32)), .val (.ref b104), .val (.long ((2 : Int32).toInt64)), .second, .val (.int c0), .val (.int c1), .val (.int c2), .val (.ref b104)] [(.int (1 : Int32))]))) (fun t k => XS.aload X110.here hx rfl (hb hby at_420) rfl rfl (Steps.trans st111 (XS.lload X111.here hx rfl (hb hby at_425) rfl (XS.lcmp X111.here hx rfl (hb hby at_427) rfl (XS.ifNo X111.here hx rfl (hb hby at_428) rfl (own_lceq (rfl : ((2 : Int32).toInt64) = ((2 : Int32).toInt64))).2 (XS.iconst X111.here hx rfl (hb hby at_431) k)))))) ?_
      obtain ⟨fs, hr, hrun, hended, hEnd⟩ := Jvm.Stand.leaveW (s := s) (vm₁ := s.vm) X111 hS0 (by rw [e111]; exact (Nat.le_trans (Nat.le_trans (Nat.le_trans (Nat.le_trans (Nat.le_trans (Nat.le_trans (Nat.le_trans (Nat.le_trans (Nat.le_trans (Nat.le_trans (Nat.le_trans (Nat.le_trans (Nat.le_trans (Nat.le_trans (Nat.le_trans (Nat.le_trans (Nat.le_trans (Nat.le_refl _) E21.1) (Keep.of_wr W24).1) (Keep.of_wr W27).1) (Keep.of_wr W30).1) (Keep.of_wr W33).1) (Keep.of_wr W36).1) (Keep.of_wr W39).1) (Keep.of_wr W42).1) (Keep.of_wr W45).1) (Keep.of_wr W48).1) (Keep.of_wr W51).1) (Keep.of_wr W54).1) E104.1) E105.1) (Keep.of_wr W107).1) (Keep.of_wr W109).1) Kq110.1)) (v := some (.int (1 : Int32))) (fun h => by rw [Bd.returns] at h; cases h)
      refine own_by (W' := (T111.setTop (mkF m 436 #[.val (.int p0), .val (.int p1), .val (.int p2), .val (.ref b21), .val (.int (6 : Int32)), .val (.ref wTEXT), .val (.int (1 : Int32)), .val (.int (2 : Int32)), .val (.ref b104), .val (.long ((2 : Int32).toInt64)), .second, .val (.int c0), .val (.int c1), .val (.int c2), .val (.ref b104)] [(.int (1 : Int32))]))) (fun t k => XS.goto X111.here hx rfl (pc0 := 432) (pc' := 436) rfl (hb hby at_432) (by decide) (by decide) k) ?_
      refine ⟨_, _, retOut X111 hx Bd.returns rfl (Or.inl ⟨rfl, Or.inr (Or.inl rfl), _, rfl⟩) (hb hby at_436) hr, hrun, hended, _, _, rfl, ?_, (by rw [hh]; show CHr Z consts_1 s.vm h0 T111.vm T111.heap; rw [e111]; exact CHr.trans C110 (CHv.at (s := s) (vm0 := s.vm) X111 hZ (own_EW hw) C110.1)), hEnd.1, hEnd.2.1, hEnd.2.2.1, hEnd.2.2.2.mono (by decide) (by decide)⟩
      exact ⟨rfl, N111⟩
    ·
      rw [hs]
      refine own_by (W' := (T98.setTop (mkF m 200 #[.val (.int p0), .val (.int p1), .val (.int p2), .val (.ref b21), .val (.int (6 : Int32)), .val (.ref wTEXT), .val (.int (1 : Int32)), .val (.int (3 : Int32)), .unset, .unset, .unset, .unset, .unset, .unset, .unset] [(.int (3 : Int32)), (.int (6 : Int32))]))) (fun t k => XS.istore X98.here hx rfl (hb hby at_147) rfl (l' := #[.val (.int p0), .val (.int p1), .val (.int p2), .val (.ref b21), .val (.int (6 : Int32)), .val (.ref wTEXT), .val (.int (1 : Int32)), .val (.int (3 : Int32)), .unset, .unset, .unset, .unset, .unset, .unset, .unset]) rfl (XS.iload X98.here hx rfl (hb hby at_149) rfl (XS.iconst X98.here hx rfl (hb hby at_151) (XS.icmpYes X98.here hx rfl (pc0 := 152) (pc' := 197) rfl (hb hby at_152) rfl (feq (by decide : ¬ ((6 : Int32) = (2 : Int32)))).2 (by decide) (by decide) (XS.iload X98.here hx rfl (hb hby at_197) rfl (XS.iconst X98.here hx rfl (hb hby at_199) k)))))) ?_
      refine own_by (W' := (T98.setTop (mkF m 228 #[.val (.int p0), .val (.int p1), .val (.int p2), .val (.ref b21), .val (.int (6 : Int32)), .val (.ref wTEXT), .val (.int (1 : Int32)), .val (.int (3 : Int32)), .unset, .unset, .unset, .unset, .unset, .unset, .unset] [(.int (255 : Int32)), (.int p2)]))) (fun t k => XS.icmpYes X98.here hx rfl (pc0 := 200) (pc' := 217) rfl (hb hby at_200) rfl (feq (by decide : ¬ ((6 : Int32) = (3 : Int32)))).2 (by decide) (by decide) (XS.iload X98.here hx rfl (hb hby at_217) rfl (XS.bipush X98.here hx rfl (hb hby at_219) (XS.icmpNo X98.here hx rfl (hb hby at_221) rfl (teq (rfl : (6 : Int32) = (6 : Int32))).2 (XS.iloadN X98.here hx rfl (hb hby at_224) rfl (XS.sipush X98.here hx rfl (hb hby at_225) k)))))) ?_
      refine own_by (W' := (T98.setTop (mkF m 232 #[.val (.int p0), .val (.int p1), .val (.int p2), .val (.ref b21), .val (.int (6 : Int32)), .val (.ref wTEXT), .val (.int (1 : Int32)), .val (.int (3 : Int32)), .unset, .unset, .unset, .val (.int ((p2 &&& (255 : Int32)).toUInt32.toUInt16.toUInt32.toInt32)), .unset, .unset, .unset] []))) (fun t k => XS.iand X98.here hx rfl (hb hby at_228) rfl (XS.i2c X98.here hx rfl (hb hby at_229) rfl (XS.istore X98.here hx rfl (hb hby at_230) rfl (l' := #[.val (.int p0), .val (.int p1), .val (.int p2), .val (.ref b21), .val (.int (6 : Int32)), .val (.ref wTEXT), .val (.int (1 : Int32)), .val (.int (3 : Int32)), .unset, .unset, .unset, .val (.int ((p2 &&& (255 : Int32)).toUInt32.toUInt16.toUInt32.toInt32)), .unset, .unset, .unset]) rfl k))) ?_
      generalize hv_c0 : ((p2 &&& (255 : Int32)).toUInt32.toUInt16.toUInt32.toInt32) = c0
      refine own_by (W' := (T98.setTop (mkF m 241 #[.val (.int p0), .val (.int p1), .val (.int p2), .val (.ref b21), .val (.int (6 : Int32)), .val (.ref wTEXT), .val (.int (1 : Int32)), .val (.int (3 : Int32)), .unset, .unset, .unset, .val (.int c0), .unset, .unset, .unset] [(.int ((((p2.toUInt32 >>> ((8 : Int32) &&& 31).toUInt32).toInt32) &&& (255 : Int32)).toUInt32.toUInt16.toUInt32.toInt32))]))) (fun t k => XS.iloadN X98.here hx rfl (hb hby at_232) rfl (XS.bipush X98.here hx rfl (hb hby at_233) (XS.iushr X98.here hx rfl (hb hby at_235) rfl (XS.sipush X98.here hx rfl (hb hby at_236) (XS.iand X98.here hx rfl (hb hby at_239) rfl (XS.i2c X98.here hx rfl (hb hby at_240) rfl k)))))) ?_
      refine own_by (W' := (T98.setTop (mkF m 243 #[.val (.int p0), .val (.int p1), .val (.int p2), .val (.ref b21), .val (.int (6 : Int32)), .val (.ref wTEXT), .val (.int (1 : Int32)), .val (.int (3 : Int32)), .unset, .unset, .unset, .val (.int c0), .val (.int ((((p2.toUInt32 >>> ((8 : Int32) &&& 31).toUInt32).toInt32) &&& (255 : Int32)).toUInt32.toUInt16.toUInt32.toInt32)), .unset, .unset] []))) (fun t k => XS.istore X98.here hx rfl (hb hby at_241) rfl (l' := #[.val (.int p0), .val (.int p1), .val (.int p2), .val (.ref b21), .val (.int (6 : Int32)), .val (.ref wTEXT), .val (.int (1 : Int32)), .val (.int (3 : Int32)), .unset, .unset, .unset, .val (.int c0), .val (.int ((((p2.toUInt32 >>> ((8 : Int32) &&& 31).toUInt32).toInt32) &&& (255 : Int32)).toUInt32.toUInt16.toUInt32.toInt32)), .unset, .unset]) rfl k) ?_
      generalize hv_c1 : ((((p2.toUInt32 >>> ((8 : Int32) &&& 31).toUInt32).toInt32) &&& (255 : Int32)).toUInt32.toUInt16.toUInt32.toInt32) = c1
      refine own_by (W' := (T98.setTop (mkF m 252 #[.val (.int p0), .val (.int p1), .val (.int p2), .val (.ref b21), .val (.int (6 : Int32)), .val (.ref wTEXT), .val (.int (1 : Int32)), .val (.int (3 : Int32)), .unset, .unset, .unset, .val (.int c0), .val (.int c1), .unset, .unset] [(.int ((((p2.toUInt32 >>> ((16 : Int32) &&& 31).toUInt32).toInt32) &&& (255 : Int32)).toUInt32.toUInt16.toUInt32.toInt32))]))) (fun t k => XS.iloadN X98.here hx rfl (hb hby at_243) rfl (XS.bipush X98.here hx rfl (hb hby at_244) (XS.iushr X98.here hx rfl (hb hby at_246) rfl (XS.sipush X98.here hx rfl (hb hby at_247) (XS.iand X98.here hx rfl (hb hby at_250) rfl (XS.i2c X98.here hx rfl (hb hby at_251) rfl k)))))) ?_
      refine own_by (W' := (T98.setTop (mkF m 254 #[.val (.int p0), .val (.int p1), .val (.int p2), .val (.ref b21), .val (.int (6 : Int32)), .val (.ref wTEXT), .val (.int (1 : Int32)), .val (.int (3 : Int32)), .unset, .unset, .unset, .val (.int c0), .val (.int c1), .val (.int ((((p2.toUInt32 >>> ((16 : Int32) &&& 31).toUInt32).toInt32) &&& (255 : Int32)).toUInt32.toUInt16.toUInt32.toInt32)), .unset] []))) (fun t k => XS.istore X98.here hx rfl (hb hby at_252) rfl (l' := #[.val (.int p0), .val (.int p1), .val (.int p2), .val (.ref b21), .val (.int (6 : Int32)), .val (.ref wTEXT), .val (.int (1 : Int32)), .val (.int (3 : Int32)), .unset, .unset, .unset, .val (.int c0), .val (.int c1), .val (.int ((((p2.toUInt32 >>> ((16 : Int32) &&& 31).toUInt32).toInt32) &&& (255 : Int32)).toUInt32.toUInt16.toUInt32.toInt32)), .unset]) rfl k) ?_
      generalize hv_c2 : ((((p2.toUInt32 >>> ((16 : Int32) &&& 31).toUInt32).toInt32) &&& (255 : Int32)).toUInt32.toUInt16.toUInt32.toInt32) = c2
      refine own_by (W' := (T98.setTop (mkF m 284 #[.val (.int p0), .val (.int p1), .val (.int p2), .val (.ref b21), .val (.int (6 : Int32)), .val (.ref wTEXT), .val (.int (1 : Int32)), .val (.int (3 : Int32)), .unset, .unset, .unset, .val (.int c0), .val (.int c1), .val (.int c2), .unset] [(.int (3 : Int32))]))) (fun t k => XS.iload X98.here hx rfl (hb hby at_254) rfl (XS.ifYes X98.here hx rfl (pc0 := 256) (pc' := 266) rfl (hb hby at_256) rfl ((if0 _ _).trans (feq (by decide : ¬ ((3 : Int32) = (0 : Int32)))).2) (by decide) (by decide) (XS.iload X98.here hx rfl (hb hby at_266) rfl (XS.iconst X98.here hx rfl (hb hby at_268) (XS.icmpYes X98.here hx rfl (pc0 := 269) (pc' := 282) rfl (hb hby at_269) rfl (feq (by decide : ¬ ((3 : Int32) = (1 : Int32)))).2 (by decide) (by decide) (XS.iload X98.here hx rfl (hb hby at_282) rfl k)))))) ?_
      obtain ⟨T112, h112, X112, e112, E112, A112, D112, -, st112⟩ := newO X98 hx hZ hown (own_w hw 176) (own_w hw 177) (own_w hw 178) e98 (g := (mkF m 313 #[.val (.int p0), .val (.int p1), .val (.int p2), .val (.ref b21), .val (.int (6 : Int32)), .val (.ref wTEXT), .val (.int (1 : Int32)), .val (.int (3 : Int32)), .unset, .unset, .unset, .val (.int c0), .val (.int c1), .val (.int c2), .unset] [])) rfl (hb hby at_313) (by decide) (by decide)
      obtain ⟨b112, g112⟩ : ∃ z, z = h54.size := ⟨_, rfl⟩
      rw [← g112] at A112 D112 st112
      have g_b112 : n0 ≤ b112 := Nat.le_trans (own_le O54) (Nat.le_of_eq g112.symm)
      have sz_b112 : h0.size ≤ b112 := Nat.le_trans K54.1 (Nat.le_of_eq g112.symm)
      have ne_b21_b112 : b21 ≠ b112 := Nat.ne_of_lt (Nat.lt_of_lt_of_le Vu53.lt (Nat.le_of_eq g112.symm))
      have Sf112_b112 : Safe Z consts_1 s.vm _ b112 := Safe.ext E112 C54.1 (Safe.new (Nat.le_of_eq g112.symm))
      have Sf112_b21 := Safe.ext E112 C54.1 Sf54_b21
      have C112 := CHr.trans C54 (CHr.ext E112 C54.1)
      have O112 := O54.ext E112
      have K112 := Keep.ext K54 E112
      have F_coder_b112 : Fld Z h112 b112 "java/lang/String" "coder" "B" (.int (0 : Int32)) := D112 (Or.inr (own_w hw 200)) (ty := .byte) (by decide)
      have F_value_b112 : Fld Z h112 b112 "java/lang/String" "value" "[B" .null := D112 (Or.inr (own_w hw 202)) (ty := (.array .byte)) (by decide)
      obtain ⟨T113, h113, k113, X113, e113, E113, A113, Ex113, st113⟩ := newPE X112 hx hZ (own_w hw 179) e112 (g := (mkF m 318 #[.val (.int p0), .val (.int p1), .val (.int p2), .val (.ref b21), .val (.int (6 : Int32)), .val (.ref wTEXT), .val (.int (1 : Int32)), .val (.int (3 : Int32)), .unset, .unset, .unset, .val (.int c0), .val (.int c1), .val (.int c2), .unset] [(.int (3 : Int32)), (.ref b112), (.ref b112)])) rfl (hb hby at_318) rfl (by decide) (cap := 3) (by decide) (by decide) (by decide) (by decide) (ad := "[C") (by decide)
      obtain ⟨b113, g113⟩ : ∃ z, z = h112.size := ⟨_, rfl⟩
      rw [← g113] at A113 Ex113 st113
      have g_b113 : n0 ≤ b113 := Nat.le_trans (own_le O112) (Nat.le_of_eq g113.symm)
      have sz_b113 : h0.size ≤ b113 := Nat.le_trans K112.1 (Nat.le_of_eq g113.symm)
      have ne_b21_b113 : b21 ≠ b113 := Nat.ne_of_lt (Nat.lt_of_lt_of_le (Vu53.ext E112).lt (Nat.le_of_eq g113.symm))
      have ne_b112_b113 : b112 ≠ b113 := Nat.ne_of_lt (Nat.lt_of_lt_of_le A112.lt (Nat.le_of_eq g113.symm))
      have Sf113_b113 : Safe Z consts_1 s.vm _ b113 := Safe.ext E113 C112.1 (Safe.new (Nat.le_of_eq g113.symm))
      have Sf113_b21 := Safe.ext E113 C112.1 Sf112_b21
      have Sf113_b112 := Safe.ext E113 C112.1 Sf112_b112
      have C113 := CHr.trans C112 (CHr.ext E113 C112.1)
      have O113 := O112.ext E113
      have K113 := Keep.ext K112 E113
      have V_b113 : Arv Z h113 b113 k113 .char (3 : Int32) [(.int (0 : Int32)), (.int (0 : Int32)), (.int (0 : Int32))] (.int (0 : Int32)) := (Arv.new A113 (by decide)).pad (pad_rep [] (.int (0 : Int32)) 3)
      refine own_by (W' := (T113.setTop (mkF m 320 #[.val (.int p0), .val (.int p1), .val (.int p2), .val (.ref b21), .val (.int (6 : Int32)), .val (.ref wTEXT), .val (.int (1 : Int32)), .val (.int (3 : Int32)), .unset, .unset, .unset, .val (.int c0), .val (.int c1), .val (.int c2), .unset] [(.ref b113), (.ref b112), (.ref b112)]))) (fun t k => XS.iconst X98.here hx rfl (hb hby at_284) (XS.icmpYes X98.here hx rfl (pc0 := 285) (pc' := 313) rfl (hb hby at_285) rfl (feq (by decide : ¬ ((3 : Int32) = (2 : Int32)))).2 (by decide) (by decide) (st112 _ (XS.dup X112.here hx rfl (hb hby at_316) rfl rfl (XS.iconst X112.here hx rfl (hb hby at_317) (st113 _ k)))))) ?_
      obtain ⟨clu114, Aru114, qu114, Su114, Ngu114, Hau114, Gau114⟩ := id V_b113
      have hinu114 : ¬ ((0 : Int32) < 0 ∨ clu114.slots.size ≤ ((0 : Int32)).toNatClampNeg) := inb_of Su114 ⟨by decide, by decide⟩
      obtain ⟨T115, h115, X115, e115, W115, st115⟩ := stC X113 hx hZ e113 Aru114 (j := (0 : Int32)) hinu114 (g := (mkF m 324 #[.val (.int p0), .val (.int p1), .val (.int p2), .val (.ref b21), .val (.int (6 : Int32)), .val (.ref wTEXT), .val (.int (1 : Int32)), .val (.int (3 : Int32)), .unset, .unset, .unset, .val (.int c0), .val (.int c1), .val (.int c2), .unset] [(.int c0), (.int (0 : Int32)), (.ref b113), (.ref b113), (.ref b112), (.ref b112)])) rfl rfl (hb hby at_324)
      have Vu114 : Arv Z h115 b113 k113 .char (3 : Int32) [(.int (nar .char c0)), (.int (0 : Int32)), (.int (0 : Int32))] (.int (0 : Int32)) := Arv.set Aru114 qu114 Su114 Ngu114 Hau114 Gau114 (fits_nar_char _) W115 0 rfl (Nat.le_of_ble_eq_true rfl)
      rw [show nar .char c0 = c0 from (own_ch_of hv_c0).1] at Vu114
      have Sf115_b21 := Safe.wr W115 Sf113_b113 C113.1 Sf113_b21
      have Sf115_b112 := Safe.wr W115 Sf113_b113 C113.1 Sf113_b112
      have Sf115_b113 := Safe.wr W115 Sf113_b113 C113.1 Sf113_b113
      have C115 := CHr.trans C113 (CHr.wr W115 Sf113_b113 C113.1)
      have O115 := Old.wr O113 W115 g_b113
      have N115 := Fr.snoc X115 N98 g_b113
      have K115 := Keep.wr K113 W115 (Or.inr sz_b113)
      refine own_by (W' := (T115.setTop (mkF m 327 #[.val (.int p0), .val (.int p1), .val (.int p2), .val (.ref b21), .val (.int (6 : Int32)), .val (.ref wTEXT), .val (.int (1 : Int32)), .val (.int (3 : Int32)), .unset, .unset, .unset, .val (.int c0), .val (.int c1), .val (.int c2), .unset] [(.int (1 : Int32)), (.ref b113), (.ref b113), (.ref b112), (.ref b112)]))) (fun t k => XS.dup X113.here hx rfl (hb hby at_320) rfl rfl (XS.iconst X113.here hx rfl (hb hby at_321) (XS.iload X113.here hx rfl (hb hby at_322) rfl (st115 _ (XS.dup X115.here hx rfl (hb hby at_325) rfl rfl (XS.iconst X115.here hx rfl (hb hby at_326) k)))))) ?_
      obtain ⟨clu116, Aru116, qu116, Su116, Ngu116, Hau116, Gau116⟩ := id Vu114
      have hinu116 : ¬ ((1 : Int32) < 0 ∨ clu116.slots.size ≤ ((1 : Int32)).toNatClampNeg) := inb_of Su116 ⟨by decide, by decide⟩
      obtain ⟨T117, h117, X117, e117, W117, st117⟩ := stC X115 hx hZ e115 Aru116 (j := (1 : Int32)) hinu116 (g := (mkF m 329 #[.val (.int p0), .val (.int p1), .val (.int p2), .val (.ref b21), .val (.int (6 : Int32)), .val (.ref wTEXT), .val (.int (1 : Int32)), .val (.int (3 : Int32)), .unset, .unset, .unset, .val (.int c0), .val (.int c1), .val (.int c2), .unset] [(.int c1), (.int (1 : Int32)), (.ref b113), (.ref b113), (.ref b112), (.ref b112)])) rfl rfl (hb hby at_329)
      have Vu116 : Arv Z h117 b113 k113 .char (3 : Int32) [(.int c0), (.int (nar .char c1)), (.int (0 : Int32))] (.int (0 : Int32)) := Arv.set Aru116 qu116 Su116 Ngu116 Hau116 Gau116 (fits_nar_char _) W117 1 rfl (Nat.le_of_ble_eq_true rfl)
      rw [show nar .char c1 = c1 from (own_ch_of hv_c1).1] at Vu116
      have Sf117_b21 := Safe.wr W117 Sf115_b113 C115.1 Sf115_b21
      have Sf117_b112 := Safe.wr W117 Sf115_b113 C115.1 Sf115_b112
      have Sf117_b113 := Safe.wr W117 Sf115_b113 C115.1 Sf115_b113
      have C117 := CHr.trans C115 (CHr.wr W117 Sf115_b113 C115.1)
      have O117 := Old.wr O115 W117 g_b113
      have N117 := Fr.snoc X117 N115 g_b113
      have K117 := Keep.wr K115 W117 (Or.inr sz_b113)
      obtain ⟨clu118, Aru118, qu118, Su118, Ngu118, Hau118, Gau118⟩ := id Vu116
      have hinu118 : ¬ ((2 : Int32) < 0 ∨ clu118.slots.size ≤ ((2 : Int32)).toNatClampNeg) := inb_of Su118 ⟨by decide, by decide⟩
      obtain ⟨T119, h119, X119, e119, W119, st119⟩ := stC X117 hx hZ e117 Aru118 (j := (2 : Int32)) hinu118 (g := (mkF m 334 #[.val (.int p0), .val (.int p1), .val (.int p2), .val (.ref b21), .val (.int (6 : Int32)), .val (.ref wTEXT), .val (.int (1 : Int32)), .val (.int (3 : Int32)), .unset, .unset, .unset, .val (.int c0), .val (.int c1), .val (.int c2), .unset] [(.int c2), (.int (2 : Int32)), (.ref b113), (.ref b113), (.ref b112), (.ref b112)])) rfl rfl (hb hby at_334)
      have Vu118 : Arv Z h119 b113 k113 .char (3 : Int32) [(.int c0), (.int c1), (.int (nar .char c2))] (.int (0 : Int32)) := Arv.set Aru118 qu118 Su118 Ngu118 Hau118 Gau118 (fits_nar_char _) W119 2 rfl (Nat.le_of_ble_eq_true rfl)
      rw [show nar .char c2 = c2 from (own_ch_of hv_c2).1] at Vu118
      have Sf119_b21 := Safe.wr W119 Sf117_b113 C117.1 Sf117_b21
      have Sf119_b112 := Safe.wr W119 Sf117_b113 C117.1 Sf117_b112
      have Sf119_b113 := Safe.wr W119 Sf117_b113 C117.1 Sf117_b113
      have C119 := CHr.trans C117 (CHr.wr W119 Sf117_b113 C117.1)
      have O119 := Old.wr O117 W119 g_b113
      have N119 := Fr.snoc X119 N117 g_b113
      have K119 := Keep.wr K117 W119 (Or.inr sz_b113)
      refine own_by (W' := (T119.setTop (mkF m 335 #[.val (.int p0), .val (.int p1), .val (.int p2), .val (.ref b21), .val (.int (6 : Int32)), .val (.ref wTEXT), .val (.int (1 : Int32)), .val (.int (3 : Int32)), .unset, .unset, .unset, .val (.int c0), .val (.int c1), .val (.int c2), .unset] [(.ref b113), (.ref b112), (.ref b112)]))) (fun t k => XS.iload X115.here hx rfl (hb hby at_327) rfl (st117 _ (XS.dup X117.here hx rfl (hb hby at_330) rfl rfl (XS.iconst X117.here hx rfl (hb hby at_331) (XS.iload X117.here hx rfl (hb hby at_332) rfl (st119 _ k)))))) ?_
      obtain ⟨_, _, ⟨T120, L120, k120, n120⟩, -, X120, ⟨Lc120, hQ120, l120, y120, z120⟩, st120⟩ := X119.specialBack hx (y := (⟨"java/lang/String", "<init>", "([C)V"⟩ : MethodName)) rfl hown (mvT hZ (own_w hw 180)) (mvT hZ (own_w hw 181)) (mvT hZ (own_w hw 182)) (by decide) (backOf (W := 1) (rmsa3 l Z a0 hw [] b112 b113 k113 c0 c1 c2 wBOOLEAN wINTEGER wBITS wOCTETS wNULL wOBJECT_IDENTIFIER wTEXT wCOMPONENTS wELEMENTS wCHOICE wELEMENT cs wD kD wC clC h119 n0 (own_le O119) O119 HW ((((A112.ext E113).wr W115).wr W117).wr W119) g_b112 ((((F_value_b112.ext E113).other W115 (Or.inl ne_b112_b113)).other W117 (Or.inl ne_b112_b113)).other W119 (Or.inl ne_b112_b113)) ((((F_coder_b112.ext E113).other W115 (Or.inl ne_b112_b113)).other W117 (Or.inl ne_b112_b113)).other W119 (Or.inl ne_b112_b113)) Vu118 (own_ch_of hv_c0).2 (own_ch_of hv_c1).2 (own_ch_of hv_c2).2) hZ (own_w hw 182) (own_w hw 178) (by decide) (by decide)) (g := (mkF m 335 #[.val (.int p0), .val (.int p1), .val (.int p2), .val (.ref b21), .val (.int (6 : Int32)), .val (.ref wTEXT), .val (.int (1 : Int32)), .val (.int (3 : Int32)), .unset, .unset, .unset, .val (.int c0), .val (.int c1), .val (.int c2), .unset] [(.ref b113), (.ref b112), (.ref b112)])) rfl (by rw [hml]; rfl) (Steps.refl _) (a := b112) (argsL := [(.ref b113)]) (rest := [(.ref b112)]) (lenOf pd_25 rfl) rfl (by show 2 * 0 + _ ≤ _; exact Nat.le_of_eq rfl) (hb hby at_335) (fun _ _ => ⟨rfl, e119, (by decide : 3 + 1 ≤ _), (by decide : 18 + 3 ≤ _)⟩)
      dsimp only [Pt.U, Pt.locs, Pt.cells, Pt.slots] at X120 l120 y120 z120 st120 hQ120
      subst l120 y120 z120
      obtain ⟨rfl, N120q, Kq120, Tq120⟩ := hQ120
      have O120 := Old.keep O119 Kq120 (allS g_b112 all0)
      have K120 := Keep.trans K119 Kq120 (allS (Or.inr sz_b112) all0)
      have Sf120_b21 := Safe.keep Kq120 (allS Sf119_b112 all0) C119.1 Sf119_b21
      have Sf120_b112 := Safe.keep Kq120 (allS Sf119_b112 all0) C119.1 Sf119_b112
      have Sf120_b113 := Safe.keep Kq120 (allS Sf119_b112 all0) C119.1 Sf119_b113
      have C120 := CHr.trans C119 (CHr.keep Kq120 (allS Sf119_b112 all0) C119.1)
      have N120 := Fr.app N119 N120q
      refine own_by (W' := (T120.setTop (mkF m 347 #[.val (.int p0), .val (.int p1), .val (.int p2), .val (.ref b21), .val (.int (6 : Int32)), .val (.ref wTEXT), .val (.int (1 : Int32)), .val (.int (3 : Int32)), .val (.ref b112), .unset, .unset, .val (.int c0), .val (.int c1), .val (.int c2), .val (.ref b112)] [(.long ((3 : Int32).toInt64))]))) (fun t k => Steps.trans st120 (XS.astore X120.here hx rfl (hb hby at_338) rfl rfl (l' := #[.val (.int p0), .val (.int p1), .val (.int p2), .val (.ref b21), .val (.int (6 : Int32)), .val (.ref wTEXT), .val (.int (1 : Int32)), .val (.int (3 : Int32)), .unset, .unset, .unset, .val (.int c0), .val (.int c1), .val (.int c2), .val (.ref b112)]) rfl (XS.aload X120.here hx rfl (hb hby at_340) rfl rfl (XS.astore X120.here hx rfl (hb hby at_342) rfl rfl (l' := #[.val (.int p0), .val (.int p1), .val (.int p2), .val (.ref b21), .val (.int (6 : Int32)), .val (.ref wTEXT), .val (.int (1 : Int32)), .val (.int (3 : Int32)), .val (.ref b112), .unset, .unset, .val (.int c0), .val (.int c1), .val (.int c2), .val (.ref b112)]) rfl (XS.iload X120.here hx rfl (hb hby at_344) rfl (XS.i2l X120.here hx rfl (hb hby at_346) rfl k)))))) ?_
      obtain ⟨cq121, kq121, q121a, q121b, q121c⟩ := isOf hZ rfl (HW.2.2.2.2.2.2.2.2.2.2.2.2.2.2.2.2.2.2.2.1.ext O120.2)
      obtain ⟨_, _, ⟨T121, L121, k121, n121⟩, -, X121, ⟨Lc121, hQ121, l121, y121, z121⟩, st121⟩ := X120.virtualBack hx (y := (⟨"com/example/tagwright/tagwright/typed/Form", "sizeOf", "(Ljava/lang/Object;)J"⟩ : MethodName)) (z := (⟨"com/example/tagwright/tagwright/typed/Form", "sizeOf", "(Ljava/lang/Object;)J"⟩ : MethodName)) hown (mvT hZ (own_w hw 62)) (mvT hZ (own_w hw 63)) (notFace_of_selects (args := #[]) (mvT hZ (own_w hw 65))) (mvT hZ (own_w hw 65)) (mvT hZ (own_w hw 64)) (by decide) (backOf (W := 0) (rmZTEXT l Z a0 hw [] b112 (3 : Int32) [(.int (nar .byte (c0.toInt8.toInt32))), (.int (nar .byte (c1.toInt8.toInt32))), (.int (nar .byte (c2.toInt8.toInt32)))] wBOOLEAN wINTEGER wBITS wOCTETS wNULL wOBJECT_IDENTIFIER wTEXT wCOMPONENTS wELEMENTS wCHOICE wELEMENT cs wD kD wC clC T120.heap n0 (own_le O120) O120 HW Tq120) hZ (own_w hw 66) (own_w hw 3) (by decide) (by decide)) q121a q121c (g := (mkF m 422 #[.val (.int p0), .val (.int p1), .val (.int p2), .val (.ref b21), .val (.int (6 : Int32)), .val (.ref wTEXT), .val (.int (1 : Int32)), .val (.int (3 : Int32)), .val (.ref b112), .val (.long ((3 : Int32).toInt64)), .second, .val (.int c0), .val (.int c1), .val (.int c2), .val (.ref b112)] [(.ref b112), (.ref wTEXT)])) rfl (by rw [hml]; rfl) (Steps.refl _) (argsL := [(.ref b112)]) (rest := []) (lenOf pd_23 rfl) rfl (by show 2 * 0 + _ ≤ _; exact Nat.le_of_eq rfl) (hb hby at_422) (fun _ _ => ⟨rfl, rfl, (by decide : 4 + 0 ≤ _), (by decide : 21 + 0 ≤ _)⟩)
      dsimp only [Pt.U, Pt.locs, Pt.cells, Pt.slots] at X121 l121 y121 z121 st121 hQ121
      subst l121 y121 z121
      obtain ⟨rfl, N121q, e121⟩ := hQ121
      have N121 := Fr.app N120 N121q
      refine own_by (W' := (T121.setTop (mkF m 427 #[.val (.int p0), .val (.int p1), .val (.int p2), .val (.ref b21), .val (.int (6 : Int32)), .val (.ref wTEXT), .val (.int (1 : Int32)), .val (.int (3 : Int32)), .val (.ref b112), .val (.long ((3 : Int32).toInt64)), .second, .val (.int c0), .val (.int c1), .val (.int c2), .val (.ref b112)] [(.long ((3 : Int32).toInt64)), (.long ((3 : Int32).toInt64))]))) (fun t k => XS.lstore X120.here hx rfl (hb hby at_347) rfl (l' := #[.val (.int p0), .val (.int p1), .val (.int p2), .val (.ref b21), .val (.int (6 : Int32)), .val (.ref wTEXT), .val (.int (1 : Int32)), .val (.int (3 : Int32)), .val (.ref b112), .val (.long ((3 : Int32).toInt64)), .second, .val (.int c0), .val (.int c1), .val (.int c2), .val (.ref b112)]) rfl (XS.goto X120.here hx rfl (pc0 := 349) (pc' := 418) rfl (hb hby at_349) (by decide) (by decide) (XS.aload X120.here hx rfl (hb hby at_418) rfl rfl (XS.aload X120.here hx rfl (hb hby at_420) rfl rfl (Steps.trans st121 (XS.lload X121.here hx rfl (hb hby at_425) rfl k)))))) ?_
      obtain ⟨fs, hr, hrun, hended, hEnd⟩ := Jvm.Stand.leaveW (s := s) (vm₁ := s.vm) X121 hS0 (by rw [e121]; exact (Nat.le_trans (Nat.le_trans (Nat.le_trans (Nat.le_trans (Nat.le_trans (Nat.le_trans (Nat.le_trans (Nat.le_trans (Nat.le_trans (Nat.le_trans (Nat.le_trans (Nat.le_trans (Nat.le_trans (Nat.le_trans (Nat.le_trans (Nat.le_trans (Nat.le_trans (Nat.le_trans (Nat.le_refl _) E21.1) (Keep.of_wr W24).1) (Keep.of_wr W27).1) (Keep.of_wr W30).1) (Keep.of_wr W33).1) (Keep.of_wr W36).1) (Keep.of_wr W39).1) (Keep.of_wr W42).1) (Keep.of_wr W45).1) (Keep.of_wr W48).1) (Keep.of_wr W51).1) (Keep.of_wr W54).1) E112.1) E113.1) (Keep.of_wr W115).1) (Keep.of_wr W117).1) (Keep.of_wr W119).1) Kq120.1)) (v := some (.int (1 : Int32))) (fun h => by rw [Bd.returns] at h; cases h)
      refine own_by (W' := (T121.setTop (mkF m 436 #[.val (.int p0), .val (.int p1), .val (.int p2), .val (.ref b21), .val (.int (6 : Int32)), .val (.ref wTEXT), .val (.int (1 : Int32)), .val (.int (3 : Int32)), .val (.ref b112), .val (.long ((3 : Int32).toInt64)), .second, .val (.int c0), .val (.int c1), .val (.int c2), .val (.ref b112)] [(.int (1 : Int32))]))) (fun t k => XS.lcmp X121.here hx rfl (hb hby at_427) rfl (XS.ifNo X121.here hx rfl (hb hby at_428) rfl (own_lceq (rfl : ((3 : Int32).toInt64) = ((3 : Int32).toInt64))).2 (XS.iconst X121.here hx rfl (hb hby at_431) (XS.goto X121.here hx rfl (pc0 := 432) (pc' := 436) rfl (hb hby at_432) (by decide) (by decide) k)))) ?_
      refine ⟨_, _, retOut X121 hx Bd.returns rfl (Or.inl ⟨rfl, Or.inr (Or.inl rfl), _, rfl⟩) (hb hby at_436) hr, hrun, hended, _, _, rfl, ?_, (by rw [hh]; show CHr Z consts_1 s.vm h0 T121.vm T121.heap; rw [e121]; exact CHr.trans C120 (CHv.at (s := s) (vm0 := s.vm) X121 hZ (own_EW hw) C120.1)), hEnd.1, hEnd.2.1, hEnd.2.2.1, hEnd.2.2.2.mono (by decide) (by decide)⟩
      exact ⟨rfl, N121⟩
  ·
    rw [hs]
    obtain ⟨clu122, Aru122, qu122, Su122, Ngu122, Hau122, Gau122⟩ := id Vu53
    have hinu122 : ¬ ((7 : Int32) < 0 ∨ clu122.slots.size ≤ ((7 : Int32)).toNatClampNeg) := inb_of Su122 ⟨by decide, by decide⟩
    have hatu122 : clu122.slots[((7 : Int32)).toNatClampNeg]? = some (.ref wCOMPONENTS) := Has.at Hau122 hinu122 rfl
    refine own_by (W' := (T54.setTop (mkF m 94 #[.val (.int p0), .val (.int p1), .val (.int p2), .val (.ref b21), .val (.int (7 : Int32)), .val (.ref wCOMPONENTS), .unset, .unset, .unset, .unset, .unset, .unset, .unset, .unset, .unset] [(.int (7 : Int32))]))) (fun t k => XS.istore X54.here hx rfl (hb hby at_84) rfl (l' := #[.val (.int p0), .val (.int p1), .val (.int p2), .val (.ref b21), .val (.int (7 : Int32)), .unset, .unset, .unset, .unset, .unset, .unset, .unset, .unset, .unset, .unset]) rfl (XS.aloadN X54.here hx rfl (hb hby at_86) rfl rfl (XS.iload X54.here hx rfl (hb hby at_87) rfl ((X54.aaload hx (j := (7 : Int32)) (v := (.ref wCOMPONENTS)) (by rw [e54]; exact Aru122.1) (State.isArrayOf_alike hZ.alike Aru122.2.1) rfl Aru122.2.2 hinu122 hatu122 (g := (mkF m 89 #[.val (.int p0), .val (.int p1), .val (.int p2), .val (.ref b21), .val (.int (7 : Int32)), .unset, .unset, .unset, .unset, .unset, .unset, .unset, .unset, .unset, .unset] [(.int (7 : Int32)), (.ref b21)])) rfl rfl (hb hby at_89)) _ (XS.astore X54.here hx rfl (hb hby at_90) rfl rfl (l' := #[.val (.int p0), .val (.int p1), .val (.int p2), .val (.ref b21), .val (.int (7 : Int32)), .val (.ref wCOMPONENTS), .unset, .unset, .unset, .unset, .unset, .unset, .unset, .unset, .unset]) rfl (XS.iload X54.here hx rfl (hb hby at_92) rfl k)))))) ?_
    refine own_by (W' := (T54.setTop (mkF m 106 #[.val (.int p0), .val (.int p1), .val (.int p2), .val (.ref b21), .val (.int (7 : Int32)), .val (.ref wCOMPONENTS), .unset, .unset, .unset, .unset, .unset, .unset, .unset, .unset, .unset] [(.int (7 : Int32))]))) (fun t k => XS.iconst X54.here hx rfl (hb hby at_94) (XS.icmpNo X54.here hx rfl (hb hby at_95) rfl (feq (by decide : ¬ ((7 : Int32) = (2 : Int32)))).1 (XS.iload X54.here hx rfl (hb hby at_98) rfl (XS.iconst X54.here hx rfl (hb hby at_100) (XS.icmpNo X54.here hx rfl (hb hby at_101) rfl (feq (by decide : ¬ ((7 : Int32) = (3 : Int32)))).1 (XS.iload X54.here hx rfl (hb hby at_104) rfl k)))))) ?_
    refine own_by (W' := (T54.setTop (mkF m 123 #[.val (.int p0), .val (.int p1), .val (.int p2), .val (.ref b21), .val (.int (7 : Int32)), .val (.ref wCOMPONENTS), .unset, .unset, .unset, .unset, .unset, .unset, .unset, .unset, .unset] [(.int (0 : Int32))]))) (fun t k => XS.bipush X54.here hx rfl (hb hby at_106) (XS.icmpNo X54.here hx rfl (hb hby at_108) rfl (feq (by decide : ¬ ((7 : Int32) = (6 : Int32)))).1 (XS.iload X54.here hx rfl (hb hby at_111) rfl (XS.bipush X54.here hx rfl (hb hby at_113) (XS.icmpYes X54.here hx rfl (pc0 := 115) (pc' := 122) rfl (hb hby at_115) rfl (feq (by decide : ¬ ((7 : Int32) = (8 : Int32)))).2 (by decide) (by decide) (XS.iconst X54.here hx rfl (hb hby at_122) k)))))) ?_
    obtain ⟨cq123, kq123, q123a, q123b, q123c⟩ := isOf hZ e54 (HW.2.2.2.2.2.2.2.2.2.2.2.2.2.2.2.2.2.2.2.2.2.2.1.ext O54.2)
    obtain ⟨_, _, ⟨T123, L123, k123, n123⟩, -, X123, ⟨Lc123, hQ123, l123, y123, z123⟩, st123⟩ := X54.virtualBack hx (y := (⟨"com/example/tagwright/tagwright/typed/Form", "isSized", "()Z"⟩ : MethodName)) (z := (⟨"com/example/tagwright/tagwright/typed/Form", "isSized", "()Z"⟩ : MethodName)) hown (mvT hZ (own_w hw 27)) (mvT hZ (own_w hw 28)) (notFace_of_selects (args := #[]) (mvT hZ (own_w hw 30))) (mvT hZ (own_w hw 30)) (mvT hZ (own_w hw 29)) (by decide) (backOf (W := 0) (rm1 l Z a0 hw [] wCOMPONENTS wBOOLEAN wINTEGER wBITS wOCTETS wNULL wOBJECT_IDENTIFIER wTEXT wCOMPONENTS wELEMENTS wCHOICE wELEMENT cs wD kD wC clC h54 n0 (own_le O54) O54 HW) hZ (own_w hw 31) (own_w hw 3) (by decide) (by decide)) q123a q123c (g := (mkF m 127 #[.val (.int p0), .val (.int p1), .val (.int p2), .val (.ref b21), .val (.int (7 : Int32)), .val (.ref wCOMPONENTS), .val (.int (0 : Int32)), .unset, .unset, .unset, .unset, .unset, .unset, .unset, .unset] [(.ref wCOMPONENTS)])) rfl (by rw [hml]; rfl) (Steps.refl _) (argsL := []) (rest := []) (lenOf pd_7 rfl) rfl (by show 2 * 0 + _ ≤ _; exact Nat.le_of_eq rfl) (hb hby at_127) (fun _ _ => ⟨rfl, e54, (by decide : 1 + 0 ≤ _), (by decide : 11 + 0 ≤ _)⟩)
    dsimp only [Pt.U, Pt.locs, Pt.cells, Pt.slots] at X123 l123 y123 z123 st123 hQ123
    subst l123 y123 z123
    obtain ⟨rfl, N123q, e123⟩ := hQ123
    have N123 := Fr.app N54 N123q
    have ho124 : (F1 wCOMPONENTS wBOOLEAN wINTEGER wBITS wOCTETS wNULL wOBJECT_IDENTIFIER wTEXT wCOMPONENTS wELEMENTS wCHOICE wELEMENT cs wD kD wC clC) = (0 : Int32) := by rw [F1, if_neg (Fld.ne (HW.2.2.2.2.2.2.2.2.2.2.2.2.2.2.2.2.2.2.2.2.2.2.2.1) (HW.2.2.2.2.2.2.2.2.1) (by decide)), if_neg (Fld.ne (HW.2.2.2.2.2.2.2.2.2.2.2.2.2.2.2.2.2.2.2.2.2.2.2.1) (HW.2.2.2.2.2.2.2.2.2.2.2.1) (by decide)), if_neg (Fld.ne (HW.2.2.2.2.2.2.2.2.2.2.2.2.2.2.2.2.2.2.2.2.2.2.2.1) (HW.2.2.2.2.2.2.2.2.2.2.2.2.2.2.2.2.2.2.2.2.1) (by decide)), if_neg (Fld.ne (HW.2.2.2.2.2.2.2.2.2.2.2.2.2.2.2.2.2.2.2.2.2.2.2.1) (HW.2.2.2.2.2.2.2.2.2.2.2.2.2.2.2.2.2.2.2.2.2.2.2.2.2.2.1) (by decide))]
    refine own_by (W' := (T123.setTop (mkF m 139 #[.val (.int p0), .val (.int p1), .val (.int p2), .val (.ref b21), .val (.int (7 : Int32)), .val (.ref wCOMPONENTS), .val (.int (0 : Int32)), .unset, .unset, .unset, .unset, .unset, .unset, .unset, .unset] [(.int (0 : Int32))]))) (fun t k => XS.istore X54.here hx rfl (hb hby at_123) rfl (l' := #[.val (.int p0), .val (.int p1), .val (.int p2), .val (.ref b21), .val (.int (7 : Int32)), .val (.ref wCOMPONENTS), .val (.int (0 : Int32)), .unset, .unset, .unset, .unset, .unset, .unset, .unset, .unset]) rfl (XS.aload X54.here hx rfl (hb hby at_125) rfl rfl (Steps.trans st123 (XS.iload X123.here hx rfl (hb hby at_130) rfl (XS.icmpYes X123.here hx rfl (pc0 := 132) (pc' := 137) rfl (hb hby at_132) rfl (teq ho124).1 (by decide) (by decide) (XS.iload X123.here hx rfl (hb hby at_137) rfl k)))))) ?_
    obtain ⟨fs, hr, hrun, hended, hEnd⟩ := Jvm.Stand.leaveW (s := s) (vm₁ := s.vm) X123 hS0 (by rw [e123]; exact (Nat.le_trans (Nat.le_trans (Nat.le_trans (Nat.le_trans (Nat.le_trans (Nat.le_trans (Nat.le_trans (Nat.le_trans (Nat.le_trans (Nat.le_trans (Nat.le_trans (Nat.le_trans (Nat.le_refl _) E21.1) (Keep.of_wr W24).1) (Keep.of_wr W27).1) (Keep.of_wr W30).1) (Keep.of_wr W33).1) (Keep.of_wr W36).1) (Keep.of_wr W39).1) (Keep.of_wr W42).1) (Keep.of_wr W45).1) (Keep.of_wr W48).1) (Keep.of_wr W51).1) (Keep.of_wr W54).1)) (v := some (.int (1 : Int32))) (fun h => by rw [Bd.returns] at h; cases h)
    refine own_by (W' := (T123.setTop (mkF m 143 #[.val (.int p0), .val (.int p1), .val (.int p2), .val (.ref b21), .val (.int (7 : Int32)), .val (.ref wCOMPONENTS), .val (.int (0 : Int32)), .unset, .unset, .unset, .unset, .unset, .unset, .unset, .unset] [(.int (1 : Int32))]))) (fun t k => XS.ifNo X123.here hx rfl (hb hby at_139) rfl ((if0 _ _).trans (teq (rfl : (0 : Int32) = (0 : Int32))).2) (XS.iconst X123.here hx rfl (hb hby at_142) k)) ?_
    refine ⟨_, _, retOut X123 hx Bd.returns rfl (Or.inl ⟨rfl, Or.inr (Or.inl rfl), _, rfl⟩) (hb hby at_143) hr, hrun, hended, _, _, rfl, ?_, (by rw [hh]; show CHr Z consts_1 s.vm h0 T123.vm T123.heap; rw [e123]; exact CHr.trans C54 (CHv.at (s := s) (vm0 := s.vm) X123 hZ (own_EW hw) C54.1)), hEnd.1, hEnd.2.1, hEnd.2.2.1, hEnd.2.2.2.mono (by decide) (by decide)⟩
    exact ⟨rfl, N123⟩
  ·
    rw [hs]
    obtain ⟨clu125, Aru125, qu125, Su125, Ngu125, Hau125, Gau125⟩ := id Vu53
    have hinu125 : ¬ ((8 : Int32) < 0 ∨ clu125.slots.size ≤ ((8 : Int32)).toNatClampNeg) := inb_of Su125 ⟨by decide, by decide⟩
    have hatu125 : clu125.slots[((8 : Int32)).toNatClampNeg]? = some (.ref wELEMENTS) := Has.at Hau125 hinu125 rfl
    refine own_by (W' := (T54.setTop (mkF m 94 #[.val (.int p0), .val (.int p1), .val (.int p2), .val (.ref b21), .val (.int (8 : Int32)), .val (.ref wELEMENTS), .unset, .unset, .unset, .unset, .unset, .unset, .unset, .unset, .unset] [(.int (8 : Int32))]))) (fun t k => XS.istore X54.here hx rfl (hb hby at_84) rfl (l' := #[.val (.int p0), .val (.int p1), .val (.int p2), .val (.ref b21), .val (.int (8 : Int32)), .unset, .unset, .unset, .unset, .unset, .unset, .unset, .unset, .unset, .unset]) rfl (XS.aloadN X54.here hx rfl (hb hby at_86) rfl rfl (XS.iload X54.here hx rfl (hb hby at_87) rfl ((X54.aaload hx (j := (8 : Int32)) (v := (.ref wELEMENTS)) (by rw [e54]; exact Aru125.1) (State.isArrayOf_alike hZ.alike Aru125.2.1) rfl Aru125.2.2 hinu125 hatu125 (g := (mkF m 89 #[.val (.int p0), .val (.int p1), .val (.int p2), .val (.ref b21), .val (.int (8 : Int32)), .unset, .unset, .unset, .unset, .unset, .unset, .unset, .unset, .unset, .unset] [(.int (8 : Int32)), (.ref b21)])) rfl rfl (hb hby at_89)) _ (XS.astore X54.here hx rfl (hb hby at_90) rfl rfl (l' := #[.val (.int p0), .val (.int p1), .val (.int p2), .val (.ref b21), .val (.int (8 : Int32)), .val (.ref wELEMENTS), .unset, .unset, .unset, .unset, .unset, .unset, .unset, .unset, .unset]) rfl (XS.iload X54.here hx rfl (hb hby at_92) rfl k)))))) ?_
    refine own_by (W' := (T54.setTop (mkF m 106 #[.val (.int p0), .val (.int p1), .val (.int p2), .val (.ref b21), .val (.int (8 : Int32)), .val (.ref wELEMENTS), .unset, .unset, .unset, .unset, .unset, .unset, .unset, .unset, .unset] [(.int (8 : Int32))]))) (fun t k => XS.iconst X54.here hx rfl (hb hby at_94) (XS.icmpNo X54.here hx rfl (hb hby at_95) rfl (feq (by decide : ¬ ((8 : Int32) = (2 : Int32)))).1 (XS.iload X54.here hx rfl (hb hby at_98) rfl (XS.iconst X54.here hx rfl (hb hby at_100) (XS.icmpNo X54.here hx rfl (hb hby at_101) rfl (feq (by decide : ¬ ((8 : Int32) = (3 : Int32)))).1 (XS.iload X54.here hx rfl (hb hby at_104) rfl k)))))) ?_
    refine own_by (W' := (T54.setTop (mkF m 119 #[.val (.int p0), .val (.int p1), .val (.int p2), .val (.ref b21), .val (.int (8 : Int32)), .val (.ref wELEMENTS), .unset, .unset, .unset, .unset, .unset, .unset, .unset, .unset, .unset] [(.int (1 : Int32))]))) (fun t k => XS.bipush X54.here hx rfl (hb hby at_106) (XS.icmpNo X54.here hx rfl (hb hby at_108) rfl (feq (by decide : ¬ ((8 : Int32) = (6 : Int32)))).1 (XS.iload X54.here hx rfl (hb hby at_111) rfl (XS.bipush X54.here hx rfl (hb hby at_113) (XS.icmpNo X54.here hx rfl (hb hby at_115) rfl (teq (rfl : (8 : Int32) = (8 : Int32))).2 (XS.iconst X54.here hx rfl (hb hby at_118) k)))))) ?_
    obtain ⟨cq126, kq126, q126a, q126b, q126c⟩ := isOf hZ e54 (HW.2.2.2.2.2.2.2.2.2.2.2.2.2.2.2.2.2.2.2.2.2.2.2.2.2.1.ext O54.2)
    obtain ⟨_, _, ⟨T126, L126, k126, n126⟩, -, X126, ⟨Lc126, hQ126, l126, y126, z126⟩, st126⟩ := X54.virtualBack hx (y := (⟨"com/example/tagwright/tagwright/typed/Form", "isSized", "()Z"⟩ : MethodName)) (z := (⟨"com/example/tagwright/tagwright/typed/Form", "isSized", "()Z"⟩ : MethodName)) hown (mvT hZ (own_w hw 27)) (mvT hZ (own_w hw 28)) (notFace_of_selects (args := #[]) (mvT hZ (own_w hw 30))) (mvT hZ (own_w hw 30)) (mvT hZ (own_w hw 29)) (by decide) (backOf (W := 0) (rm1 l Z a0 hw [] wELEMENTS wBOOLEAN wINTEGER wBITS wOCTETS wNULL wOBJECT_IDENTIFIER wTEXT wCOMPONENTS wELEMENTS wCHOICE wELEMENT cs wD kD wC clC h54 n0 (own_le O54) O54 HW) hZ (own_w hw 31) (own_w hw 3) (by decide) (by decide)) q126a q126c (g := (mkF m 127 #[.val (.int p0), .val (.int p1), .val (.int p2), .val (.ref b21), .val (.int (8 : Int32)), .val (.ref wELEMENTS), .val (.int (1 : Int32)), .unset, .unset, .unset, .unset, .unset, .unset, .unset, .unset] [(.ref wELEMENTS)])) rfl (by rw [hml]; rfl) (Steps.refl _) (argsL := []) (rest := []) (lenOf pd_7 rfl) rfl (by show 2 * 0 + _ ≤ _; exact Nat.le_of_eq rfl) (hb hby at_127) (fun _ _ => ⟨rfl, e54, (by decide : 1 + 0 ≤ _), (by decide : 11 + 0 ≤ _)⟩)
    dsimp only [Pt.U, Pt.locs, Pt.cells, Pt.slots] at X126 l126 y126 z126 st126 hQ126
    subst l126 y126 z126
    obtain ⟨rfl, N126q, e126⟩ := hQ126
    have N126 := Fr.app N54 N126q
    have ho127 : (F1 wELEMENTS wBOOLEAN wINTEGER wBITS wOCTETS wNULL wOBJECT_IDENTIFIER wTEXT wCOMPONENTS wELEMENTS wCHOICE wELEMENT cs wD kD wC clC) = (1 : Int32) := by rw [F1, if_neg (Fld.ne (HW.2.2.2.2.2.2.2.2.2.2.2.2.2.2.2.2.2.2.2.2.2.2.2.2.2.2.1) (HW.2.2.2.2.2.2.2.2.1) (by decide)), if_neg (Fld.ne (HW.2.2.2.2.2.2.2.2.2.2.2.2.2.2.2.2.2.2.2.2.2.2.2.2.2.2.1) (HW.2.2.2.2.2.2.2.2.2.2.2.1) (by decide)), if_neg (Fld.ne (HW.2.2.2.2.2.2.2.2.2.2.2.2.2.2.2.2.2.2.2.2.2.2.2.2.2.2.1) (HW.2.2.2.2.2.2.2.2.2.2.2.2.2.2.2.2.2.2.2.2.1) (by decide)), if_pos rfl]
    refine own_by (W' := (T126.setTop (mkF m 137 #[.val (.int p0), .val (.int p1), .val (.int p2), .val (.ref b21), .val (.int (8 : Int32)), .val (.ref wELEMENTS), .val (.int (1 : Int32)), .unset, .unset, .unset, .unset, .unset, .unset, .unset, .unset] []))) (fun t k => XS.goto X54.here hx rfl (pc0 := 119) (pc' := 123) rfl (hb hby at_119) (by decide) (by decide) (XS.istore X54.here hx rfl (hb hby at_123) rfl (l' := #[.val (.int p0), .val (.int p1), .val (.int p2), .val (.ref b21), .val (.int (8 : Int32)), .val (.ref wELEMENTS), .val (.int (1 : Int32)), .unset, .unset, .unset, .unset, .unset, .unset, .unset, .unset]) rfl (XS.aload X54.here hx rfl (hb hby at_125) rfl rfl (Steps.trans st126 (XS.iload X126.here hx rfl (hb hby at_130) rfl (XS.icmpYes X126.here hx rfl (pc0 := 132) (pc' := 137) rfl (hb hby at_132) rfl (teq ho127).1 (by decide) (by decide) k)))))) ?_
    refine own_by (W' := (T126.setTop (mkF m 147 #[.val (.int p0), .val (.int p1), .val (.int p2), .val (.ref b21), .val (.int (8 : Int32)), .val (.ref wELEMENTS), .val (.int (1 : Int32)), .unset, .unset, .unset, .unset, .unset, .unset, .unset, .unset] [(.int (p1 &&& (3 : Int32)))]))) (fun t k => XS.iload X126.here hx rfl (hb hby at_137) rfl (XS.ifYes X126.here hx rfl (pc0 := 139) (pc' := 144) rfl (hb hby at_139) rfl ((if0 _ _).trans (feq (by decide : ¬ ((1 : Int32) = (0 : Int32)))).2) (by decide) (by decide) (XS.iloadN X126.here hx rfl (hb hby at_144) rfl (XS.iconst X126.here hx rfl (hb hby at_145) (XS.iand X126.here hx rfl (hb hby at_146) rfl k))))) ?_
    rcases own_and3 p1 with hs | hs | hs | hs
    ·
      rw [hs]
      refine own_by (W' := (T126.setTop (mkF m 200 #[.val (.int p0), .val (.int p1), .val (.int p2), .val (.ref b21), .val (.int (8 : Int32)), .val (.ref wELEMENTS), .val (.int (1 : Int32)), .val (.int (0 : Int32)), .unset, .unset, .unset, .unset, .unset, .unset, .unset] [(.int (3 : Int32)), (.int (8 : Int32))]))) (fun t k => XS.istore X126.here hx rfl (hb hby at_147) rfl (l' := #[.val (.int p0), .val (.int p1), .val (.int p2), .val (.ref b21), .val (.int (8 : Int32)), .val (.ref wELEMENTS), .val (.int (1 : Int32)), .val (.int (0 : Int32)), .unset, .unset, .unset, .unset, .unset, .unset, .unset]) rfl (XS.iload X126.here hx rfl (hb hby at_149) rfl (XS.iconst X126.here hx rfl (hb hby at_151) (XS.icmpYes X126.here hx rfl (pc0 := 152) (pc' := 197) rfl (hb hby at_152) rfl (feq (by decide : ¬ ((8 : Int32) = (2 : Int32)))).2 (by decide) (by decide) (XS.iload X126.here hx rfl (hb hby at_197) rfl (XS.iconst X126.here hx rfl (hb hby at_199) k)))))) ?_
      obtain ⟨T128, h128, X128, e128, E128, A128, D128, -, st128⟩ := newO X126 hx hZ hown (own_w hw 36) (own_w hw 37) (own_w hw 38) e126 (g := (mkF m 352 #[.val (.int p0), .val (.int p1), .val (.int p2), .val (.ref b21), .val (.int (8 : Int32)), .val (.ref wELEMENTS), .val (.int (1 : Int32)), .val (.int (0 : Int32)), .unset, .unset, .unset, .unset, .unset, .unset, .unset] [])) rfl (hb hby at_352) (by decide) (by decide)
      obtain ⟨b128, g128⟩ : ∃ z, z = h54.size := ⟨_, rfl⟩
      rw [← g128] at A128 D128 st128
      have g_b128 : n0 ≤ b128 := Nat.le_trans (own_le O54) (Nat.le_of_eq g128.symm)
      have sz_b128 : h0.size ≤ b128 := Nat.le_trans K54.1 (Nat.le_of_eq g128.symm)
      have ne_b21_b128 : b21 ≠ b128 := Nat.ne_of_lt (Nat.lt_of_lt_of_le Vu53.lt (Nat.le_of_eq g128.symm))
      have Sf128_b128 : Safe Z consts_1 s.vm _ b128 := Safe.ext E128 C54.1 (Safe.new (Nat.le_of_eq g128.symm))
      have Sf128_b21 := Safe.ext E128 C54.1 Sf54_b21
      have C128 := CHr.trans C54 (CHr.ext E128 C54.1)
      have O128 := O54.ext E128
      have K128 := Keep.ext K54 E128
      have F_modCount_b128 : Fld Z h128 b128 "java/util/AbstractList" "modCount" "I" (.int (0 : Int32)) := D128 (Or.inl (own_w hw 58)) (ty := .int) (by decide)
      have F_elementData_b128 : Fld Z h128 b128 "java/util/ArrayList" "elementData" "[Ljava/lang/Object;" .null := D128 (Or.inl (own_w hw 61)) (ty := (.array (.object "java/lang/Object"))) (by decide)
      have F_size_b128 : Fld Z h128 b128 "java/util/ArrayList" "size" "I" (.int (0 : Int32)) := D128 (Or.inl (own_w hw 87)) (ty := .int) (by decide)
      refine own_by (W' := (T128.setTop (mkF m 356 #[.val (.int p0), .val (.int p1), .val (.int p2), .val (.ref b21), .val (.int (8 : Int32)), .val (.ref wELEMENTS), .val (.int (1 : Int32)), .val (.int (0 : Int32)), .unset, .unset, .unset, .unset, .unset, .unset, .unset] [(.ref b128), (.ref b128)]))) (fun t k => XS.icmpYes X126.here hx rfl (pc0 := 200) (pc' := 217) rfl (hb hby at_200) rfl (feq (by decide : ¬ ((8 : Int32) = (3 : Int32)))).2 (by decide) (by decide) (XS.iload X126.here hx rfl (hb hby at_217) rfl (XS.bipush X126.here hx rfl (hb hby at_219) (XS.icmpYes X126.here hx rfl (pc0 := 221) (pc' := 352) rfl (hb hby at_221) rfl (feq (by decide : ¬ ((8 : Int32) = (6 : Int32)))).2 (by decide) (by decide) (st128 _ (XS.dup X128.here hx rfl (hb hby at_355) rfl rfl k)))))) ?_
      obtain ⟨_, _, ⟨T129, L129, k129, n129⟩, -, X129, ⟨Lc129, hQ129, l129, y129, z129⟩, st129⟩ := X128.specialBack hx (y := (⟨"java/util/ArrayList", "<init>", "()V"⟩ : MethodName)) rfl hown (mvT hZ (own_w hw 39)) (mvT hZ (own_w hw 40)) (mvT hZ (own_w hw 41)) (by decide) (backOf (W := 1) (rmAI l Z a0 hw [] b128 wBOOLEAN wINTEGER wBITS wOCTETS wNULL wOBJECT_IDENTIFIER wTEXT wCOMPONENTS wELEMENTS wCHOICE wELEMENT cs wD kD wC clC h128 n0 (own_le O128) O128 HW A128 g_b128 F_modCount_b128 F_elementData_b128 F_size_b128) hZ (own_w hw 41) (own_w hw 38) (by decide) (by decide)) (g := (mkF m 356 #[.val (.int p0), .val (.int p1), .val (.int p2), .val (.ref b21), .val (.int (8 : Int32)), .val (.ref wELEMENTS), .val (.int (1 : Int32)), .val (.int (0 : Int32)), .unset, .unset, .unset, .unset, .unset, .unset, .unset] [(.ref b128), (.ref b128)])) rfl (by rw [hml]; rfl) (Steps.refl _) (a := b128) (argsL := []) (rest := [(.ref b128)]) (lenOf pd_13 rfl) rfl (by show 2 * 0 + _ ≤ _; exact Nat.le_of_eq rfl) (hb hby at_356) (fun _ _ => ⟨rfl, e128, (by decide : 2 + 0 ≤ _), (by decide : 14 + 0 ≤ _)⟩)
      dsimp only [Pt.U, Pt.locs, Pt.cells, Pt.slots] at X129 l129 y129 z129 st129 hQ129
      subst l129 y129 z129
      obtain ⟨rfl, N129q, Kq129, Eq129, Fq129_modCount, Fq129_elementData, Fq129_size⟩ := hQ129
      have O129 := Old.keep O128 Kq129 (allS g_b128 all0)
      have K129 := Keep.trans K128 Kq129 (allS (Or.inr sz_b128) all0)
      have Sf129_b21 := Safe.keep Kq129 (allS Sf128_b128 all0) C128.1 Sf128_b21
      have Sf129_b128 := Safe.keep Kq129 (allS Sf128_b128 all0) C128.1 Sf128_b128
      have C129 := CHr.trans C128 (CHr.keep Kq129 (allS Sf128_b128 all0) C128.1)
      have N129 := Fr.app N126 N129q
      refine own_by (W' := (T129.setTop (mkF m 379 #[.val (.int p0), .val (.int p1), .val (.int p2), .val (.ref b21), .val (.int (8 : Int32)), .val (.ref wELEMENTS), .val (.int (1 : Int32)), .val (.int (0 : Int32)), .unset, .unset, .unset, .val (.ref b128), .unset, .unset, .unset] [(.int (0 : Int32))]))) (fun t k => Steps.trans st129 (XS.astore X129.here hx rfl (hb hby at_359) rfl rfl (l' := #[.val (.int p0), .val (.int p1), .val (.int p2), .val (.ref b21), .val (.int (8 : Int32)), .val (.ref wELEMENTS), .val (.int (1 : Int32)), .val (.int (0 : Int32)), .unset, .unset, .unset, .val (.ref b128), .unset, .unset, .unset]) rfl (XS.iload X129.here hx rfl (hb hby at_361) rfl (XS.iconst X129.here hx rfl (hb hby at_363) (XS.icmpYes X129.here hx rfl (pc0 := 364) (pc' := 377) rfl (hb hby at_364) rfl (tlt (by decide : (0 : Int32) < (1 : Int32))).1 (by decide) (by decide) (XS.iload X129.here hx rfl (hb hby at_377) rfl k)))))) ?_
      refine own_by (W' := (T129.setTop (mkF m 411 #[.val (.int p0), .val (.int p1), .val (.int p2), .val (.ref b21), .val (.int (8 : Int32)), .val (.ref wELEMENTS), .val (.int (1 : Int32)), .val (.int (0 : Int32)), .unset, .unset, .unset, .val (.ref b128), .unset, .unset, .unset] [(.ref b128)]))) (fun t k => XS.iconst X129.here hx rfl (hb hby at_379) (XS.icmpYes X129.here hx rfl (pc0 := 380) (pc' := 393) rfl (hb hby at_380) rfl (tlt (by decide : (0 : Int32) < (2 : Int32))).1 (by decide) (by decide) (XS.iload X129.here hx rfl (hb hby at_393) rfl (XS.iconst X129.here hx rfl (hb hby at_395) (XS.icmpYes X129.here hx rfl (pc0 := 396) (pc' := 409) rfl (hb hby at_396) rfl (tlt (by decide : (0 : Int32) < (3 : Int32))).1 (by decide) (by decide) (XS.aload X129.here hx rfl (hb hby at_409) rfl rfl k)))))) ?_
      refine own_by (W' := (T129.setTop (mkF m 422 #[.val (.int p0), .val (.int p1), .val (.int p2), .val (.ref b21), .val (.int (8 : Int32)), .val (.ref wELEMENTS), .val (.int (1 : Int32)), .val (.int (0 : Int32)), .val (.ref b128), .val (.long ((0 : Int32).toInt64)), .second, .val (.ref b128), .unset, .unset, .unset] [(.ref b128), (.ref wELEMENTS)]))) (fun t k => XS.astore X129.here hx rfl (hb hby at_411) rfl rfl (l' := #[.val (.int p0), .val (.int p1), .val (.int p2), .val (.ref b21), .val (.int (8 : Int32)), .val (.ref wELEMENTS), .val (.int (1 : Int32)), .val (.int (0 : Int32)), .val (.ref b128), .unset, .unset, .val (.ref b128), .unset, .unset, .unset]) rfl (XS.iload X129.here hx rfl (hb hby at_413) rfl (XS.i2l X129.here hx rfl (hb hby at_415) rfl (XS.lstore X129.here hx rfl (hb hby at_416) rfl (l' := #[.val (.int p0), .val (.int p1), .val (.int p2), .val (.ref b21), .val (.int (8 : Int32)), .val (.ref wELEMENTS), .val (.int (1 : Int32)), .val (.int (0 : Int32)), .val (.ref b128), .val (.long ((0 : Int32).toInt64)), .second, .val (.ref b128), .unset, .unset, .unset]) rfl (XS.aload X129.here hx rfl (hb hby at_418) rfl rfl (XS.aload X129.here hx rfl (hb hby at_420) rfl rfl k)))))) ?_
      obtain ⟨cq130, kq130, q130a, q130b, q130c⟩ := isOf hZ rfl (HW.2.2.2.2.2.2.2.2.2.2.2.2.2.2.2.2.2.2.2.2.2.2.2.2.2.1.ext O129.2)
      obtain ⟨_, _, ⟨T130, L130, k130, n130⟩, -, X130, ⟨Lc130, hQ130, l130, y130, z130⟩, st130⟩ := X129.virtualBack hx (y := (⟨"com/example/tagwright/tagwright/typed/Form", "sizeOf", "(Ljava/lang/Object;)J"⟩ : MethodName)) (z := (⟨"com/example/tagwright/tagwright/typed/Form", "sizeOf", "(Ljava/lang/Object;)J"⟩ : MethodName)) hown (mvT hZ (own_w hw 62)) (mvT hZ (own_w hw 63)) (notFace_of_selects (args := #[]) (mvT hZ (own_w hw 65))) (mvT hZ (own_w hw 65)) (mvT hZ (own_w hw 64)) (by decide) (backOf (W := 0) (rmZELEMENTS l Z a0 hw [] b128 (0 : Int32) wBOOLEAN wINTEGER wBITS wOCTETS wNULL wOBJECT_IDENTIFIER wTEXT wCOMPONENTS wELEMENTS wCHOICE wELEMENT cs wD kD wC clC T129.heap n0 (own_le O129) O129 HW Eq129 Fq129_size) hZ (own_w hw 66) (own_w hw 3) (by decide) (by decide)) q130a q130c (g := (mkF m 422 #[.val (.int p0), .val (.int p1), .val (.int p2), .val (.ref b21), .val (.int (8 : Int32)), .val (.ref wELEMENTS), .val (.int (1 : Int32)), .val (.int (0 : Int32)), .val (.ref b128), .val (.long ((0 : Int32).toInt64)), .second, .val (.ref b128), .unset, .unset, .unset] [(.ref b128), (.ref wELEMENTS)])) rfl (by rw [hml]; rfl) (Steps.refl _) (argsL := [(.ref b128)]) (rest := []) (lenOf pd_23 rfl) rfl (by show 2 * 0 + _ ≤ _; exact Nat.le_of_eq rfl) (hb hby at_422) (fun _ _ => ⟨rfl, rfl, (by decide : 2 + 0 ≤ _), (by decide : 14 + 0 ≤ _)⟩)
      dsimp only [Pt.U, Pt.locs, Pt.cells, Pt.slots] at X130 l130 y130 z130 st130 hQ130
      subst l130 y130 z130
      obtain ⟨rfl, N130q, e130⟩ := hQ130
      have N130 := Fr.app N129 N130q
      refine own_by (W' := (T130.setTop (mkF m 436 #[.val (.int p0), .val (.int p1), .val (.int p2), .val (.ref b21), .val (.int (8 : Int32)), .val (.ref wELEMENTS), .val (.int (1 : Int32)), .val (.int (0 : Int32)), .val (.ref b128), .val (.long ((0 : Int32).toInt64)), .second, .val (.ref b128), .unset, .unset, .unset] [(.int (1 : Int32))]))) (fun t k => Steps.trans st130 (XS.lload X130.here hx rfl (hb hby at_425) rfl (XS.lcmp X130.here hx rfl (hb hby at_427) rfl (XS.ifNo X130.here hx rfl (hb hby at_428) rfl (own_lceq (rfl : ((0 : Int32).toInt64) = ((0 : Int32).toInt64))).2 (XS.iconst X130.here hx rfl (hb hby at_431) (XS.goto X130.here hx rfl (pc0 := 432) (pc' := 436) rfl (hb hby at_432) (by decide) (by decide) k)))))) ?_
      obtain ⟨fs, hr, hrun, hended, hEnd⟩ := Jvm.Stand.leaveW (s := s) (vm₁ := s.vm) X130 hS0 (by rw [e130]; exact (Nat.le_trans (Nat.le_trans (Nat.le_trans (Nat.le_trans (Nat.le_trans (Nat.le_trans (Nat.le_trans (Nat.le_trans (Nat.le_trans (Nat.le_trans (Nat.le_trans (Nat.le_trans (Nat.le_trans (Nat.le_trans (Nat.le_refl _) E21.1) (Keep.of_wr W24).1) (Keep.of_wr W27).1) (Keep.of_wr W30).1) (Keep.of_wr W33).1) (Keep.of_wr W36).1) (Keep.of_wr W39).1) (Keep.of_wr W42).1) (Keep.of_wr W45).1) (Keep.of_wr W48).1) (Keep.of_wr W51).1) (Keep.of_wr W54).1) E128.1) Kq129.1)) (v := some (.int (1 : Int32))) (fun h => by rw [Bd.returns] at h; cases h)
      refine ⟨_, _, retOut X130 hx Bd.returns rfl (Or.inl ⟨rfl, Or.inr (Or.inl rfl), _, rfl⟩) (hb hby at_436) hr, hrun, hended, _, _, rfl, ?_, (by rw [hh]; show CHr Z consts_1 s.vm h0 T130.vm T130.heap; rw [e130]; exact CHr.trans C129 (CHv.at (s := s) (vm0 := s.vm) X130 hZ (own_EW hw) C129.1)), hEnd.1, hEnd.2.1, hEnd.2.2.1, hEnd.2.2.2.mono (by decide) (by decide)⟩
      exact ⟨rfl, N130⟩
    ·
      rw [hs]
      refine own_by (W' := (T126.setTop (mkF m 200 #[.val (.int p0), .val (.int p1), .val (.int p2), .val (.ref b21), .val (.int (8 : Int32)), .val (.ref wELEMENTS), .val (.int (1 : Int32)), .val (.int (1 : Int32)), .unset, .unset, .unset, .unset, .unset, .unset, .unset] [(.int (3 : Int32)), (.int (8 : Int32))]))) (fun t k => XS.istore X126.here hx rfl (hb hby at_147) rfl (l' := #[.val (.int p0), .val (.int p1), .val (.int p2), .val (.ref b21), .val (.int (8 : Int32)), .val (.ref wELEMENTS), .val (.int (1 : Int32)), .val (.int (1 : Int32)), .unset, .unset, .unset, .unset, .unset, .unset, .unset]) rfl (XS.iload X126.here hx rfl (hb hby at_149) rfl (XS.iconst X126.here hx rfl (hb hby at_151) (XS.icmpYes X126.here hx rfl (pc0 := 152) (pc' := 197) rfl (hb hby at_152) rfl (feq (by decide : ¬ ((8 : Int32) = (2 : Int32)))).2 (by decide) (by decide) (XS.iload X126.here hx rfl (hb hby at_197) rfl (XS.iconst X126.here hx rfl (hb hby at_199) k)))))) ?_
      obtain ⟨T131, h131, X131, e131, E131, A131, D131, -, st131⟩ := newO X126 hx hZ hown (own_w hw 36) (own_w hw 37) (own_w hw 38) e126 (g := (mkF m 352 #[.val (.int p0), .val (.int p1), .val (.int p2), .val (.ref b21), .val (.int (8 : Int32)), .val (.ref wELEMENTS), .val (.int (1 : Int32)), .val (.int (1 : Int32)), .unset, .unset, .unset, .unset, .unset, .unset, .unset] [])) rfl (hb hby at_352) (by decide) (by decide)
      obtain ⟨b131, g131⟩ : ∃ z, z = h54.size := ⟨_, rfl⟩
      rw [← g131] at A131 D131 st131
      have g_b131 : n0 ≤ b131 := Nat.le_trans (own_le O54) (Nat.le_of_eq g131.symm)
      have sz_b131 : h0.size ≤ b131 := Nat.le_trans K54.1 (Nat.le_of_eq g131.symm)
      have ne_b21_b131 : b21 ≠ b131 := Nat.ne_of_lt (Nat.lt_of_lt_of_le Vu53.lt (Nat.le_of_eq g131.symm))
      have Sf131_b131 : Safe Z consts_1 s.vm _ b131 := Safe.ext E131 C54.1 (Safe.new (Nat.le_of_eq g131.symm))
      have Sf131_b21 := Safe.ext E131 C54.1 Sf54_b21
      have C131 := CHr.trans C54 (CHr.ext E131 C54.1)
      have O131 := O54.ext E131
      have K131 := Keep.ext K54 E131
      have F_modCount_b131 : Fld Z h131 b131 "java/util/AbstractList" "modCount" "I" (.int (0 : Int32)) := D131 (Or.inl (own_w hw 58)) (ty := .int) (by decide)
      have F_elementData_b131 : Fld Z h131 b131 "java/util/ArrayList" "elementData" "[Ljava/lang/Object;" .null := D131 (Or.inl (own_w hw 61)) (ty := (.array (.object "java/lang/Object"))) (by decide)
      have F_size_b131 : Fld Z h131 b131 "java/util/ArrayList" "size" "I" (.int (0 : Int32)) := D131 (Or.inl (own_w hw 87)) (ty := .int) (by decide)
      refine own_by (W' := (T131.setTop (mkF m 356 #[.val (.int p0), .val (.int p1), .val (.int p2), .val (.ref b21), .val (.int (8 : Int32)), .val (.ref wELEMENTS), .val (.int (1 : Int32)), .val (.int (1 : Int32)), .unset, .unset, .unset, .unset, .unset, .unset, .unset] [(.ref b131), (.ref b131)]))) (fun t k => XS.icmpYes X126.here hx rfl (pc0 := 200) (pc' := 217) rfl (hb hby at_200) rfl (feq (by decide : ¬ ((8 : Int32) = (3 : Int32)))).2 (by decide) (by decide) (XS.iload X126.here hx rfl (hb hby at_217) rfl (XS.bipush X126.here hx rfl (hb hby at_219) (XS.icmpYes X126.here hx rfl (pc0 := 221) (pc' := 352) rfl (hb hby at_221) rfl (feq (by decide : ¬ ((8 : Int32) = (6 : Int32)))).2 (by decide) (by decide) (st131 _ (XS.dup X131.here hx rfl (hb hby at_355) rfl rfl k)))))) ?_
      obtain ⟨_, _, ⟨T132, L132, k132, n132⟩, -, X132, ⟨Lc132, hQ132, l132, y132, z132⟩, st132⟩ := X131.specialBack hx (y := (⟨"java/util/ArrayList", "<init>", "()V"⟩ : MethodName)) rfl hown (mvT hZ (own_w hw 39)) (mvT hZ (own_w hw 40)) (mvT hZ (own_w hw 41)) (by decide) (backOf (W := 1) (rmAI l Z a0 hw [] b131 wBOOLEAN wINTEGER wBITS wOCTETS wNULL wOBJECT_IDENTIFIER wTEXT wCOMPONENTS wELEMENTS wCHOICE wELEMENT cs wD kD wC clC h131 n0 (own_le O131) O131 HW A131 g_b131 F_modCount_b131 F_elementData_b131 F_size_b131) hZ (own_w hw 41) (own_w hw 38) (by decide) (by decide)) (g := (mkF m 356 #[.val (.int p0), .val (.int p1), .val (.int p2), .val (.ref b21), .val (.int (8 : Int32)), .val (.ref wELEMENTS), .val (.int (1 : Int32)), .val (.int (1 : Int32)), .unset, .unset, .unset, .unset, .unset, .unset, .unset] [(.ref b131), (.ref b131)])) rfl (by rw [hml]; rfl) (Steps.refl _) (a := b131) (argsL := []) (rest := [(.ref b131)]) (lenOf pd_13 rfl) rfl (by show 2 * 0 + _ ≤ _; exact Nat.le_of_eq rfl) (hb hby at_356) (fun _ _ => ⟨rfl, e131, (by decide : 2 + 0 ≤ _), (by decide : 14 + 0 ≤ _)⟩)
      dsimp only [Pt.U, Pt.locs, Pt.cells, Pt.slots] at X132 l132 y132 z132 st132 hQ132
      subst l132 y132 z132
      obtain ⟨rfl, N132q, Kq132, Eq132, Fq132_modCount, Fq132_elementData, Fq132_size⟩ := hQ132
      have O132 := Old.keep O131 Kq132 (allS g_b131 all0)
      have K132 := Keep.trans K131 Kq132 (allS (Or.inr sz_b131) all0)
      have Sf132_b21 := Safe.keep Kq132 (allS Sf131_b131 all0) C131.1 Sf131_b21
      have Sf132_b131 := Safe.keep Kq132 (allS Sf131_b131 all0) C131.1 Sf131_b131
      have C132 := CHr.trans C131 (CHr.keep Kq132 (allS Sf131_b131 all0) C131.1)
      have N132 := Fr.app N126 N132q
      refine own_by (W' := (T132.setTop (mkF m 369 #[.val (.int p0), .val (.int p1), .val (.int p2), .val (.ref b21), .val (.int (8 : Int32)), .val (.ref wELEMENTS), .val (.int (1 : Int32)), .val (.int (1 : Int32)), .unset, .unset, .unset, .val (.ref b131), .unset, .unset, .unset] [(.ref b131)]))) (fun t k => Steps.trans st132 (XS.astore X132.here hx rfl (hb hby at_359) rfl rfl (l' := #[.val (.int p0), .val (.int p1), .val (.int p2), .val (.ref b21), .val (.int (8 : Int32)), .val (.ref wELEMENTS), .val (.int (1 : Int32)), .val (.int (1 : Int32)), .unset, .unset, .unset, .val (.ref b131), .unset, .unset, .unset]) rfl (XS.iload X132.here hx rfl (hb hby at_361) rfl (XS.iconst X132.here hx rfl (hb hby at_363) (XS.icmpNo X132.here hx rfl (hb hby at_364) rfl (flt (by decide : ¬ ((1 : Int32) < (1 : Int32)))).1 (XS.aload X132.here hx rfl (hb hby at_367) rfl rfl k)))))) ?_
      obtain ⟨_, _, ⟨T133, L133, k133, n133⟩, -, X133, ⟨Lc133, hQ133, l133, y133, z133⟩, st133⟩ := Jvm.LawKit.callS X132 hx (y := (⟨"java/lang/Integer", "valueOf", "(I)Ljava/lang/Integer;"⟩ : MethodName)) hown (mvT hZ (own_w hw 88)) (mvT hZ (own_w hw 89)) (mvT hZ (own_w hw 90)) (mvT hZ (own_w hw 91)) (by decide) (backOf (W := 1) (rmV l Z a0 hw [] p1 wBOOLEAN wINTEGER wBITS wOCTETS wNULL wOBJECT_IDENTIFIER wTEXT wCOMPONENTS wELEMENTS wCHOICE wELEMENT cs wD kD wC clC T132.heap n0 (own_le O132) O132 HW) hZ (own_w hw 91) (own_w hw 90) (by decide) (by decide)) (g := (mkF m 370 #[.val (.int p0), .val (.int p1), .val (.int p2), .val (.ref b21), .val (.int (8 : Int32)), .val (.ref wELEMENTS), .val (.int (1 : Int32)), .val (.int (1 : Int32)), .unset, .unset, .unset, .val (.ref b131), .unset, .unset, .unset] [(.int p1), (.ref b131)])) rfl (by rw [hml]; rfl) (argsL := [(.int p1)]) (rest := [(.ref b131)]) (lenOf pd_26 rfl) rfl (by show 2 * 0 + _ ≤ _; exact Nat.le_of_eq rfl) (hb hby at_370) (fun _ _ => ⟨rfl, rfl, (by decide : 2 + 1 ≤ _), (by decide : 14 + 1 ≤ _)⟩)
      dsimp only [Pt.U, Pt.locs, Pt.cells, Pt.slots] at X133 l133 y133 z133 st133 hQ133
      subst l133 y133 z133
      obtain ⟨fb133, rfl, N133q, Kq133, Eq133⟩ := hQ133
      have O133 := Old.keep O132 Kq133 all0
      have K133 := Keep.trans K132 Kq133 all0
      have Sf133_b21 := Safe.keep Kq133 all0 C132.1 Sf132_b21
      have Sf133_b131 := Safe.keep Kq133 all0 C132.1 Sf132_b131
      have C133 := CHr.trans C132 (CHr.keep Kq133 all0 C132.1)
      have N133 := Fr.app N132 N133q
      obtain ⟨cq134, kq134, q134a, q134b, q134c⟩ := isOf hZ rfl (Eq132.keep Kq133)
      obtain ⟨_, _, ⟨T134, L134, k134, n134⟩, -, X134, ⟨Lc134, hQ134, l134, y134, z134⟩, st134⟩ := X133.virtualBack hx (y := (⟨"java/util/ArrayList", "add", "(Ljava/lang/Object;)Z"⟩ : MethodName)) (z := (⟨"java/util/ArrayList", "add", "(Ljava/lang/Object;)Z"⟩ : MethodName)) hown (mvT hZ (own_w hw 107)) (mvT hZ (own_w hw 108)) (notFace_of_selects (args := #[]) (mvT hZ (own_w hw 110))) (mvT hZ (own_w hw 110)) (mvT hZ (own_w hw 109)) (by decide) (backOf (W := 0) (rmA10 l Z a0 hw [] b131 fb133 (0 : Int32) wBOOLEAN wINTEGER wBITS wOCTETS wNULL wOBJECT_IDENTIFIER wTEXT wCOMPONENTS wELEMENTS wCHOICE wELEMENT cs wD kD wC clC T133.heap n0 (own_le O133) O133 HW (Eq132.keep Kq133) g_b131 (Fq132_modCount.keep Kq133 nin0) (Fq132_elementData.keep Kq133 nin0) (Fq132_size.keep Kq133 nin0) Eq133) hZ (own_w hw 111) (own_w hw 38) (by decide) (by decide)) q134a q134c (g := (mkF m 373 #[.val (.int p0), .val (.int p1), .val (.int p2), .val (.ref b21), .val (.int (8 : Int32)), .val (.ref wELEMENTS), .val (.int (1 : Int32)), .val (.int (1 : Int32)), .unset, .unset, .unset, .val (.ref b131), .unset, .unset, .unset] [(.ref fb133), (.ref b131)])) rfl (by rw [hml]; rfl) (Steps.refl _) (argsL := [(.ref fb133)]) (rest := []) (lenOf pd_27 rfl) rfl (by show 2 * 0 + _ ≤ _; exact Nat.le_of_eq rfl) (hb hby at_373) (fun _ _ => ⟨rfl, rfl, (by decide : 3 + 1 ≤ _), (by decide : 15 + 10 ≤ _)⟩)
      dsimp only [Pt.U, Pt.locs, Pt.cells, Pt.slots] at X134 l134 y134 z134 st134 hQ134
      subst l134 y134 z134
      obtain ⟨fb134, kb134, rfl, N134q, Kq134, hsz134, Ov134, Vq134, Eq134, Fq134_modCount, Fq134_elementData, Fq134_size⟩ := hQ134
      have ne_b21_fb134 : b21 ≠ fb134 := Nat.ne_of_lt (Nat.lt_of_lt_of_le (((Vu53.ext E131).keep Kq132 (ninS ne_b21_b131 nin0)).keep Kq133 nin0).lt hsz134)
      have ne_b131_fb134 : b131 ≠ fb134 := Nat.ne_of_lt (Nat.lt_of_lt_of_le (Eq132.keep Kq133).lt hsz134)
      have ne_fb133_fb134 : fb133 ≠ fb134 := Nat.ne_of_lt (Nat.lt_of_lt_of_le Eq133.lt hsz134)
      have g_fb134 : n0 ≤ fb134 := Nat.le_trans (own_le O133) hsz134
      have sz_fb134 : h0.size ≤ fb134 := Nat.le_trans K133.1 hsz134
      have O134 := Old.keep O133 Kq134 (allS g_b131 all0)
      have K134 := Keep.trans K133 Kq134 (allS (Or.inr sz_b131) all0)
      have Sf134_b21 := Safe.keep Kq134 (allS Sf133_b131 all0) C133.1 Sf133_b21
      have Sf134_b131 := Safe.keep Kq134 (allS Sf133_b131 all0) C133.1 Sf133_b131
      have Sf134_fb134 := Safe.keep Kq134 (allS Sf133_b131 all0) C133.1 (Safe.new hsz134)
      have C134 := CHr.trans C133 (CHr.keep Kq134 (allS Sf133_b131 all0) C133.1)
      have N134 := Fr.app N133 N134q
      refine own_by (W' := (T134.setTop (mkF m 380 #[.val (.int p0), .val (.int p1), .val (.int p2), .val (.ref b21), .val (.int (8 : Int32)), .val (.ref wELEMENTS), .val (.int (1 : Int32)), .val (.int (1 : Int32)), .unset, .unset, .unset, .val (.ref b131), .unset, .unset, .unset] [(.int (2 : Int32)), (.int (1 : Int32))]))) (fun t k => XS.iloadN X132.here hx rfl (hb hby at_369) rfl (st133 _ (Steps.trans st134 (XS.pop X134.here hx rfl (hb hby at_376) rfl rfl (XS.iload X134.here hx rfl (hb hby at_377) rfl (XS.iconst X134.here hx rfl (hb hby at_379) k)))))) ?_
      refine own_by (W' := (T134.setTop (mkF m 413 #[.val (.int p0), .val (.int p1), .val (.int p2), .val (.ref b21), .val (.int (8 : Int32)), .val (.ref wELEMENTS), .val (.int (1 : Int32)), .val (.int (1 : Int32)), .val (.ref b131), .unset, .unset, .val (.ref b131), .unset, .unset, .unset] []))) (fun t k => XS.icmpYes X134.here hx rfl (pc0 := 380) (pc' := 393) rfl (hb hby at_380) rfl (tlt (by decide : (1 : Int32) < (2 : Int32))).1 (by decide) (by decide) (XS.iload X134.here hx rfl (hb hby at_393) rfl (XS.iconst X134.here hx rfl (hb hby at_395) (XS.icmpYes X134.here hx rfl (pc0 := 396) (pc' := 409) rfl (hb hby at_396) rfl (tlt (by decide : (1 : Int32) < (3 : Int32))).1 (by decide) (by decide) (XS.aload X134.here hx rfl (hb hby at_409) rfl rfl (XS.astore X134.here hx rfl (hb hby at_411) rfl rfl (l' := #[.val (.int p0), .val (.int p1), .val (.int p2), .val (.ref b21), .val (.int (8 : Int32)), .val (.ref wELEMENTS), .val (.int (1 : Int32)), .val (.int (1 : Int32)), .val (.ref b131), .unset, .unset, .val (.ref b131), .unset, .unset, .unset]) rfl k)))))) ?_
      obtain ⟨cq135, kq135, q135a, q135b, q135c⟩ := isOf hZ rfl (HW.2.2.2.2.2.2.2.2.2.2.2.2.2.2.2.2.2.2.2.2.2.2.2.2.2.1.ext O134.2)
      obtain ⟨_, _, ⟨T135, L135, k135, n135⟩, -, X135, ⟨Lc135, hQ135, l135, y135, z135⟩, st135⟩ := X134.virtualBack hx (y := (⟨"com/example/tagwright/tagwright/typed/Form", "sizeOf", "(Ljava/lang/Object;)J"⟩ : MethodName)) (z := (⟨"com/example/tagwright/tagwright/typed/Form", "sizeOf", "(Ljava/lang/Object;)J"⟩ : MethodName)) hown (mvT hZ (own_w hw 62)) (mvT hZ (own_w hw 63)) (notFace_of_selects (args := #[]) (mvT hZ (own_w hw 65))) (mvT hZ (own_w hw 65)) (mvT hZ (own_w hw 64)) (by decide) (backOf (W := 0) (rmZELEMENTS l Z a0 hw [] b131 (1 : Int32) wBOOLEAN wINTEGER wBITS wOCTETS wNULL wOBJECT_IDENTIFIER wTEXT wCOMPONENTS wELEMENTS wCHOICE wELEMENT cs wD kD wC clC T134.heap n0 (own_le O134) O134 HW Eq134 Fq134_size) hZ (own_w hw 66) (own_w hw 3) (by decide) (by decide)) q135a q135c (g := (mkF m 422 #[.val (.int p0), .val (.int p1), .val (.int p2), .val (.ref b21), .val (.int (8 : Int32)), .val (.ref wELEMENTS), .val (.int (1 : Int32)), .val (.int (1 : Int32)), .val (.ref b131), .val (.long ((1 : Int32).toInt64)), .second, .val (.ref b131), .unset, .unset, .unset] [(.ref b131), (.ref wELEMENTS)])) rfl (by rw [hml]; rfl) (Steps.refl _) (argsL := [(.ref b131)]) (rest := []) (lenOf pd_23 rfl) rfl (by show 2 * 0 + _ ≤ _; exact Nat.le_of_eq rfl) (hb hby at_422) (fun _ _ => ⟨rfl, rfl, (by decide : 4 + 0 ≤ _), (by decide : 25 + 0 ≤ _)⟩)
      dsimp only [Pt.U, Pt.locs, Pt.cells, Pt.slots] at X135 l135 y135 z135 st135 hQ135
      subst l135 y135 z135
      obtain ⟨rfl, N135q, e135⟩ := hQ135
      have N135 := Fr.app N134 N135q
      refine own_by (W' := (T135.setTop (mkF m 425 #[.val (.int p0), .val (.int p1), .val (.int p2), .val (.ref b21), .val (.int (8 : Int32)), .val (.ref wELEMENTS), .val (.int (1 : Int32)), .val (.int (1 : Int32)), .val (.ref b131), .val (.long ((1 : Int32).toInt64)), .second, .val (.ref b131), .unset, .unset, .unset] [(.long ((1 : Int32).toInt64))]))) (fun t k => XS.iload X134.here hx rfl (hb hby at_413) rfl (XS.i2l X134.here hx rfl (hb hby at_415) rfl (XS.lstore X134.here hx rfl (hb hby at_416) rfl (l' := #[.val (.int p0), .val (.int p1), .val (.int p2), .val (.ref b21), .val (.int (8 : Int32)), .val (.ref wELEMENTS), .val (.int (1 : Int32)), .val (.int (1 : Int32)), .val (.ref b131), .val (.long ((1 : Int32).toInt64)), .second, .val (.ref b131), .unset, .unset, .unset]) rfl (XS.aload X134.here hx rfl (hb hby at_418) rfl rfl (XS.aload X134.here hx rfl (hb hby at_420) rfl rfl (Steps.trans st135 k)))))) ?_
      obtain ⟨fs, hr, hrun, hended, hEnd⟩ := Jvm.Stand.leaveW (s := s) (vm₁ := s.vm) X135 hS0 (by rw [e135]; exact (Nat.le_trans (Nat.le_trans (Nat.le_trans (Nat.le_trans (Nat.le_trans (Nat.le_trans (Nat.le_trans (Nat.le_trans (Nat.le_trans (Nat.le_trans (Nat.le_trans (Nat.le_trans (Nat.le_trans (Nat.le_trans (Nat.le_trans (Nat.le_trans (Nat.le_refl _) E21.1) (Keep.of_wr W24).1) (Keep.of_wr W27).1) (Keep.of_wr W30).1) (Keep.of_wr W33).1) (Keep.of_wr W36).1) (Keep.of_wr W39).1) (Keep.of_wr W42).1) (Keep.of_wr W45).1) (Keep.of_wr W48).1) (Keep.of_wr W51).1) (Keep.of_wr W54).1) E131.1) Kq132.1) Kq133.1) Kq134.1)) (v := some (.int (1 : Int32))) (fun h => by rw [Bd.returns] at h; cases h)
      refine own_by (W' := (T135.setTop (mkF m 436 #[.val (.int p0), .val (.int p1), .val (.int p2), .val (.ref b21), .val (.int (8 : Int32)), .val (.ref wELEMENTS), .val (.int (1 : Int32)), .val (.int (1 : Int32)), .val (.ref b131), .val (.long ((1 : Int32).toInt64)), .second, .val (.ref b131), .unset, .unset, .unset] [(.int (1 : Int32))]))) (fun t k => XS.lload X135.here hx rfl (hb hby at_425) rfl (XS.lcmp X135.here hx rfl (hb hby at_427) rfl (XS.ifNo X135.here hx rfl (hb hby at_428) rfl (own_lceq (rfl : ((1 : Int32).toInt64) = ((1 : Int32).toInt64))).2 (XS.iconst X135.here hx rfl (hb hby at_431) (XS.goto X135.here hx rfl (pc0 := 432) (pc' := 436) rfl (hb hby at_432) (by decide) (by decide) k))))) ?_
      refine ⟨_, _, retOut X135 hx Bd.returns rfl (Or.inl ⟨rfl, Or.inr (Or.inl rfl), _, rfl⟩) (hb hby at_436) hr, hrun, hended, _, _, rfl, ?_, (by rw [hh]; show CHr Z consts_1 s.vm h0 T135.vm T135.heap; rw [e135]; exact CHr.trans C134 (CHv.at (s := s) (vm0 := s.vm) X135 hZ (own_EW hw) C134.1)), hEnd.1, hEnd.2.1, hEnd.2.2.1, hEnd.2.2.2.mono (by decide) (by decide)⟩
      exact ⟨rfl, N135⟩
    ·
      rw [hs]
      refine own_by (W' := (T126.setTop (mkF m 200 #[.val (.int p0), .val (.int p1), .val (.int p2), .val (.ref b21), .val (.int (8 : Int32)), .val (.ref wELEMENTS), .val (.int (1 : Int32)), .val (.int (2 : Int32)), .unset, .unset, .unset, .unset, .unset, .unset, .unset] [(.int (3 : Int32)), (.int (8 : Int32))]))) (fun t k => XS.istore X126.here hx rfl (hb hby at_147) rfl (l' := #[.val (.int p0), .val (.int p1), .val (.int p2), .val (.ref b21), .val (.int (8 : Int32)), .val (.ref wELEMENTS), .val (.int (1 : Int32)), .val (.int (2 : Int32)), .unset, .unset, .unset, .unset, .unset, .unset, .unset]) rfl (XS.iload X126.here hx rfl (hb hby at_149) rfl (XS.iconst X126.here hx rfl (hb hby at_151) (XS.icmpYes X126.here hx rfl (pc0 := 152) (pc' := 197) rfl (hb hby at_152) rfl (feq (by decide : ¬ ((8 : Int32) = (2 : Int32)))).2 (by decide) (by decide) (XS.iload X126.here hx rfl (hb hby at_197) rfl (XS.iconst X126.here hx rfl (hb hby at_199) k)))))) ?_
      obtain ⟨T136, h136, X136, e136, E136, A136, D136, -, st136⟩ := newO X126 hx hZ hown (own_w hw 36) (own_w hw 37) (own_w hw 38) e126 (g := (mkF m 352 #[.val (.int p0), .val (.int p1), .val (.int p2), .val (.ref b21), .val (.int (8 : Int32)), .val (.ref wELEMENTS), .val (.int (1 : Int32)), .val (.int (2 : Int32)), .unset, .unset, .unset, .unset, .unset, .unset, .unset] [])) rfl (hb hby at_352) (by decide) (by decide)
      obtain ⟨b136, g136⟩ : ∃ z, z = h54.size := ⟨_, rfl⟩
      rw [← g136] at A136 D136 st136
      have g_b136 : n0 ≤ b136 := Nat.le_trans (own_le O54) (Nat.le_of_eq g136.symm)
      have sz_b136 : h0.size ≤ b136 := Nat.le_trans K54.1 (Nat.le_of_eq g136.symm)
      have ne_b21_b136 : b21 ≠ b136 := Nat.ne_of_lt (Nat.lt_of_lt_of_le Vu53.lt (Nat.le_of_eq g136.symm))
      have Sf136_b136 : Safe Z consts_1 s.vm _ b136 := Safe.ext E136 C54.1 (Safe.new (Nat.le_of_eq g136.symm))
      have Sf136_b21 := Safe.ext E136 C54.1 Sf54_b21
      have C136 := CHr.trans C54 (CHr.ext E136 C54.1)
      have O136 := O54.ext E136
      have K136 := Keep.ext K54 E136
      have F_modCount_b136 : Fld Z h136 b136 "java/util/AbstractList" "modCount" "I" (.int (0 : Int32)) := D136 (Or.inl (own_w hw 58)) (ty := .int) (by decide)
      have F_elementData_b136 : Fld Z h136 b136 "java/util/ArrayList" "elementData" "[Ljava/lang/Object;" .null := D136 (Or.inl (own_w hw 61)) (ty := (.array (.object "java/lang/Object"))) (by decide)
      have F_size_b136 : Fld Z h136 b136 "java/util/ArrayList" "size" "I" (.int (0 : Int32)) := D136 (Or.inl (own_w hw 87)) (ty := .int) (by decide)
      refine own_by (W' := (T136.setTop (mkF m 356 #[.val (.int p0), .val (.int p1), .val (.int p2), .val (.ref b21), .val (.int (8 : Int32)), .val (.ref wELEMENTS), .val (.int (1 : Int32)), .val (.int (2 : Int32)), .unset, .unset, .unset, .unset, .unset, .unset, .unset] [(.ref b136), (.ref b136)]))) (fun t k => XS.icmpYes X126.here hx rfl (pc0 := 200) (pc' := 217) rfl (hb hby at_200) rfl (feq (by decide : ¬ ((8 : Int32) = (3 : Int32)))).2 (by decide) (by decide) (XS.iload X126.here hx rfl (hb hby at_217) rfl (XS.bipush X126.here hx rfl (hb hby at_219) (XS.icmpYes X126.here hx rfl (pc0 := 221) (pc' := 352) rfl (hb hby at_221) rfl (feq (by decide : ¬ ((8 : Int32) = (6 : Int32)))).2 (by decide) (by decide) (st136 _ (XS.dup X136.here hx rfl (hb hby at_355) rfl rfl k)))))) ?_
      obtain ⟨_, _, ⟨T137, L137, k137, n137⟩, -, X137, ⟨Lc137, hQ137, l137, y137, z137⟩, st137⟩ := X136.specialBack hx (y := (⟨"java/util/ArrayList", "<init>", "()V"⟩ : MethodName)) rfl hown (mvT hZ (own_w hw 39)) (mvT hZ (own_w hw 40)) (mvT hZ (own_w hw 41)) (by decide) (backOf (W := 1) (rmAI l Z a0 hw [] b136 wBOOLEAN wINTEGER wBITS wOCTETS wNULL wOBJECT_IDENTIFIER wTEXT wCOMPONENTS wELEMENTS wCHOICE wELEMENT cs wD kD wC clC h136 n0 (own_le O136) O136 HW A136 g_b136 F_modCount_b136 F_elementData_b136 F_size_b136) hZ (own_w hw 41) (own_w hw 38) (by decide) (by decide)) (g := (mkF m 356 #[.val (.int p0), .val (.int p1), .val (.int p2), .val (.ref b21), .val (.int (8 : Int32)), .val (.ref wELEMENTS), .val (.int (1 : Int32)), .val (.int (2 : Int32)), .unset, .unset, .unset, .unset, .unset, .unset, .unset] [(.ref b136), (.ref b136)])) rfl (by rw [hml]; rfl) (Steps.refl _) (a := b136) (argsL := []) (rest := [(.ref b136)]) (lenOf pd_13 rfl) rfl (by show 2 * 0 + _ ≤ _; exact Nat.le_of_eq rfl) (hb hby at_356) (fun _ _ => ⟨rfl, e136, (by decide : 2 + 0 ≤ _), (by decide : 14 + 0 ≤ _)⟩)
      dsimp only [Pt.U, Pt.locs, Pt.cells, Pt.slots] at X137 l137 y137 z137 st137 hQ137
      subst l137 y137 z137
      obtain ⟨rfl, N137q, Kq137, Eq137, Fq137_modCount, Fq137_elementData, Fq137_size⟩ := hQ137
      have O137 := Old.keep O136 Kq137 (allS g_b136 all0)
      have K137 := Keep.trans K136 Kq137 (allS (Or.inr sz_b136) all0)
      have Sf137_b21 := Safe.keep Kq137 (allS Sf136_b136 all0) C136.1 Sf136_b21
      have Sf137_b136 := Safe.keep Kq137 (allS Sf136_b136 all0) C136.1 Sf136_b136
      have C137 := CHr.trans C136 (CHr.keep Kq137 (allS Sf136_b136 all0) C136.1)
      have N137 := Fr.app N126 N137q
      refine own_by (W' := (T137.setTop (mkF m 369 #[.val (.int p0), .val (.int p1), .val (.int p2), .val (.ref b21), .val (.int (8 : Int32)), .val (.ref wELEMENTS), .val (.int (1 : Int32)), .val (.int (2 : Int32)), .unset, .unset, .unset, .val (.ref b136), .unset, .unset, .unset] [(.ref b136)]))) (fun t k => Steps.trans st137 (XS.astore X137.here hx rfl (hb hby at_359) rfl rfl (l' := #[.val (.int p0), .val (.int p1), .val (.int p2), .val (.ref b21), .val (.int (8 : Int32)), .val (.ref wELEMENTS), .val (.int (1 : Int32)), .val (.int (2 : Int32)), .unset, .unset, .unset, .val (.ref b136), .unset, .unset, .unset]) rfl (XS.iload X137.here hx rfl (hb hby at_361) rfl (XS.iconst X137.here hx rfl (hb hby at_363) (XS.icmpNo X137.here hx rfl (hb hby at_364) rfl (flt (by decide : ¬ ((2 : Int32) < (1 : Int32)))).1 (XS.aload X137.here hx rfl (hb hby at_367) rfl rfl k)))))) ?_
      obtain ⟨_, _, ⟨T138, L138, k138, n138⟩, -, X138, ⟨Lc138, hQ138, l138, y138, z138⟩, st138⟩ := Jvm.LawKit.callS X137 hx (y := (⟨"java/lang/Integer", "valueOf", "(I)Ljava/lang/Integer;"⟩ : MethodName)) hown (mvT hZ (own_w hw 88)) (mvT hZ (own_w hw 89)) (mvT hZ (own_w hw 90)) (mvT hZ (own_w hw 91)) (by decide) (backOf (W := 1) (rmV l Z a0 hw [] p1 wBOOLEAN wINTEGER wBITS wOCTETS wNULL wOBJECT_IDENTIFIER wTEXT wCOMPONENTS wELEMENTS wCHOICE wELEMENT cs wD kD wC clC T137.heap n0 (own_le O137) O137 HW) hZ (own_w hw 91) (own_w hw 90) (by decide) (by decide)) (g := (mkF m 370 #[.val (.int p0), .val (.int p1), .val (.int p2), .val (.ref b21), .val (.int (8 : Int32)), .val (.ref wELEMENTS), .val (.int (1 : Int32)), .val (.int (2 : Int32)), .unset, .unset, .unset, .val (.ref b136), .unset, .unset, .unset] [(.int p1), (.ref b136)])) rfl (by rw [hml]; rfl) (argsL := [(.int p1)]) (rest := [(.ref b136)]) (lenOf pd_26 rfl) rfl (by show 2 * 0 + _ ≤ _; exact Nat.le_of_eq rfl) (hb hby at_370) (fun _ _ => ⟨rfl, rfl, (by decide : 2 + 1 ≤ _), (by decide : 14 + 1 ≤ _)⟩)
      dsimp only [Pt.U, Pt.locs, Pt.cells, Pt.slots] at X138 l138 y138 z138 st138 hQ138
      subst l138 y138 z138
      obtain ⟨fb138, rfl, N138q, Kq138, Eq138⟩ := hQ138
      have O138 := Old.keep O137 Kq138 all0
      have K138 := Keep.trans K137 Kq138 all0
      have Sf138_b21 := Safe.keep Kq138 all0 C137.1 Sf137_b21
      have Sf138_b136 := Safe.keep Kq138 all0 C137.1 Sf137_b136
      have C138 := CHr.trans C137 (CHr.keep Kq138 all0 C137.1)
      have N138 := Fr.app N137 N138q
      obtain ⟨cq139, kq139, q139a, q139b, q139c⟩ := isOf hZ rfl (Eq137.keep Kq138)
      obtain ⟨_, _, ⟨T139, L139, k139, n139⟩, -, X139, ⟨Lc139, hQ139, l139, y139, z139⟩, st139⟩ := X138.virtualBack hx (y := (⟨"java/util/ArrayList", "add", "(Ljava/lang/Object;)Z"⟩ : MethodName)) (z := (⟨"java/util/ArrayList", "add", "(Ljava/lang/Object;)Z"⟩ : MethodName)) hown (mvT hZ (own_w hw 107)) (mvT hZ (own_w hw 108)) (notFace_of_selects (args := #[]) (mvT hZ (own_w hw 110))) (mvT hZ (own_w hw 110)) (mvT hZ (own_w hw 109)) (by decide) (backOf (W := 0) (rmA10 l Z a0 hw [] b136 fb138 (0 : Int32) wBOOLEAN wINTEGER wBITS wOCTETS wNULL wOBJECT_IDENTIFIER wTEXT wCOMPONENTS wELEMENTS wCHOICE wELEMENT cs wD kD wC clC T138.heap n0 (own_le O138) O138 HW (Eq137.keep Kq138) g_b136 (Fq137_modCount.keep Kq138 nin0) (Fq137_elementData.keep Kq138 nin0) (Fq137_size.keep Kq138 nin0) Eq138) hZ (own_w hw 111) (own_w hw 38) (by decide) (by decide)) q139a q139c (g := (mkF m 373 #[.val (.int p0), .val (.int p1), .val (.int p2), .val (.ref b21), .val (.int (8 : Int32)), .val (.ref wELEMENTS), .val (.int (1 : Int32)), .val (.int (2 : Int32)), .unset, .unset, .unset, .val (.ref b136), .unset, .unset, .unset] [(.ref fb138), (.ref b136)])) rfl (by rw [hml]; rfl) (Steps.refl _) (argsL := [(.ref fb138)]) (rest := []) (lenOf pd_27 rfl) rfl (by show 2 * 0 + _ ≤ _; exact Nat.le_of_eq rfl) (hb hby at_373) (fun _ _ => ⟨rfl, rfl, (by decide : 3 + 1 ≤ _), (by decide : 15 + 10 ≤ _)⟩)
      dsimp only [Pt.U, Pt.locs, Pt.cells, Pt.slots] at X139 l139 y139 z139 st139 hQ139
      subst l139 y139 z139
      obtain ⟨fb139, kb139, rfl, N139q, Kq139, hsz139, Ov139, Vq139, Eq139, Fq139_modCount, Fq139_elementData, Fq139_size⟩ := hQ139
      have ne_b21_fb139 : b21 ≠ fb139 := Nat.ne_of_lt (Nat.lt_of_lt_of_le (((Vu53.ext E136).keep Kq137 (ninS ne_b21_b136 nin0)).keep Kq138 nin0).lt hsz139)
      have ne_b136_fb139 : b136 ≠ fb139 := Nat.ne_of_lt (Nat.lt_of_lt_of_le (Eq137.keep Kq138).lt hsz139)
      have ne_fb138_fb139 : fb138 ≠ fb139 := Nat.ne_of_lt (Nat.lt_of_lt_of_le Eq138.lt hsz139)
      have g_fb139 : n0 ≤ fb139 := Nat.le_trans (own_le O138) hsz139
      have sz_fb139 : h0.size ≤ fb139 := Nat.le_trans K138.1 hsz139
      have O139 := Old.keep O138 Kq139 (allS g_b136 all0)
      have K139 := Keep.trans K138 Kq139 (allS (Or.inr sz_b136) all0)
      have Sf139_b21 := Safe.keep Kq139 (allS Sf138_b136 all0) C138.1 Sf138_b21
      have Sf139_b136 := Safe.keep Kq139 (allS Sf138_b136 all0) C138.1 Sf138_b136
      have Sf139_fb139 := Safe.keep Kq139 (allS Sf138_b136 all0) C138.1 (Safe.new hsz139)
      have C139 := CHr.trans C138 (CHr.keep Kq139 (allS Sf138_b136 all0) C138.1)
      have N139 := Fr.app N138 N139q
      refine own_by (W' := (T139.setTop (mkF m 380 #[.val (.int p0), .val (.int p1), .val (.int p2), .val (.ref b21), .val (.int (8 : Int32)), .val (.ref wELEMENTS), .val (.int (1 : Int32)), .val (.int (2 : Int32)), .unset, .unset, .unset, .val (.ref b136), .unset, .unset, .unset] [(.int (2 : Int32)), (.int (2 : Int32))]))) (fun t k => XS.iloadN X137.here hx rfl (hb hby at_369) rfl (st138 _ (Steps.trans st139 (XS.pop X139.here hx rfl (hb hby at_376) rfl rfl (XS.iload X139.here hx rfl (hb hby at_377) rfl (XS.iconst X139.here hx rfl (hb hby at_379) k)))))) ?_
      obtain ⟨_, _, ⟨T140, L140, k140, n140⟩, -, X140, ⟨Lc140, hQ140, l140, y140, z140⟩, st140⟩ := Jvm.LawKit.callS X139 hx (y := (⟨"java/lang/Integer", "valueOf", "(I)Ljava/lang/Integer;"⟩ : MethodName)) hown (mvT hZ (own_w hw 88)) (mvT hZ (own_w hw 89)) (mvT hZ (own_w hw 90)) (mvT hZ (own_w hw 91)) (by decide) (backOf (W := 1) (rmV l Z a0 hw [] p2 wBOOLEAN wINTEGER wBITS wOCTETS wNULL wOBJECT_IDENTIFIER wTEXT wCOMPONENTS wELEMENTS wCHOICE wELEMENT cs wD kD wC clC T139.heap n0 (own_le O139) O139 HW) hZ (own_w hw 91) (own_w hw 90) (by decide) (by decide)) (g := (mkF m 386 #[.val (.int p0), .val (.int p1), .val (.int p2), .val (.ref b21), .val (.int (8 : Int32)), .val (.ref wELEMENTS), .val (.int (1 : Int32)), .val (.int (2 : Int32)), .unset, .unset, .unset, .val (.ref b136), .unset, .unset, .unset] [(.int p2), (.ref b136)])) rfl (by rw [hml]; rfl) (argsL := [(.int p2)]) (rest := [(.ref b136)]) (lenOf pd_26 rfl) rfl (by show 2 * 0 + _ ≤ _; exact Nat.le_of_eq rfl) (hb hby at_386) (fun _ _ => ⟨rfl, rfl, (by decide : 4 + 1 ≤ _), (by decide : 25 + 1 ≤ _)⟩)
      dsimp only [Pt.U, Pt.locs, Pt.cells, Pt.slots] at X140 l140 y140 z140 st140 hQ140
      subst l140 y140 z140
      obtain ⟨fb140, rfl, N140q, Kq140, Eq140⟩ := hQ140
      have O140 := Old.keep O139 Kq140 all0
      have K140 := Keep.trans K139 Kq140 all0
      have Sf140_b21 := Safe.keep Kq140 all0 C139.1 Sf139_b21
      have Sf140_b136 := Safe.keep Kq140 all0 C139.1 Sf139_b136
      have Sf140_fb139 := Safe.keep Kq140 all0 C139.1 Sf139_fb139
      have C140 := CHr.trans C139 (CHr.keep Kq140 all0 C139.1)
      have N140 := Fr.app N139 N140q
      obtain ⟨cq141, kq141, q141a, q141b, q141c⟩ := isOf hZ rfl (Eq139.keep Kq140)
      obtain ⟨_, _, ⟨T141, L141, k141, n141⟩, -, X141, ⟨Lc141, hQ141, l141, y141, z141⟩, st141⟩ := X140.virtualBack hx (y := (⟨"java/util/ArrayList", "add", "(Ljava/lang/Object;)Z"⟩ : MethodName)) (z := (⟨"java/util/ArrayList", "add", "(Ljava/lang/Object;)Z"⟩ : MethodName)) hown (mvT hZ (own_w hw 107)) (mvT hZ (own_w hw 108)) (notFace_of_selects (args := #[]) (mvT hZ (own_w hw 110))) (mvT hZ (own_w hw 110)) (mvT hZ (own_w hw 109)) (by decide) (backOf (W := 0) (rmA11 l Z a0 hw [] b136 fb140 ((0 : Int32) + (1 : Int32)) fb139 kb139 fb138 wBOOLEAN wINTEGER wBITS wOCTETS wNULL wOBJECT_IDENTIFIER wTEXT wCOMPONENTS wELEMENTS wCHOICE wELEMENT cs wD kD wC clC T140.heap n0 (own_le O140) O140 HW (Eq139.keep Kq140) g_b136 (Fq139_modCount.keep Kq140 nin0) (Fq139_elementData.keep Kq140 nin0) (Fq139_size.keep Kq140 nin0) Eq140 (Vq139.keep Kq140 nin0) Ov139 g_fb139 ne_b136_fb139.symm) hZ (own_w hw 111) (own_w hw 38) (by decide) (by decide)) q141a q141c (g := (mkF m 389 #[.val (.int p0), .val (.int p1), .val (.int p2), .val (.ref b21), .val (.int (8 : Int32)), .val (.ref wELEMENTS), .val (.int (1 : Int32)), .val (.int (2 : Int32)), .unset, .unset, .unset, .val (.ref b136), .unset, .unset, .unset] [(.ref fb140), (.ref b136)])) rfl (by rw [hml]; rfl) (Steps.refl _) (argsL := [(.ref fb140)]) (rest := []) (lenOf pd_27 rfl) rfl (by show 2 * 0 + _ ≤ _; exact Nat.le_of_eq rfl) (hb hby at_389) (fun _ _ => ⟨rfl, rfl, (by decide : 5 + 0 ≤ _), (by decide : 26 + 0 ≤ _)⟩)
      dsimp only [Pt.U, Pt.locs, Pt.cells, Pt.slots] at X141 l141 y141 z141 st141 hQ141
      subst l141 y141 z141
      obtain ⟨rfl, N141q, Kq141, Vq141, Eq141, Fq141_modCount, Fq141_elementData, Fq141_size⟩ := hQ141
      have O141 := Old.keep O140 Kq141 (allS g_b136 (allS g_fb139 all0))
      have K141 := Keep.trans K140 Kq141 (allS (Or.inr sz_b136) (allS (Or.inr sz_fb139) all0))
      have Sf141_b21 := Safe.keep Kq141 (allS Sf140_b136 (allS Sf140_fb139 all0)) C140.1 Sf140_b21
      have Sf141_b136 := Safe.keep Kq141 (allS Sf140_b136 (allS Sf140_fb139 all0)) C140.1 Sf140_b136
      have Sf141_fb139 := Safe.keep Kq141 (allS Sf140_b136 (allS Sf140_fb139 all0)) C140.1 Sf140_fb139
      have C141 := CHr.trans C140 (CHr.keep Kq141 (allS Sf140_b136 (allS Sf140_fb139 all0)) C140.1)
      have N141 := Fr.app N140 N141q
      refine own_by (W' := (T141.setTop (mkF m 393 #[.val (.int p0), .val (.int p1), .val (.int p2), .val (.ref b21), .val (.int (8 : Int32)), .val (.ref wELEMENTS), .val (.int (1 : Int32)), .val (.int (2 : Int32)), .unset, .unset, .unset, .val (.ref b136), .unset, .unset, .unset] []))) (fun t k => XS.icmpNo X139.here hx rfl (hb hby at_380) rfl (flt (by decide : ¬ ((2 : Int32) < (2 : Int32)))).1 (XS.aload X139.here hx rfl (hb hby at_383) rfl rfl (XS.iloadN X139.here hx rfl (hb hby at_385) rfl (st140 _ (Steps.trans st141 (XS.pop X141.here hx rfl (hb hby at_392) rfl rfl k)))))) ?_
      refine own_by (W' := (T141.setTop (mkF m 415 #[.val (.int p0), .val (.int p1), .val (.int p2), .val (.ref b21), .val (.int (8 : Int32)), .val (.ref wELEMENTS), .val (.int (1 : Int32)), .val (.int (2 : Int32)), .val (.ref b136), .unset, .unset, .val (.ref b136), .unset, .unset, .unset] [(.int (2 : Int32))]))) (fun t k => XS.iload X141.here hx rfl (hb hby at_393) rfl (XS.iconst X141.here hx rfl (hb hby at_395) (XS.icmpYes X141.here hx rfl (pc0 := 396) (pc' := 409) rfl (hb hby at_396) rfl (tlt (by decide : (2 : Int32) < (3 : Int32))).1 (by decide) (by decide) (XS.aload X141.here hx rfl (hb hby at_409) rfl rfl (XS.astore X141.here hx rfl (hb hby at_411) rfl rfl (l' := #[.val (.int p0), .val (.int p1), .val (.int p2), .val (.ref b21), .val (.int (8 : Int32)), .val (.ref wELEMENTS), .val (.int (1 : Int32)), .val (.int (2 : Int32)), .val (.ref b136), .unset, .unset, .val (.ref b136), .unset, .unset, .unset]) rfl (XS.iload X141.here hx rfl (hb hby at_413) rfl k)))))) ?_
      obtain ⟨cq142, kq142, q142a, q142b, q142c⟩ := isOf hZ rfl (HW.2.2.2.2.2.2.2.2.2.2.2.2.2.2.2.2.2.2.2.2.2.2.2.2.2.1.ext O141.2)
      obtain ⟨_, _, ⟨T142, L142, k142, n142⟩, -, X142, ⟨Lc142, hQ142, l142, y142, z142⟩, st142⟩ := X141.virtualBack hx (y := (⟨"com/example/tagwright/tagwright/typed/Form", "sizeOf", "(Ljava/lang/Object;)J"⟩ : MethodName)) (z := (⟨"com/example/tagwright/tagwright/typed/Form", "sizeOf", "(Ljava/lang/Object;)J"⟩ : MethodName)) hown (mvT hZ (own_w hw 62)) (mvT hZ (own_w hw 63)) (notFace_of_selects (args := #[]) (mvT hZ (own_w hw 65))) (mvT hZ (own_w hw 65)) (mvT hZ (own_w hw 64)) (by decide) (backOf (W := 0) (rmZELEMENTS l Z a0 hw [] b136 (2 : Int32) wBOOLEAN wINTEGER wBITS wOCTETS wNULL wOBJECT_IDENTIFIER wTEXT wCOMPONENTS wELEMENTS wCHOICE wELEMENT cs wD kD wC clC T141.heap n0 (own_le O141) O141 HW Eq141 Fq141_size) hZ (own_w hw 66) (own_w hw 3) (by decide) (by decide)) q142a q142c (g := (mkF m 422 #[.val (.int p0), .val (.int p1), .val (.int p2), .val (.ref b21), .val (.int (8 : Int32)), .val (.ref wELEMENTS), .val (.int (1 : Int32)), .val (.int (2 : Int32)), .val (.ref b136), .val (.long ((2 : Int32).toInt64)), .second, .val (.ref b136), .unset, .unset, .unset] [(.ref b136), (.ref wELEMENTS)])) rfl (by rw [hml]; rfl) (Steps.refl _) (argsL := [(.ref b136)]) (rest := []) (lenOf pd_23 rfl) rfl (by show 2 * 0 + _ ≤ _; exact Nat.le_of_eq rfl) (hb hby at_422) (fun _ _ => ⟨rfl, rfl, (by decide : 5 + 0 ≤ _), (by decide : 26 + 0 ≤ _)⟩)
      dsimp only [Pt.U, Pt.locs, Pt.cells, Pt.slots] at X142 l142 y142 z142 st142 hQ142
      subst l142 y142 z142
      obtain ⟨rfl, N142q, e142⟩ := hQ142
      have N142 := Fr.app N141 N142q
      refine own_by (W' := (T142.setTop (mkF m 427 #[.val (.int p0), .val (.int p1), .val (.int p2), .val (.ref b21), .val (.int (8 : Int32)), .val (.ref wELEMENTS), .val (.int (1 : Int32)), .val (.int (2 : Int32)), .val (.ref b136), .val (.long ((2 : Int32).toInt64)), .second, .val (.ref b136), .unset, .unset, .unset] [(.long ((2 : Int32).toInt64)), (.long ((2 : Int32).toInt64))]))) (fun t k => XS.i2l X141.here hx rfl (hb hby at_415) rfl (XS.lstore X141.here hx rfl (hb hby at_416) rfl (l' := #[.val (.int p0), .val (.int p1), .val (.int p2), .val (.ref b21), .val (.int (8 : Int32)), .val (.ref wELEMENTS), .val (.int (1 : Int32)), .val (.int (2 : Int32)), .val (.ref b136), .val (.long ((2 : Int32).toInt64)), .second, .val (.ref b136), .unset, .unset, .unset]) rfl (XS.aload X141.here hx rfl (hb hby at_418) rfl rfl (XS.aload X141.here hx rfl (hb hby at_420) rfl rfl (Steps.trans st142 (XS.lload X142.here hx rfl (hb hby at_425) rfl k)))))) ?_
      obtain ⟨fs, hr, hrun, hended, hEnd⟩ := Jvm.Stand.leaveW (s := s) (vm₁ := s.vm) X142 hS0 (by rw [e142]; exact (Nat.le_trans (Nat.le_trans (Nat.le_trans (Nat.le_trans (Nat.le_trans (Nat.le_trans (Nat.le_trans (Nat.le_trans (Nat.le_trans (Nat.le_trans (Nat.le_trans (Nat.le_trans (Nat.le_trans (Nat.le_trans (Nat.le_trans (Nat.le_trans (Nat.le_trans (Nat.le_trans (Nat.le_refl _) E21.1) (Keep.of_wr W24).1) (Keep.of_wr W27).1) (Keep.of_wr W30).1) (Keep.of_wr W33).1) (Keep.of_wr W36).1) (Keep.of_wr W39).1) (Keep.of_wr W42).1) (Keep.of_wr W45).1) (Keep.of_wr W48).1) (Keep.of_wr W51).1) (Keep.of_wr W54).1) E136.1) Kq137.1) Kq138.1) Kq139.1) Kq140.1) Kq141.1)) (v := some (.int (1 : Int32))) (fun h => by rw [Bd.returns] at h; cases h)
      refine own_by (W' := (T142.setTop (mkF m 436 #[.val (.int p0), .val (.int p1), .val (.int p2), .val (.ref b21), .val (.int (8 : Int32)), .val (.ref wELEMENTS), .val (.int (1 : Int32)), .val (.int (2 : Int32)), .val (.ref b136), .val (.long ((2 : Int32).toInt64)), .second, .val (.ref b136), .unset, .unset, .unset] [(.int (1 : Int32))]))) (fun t k => XS.lcmp X142.here hx rfl (hb hby at_427) rfl (XS.ifNo X142.here hx rfl (hb hby at_428) rfl (own_lceq (rfl : ((2 : Int32).toInt64) = ((2 : Int32).toInt64))).2 (XS.iconst X142.here hx rfl (hb hby at_431) (XS.goto X142.here hx rfl (pc0 := 432) (pc' := 436) rfl (hb hby at_432) (by decide) (by decide) k)))) ?_
      refine ⟨_, _, retOut X142 hx Bd.returns rfl (Or.inl ⟨rfl, Or.inr (Or.inl rfl), _, rfl⟩) (hb hby at_436) hr, hrun, hended, _, _, rfl, ?_, (by rw [hh]; show CHr Z consts_1 s.vm h0 T142.vm T142.heap; rw [e142]; exact CHr.trans C141 (CHv.at (s := s) (vm0 := s.vm) X142 hZ (own_EW hw) C141.1)), hEnd.1, hEnd.2.1, hEnd.2.2.1, hEnd.2.2.2.mono (by decide) (by decide)⟩
      exact ⟨rfl, N142⟩
    ·
      rw [hs]
      refine own_by (W' := (T126.setTop (mkF m 200 #[.val (.int p0), .val (.int p1), .val (.int p2), .val (.ref b21), .val (.int (8 : Int32)), .val (.ref wELEMENTS), .val (.int (1 : Int32)), .val (.int (3 : Int32)), .unset, .unset, .unset, .unset, .unset, .unset, .unset] [(.int (3 : Int32)), (.int (8 : Int32))]))) (fun t k => XS.istore X126.here hx rfl (hb hby at_147) rfl (l' := #[.val (.int p0), .val (.int p1), .val (.int p2), .val (.ref b21), .val (.int (8 : Int32)), .val (.ref wELEMENTS), .val (.int (1 : Int32)), .val (.int (3 : Int32)), .unset, .unset, .unset, .unset, .unset, .unset, .unset]) rfl (XS.iload X126.here hx rfl (hb hby at_149) rfl (XS.iconst X126.here hx rfl (hb hby at_151) (XS.icmpYes X126.here hx rfl (pc0 := 152) (pc' := 197) rfl (hb hby at_152) rfl (feq (by decide : ¬ ((8 : Int32) = (2 : Int32)))).2 (by decide) (by decide) (XS.iload X126.here hx rfl (hb hby at_197) rfl (XS.iconst X126.here hx rfl (hb hby at_199) k)))))) ?_
      obtain ⟨T143, h143, X143, e143, E143, A143, D143, -, st143⟩ := newO X126 hx hZ hown (own_w hw 36) (own_w hw 37) (own_w hw 38) e126 (g := (mkF m 352 #[.val (.int p0), .val (.int p1), .val (.int p2), .val (.ref b21), .val (.int (8 : Int32)), .val (.ref wELEMENTS), .val (.int (1 : Int32)), .val (.int (3 : Int32)), .unset, .unset, .unset, .unset, .unset, .unset, .unset] [])) rfl (hb hby at_352) (by decide) (by decide)
      obtain ⟨b143, g143⟩ : ∃ z, z = h54.size := ⟨_, rfl⟩
      rw [← g143] at A143 D143 st143
      have g_b143 : n0 ≤ b143 := Nat.le_trans (own_le O54) (Nat.le_of_eq g143.symm)
      have sz_b143 : h0.size ≤ b143 := Nat.le_trans K54.1 (Nat.le_of_eq g143.symm)
      have ne_b21_b143 : b21 ≠ b143 := Nat.ne_of_lt (Nat.lt_of_lt_of_le Vu53.lt (Nat.le_of_eq g143.symm))
      have Sf143_b143 : Safe Z consts_1 s.vm _ b143 := Safe.ext E143 C54.1 (Safe.new (Nat.le_of_eq g143.symm))
      have Sf143_b21 := Safe.ext E143 C54.1 Sf54_b21
      have C143 := CHr.trans C54 (CHr.ext E143 C54.1)
      have O143 := O54.ext E143
      have K143 := Keep.ext K54 E143
      have F_modCount_b143 : Fld Z h143 b143 "java/util/AbstractList" "modCount" "I" (.int (0 : Int32)) := D143 (Or.inl (own_w hw 58)) (ty := .int) (by decide)
      have F_elementData_b143 : Fld Z h143 b143 "java/util/ArrayList" "elementData" "[Ljava/lang/Object;" .null := D143 (Or.inl (own_w hw 61)) (ty := (.array (.object "java/lang/Object"))) (by decide)
      have F_size_b143 : Fld Z h143 b143 "java/util/ArrayList" "size" "I" (.int (0 : Int32)) := D143 (Or.inl (own_w hw 87)) (ty := .int) (by decide)
      refine own_by (W' := (T143.setTop (mkF m 356 #[.val (.int p0), .val (.int p1), .val (.int p2), .val (.ref b21), .val (.int (8 : Int32)), .val (.ref wELEMENTS), .val (.int (1 : Int32)), .val (.int (3 : Int32)), .unset, .unset, .unset, .unset, .unset, .unset, .unset] [(.ref b143), (.ref b143)]))) (fun t k => XS.icmpYes X126.here hx rfl (pc0 := 200) (pc' := 217) rfl (hb hby at_200) rfl (feq (by decide : ¬ ((8 : Int32) = (3 : Int32)))).2 (by decide) (by decide) (XS.iload X126.here hx rfl (hb hby at_217) rfl (XS.bipush X126.here hx rfl (hb hby at_219) (XS.icmpYes X126.here hx rfl (pc0 := 221) (pc' := 352) rfl (hb hby at_221) rfl (feq (by decide : ¬ ((8 : Int32) = (6 : Int32)))).2 (by decide) (by decide) (st143 _ (XS.dup X143.here hx rfl (hb hby at_355) rfl rfl k)))))) ?_
      obtain ⟨_, _, ⟨T144, L144, k144, n144⟩, -, X144, ⟨Lc144, hQ144, l144, y144, z144⟩, st144⟩ := X143.specialBack hx (y := (⟨"java/util/ArrayList", "<init>", "()V"⟩ : MethodName)) rfl hown (mvT hZ (own_w hw 39)) (mvT hZ (own_w hw 40)) (mvT hZ (own_w hw 41)) (by decide) (backOf (W := 1) (rmAI l Z a0 hw [] b143 wBOOLEAN wINTEGER wBITS wOCTETS wNULL wOBJECT_IDENTIFIER wTEXT wCOMPONENTS wELEMENTS wCHOICE wELEMENT cs wD kD wC clC h143 n0 (own_le O143) O143 HW A143 g_b143 F_modCount_b143 F_elementData_b143 F_size_b143) hZ (own_w hw 41) (own_w hw 38) (by decide) (by decide)) (g := (mkF m 356 #[.val (.int p0), .val (.int p1), .val (.int p2), .val (.ref b21), .val (.int (8 : Int32)), .val (.ref wELEMENTS), .val (.int (1 : Int32)), .val (.int (3 : Int32)), .unset, .unset, .unset, .unset, .unset, .unset, .unset] [(.ref b143), (.ref b143)])) rfl (by rw [hml]; rfl) (Steps.refl _) (a := b143) (argsL := []) (rest := [(.ref b143)]) (lenOf pd_13 rfl) rfl (by show 2 * 0 + _ ≤ _; exact Nat.le_of_eq rfl) (hb hby at_356) (fun _ _ => ⟨rfl, e143, (by decide : 2 + 0 ≤ _), (by decide : 14 + 0 ≤ _)⟩)
      dsimp only [Pt.U, Pt.locs, Pt.cells, Pt.slots] at X144 l144 y144 z144 st144 hQ144
      subst l144 y144 z144
      obtain ⟨rfl, N144q, Kq144, Eq144, Fq144_modCount, Fq144_elementData, Fq144_size⟩ := hQ144
      have O144 := Old.keep O143 Kq144 (allS g_b143 all0)
      have K144 := Keep.trans K143 Kq144 (allS (Or.inr sz_b143) all0)
      have Sf144_b21 := Safe.keep Kq144 (allS Sf143_b143 all0) C143.1 Sf143_b21
      have Sf144_b143 := Safe.keep Kq144 (allS Sf143_b143 all0) C143.1 Sf143_b143
      have C144 := CHr.trans C143 (CHr.keep Kq144 (allS Sf143_b143 all0) C143.1)
      have N144 := Fr.app N126 N144q
      refine own_by (W' := (T144.setTop (mkF m 369 #[.val (.int p0), .val (.int p1), .val (.int p2), .val (.ref b21), .val (.int (8 : Int32)), .val (.ref wELEMENTS), .val (.int (1 : Int32)), .val (.int (3 : Int32)), .unset, .unset, .unset, .val (.ref b143), .unset, .unset, .unset] [(.ref b143)]))) (fun t k => Steps.trans st144 (XS.astore X144.here hx rfl (hb hby at_359) rfl rfl (l' := #[.val (.int p0), .val (.int p1), .val (.int p2), .val (.ref b21), .val (.int (8 : Int32)), .val (.ref wELEMENTS), .val (.int (1 : Int32)), .val (.int (3 : Int32)), .unset, .unset, .unset, .val (.ref b143), .unset, .unset, .unset]) rfl (XS.iload X144.here hx rfl (hb hby at_361) rfl (XS.iconst X144.here hx rfl (hb hby at_363) (XS.icmpNo X144.here hx rfl (hb hby at_364) rfl (flt (by decide : ¬ ((3 : Int32) < (1 : Int32)))).1 (XS.aload X144.here hx rfl (hb hby at_367) rfl rfl k)))))) ?_
      obtain ⟨_, _, ⟨T145, L145, k145, n145⟩, -, X145, ⟨Lc145, hQ145, l145, y145, z145⟩, st145⟩ := Jvm.LawKit.callS X144 hx (y := (⟨"java/lang/Integer", "valueOf", "(I)Ljava/lang/Integer;"⟩ : MethodName)) hown (mvT hZ (own_w hw 88)) (mvT hZ (own_w hw 89)) (mvT hZ (own_w hw 90)) (mvT hZ (own_w hw 91)) (by decide) (backOf (W := 1) (rmV l Z a0 hw [] p1 wBOOLEAN wINTEGER wBITS wOCTETS wNULL wOBJECT_IDENTIFIER wTEXT wCOMPONENTS wELEMENTS wCHOICE wELEMENT cs wD kD wC clC T144.heap n0 (own_le O144) O144 HW) hZ (own_w hw 91) (own_w hw 90) (by decide) (by decide)) (g := (mkF m 370 #[.val (.int p0), .val (.int p1), .val (.int p2), .val (.ref b21), .val (.int (8 : Int32)), .val (.ref wELEMENTS), .val (.int (1 : Int32)), .val (.int (3 : Int32)), .unset, .unset, .unset, .val (.ref b143), .unset, .unset, .unset] [(.int p1), (.ref b143)])) rfl (by rw [hml]; rfl) (argsL := [(.int p1)]) (rest := [(.ref b143)]) (lenOf pd_26 rfl) rfl (by show 2 * 0 + _ ≤ _; exact Nat.le_of_eq rfl) (hb hby at_370) (fun _ _ => ⟨rfl, rfl, (by decide : 2 + 1 ≤ _), (by decide : 14 + 1 ≤ _)⟩)
      dsimp only [Pt.U, Pt.locs, Pt.cells, Pt.slots] at X145 l145 y145 z145 st145 hQ145
      subst l145 y145 z145
      obtain ⟨fb145, rfl, N145q, Kq145, Eq145⟩ := hQ145
      have O145 := Old.keep O144 Kq145 all0
      have K145 := Keep.trans K144 Kq145 all0
      have Sf145_b21 := Safe.keep Kq145 all0 C144.1 Sf144_b21
      have Sf145_b143 := Safe.keep Kq145 all0 C144.1 Sf144_b143
      have C145 := CHr.trans C144 (CHr.keep Kq145 all0 C144.1)
      have N145 := Fr.app N144 N145q
      obtain ⟨cq146, kq146, q146a, q146b, q146c⟩ := isOf hZ rfl (Eq144.keep Kq145)
      obtain ⟨_, _, ⟨T146, L146, k146, n146⟩, -, X146, ⟨Lc146, hQ146, l146, y146, z146⟩, st146⟩ := X145.virtualBack hx (y := (⟨"java/util/ArrayList", "add", "(Ljava/lang/Object;)Z"⟩ : MethodName)) (z := (⟨"java/util/ArrayList", "add", "(Ljava/lang/Object;)Z"⟩ : MethodName)) hown (mvT hZ (own_w hw 107)) (mvT hZ (own_w hw 108)) (notFace_of_selects (args := #[]) (mvT hZ (own_w hw 110))) (mvT hZ (own_w hw 110)) (mvT hZ (own_w hw 109)) (by decide) (backOf (W := 0) (rmA10 l Z a0 hw [] b143 fb145 (0 : Int32) wBOOLEAN wINTEGER wBITS wOCTETS wNULL wOBJECT_IDENTIFIER wTEXT wCOMPONENTS wELEMENTS wCHOICE wELEMENT cs wD kD wC clC T145.heap n0 (own_le O145) O145 HW (Eq144.keep Kq145) g_b143 (Fq144_modCount.keep Kq145 nin0) (Fq144_elementData.keep Kq145 nin0) (Fq144_size.keep Kq145 nin0) Eq145) hZ (own_w hw 111) (own_w hw 38) (by decide) (by decide)) q146a q146c (g := (mkF m 373 #[.val (.int p0), .val (.int p1), .val (.int p2), .val (.ref b21), .val (.int (8 : Int32)), .val (.ref wELEMENTS), .val (.int (1 : Int32)), .val (.int (3 : Int32)), .unset, .unset, .unset, .val (.ref b143), .unset, .unset, .unset] [(.ref fb145), (.ref b143)])) rfl (by rw [hml]; rfl) (Steps.refl _) (argsL := [(.ref fb145)]) (rest := []) (lenOf pd_27 rfl) rfl (by show 2 * 0 + _ ≤ _; exact Nat.le_of_eq rfl) (hb hby at_373) (fun _ _ => ⟨rfl, rfl, (by decide : 3 + 1 ≤ _), (by decide : 15 + 10 ≤ _)⟩)
      dsimp only [Pt.U, Pt.locs, Pt.cells, Pt.slots] at X146 l146 y146 z146 st146 hQ146
      subst l146 y146 z146
      obtain ⟨fb146, kb146, rfl, N146q, Kq146, hsz146, Ov146, Vq146, Eq146, Fq146_modCount, Fq146_elementData, Fq146_size⟩ := hQ146
      have ne_b21_fb146 : b21 ≠ fb146 := Nat.ne_of_lt (Nat.lt_of_lt_of_le (((Vu53.ext E143).keep Kq144 (ninS ne_b21_b143 nin0)).keep Kq145 nin0).lt hsz146)
      have ne_b143_fb146 : b143 ≠ fb146 := Nat.ne_of_lt (Nat.lt_of_lt_of_le (Eq144.keep Kq145).lt hsz146)
      have ne_fb145_fb146 : fb145 ≠ fb146 := Nat.ne_of_lt (Nat.lt_of_lt_of_le Eq145.lt hsz146)
      have g_fb146 : n0 ≤ fb146 := Nat.le_trans (own_le O145) hsz146
      have sz_fb146 : h0.size ≤ fb146 := Nat.le_trans K145.1 hsz146
      have O146 := Old.keep O145 Kq146 (allS g_b143 all0)
      have K146 := Keep.trans K145 Kq146 (allS (Or.inr sz_b143) all0)
      have Sf146_b21 := Safe.keep Kq146 (allS Sf145_b143 all0) C145.1 Sf145_b21
      have Sf146_b143 := Safe.keep Kq146 (allS Sf145_b143 all0) C145.1 Sf145_b143
      have Sf146_fb146 := Safe.keep Kq146 (allS Sf145_b143 all0) C145.1 (Safe.new hsz146)
      have C146 := CHr.trans C145 (CHr.keep Kq146 (allS Sf145_b143 all0) C145.1)
      have N146 := Fr.app N145 N146q
      refine own_by (W' := (T146.setTop (mkF m 380 #[.val (.int p0), .val (.int p1), .val (.int p2), .val (.ref b21), .val (.int (8 : Int32)), .val (.ref wELEMENTS), .val (.int (1 : Int32)), .val (.int (3 : Int32)), .unset, .unset, .unset, .val (.ref b143), .unset, .unset, .unset] [(.int (2 : Int32)), (.int (3 : Int32))]))) (fun t k => XS.iloadN X144.here hx rfl (hb hby at_369) rfl (st145 _ (Steps.trans st146 (XS.pop X146.here hx rfl (hb hby at_376) rfl rfl (XS.iload X146.here hx rfl (hb hby at_377) rfl (XS.iconst X146.here hx rfl (hb hby at_379) k)))))) ?_
      obtain ⟨_, _, ⟨T147, L147, k147, n147⟩, -, X147, ⟨Lc147, hQ147, l147, y147, z147⟩, st147⟩ := Jvm.LawKit.callS X146 hx (y := (⟨"java/lang/Integer", "valueOf", "(I)Ljava/lang/Integer;"⟩ : MethodName)) hown (mvT hZ (own_w hw 88)) (mvT hZ (own_w hw 89)) (mvT hZ (own_w hw 90)) (mvT hZ (own_w hw 91)) (by decide) (backOf (W := 1) (rmV l Z a0 hw [] p2 wBOOLEAN wINTEGER wBITS wOCTETS wNULL wOBJECT_IDENTIFIER wTEXT wCOMPONENTS wELEMENTS wCHOICE wELEMENT cs wD kD wC clC T146.heap n0 (own_le O146) O146 HW) hZ (own_w hw 91) (own_w hw 90) (by decide) (by decide)) (g := (mkF m 386 #[.val (.int p0), .val (.int p1), .val (.int p2), .val (.ref b21), .val (.int (8 : Int32)), .val (.ref wELEMENTS), .val (.int (1 : Int32)), .val (.int (3 : Int32)), .unset, .unset, .unset, .val (.ref b143), .unset, .unset, .unset] [(.int p2), (.ref b143)])) rfl (by rw [hml]; rfl) (argsL := [(.int p2)]) (rest := [(.ref b143)]) (lenOf pd_26 rfl) rfl (by show 2 * 0 + _ ≤ _; exact Nat.le_of_eq rfl) (hb hby at_386) (fun _ _ => ⟨rfl, rfl, (by decide : 4 + 1 ≤ _), (by decide : 25 + 1 ≤ _)⟩)
      dsimp only [Pt.U, Pt.locs, Pt.cells, Pt.slots] at X147 l147 y147 z147 st147 hQ147
      subst l147 y147 z147
      obtain ⟨fb147, rfl, N147q, Kq147, Eq147⟩ := hQ147
      have O147 := Old.keep O146 Kq147 all0
      have K147 := Keep.trans K146 Kq147 all0
      have Sf147_b21 := Safe.keep Kq147 all0 C146.1 Sf146_b21
      have Sf147_b143 := Safe.keep Kq147 all0 C146.1 Sf146_b143
      have Sf147_fb146 := Safe.keep Kq147 all0 C146.1 Sf146_fb146
      have C147 := CHr.trans C146 (CHr.keep Kq147 all0 C146.1)
      have N147 := Fr.app N146 N147q
      obtain ⟨cq148, kq148, q148a, q148b, q148c⟩ := isOf hZ rfl (Eq146.keep Kq147)
      obtain ⟨_, _, ⟨T148, L148, k148, n148⟩, -, X148, ⟨Lc148, hQ148, l148, y148, z148⟩, st148⟩ := X147.virtualBack hx (y := (⟨"java/util/ArrayList", "add", "(Ljava/lang/Object;)Z"⟩ : MethodName)) (z := (⟨"java/util/ArrayList", "add", "(Ljava/lang/Object;)Z"⟩ : MethodName)) hown (mvT hZ (own_w hw 107)) (mvT hZ (own_w hw 108)) (notFace_of_selects (args := #[]) (mvT hZ (own_w hw 110))) (mvT hZ (own_w hw 110)) (mvT hZ (own_w hw 109)) (by decide) (backOf (W := 0) (rmA11 l Z a0 hw [] b143 fb147 ((0 : Int32) + (1 : Int32)) fb146 kb146 fb145 wBOOLEAN wINTEGER wBITS wOCTETS wNULL wOBJECT_IDENTIFIER wTEXT wCOMPONENTS wELEMENTS wCHOICE wELEMENT cs wD kD wC clC T147.heap n0 (own_le O147) O147 HW (Eq146.keep Kq147) g_b143 (Fq146_modCount.keep Kq147 nin0) (Fq146_elementData.keep Kq147 nin0) (Fq146_size.keep Kq147 nin0) Eq147 (Vq146.keep Kq147 nin0) Ov146 g_fb146 ne_b143_fb146.symm) hZ (own_w hw 111) (own_w hw 38) (by decide) (by decide)) q148a q148c (g := (mkF m 389 #[.val (.int p0), .val (.int p1), .val (.int p2), .val (.ref b21), .val (.int (8 : Int32)), .val (.ref wELEMENTS), .val (.int (1 : Int32)), .val (.int (3 : Int32)), .unset, .unset, .unset, .val (.ref b143), .unset, .unset, .unset] [(.ref fb147), (.ref b143)])) rfl (by rw [hml]; rfl) (Steps.refl _) (argsL := [(.ref fb147)]) (rest := []) (lenOf pd_27 rfl) rfl (by show 2 * 0 + _ ≤ _; exact Nat.le_of_eq rfl) (hb hby at_389) (fun _ _ => ⟨rfl, rfl, (by decide : 5 + 0 ≤ _), (by decide : 26 + 0 ≤ _)⟩)
      dsimp only [Pt.U, Pt.locs, Pt.cells, Pt.slots] at X148 l148 y148 z148 st148 hQ148
      subst l148 y148 z148
      obtain ⟨rfl, N148q, Kq148, Vq148, Eq148, Fq148_modCount, Fq148_elementData, Fq148_size⟩ := hQ148
      have O148 := Old.keep O147 Kq148 (allS g_b143 (allS g_fb146 all0))
      have K148 := Keep.trans K147 Kq148 (allS (Or.inr sz_b143) (allS (Or.inr sz_fb146) all0))
      have Sf148_b21 := Safe.keep Kq148 (allS Sf147_b143 (allS Sf147_fb146 all0)) C147.1 Sf147_b21
      have Sf148_b143 := Safe.keep Kq148 (allS Sf147_b143 (allS Sf147_fb146 all0)) C147.1 Sf147_b143
      have Sf148_fb146 := Safe.keep Kq148 (allS Sf147_b143 (allS Sf147_fb146 all0)) C147.1 Sf147_fb146
      have C148 := CHr.trans C147 (CHr.keep Kq148 (allS Sf147_b143 (allS Sf147_fb146 all0)) C147.1)
      have N148 := Fr.app N147 N148q
      refine own_by (W' := (T148.setTop (mkF m 393 #[.val (.int p0), .val (.int p1), .val (.int p2), .val (.ref b21), .val (.int (8 : Int32)), .val (.ref wELEMENTS), .val (.int (1 : Int32)), .val (.int (3 : Int32)), .unset, .unset, .unset, .val (.ref b143), .unset, .unset, .unset] []))) (fun t k => XS.icmpNo X146.here hx rfl (hb hby at_380) rfl (flt (by decide : ¬ ((3 : Int32) < (2 : Int32)))).1 (XS.aload X146.here hx rfl (hb hby at_383) rfl rfl (XS.iloadN X146.here hx rfl (hb hby at_385) rfl (st147 _ (Steps.trans st148 (XS.pop X148.here hx rfl (hb hby at_392) rfl rfl k)))))) ?_
      obtain ⟨_, _, ⟨T149, L149, k149, n149⟩, -, X149, ⟨Lc149, hQ149, l149, y149, z149⟩, st149⟩ := Jvm.LawKit.callS X148 hx (y := (⟨"java/lang/Integer", "valueOf", "(I)Ljava/lang/Integer;"⟩ : MethodName)) hown (mvT hZ (own_w hw 88)) (mvT hZ (own_w hw 89)) (mvT hZ (own_w hw 90)) (mvT hZ (own_w hw 91)) (by decide) (backOf (W := 1) (rmV l Z a0 hw [] p0 wBOOLEAN wINTEGER wBITS wOCTETS wNULL wOBJECT_IDENTIFIER wTEXT wCOMPONENTS wELEMENTS wCHOICE wELEMENT cs wD kD wC clC T148.heap n0 (own_le O148) O148 HW) hZ (own_w hw 91) (own_w hw 90) (by decide) (by decide)) (g := (mkF m 402 #[.val (.int p0), .val (.int p1), .val (.int p2), .val (.ref b21), .val (.int (8 : Int32)), .val (.ref wELEMENTS), .val (.int (1 : Int32)), .val (.int (3 : Int32)), .unset, .unset, .unset, .val (.ref b143), .unset, .unset, .unset] [(.int p0), (.ref b143)])) rfl (by rw [hml]; rfl) (argsL := [(.int p0)]) (rest := [(.ref b143)]) (lenOf pd_26 rfl) rfl (by show 2 * 0 + _ ≤ _; exact Nat.le_of_eq rfl) (hb hby at_402) (fun _ _ => ⟨rfl, rfl, (by decide : 5 + 1 ≤ _), (by decide : 26 + 1 ≤ _)⟩)
      dsimp only [Pt.U, Pt.locs, Pt.cells, Pt.slots] at X149 l149 y149 z149 st149 hQ149
      subst l149 y149 z149
      obtain ⟨fb149, rfl, N149q, Kq149, Eq149⟩ := hQ149
      have O149 := Old.keep O148 Kq149 all0
      have K149 := Keep.trans K148 Kq149 all0
      have Sf149_b21 := Safe.keep Kq149 all0 C148.1 Sf148_b21
      have Sf149_b143 := Safe.keep Kq149 all0 C148.1 Sf148_b143
      have Sf149_fb146 := Safe.keep Kq149 all0 C148.1 Sf148_fb146
      have C149 := CHr.trans C148 (CHr.keep Kq149 all0 C148.1)
      have N149 := Fr.app N148 N149q
      refine own_by (W' := (T149.setTop (mkF m 405 #[.val (.int p0), .val (.int p1), .val (.int p2), .val (.ref b21), .val (.int (8 : Int32)), .val (.ref wELEMENTS), .val (.int (1 : Int32)), .val (.int (3 : Int32)), .unset, .unset, .unset, .val (.ref b143), .unset, .unset, .unset] [(.ref fb149), (.ref b143)]))) (fun t k => XS.iload X148.here hx rfl (hb hby at_393) rfl (XS.iconst X148.here hx rfl (hb hby at_395) (XS.icmpNo X148.here hx rfl (hb hby at_396) rfl (flt (by decide : ¬ ((3 : Int32) < (3 : Int32)))).1 (XS.aload X148.here hx rfl (hb hby at_399) rfl rfl (XS.iloadN X148.here hx rfl (hb hby at_401) rfl (st149 _ k)))))) ?_
      obtain ⟨cq150, kq150, q150a, q150b, q150c⟩ := isOf hZ rfl (Eq148.keep Kq149)
      obtain ⟨_, _, ⟨T150, L150, k150, n150⟩, -, X150, ⟨Lc150, hQ150, l150, y150, z150⟩, st150⟩ := X149.virtualBack hx (y := (⟨"java/util/ArrayList", "add", "(Ljava/lang/Object;)Z"⟩ : MethodName)) (z := (⟨"java/util/ArrayList", "add", "(Ljava/lang/Object;)Z"⟩ : MethodName)) hown (mvT hZ (own_w hw 107)) (mvT hZ (own_w hw 108)) (notFace_of_selects (args := #[]) (mvT hZ (own_w hw 110))) (mvT hZ (own_w hw 110)) (mvT hZ (own_w hw 109)) (by decide) (backOf (W := 0) (rmA12 l Z a0 hw [] b143 fb149 (((0 : Int32) + (1 : Int32)) + (1 : Int32)) fb146 kb146 fb145 fb147 wBOOLEAN wINTEGER wBITS wOCTETS wNULL wOBJECT_IDENTIFIER wTEXT wCOMPONENTS wELEMENTS wCHOICE wELEMENT cs wD kD wC clC T149.heap n0 (own_le O149) O149 HW (Eq148.keep Kq149) g_b143 (Fq148_modCount.keep Kq149 nin0) (Fq148_elementData.keep Kq149 nin0) (Fq148_size.keep Kq149 nin0) Eq149 (Vq148.keep Kq149 nin0) Ov146 g_fb146 ne_b143_fb146.symm) hZ (own_w hw 111) (own_w hw 38) (by decide) (by decide)) q150a q150c (g := (mkF m 405 #[.val (.int p0), .val (.int p1), .val (.int p2), .val (.ref b21), .val (.int (8 : Int32)), .val (.ref wELEMENTS), .val (.int (1 : Int32)), .val (.int (3 : Int32)), .unset, .unset, .unset, .val (.ref b143), .unset, .unset, .unset] [(.ref fb149), (.ref b143)])) rfl (by rw [hml]; rfl) (Steps.refl _) (argsL := [(.ref fb149)]) (rest := []) (lenOf pd_27 rfl) rfl (by show 2 * 0 + _ ≤ _; exact Nat.le_of_eq rfl) (hb hby at_405) (fun _ _ => ⟨rfl, rfl, (by decide : 6 + 0 ≤ _), (by decide : 27 + 0 ≤ _)⟩)
      dsimp only [Pt.U, Pt.locs, Pt.cells, Pt.slots] at X150 l150 y150 z150 st150 hQ150
      subst l150 y150 z150
      obtain ⟨rfl, N150q, Kq150, Vq150, Eq150, Fq150_modCount, Fq150_elementData, Fq150_size⟩ := hQ150
      have O150 := Old.keep O149 Kq150 (allS g_b143 (allS g_fb146 all0))
      have K150 := Keep.trans K149 Kq150 (allS (Or.inr sz_b143) (allS (Or.inr sz_fb146) all0))
      have Sf150_b21 := Safe.keep Kq150 (allS Sf149_b143 (allS Sf149_fb146 all0)) C149.1 Sf149_b21
      have Sf150_b143 := Safe.keep Kq150 (allS Sf149_b143 (allS Sf149_fb146 all0)) C149.1 Sf149_b143
      have Sf150_fb146 := Safe.keep Kq150 (allS Sf149_b143 (allS Sf149_fb146 all0)) C149.1 Sf149_fb146
      have C150 := CHr.trans C149 (CHr.keep Kq150 (allS Sf149_b143 (allS Sf149_fb146 all0)) C149.1)
      have N150 := Fr.app N149 N150q
      refine own_by (W' := (T150.setTop (mkF m 416 #[.val (.int p0), .val (.int p1), .val (.int p2), .val (.ref b21), .val (.int (8 : Int32)), .val (.ref wELEMENTS), .val (.int (1 : Int32)), .val (.int (3 : Int32)), .val (.ref b143), .unset, .unset, .val (.ref b143), .unset, .unset, .unset] [(.long ((3 : Int32).toInt64))]))) (fun t k => Steps.trans st150 (XS.pop X150.here hx rfl (hb hby at_408) rfl rfl (XS.aload X150.here hx rfl (hb hby at_409) rfl rfl (XS.astore X150.here hx rfl (hb hby at_411) rfl rfl (l' := #[.val (.int p0), .val (.int p1), .val (.int p2), .val (.ref b21), .val (.int (8 : Int32)), .val (.ref wELEMENTS), .val (.int (1 : Int32)), .val (.int (3 : Int32)), .val (.ref b143), .unset, .unset, .val (.ref b143), .unset, .unset, .unset]) rfl (XS.iload X150.here hx rfl (hb hby at_413) rfl (XS.i2l X150.here hx rfl (hb hby at_415) rfl k)))))) ?_
      obtain ⟨cq151, kq151, q151a, q151b, q151c⟩ := isOf hZ rfl (HW.2.2.2.2.2.2.2.2.2.2.2.2.2.2.2.2.2.2.2.2.2.2.2.2.2.1.ext O150.2)
      obtain ⟨_, _, ⟨T151, L151, k151, n151⟩, -, X151, ⟨Lc151, hQ151, l151, y151, z151⟩, st151⟩ := X150.virtualBack hx (y := (⟨"com/example/tagwright/tagwright/typed/Form", "sizeOf", "(Ljava/lang/Object;)J"⟩ : MethodName)) (z := (⟨"com/example/tagwright/tagwright/typed/Form", "sizeOf", "(Ljava/lang/Object;)J"⟩ : MethodName)) hown (mvT hZ (own_w hw 62)) (mvT hZ (own_w hw 63)) (notFace_of_selects (args := #[]) (mvT hZ (own_w hw 65))) (mvT hZ (own_w hw 65)) (mvT hZ (own_w hw 64)) (by decide) (backOf (W := 0) (rmZELEMENTS l Z a0 hw [] b143 (3 : Int32) wBOOLEAN wINTEGER wBITS wOCTETS wNULL wOBJECT_IDENTIFIER wTEXT wCOMPONENTS wELEMENTS wCHOICE wELEMENT cs wD kD wC clC T150.heap n0 (own_le O150) O150 HW Eq150 Fq150_size) hZ (own_w hw 66) (own_w hw 3) (by decide) (by decide)) q151a q151c (g := (mkF m 422 #[.val (.int p0), .val (.int p1), .val (.int p2), .val (.ref b21), .val (.int (8 : Int32)), .val (.ref wELEMENTS), .val (.int (1 : Int32)), .val (.int (3 : Int32)), .val (.ref b143), .val (.long ((3 : Int32).toInt64)), .second, .val (.ref b143), .unset, .unset, .unset] [(.ref b143), (.ref wELEMENTS)])) rfl (by rw [hml]; rfl) (Steps.refl _) (argsL := [(.ref b143)]) (rest := []) (lenOf pd_23 rfl) rfl (by show 2 * 0 + _ ≤ _; exact Nat.le_of_eq rfl) (hb hby at_422) (fun _ _ => ⟨rfl, rfl, (by decide : 6 + 0 ≤ _), (by decide : 27 + 0 ≤ _)⟩)
      dsimp only [Pt.U, Pt.locs, Pt.cells, Pt.slots] at X151 l151 y151 z151 st151 hQ151
      subst l151 y151 z151
      obtain ⟨rfl, N151q, e151⟩ := hQ151
      have N151 := Fr.app N150 N151q
      refine own_by (W' := (T151.setTop (mkF m 428 #[.val (.int p0), .val (.int p1), .val (.int p2), .val (.ref b21), .val (.int (8 : Int32)), .val (.ref wELEMENTS), .val (.int (1 : Int32)), .val (.int (3 : Int32)), .val (.ref b143), .val (.long ((3 : Int32).toInt64)), .second, .val (.ref b143), .unset, .unset, .unset] [(.int (lcmpW ((3 : Int32).toInt64) ((3 : Int32).toInt64)))]))) (fun t k => XS.lstore X150.here hx rfl (hb hby at_416) rfl (l' := #[.val (.int p0), .val (.int p1), .val (.int p2), .val (.ref b21), .val (.int (8 : Int32)), .val (.ref wELEMENTS), .val (.int (1 : Int32)), .val (.int (3 : Int32)), .val (.ref b143), .val (.long ((3 : Int32).toInt64)), .second, .val (.ref b143), .unset, .unset, .unset]) rfl (XS.aload X150.here hx rfl (hb hby at_418) rfl rfl (XS.aload X150.here hx rfl (hb hby at_420) rfl rfl (Steps.trans st151 (XS.lload X151.here hx rfl (hb hby at_425) rfl (XS.lcmp X151.here hx rfl (hb hby at_427) rfl k)))))) ?_
      obtain ⟨fs, hr, hrun, hended, hEnd⟩ := Jvm.Stand.leaveW (s := s) (vm₁ := s.vm) X151 hS0 (by rw [e151]; exact (Nat.le_trans (Nat.le_trans (Nat.le_trans (Nat.le_trans (Nat.le_trans (Nat.le_trans (Nat.le_trans (Nat.le_trans (Nat.le_trans (Nat.le_trans (Nat.le_trans (Nat.le_trans (Nat.le_trans (Nat.le_trans (Nat.le_trans (Nat.le_trans (Nat.le_trans (Nat.le_trans (Nat.le_trans (Nat.le_trans (Nat.le_refl _) E21.1) (Keep.of_wr W24).1) (Keep.of_wr W27).1) (Keep.of_wr W30).1) (Keep.of_wr W33).1) (Keep.of_wr W36).1) (Keep.of_wr W39).1) (Keep.of_wr W42).1) (Keep.of_wr W45).1) (Keep.of_wr W48).1) (Keep.of_wr W51).1) (Keep.of_wr W54).1) E143.1) Kq144.1) Kq145.1) Kq146.1) Kq147.1) Kq148.1) Kq149.1) Kq150.1)) (v := some (.int (1 : Int32))) (fun h => by rw [Bd.returns] at h; cases h)
      refine own_by (W' := (T151.setTop (mkF m 436 #[.val (.int p0), .val (.int p1), .val (.int p2), .val (.ref b21), .val (.int (8 : Int32)), .val (.ref wELEMENTS), .val (.int (1 : Int32)), .val (.int (3 : Int32)), .val (.ref b143), .val (.long ((3 : Int32).toInt64)), .second, .val (.ref b143), .unset, .unset, .unset] [(.int (1 : Int32))]))) (fun t k => XS.ifNo X151.here hx rfl (hb hby at_428) rfl (own_lceq (rfl : ((3 : Int32).toInt64) = ((3 : Int32).toInt64))).2 (XS.iconst X151.here hx rfl (hb hby at_431) (XS.goto X151.here hx rfl (pc0 := 432) (pc' := 436) rfl (hb hby at_432) (by decide) (by decide) k))) ?_
      refine ⟨_, _, retOut X151 hx Bd.returns rfl (Or.inl ⟨rfl, Or.inr (Or.inl rfl), _, rfl⟩) (hb hby at_436) hr, hrun, hended, _, _, rfl, ?_, (by rw [hh]; show CHr Z consts_1 s.vm h0 T151.vm T151.heap; rw [e151]; exact CHr.trans C150 (CHv.at (s := s) (vm0 := s.vm) X151 hZ (own_EW hw) C150.1)), hEnd.1, hEnd.2.1, hEnd.2.2.1, hEnd.2.2.2.mono (by decide) (by decide)⟩
      exact ⟨rfl, N151⟩
  ·
    rw [hs]
    obtain ⟨clu152, Aru152, qu152, Su152, Ngu152, Hau152, Gau152⟩ := id Vu53
    have hinu152 : ¬ ((9 : Int32) < 0 ∨ clu152.slots.size ≤ ((9 : Int32)).toNatClampNeg) := inb_of Su152 ⟨by decide, by decide⟩
    have hatu152 : clu152.slots[((9 : Int32)).toNatClampNeg]? = some (.ref wCHOICE) := Has.at Hau152 hinu152 rfl
    refine own_by (W' := (T54.setTop (mkF m 94 #[.val (.int p0), .val (.int p1), .val (.int p2), .val (.ref b21), .val (.int (9 : Int32)), .val (.ref wCHOICE), .unset, .unset, .unset, .unset, .unset, .unset, .unset, .unset, .unset] [(.int (9 : Int32))]))) (fun t k => XS.istore X54.here hx rfl (hb hby at_84) rfl (l' := #[.val (.int p0), .val (.int p1), .val (.int p2), .val (.ref b21), .val (.int (9 : Int32)), .unset, .unset, .unset, .unset, .unset, .unset, .unset, .unset, .unset, .unset]) rfl (XS.aloadN X54.here hx rfl (hb hby at_86) rfl rfl (XS.iload X54.here hx rfl (hb hby at_87) rfl ((X54.aaload hx (j := (9 : Int32)) (v := (.ref wCHOICE)) (by rw [e54]; exact Aru152.1) (State.isArrayOf_alike hZ.alike Aru152.2.1) rfl Aru152.2.2 hinu152 hatu152 (g := (mkF m 89 #[.val (.int p0), .val (.int p1), .val (.int p2), .val (.ref b21), .val (.int (9 : Int32)), .unset, .unset, .unset, .unset, .unset, .unset, .unset, .unset, .unset, .unset] [(.int (9 : Int32)), (.ref b21)])) rfl rfl (hb hby at_89)) _ (XS.astore X54.here hx rfl (hb hby at_90) rfl rfl (l' := #[.val (.int p0), .val (.int p1), .val (.int p2), .val (.ref b21), .val (.int (9 : Int32)), .val (.ref wCHOICE), .unset, .unset, .unset, .unset, .unset, .unset, .unset, .unset, .unset]) rfl (XS.iload X54.here hx rfl (hb hby at_92) rfl k)))))) ?_
    refine own_by (W' := (T54.setTop (mkF m 106 #[.val (.int p0), .val (.int p1), .val (.int p2), .val (.ref b21), .val (.int (9 : Int32)), .val (.ref wCHOICE), .unset, .unset, .unset, .unset, .unset, .unset, .unset, .unset, .unset] [(.int (9 : Int32))]))) (fun t k => XS.iconst X54.here hx rfl (hb hby at_94) (XS.icmpNo X54.here hx rfl (hb hby at_95) rfl (feq (by decide : ¬ ((9 : Int32) = (2 : Int32)))).1 (XS.iload X54.here hx rfl (hb hby at_98) rfl (XS.iconst X54.here hx rfl (hb hby at_100) (XS.icmpNo X54.here hx rfl (hb hby at_101) rfl (feq (by decide : ¬ ((9 : Int32) = (3 : Int32)))).1 (XS.iload X54.here hx rfl (hb hby at_104) rfl k)))))) ?_
    refine own_by (W' := (T54.setTop (mkF m 123 #[.val (.int p0), .val (.int p1), .val (.int p2), .val (.ref b21), .val (.int (9 : Int32)), .val (.ref wCHOICE), .unset, .unset, .unset, .unset, .unset, .unset, .unset, .unset, .unset] [(.int (0 : Int32))]))) (fun t k => XS.bipush X54.here hx rfl (hb hby at_106) (XS.icmpNo X54.here hx rfl (hb hby at_108) rfl (feq (by decide : ¬ ((9 : Int32) = (6 : Int32)))).1 (XS.iload X54.here hx rfl (hb hby at_111) rfl (XS.bipush X54.here hx rfl (hb hby at_113) (XS.icmpYes X54.here hx rfl (pc0 := 115) (pc' := 122) rfl (hb hby at_115) rfl (feq (by decide : ¬ ((9 : Int32) = (8 : Int32)))).2 (by decide) (by decide) (XS.iconst X54.here hx rfl (hb hby at_122) k)))))) ?_
    obtain ⟨cq153, kq153, q153a, q153b, q153c⟩ := isOf hZ e54 (HW.2.2.2.2.2.2.2.2.2.2.2.2.2.2.2.2.2.2.2.2.2.2.2.2.2.2.2.2.1.ext O54.2)
    obtain ⟨_, _, ⟨T153, L153, k153, n153⟩, -, X153, ⟨Lc153, hQ153, l153, y153, z153⟩, st153⟩ := X54.virtualBack hx (y := (⟨"com/example/tagwright/tagwright/typed/Form", "isSized", "()Z"⟩ : MethodName)) (z := (⟨"com/example/tagwright/tagwright/typed/Form", "isSized", "()Z"⟩ : MethodName)) hown (mvT hZ (own_w hw 27)) (mvT hZ (own_w hw 28)) (notFace_of_selects (args := #[]) (mvT hZ (own_w hw 30))) (mvT hZ (own_w hw 30)) (mvT hZ (own_w hw 29)) (by decide) (backOf (W := 0) (rm1 l Z a0 hw [] wCHOICE wBOOLEAN wINTEGER wBITS wOCTETS wNULL wOBJECT_IDENTIFIER wTEXT wCOMPONENTS wELEMENTS wCHOICE wELEMENT cs wD kD wC clC h54 n0 (own_le O54) O54 HW) hZ (own_w hw 31) (own_w hw 3) (by decide) (by decide)) q153a q153c (g := (mkF m 127 #[.val (.int p0), .val (.int p1), .val (.int p2), .val (.ref b21), .val (.int (9 : Int32)), .val (.ref wCHOICE), .val (.int (0 : Int32)), .unset, .unset, .unset, .unset, .unset, .unset, .unset, .unset] [(.ref wCHOICE)])) rfl (by rw [hml]; rfl) (Steps.refl _) (argsL := []) (rest := []) (lenOf pd_7 rfl) rfl (by show 2 * 0 + _ ≤ _; exact Nat.le_of_eq rfl) (hb hby at_127) (fun _ _ => ⟨rfl, e54, (by decide : 1 + 0 ≤ _), (by decide : 11 + 0 ≤ _)⟩)
    dsimp only [Pt.U, Pt.locs, Pt.cells, Pt.slots] at X153 l153 y153 z153 st153 hQ153
    subst l153 y153 z153
    obtain ⟨rfl, N153q, e153⟩ := hQ153
    have N153 := Fr.app N54 N153q
    have ho154 : (F1 wCHOICE wBOOLEAN wINTEGER wBITS wOCTETS wNULL wOBJECT_IDENTIFIER wTEXT wCOMPONENTS wELEMENTS wCHOICE wELEMENT cs wD kD wC clC) = (0 : Int32) := by rw [F1, if_neg (Fld.ne (HW.2.2.2.2.2.2.2.2.2.2.2.2.2.2.2.2.2.2.2.2.2.2.2.2.2.2.2.2.2.1) (HW.2.2.2.2.2.2.2.2.1) (by decide)), if_neg (Fld.ne (HW.2.2.2.2.2.2.2.2.2.2.2.2.2.2.2.2.2.2.2.2.2.2.2.2.2.2.2.2.2.1) (HW.2.2.2.2.2.2.2.2.2.2.2.1) (by decide)), if_neg (Fld.ne (HW.2.2.2.2.2.2.2.2.2.2.2.2.2.2.2.2.2.2.2.2.2.2.2.2.2.2.2.2.2.1) (HW.2.2.2.2.2.2.2.2.2.2.2.2.2.2.2.2.2.2.2.2.1) (by decide)), if_neg (Fld.ne (HW.2.2.2.2.2.2.2.2.2.2.2.2.2.2.2.2.2.2.2.2.2.2.2.2.2.2.2.2.2.1) (HW.2.2.2.2.2.2.2.2.2.2.2.2.2.2.2.2.2.2.2.2.2.2.2.2.2.2.1) (by decide))]
    refine own_by (W' := (T153.setTop (mkF m 139 #[.val (.int p0), .val (.int p1), .val (.int p2), .val (.ref b21), .val (.int (9 : Int32)), .val (.ref wCHOICE), .val (.int (0 : Int32)), .unset, .unset, .unset, .unset, .unset, .unset, .unset, .unset] [(.int (0 : Int32))]))) (fun t k => XS.istore X54.here hx rfl (hb hby at_123) rfl (l' := #[.val (.int p0), .val (.int p1), .val (.int p2), .val (.ref b21), .val (.int (9 : Int32)), .val (.ref wCHOICE), .val (.int (0 : Int32)), .unset, .unset, .unset, .unset, .unset, .unset, .unset, .unset]) rfl (XS.aload X54.here hx rfl (hb hby at_125) rfl rfl (Steps.trans st153 (XS.iload X153.here hx rfl (hb hby at_130) rfl (XS.icmpYes X153.here hx rfl (pc0 := 132) (pc' := 137) rfl (hb hby at_132) rfl (teq ho154).1 (by decide) (by decide) (XS.iload X153.here hx rfl (hb hby at_137) rfl k)))))) ?_
    obtain ⟨fs, hr, hrun, hended, hEnd⟩ := Jvm.Stand.leaveW (s := s) (vm₁ := s.vm) X153 hS0 (by rw [e153]; exact (Nat.le_trans (Nat.le_trans (Nat.le_trans (Nat.le_trans (Nat.le_trans (Nat.le_trans (Nat.le_trans (Nat.le_trans (Nat.le_trans (Nat.le_trans (Nat.le_trans (Nat.le_trans (Nat.le_refl _) E21.1) (Keep.of_wr W24).1) (Keep.of_wr W27).1) (Keep.of_wr W30).1) (Keep.of_wr W33).1) (Keep.of_wr W36).1) (Keep.of_wr W39).1) (Keep.of_wr W42).1) (Keep.of_wr W45).1) (Keep.of_wr W48).1) (Keep.of_wr W51).1) (Keep.of_wr W54).1)) (v := some (.int (1 : Int32))) (fun h => by rw [Bd.returns] at h; cases h)
    refine own_by (W' := (T153.setTop (mkF m 143 #[.val (.int p0), .val (.int p1), .val (.int p2), .val (.ref b21), .val (.int (9 : Int32)), .val (.ref wCHOICE), .val (.int (0 : Int32)), .unset, .unset, .unset, .unset, .unset, .unset, .unset, .unset] [(.int (1 : Int32))]))) (fun t k => XS.ifNo X153.here hx rfl (hb hby at_139) rfl ((if0 _ _).trans (teq (rfl : (0 : Int32) = (0 : Int32))).2) (XS.iconst X153.here hx rfl (hb hby at_142) k)) ?_
    refine ⟨_, _, retOut X153 hx Bd.returns rfl (Or.inl ⟨rfl, Or.inr (Or.inl rfl), _, rfl⟩) (hb hby at_143) hr, hrun, hended, _, _, rfl, ?_, (by rw [hh]; show CHr Z consts_1 s.vm h0 T153.vm T153.heap; rw [e153]; exact CHr.trans C54 (CHv.at (s := s) (vm0 := s.vm) X153 hZ (own_EW hw) C54.1)), hEnd.1, hEnd.2.1, hEnd.2.2.1, hEnd.2.2.2.mono (by decide) (by decide)⟩
    exact ⟨rfl, N153⟩
  ·
    rw [hs]
    obtain ⟨clu155, Aru155, qu155, Su155, Ngu155, Hau155, Gau155⟩ := id Vu53
    have hinu155 : ¬ ((10 : Int32) < 0 ∨ clu155.slots.size ≤ ((10 : Int32)).toNatClampNeg) := inb_of Su155 ⟨by decide, by decide⟩
    have hatu155 : clu155.slots[((10 : Int32)).toNatClampNeg]? = some (.ref wELEMENT) := Has.at Hau155 hinu155 rfl
    refine own_by (W' := (T54.setTop (mkF m 94 #[.val (.int p0), .val (.int p1), .val (.int p2), .val (.ref b21), .val (.int (10 : Int32)), .val (.ref wELEMENT), .unset, .unset, .unset, .unset, .unset, .unset, .unset, .unset, .unset] [(.int (10 : Int32))]))) (fun t k => XS.istore X54.here hx rfl (hb hby at_84) rfl (l' := #[.val (.int p0), .val (.int p1), .val (.int p2), .val (.ref b21), .val (.int (10 : Int32)), .unset, .unset, .unset, .unset, .unset, .unset, .unset, .unset, .unset, .unset]) rfl (XS.aloadN X54.here hx rfl (hb hby at_86) rfl rfl (XS.iload X54.here hx rfl (hb hby at_87) rfl ((X54.aaload hx (j := (10 : Int32)) (v := (.ref wELEMENT)) (by rw [e54]; exact Aru155.1) (State.isArrayOf_alike hZ.alike Aru155.2.1) rfl Aru155.2.2 hinu155 hatu155 (g := (mkF m 89 #[.val (.int p0), .val (.int p1), .val (.int p2), .val (.ref b21), .val (.int (10 : Int32)), .unset, .unset, .unset, .unset, .unset, .unset, .unset, .unset, .unset, .unset] [(.int (10 : Int32)), (.ref b21)])) rfl rfl (hb hby at_89)) _ (XS.astore X54.here hx rfl (hb hby at_90) rfl rfl (l' := #[.val (.int p0), .val (.int p1), .val (.int p2), .val (.ref b21), .val (.int (10 : Int32)), .val (.ref wELEMENT), .unset, .unset, .unset, .unset, .unset, .unset, .unset, .unset, .unset]) rfl (XS.iload X54.here hx rfl (hb hby at_92) rfl k)))))) ?_
    refine own_by (W' := (T54.setTop (mkF m 106 #[.val (.int p0), .val (.int p1), .val (.int p2), .val (.ref b21), .val (.int (10 : Int32)), .val (.ref wELEMENT), .unset, .unset, .unset, .unset, .unset, .unset, .unset, .unset, .unset] [(.int (10 : Int32))]))) (fun t k => XS.iconst X54.here hx rfl (hb hby at_94) (XS.icmpNo X54.here hx rfl (hb hby at_95) rfl (feq (by decide : ¬ ((10 : Int32) = (2 : Int32)))).1 (XS.iload X54.here hx rfl (hb hby at_98) rfl (XS.iconst X54.here hx rfl (hb hby at_100) (XS.icmpNo X54.here hx rfl (hb hby at_101) rfl (feq (by decide : ¬ ((10 : Int32) = (3 : Int32)))).1 (XS.iload X54.here hx rfl (hb hby at_104) rfl k)))))) ?_
    refine own_by (W' := (T54.setTop (mkF m 123 #[.val (.int p0), .val (.int p1), .val (.int p2), .val (.ref b21), .val (.int (10 : Int32)), .val (.ref wELEMENT), .unset, .unset, .unset, .unset, .unset, .unset, .unset, .unset, .unset] [(.int (0 : Int32))]))) (fun t k => XS.bipush X54.here hx rfl (hb hby at_106) (XS.icmpNo X54.here hx rfl (hb hby at_108) rfl (feq (by decide : ¬ ((10 : Int32) = (6 : Int32)))).1 (XS.iload X54.here hx rfl (hb hby at_111) rfl (XS.bipush X54.here hx rfl (hb hby at_113) (XS.icmpYes X54.here hx rfl (pc0 := 115) (pc' := 122) rfl (hb hby at_115) rfl (feq (by decide : ¬ ((10 : Int32) = (8 : Int32)))).2 (by decide) (by decide) (XS.iconst X54.here hx rfl (hb hby at_122) k)))))) ?_
    obtain ⟨cq156, kq156, q156a, q156b, q156c⟩ := isOf hZ e54 (HW.2.2.2.2.2.2.2.2.2.2.2.2.2.2.2.2.2.2.2.2.2.2.2.2.2.2.2.2.2.2.2.1.ext O54.2)
    obtain ⟨_, _, ⟨T156, L156, k156, n156⟩, -, X156, ⟨Lc156, hQ156, l156, y156, z156⟩, st156⟩ := X54.virtualBack hx (y := (⟨"com/example/tagwright/tagwright/typed/Form", "isSized", "()Z"⟩ : MethodName)) (z := (⟨"com/example/tagwright/tagwright/typed/Form", "isSized", "()Z"⟩ : MethodName)) hown (mvT hZ (own_w hw 27)) (mvT hZ (own_w hw 28)) (notFace_of_selects (args := #[]) (mvT hZ (own_w hw 30))) (mvT hZ (own_w hw 30)) (mvT hZ (own_w hw 29)) (by decide) (backOf (W := 0) (rm1 l Z a0 hw [] wELEMENT wBOOLEAN wINTEGER wBITS wOCTETS wNULL wOBJECT_IDENTIFIER wTEXT wCOMPONENTS wELEMENTS wCHOICE wELEMENT cs wD kD wC clC h54 n0 (own_le O54) O54 HW) hZ (own_w hw 31) (own_w hw 3) (by decide) (by decide)) q156a q156c (g := (mkF m 127 #[.val (.int p0), .val (.int p1), .val (.int p2), .val (.ref b21), .val (.int (10 : Int32)), .val (.ref wELEMENT), .val (.int (0 : Int32)), .unset, .unset, .unset, .unset, .unset, .unset, .unset, .unset] [(.ref wELEMENT)])) rfl (by rw [hml]; rfl) (Steps.refl _) (argsL := []) (rest := []) (lenOf pd_7 rfl) rfl (by show 2 * 0 + _ ≤ _; exact Nat.le_of_eq rfl) (hb hby at_127) (fun _ _ => ⟨rfl, e54, (by decide : 1 + 0 ≤ _), (by decide : 11 + 0 ≤ _)⟩)
    dsimp only [Pt.U, Pt.locs, Pt.cells, Pt.slots] at X156 l156 y156 z156 st156 hQ156
    subst l156 y156 z156
    obtain ⟨rfl, N156q, e156⟩ := hQ156
    have N156 := Fr.app N54 N156q
    have ho157 : (F1 wELEMENT wBOOLEAN wINTEGER wBITS wOCTETS wNULL wOBJECT_IDENTIFIER wTEXT wCOMPONENTS wELEMENTS wCHOICE wELEMENT cs wD kD wC clC) = (0 : Int32) := by rw [F1, if_neg (Fld.ne (HW.2.2.2.2.2.2.2.2.2.2.2.2.2.2.2.2.2.2.2.2.2.2.2.2.2.2.2.2.2.2.2.2.1) (HW.2.2.2.2.2.2.2.2.1) (by decide)), if_neg (Fld.ne (HW.2.2.2.2.2.2.2.2.2.2.2.2.2.2.2.2.2.2.2.2.2.2.2.2.2.2.2.2.2.2.2.2.1) (HW.2.2.2.2.2.2.2.2.2.2.2.1) (by decide)), if_neg (Fld.ne (HW.2.2.2.2.2.2.2.2.2.2.2.2.2.2.2.2.2.2.2.2.2.2.2.2.2.2.2.2.2.2.2.2.1) (HW.2.2.2.2.2.2.2.2.2.2.2.2.2.2.2.2.2.2.2.2.1) (by decide)), if_neg (Fld.ne (HW.2.2.2.2.2.2.2.2.2.2.2.2.2.2.2.2.2.2.2.2.2.2.2.2.2.2.2.2.2.2.2.2.1) (HW.2.2.2.2.2.2.2.2.2.2.2.2.2.2.2.2.2.2.2.2.2.2.2.2.2.2.1) (by decide))]
    refine own_by (W' := (T156.setTop (mkF m 139 #[.val (.int p0), .val (.int p1), .val (.int p2), .val (.ref b21), .val (.int (10 : Int32)), .val (.ref wELEMENT), .val (.int (0 : Int32)), .unset, .unset, .unset, .unset, .unset, .unset, .unset, .unset] [(.int (0 : Int32))]))) (fun t k => XS.istore X54.here hx rfl (hb hby at_123) rfl (l' := #[.val (.int p0), .val (.int p1), .val (.int p2), .val (.ref b21), .val (.int (10 : Int32)), .val (.ref wELEMENT), .val (.int (0 : Int32)), .unset, .unset, .unset, .unset, .unset, .unset, .unset, .unset]) rfl (XS.aload X54.here hx rfl (hb hby at_125) rfl rfl (Steps.trans st156 (XS.iload X156.here hx rfl (hb hby at_130) rfl (XS.icmpYes X156.here hx rfl (pc0 := 132) (pc' := 137) rfl (hb hby at_132) rfl (teq ho157).1 (by decide) (by decide) (XS.iload X156.here hx rfl (hb hby at_137) rfl k)))))) ?_
    obtain ⟨fs, hr, hrun, hended, hEnd⟩ := Jvm.Stand.leaveW (s := s) (vm₁ := s.vm) X156 hS0 (by rw [e156]; exact (Nat.le_trans (Nat.le_trans (Nat.le_trans (Nat.le_trans (Nat.le_trans (Nat.le_trans (Nat.le_trans (Nat.le_trans (Nat.le_trans (Nat.le_trans (Nat.le_trans (Nat.le_trans (Nat.le_refl _) E21.1) (Keep.of_wr W24).1) (Keep.of_wr W27).1) (Keep.of_wr W30).1) (Keep.of_wr W33).1) (Keep.of_wr W36).1) (Keep.of_wr W39).1) (Keep.of_wr W42).1) (Keep.of_wr W45).1) (Keep.of_wr W48).1) (Keep.of_wr W51).1) (Keep.of_wr W54).1)) (v := some (.int (1 : Int32))) (fun h => by rw [Bd.returns] at h; cases h)
    refine own_by (W' := (T156.setTop (mkF m 143 #[.val (.int p0), .val (.int p1), .val (.int p2), .val (.ref b21), .val (.int (10 : Int32)), .val (.ref wELEMENT), .val (.int (0 : Int32)), .unset, .unset, .unset, .unset, .unset, .unset, .unset, .unset] [(.int (1 : Int32))]))) (fun t k => XS.ifNo X156.here hx rfl (hb hby at_139) rfl ((if0 _ _).trans (teq (rfl : (0 : Int32) = (0 : Int32))).2) (XS.iconst X156.here hx rfl (hb hby at_142) k)) ?_
    refine ⟨_, _, retOut X156 hx Bd.returns rfl (Or.inl ⟨rfl, Or.inr (Or.inl rfl), _, rfl⟩) (hb hby at_143) hr, hrun, hended, _, _, rfl, ?_, (by rw [hh]; show CHr Z consts_1 s.vm h0 T156.vm T156.heap; rw [e156]; exact CHr.trans C54 (CHv.at (s := s) (vm0 := s.vm) X156 hZ (own_EW hw) C54.1)), hEnd.1, hEnd.2.1, hEnd.2.2.1, hEnd.2.2.2.mono (by decide) (by decide)⟩
    exact ⟨rfl, N156⟩
set_option maxRecDepth 65536 in
set_option maxHeartbeats 40000000 in
theorem comes_1 {Post : Tables → Env → Array Value → State → Outcome → State → Prop} (hpost : ∀ tb e args s v u, (limb_1_1.after args s (.returned v) u = true ∧ limb_1_2.after args s (.returned v) u = true ∧ True) → ReturnedEndW s (.returned v) u (Jvm.fieldLocs frame_1_writes args s ++ Jvm.arrayLocs frame_1_arrays args s ++ Jvm.staticLocs frame_1_statics s) 24 1152 → Post tb e args s (.returned v) u) :
    ArmFor flags0 classFile x code maxLocals ret World_1 tables_1 room_1 Calls_1 rest_1 Pre_1 Post := by
  intro l hfl _ _ p e ha hc hk s m args below hf hA hF happ hP
  obtain ⟨hcalls, hrest, hpre⟩ := hP
  obtain ⟨-, -, -, hnamed, -, -, -, hat⟩ := (Spec.applies_iff hf).mp happ
  obtain ⟨hg, hn⟩ := and_e (Cond.before_iff.mp (show (Jvm.Cond.and given_1 narrow_1).before args s = true from hpre))
  obtain ⟨ga1, gb1⟩ := and_e hg
  obtain ⟨ga2, gb2⟩ := and_e gb1
  obtain ⟨ga3, gb3⟩ := and_e gb2
  obtain ⟨w0, w1, w2, rfl⟩ : ∃ w0 w1 w2 : Value, args = #[w0, w1, w2] := by
    have hs : args.size = 3 := by simpa [Cond.value, given_1] using ga1
    obtain ⟨L⟩ := args
    match L, hs with
    | [w0, w1, w2], _ => exact ⟨w0, w1, w2, rfl⟩
  have hw := fun d (hd : d ∈ tables_1) => atoms_spec (ws := Jvm.Cond.code x code maxLocals ret :: tables_1) hat d (List.mem_cons_of_mem _ hd)
  have hfit : Fit s := fun {y c} hc i hi => by
    obtain ⟨ha, rfl⟩ := Array.getElem?_eq_some_iff.mp hc
    have q := List.all_eq_true.mp ((Array.all_eq_true_iff_forall_mem.mp hF) _ (Array.getElem_mem ha)) i (List.mem_range.mpr hi)
    simpa [Array.getElem?_eq_getElem hi] using q
  obtain ⟨hsets, hown0⟩ := atoms_of _ (rest_1_c_eq ▸ (show rest_1_c.before _ s = true from hrest))
  have hr0 := Cond.before_iff.mp hown0
  obtain ⟨i0, ei0⟩ := is_v ga2
  obtain rfl : w0 = (.int i0) := Option.some.inj ei0
  obtain ⟨i1, ei1⟩ := is_v ga3
  obtain rfl : w1 = (.int i1) := Option.some.inj ei1
  obtain ⟨i2, ei2⟩ := is_v gb3
  obtain rfl : w2 = (.int i2) := Option.some.inj ei2
  obtain ⟨ga4, gb4⟩ := and_e hn
  obtain ⟨ga5, gb5⟩ := and_e gb4
  obtain ⟨ga6, gb6⟩ := and_e gb5
  obtain ⟨ga7, gb7⟩ := and_e gb6
  obtain ⟨ga8, gb8⟩ := and_e gb7
  obtain ⟨ga9, gb9⟩ := and_e gb8
  obtain ⟨ga10, gb10⟩ := and_e gb9
  obtain ⟨ga11, gb11⟩ := and_e gb10
  obtain ⟨ga12, gb12⟩ := and_e gb11
  obtain ⟨ga13, gb13⟩ := and_e gb12
  obtain ⟨ga14, gb14⟩ := and_e gb13
  obtain ⟨ga15, gb15⟩ := and_e gb14
  obtain ⟨ga16, gb16⟩ := and_e gb15
  obtain ⟨ga17, gb17⟩ := and_e gb16
  obtain ⟨ga18, gb18⟩ := and_e gb17
  obtain ⟨ga19, gb19⟩ := and_e gb18
  obtain ⟨ga20, gb20⟩ := and_e gb19
  obtain ⟨ga21, gb21⟩ := and_e gb20
  obtain ⟨ga22, gb22⟩ := and_e gb21
  obtain ⟨ga23, gb23⟩ := and_e gb22
  obtain ⟨ga24, gb24⟩ := and_e gb23
  obtain ⟨cs, ev_cs⟩ := is_v (Cond.before_iff.mp (hsets _ (List.mem_of_getElem? (i := 18) rfl)))
  have Sx_cs := Sta.start ev_cs (Or.inl (hsets _ (List.mem_of_getElem? (i := 17) rfl)))
  have n_cs : ¬ cs = (0 : Int32) := gotF (Cond.eq_ints ev_cs (Term.int_eval 0)) (not_v (Cond.before_iff.mp (hsets _ (List.mem_of_getElem? (i := 19) rfl))))
  obtain ⟨wD, ev_wD, Sx_wD, Ex_wD⟩ := own_sta (Cond.before_iff.mp (hsets _ (List.mem_of_getElem? (i := 7) rfl))) (Or.inr ⟨(own_w hw 38), (hsets _ (List.mem_of_getElem? (i := 2) rfl))⟩)
  obtain ⟨cl_wD, Ar_wD⟩ := Arr.start ev_wD (Cond.before_iff.mp (hsets _ (List.mem_of_getElem? (i := 6) rfl)))
  obtain ⟨lt_wD, le_wD⟩ := own_len ev_wD Ar_wD (Cond.before_iff.mp (hsets _ (List.mem_of_getElem? (i := 8) rfl)))
  obtain ⟨kD, Vx_wD⟩ : ∃ k, Arv s s.heap wD k (.object "java/lang/Object") (0 : Int32) [] .null := ⟨_, Arv.start hfit Ar_wD lt_wD le_wD (by decide) rfl trivial⟩
  have Sx_hi := own_staI (Cond.before_iff.mp (hsets _ (List.mem_of_getElem? (i := 12) rfl))) (hsets _ (List.mem_of_getElem? (i := 10) rfl))
  obtain ⟨wC, ev_wC, Sx_wC, -⟩ := own_sta (Cond.before_iff.mp (hsets _ (List.mem_of_getElem? (i := 14) rfl))) (Or.inr ⟨(own_w hw 137), (hsets _ (List.mem_of_getElem? (i := 11) rfl))⟩)
  obtain ⟨clC, ArC⟩ := Arr.start ev_wC (Cond.before_iff.mp (hsets _ (List.mem_of_getElem? (i := 13) rfl)))
  obtain ⟨ltC, leC⟩ := own_len ev_wC ArC (Cond.before_iff.mp (hsets _ (List.mem_of_getElem? (i := 15) rfl)))
  have BxC := own_bxs ev_wC ArC ltC leC (Cond.before_iff.mp (hsets _ (List.mem_of_getElem? (i := 16) rfl)))
  obtain ⟨wBOOLEAN, ev_wBOOLEAN, Sx_wBOOLEAN, Ex_wBOOLEAN⟩ := own_sta ga4 (Or.inr ⟨(own_w hw 3), (own_w hw 4)⟩)
  have Fx_wBOOLEAN_ordinal := own_fldI ev_wBOOLEAN ga15
  obtain ⟨wINTEGER, ev_wINTEGER, Sx_wINTEGER, Ex_wINTEGER⟩ := own_sta ga5 (Or.inr ⟨(own_w hw 3), (own_w hw 7)⟩)
  have Fx_wINTEGER_ordinal := own_fldI ev_wINTEGER ga20
  obtain ⟨wBITS, ev_wBITS, Sx_wBITS, Ex_wBITS⟩ := own_sta ga6 (Or.inr ⟨(own_w hw 3), (own_w hw 9)⟩)
  have Fx_wBITS_ordinal := own_fldI ev_wBITS ga16
  obtain ⟨wOCTETS, ev_wOCTETS, Sx_wOCTETS, Ex_wOCTETS⟩ := own_sta ga7 (Or.inr ⟨(own_w hw 3), (own_w hw 11)⟩)
  have Fx_wOCTETS_ordinal := own_fldI ev_wOCTETS ga17
  obtain ⟨wNULL, ev_wNULL, Sx_wNULL, Ex_wNULL⟩ := own_sta ga8 (Or.inr ⟨(own_w hw 3), (own_w hw 13)⟩)
  have Fx_wNULL_ordinal := own_fldI ev_wNULL gb24
  obtain ⟨wOBJECT_IDENTIFIER, ev_wOBJECT_IDENTIFIER, Sx_wOBJECT_IDENTIFIER, Ex_wOBJECT_IDENTIFIER⟩ := own_sta ga9 (Or.inr ⟨(own_w hw 3), (own_w hw 15)⟩)
  have Fx_wOBJECT_IDENTIFIER_ordinal := own_fldI ev_wOBJECT_IDENTIFIER ga22
  obtain ⟨wTEXT, ev_wTEXT, Sx_wTEXT, Ex_wTEXT⟩ := own_sta ga10 (Or.inr ⟨(own_w hw 3), (own_w hw 17)⟩)
  have Fx_wTEXT_ordinal := own_fldI ev_wTEXT ga18
  obtain ⟨wCOMPONENTS, ev_wCOMPONENTS, Sx_wCOMPONENTS, Ex_wCOMPONENTS⟩ := own_sta ga11 (Or.inr ⟨(own_w hw 3), (own_w hw 19)⟩)
  have Fx_wCOMPONENTS_ordinal := own_fldI ev_wCOMPONENTS ga23
  obtain ⟨wELEMENTS, ev_wELEMENTS, Sx_wELEMENTS, Ex_wELEMENTS⟩ := own_sta ga12 (Or.inr ⟨(own_w hw 3), (own_w hw 21)⟩)
  have Fx_wELEMENTS_ordinal := own_fldI ev_wELEMENTS ga19
  obtain ⟨wCHOICE, ev_wCHOICE, Sx_wCHOICE, Ex_wCHOICE⟩ := own_sta ga13 (Or.inr ⟨(own_w hw 3), (own_w hw 23)⟩)
  have Fx_wCHOICE_ordinal := own_fldI ev_wCHOICE ga24
  obtain ⟨wELEMENT, ev_wELEMENT, Sx_wELEMENT, Ex_wELEMENT⟩ := own_sta ga14 (Or.inr ⟨(own_w hw 3), (own_w hw 25)⟩)
  have Fx_wELEMENT_ordinal := own_fldI ev_wELEMENT ga21
  have hCHs : CHv s consts_1 s.vm s.heap := CHv.start (own_EW hw) (fun q hq => hcalls.1 q hq) (own_cw hsets) (own_w hw 139) (own_w hw 177)
  obtain ⟨n, o, h1, h2, h3, _, L, rfl, ⟨rfl, N⟩, -, hq⟩ := rmL l s _ hw tables_1 i0 i1 i2 wBOOLEAN wINTEGER wBITS wOCTETS wNULL wOBJECT_IDENTIFIER wTEXT wCOMPONENTS wELEMENTS wCHOICE wELEMENT cs wD kD wC clC s.heap s.heap.size (Nat.le_refl _) (Old.start s) ⟨Sx_wBOOLEAN, Ex_wBOOLEAN, Fx_wBOOLEAN_ordinal, Sx_wINTEGER, Ex_wINTEGER, Fx_wINTEGER_ordinal, Sx_wBITS, Ex_wBITS, Fx_wBITS_ordinal, Sx_wOCTETS, Ex_wOCTETS, Fx_wOCTETS_ordinal, Sx_wNULL, Ex_wNULL, Fx_wNULL_ordinal, Sx_wOBJECT_IDENTIFIER, Ex_wOBJECT_IDENTIFIER, Fx_wOBJECT_IDENTIFIER_ordinal, Sx_wTEXT, Ex_wTEXT, Fx_wTEXT_ordinal, Sx_wCOMPONENTS, Ex_wCOMPONENTS, Fx_wCOMPONENTS_ordinal, Sx_wELEMENTS, Ex_wELEMENTS, Fx_wELEMENTS_ordinal, Sx_wCHOICE, Ex_wCHOICE, Fx_wCHOICE_ordinal, Sx_wELEMENT, Ex_wELEMENT, Fx_wELEMENT_ordinal, Sx_cs, n_cs, Sx_wD, Ex_wD, Vx_wD, Sx_hi, Sx_wC, BxC⟩ p e ha hc hk s m _ below hf ((Spec.applies_iff_loose hf).mp happ).1 ⟨rfl, State.Warmed39.refl s, rfl, hCHs⟩ trivial
  refine ⟨n, _, h1, h2, h3, hpost _ _ _ _ _ _ ⟨Cond.after_iff.mpr rfl, Cond.after_iff.mpr (eq_i res_at (Term.int_eval (1)) rfl), trivial⟩ ⟨hq.1, hq.2.1, hq.2.2.1, (hq.2.2.2.sift fun y hy => Or.inr (N y hy)).mono (by decide) (by decide)⟩⟩
theorem main_1_1 : Claimed_1_1 := comes_1 fun _ _ _ _ _ _ h hF => ⟨h.1, hF⟩
theorem main_1_2 : Claimed_1_2 := comes_1 fun _ _ _ _ _ _ h hF => ⟨h.2.1, hF⟩
end Jvm.Pilot.@@N@@
namespace Jvm.Pilot.@@N@@
open Jvm Jvm.ClassFile Sem Op Lib Jvm.Free Jvm.Stand Jvm.Pilot.@@N@@.Jvm.D
/-! MADE BY PROGRAM (witnessworld.py) out of the Statement's table words and the real class files: 38 classes; the members and pool entries that the words name. The judged class is class 1, her method 1. -/
namespace start1
open Jvm.ClassFile
def u (s : String) : CpInfo := .utf8 (stringToUtf16 s)
/-- a pool by its gaps: so many unusable entries, then the entry; so many at the end -/
def gap : Nat → List CpInfo → List CpInfo
  | 0, r => r
  | n + 1, r => .unusable :: gap n r
def poolList (es : List (Nat × CpInfo)) (last : Nat) : List CpInfo := es.foldr (fun e r => gap e.1 (e.2 :: r)) (gap last [])
def pool (es : List (Nat × CpInfo)) (last : Nat) : Array CpInfo := ⟨poolList es last⟩
def fileOf (pool : Array CpInfo) (this : Nat) (attrs : Array Attribute := #[]) (ms : Array MethodInfo := #[]) (fl : Nat := 33) (sup : Nat := 0) (ifs : Array Nat := #[]) (fds : Array FieldInfo := #[]) : ClassFile where
  minorVersion := 0
  majorVersion := 65
  constantPool := pool
  accessFlags := fl
  thisClass := this
  superClass := sup
  interfaces := ifs
  fields := fds
  methods := ms
  attributes := attrs
def plain (name : String) (sup : Option ClassId) : Class where
  name := name
  kind := .ordinary
  loader := none
  accessFlags := 33
  super := sup
  interfaces := #[]
  cf := none
  fields := #[]
  methods := #[]
  instanceTypes := #[]
  staticTypes := #[]
  resolved := #[]
  callSites := []
  init := .initialized
  statics := none
  mirror := none

def pool0 : Array CpInfo := pool [(5, u "<init>"), (0, u "()V"), (1, .class_ 10), (1, u "java/lang/Object"), (85, u "clone"), (0, u "()Ljava/lang/Object;")] 26

def k0c0 : Code := { maxStack := 0, maxLocals := 1, code := object_method_1_code, exceptionTable := #[], attributes := #[] }
def k0m0 : Method := { name := "<init>", desc := "()V", sig := { parameters := [], returnType := none }, accessFlags := 1, code := some k0c0 }
def k0m1 : Method := { name := "clone", desc := "()Ljava/lang/Object;", sig := { parameters := [], returnType := some (.object "java/lang/Object") }, accessFlags := 260, code := none }
/-- java/lang/Object -/
def k0 : Class := { plain "java/lang/Object" none with
  accessFlags := 33
  interfaces := #[]
  cf := some (fileOf pool0 8 #[] #[{ accessFlags := 1, nameIndex := 5, descriptorIndex := 6, attributes := #[] }, { accessFlags := 260, nameIndex := 96, descriptorIndex := 97, attributes := #[] }] 33 0 #[] #[])
  fields := #[]
  methods := #[k0m0, k0m1]
  instanceTypes := #[]
  staticTypes := #[]
  resolved := Array.replicate 124 none
  statics := none }

def pool1 : Array CpInfo := pool [(2, .class_ 4), (0, .nameAndType 5 6), (0, u "java/lang/Object"), (0, u "<init>"), (0, u "()V"), (0, .class_ 8), (0, u "com/example/tagwright/tagwright/typed/Form"), (0, .fieldref 7 10), (0, .nameAndType 11 12), (0, u "BOOLEAN"), (0, u "Lcom/example/tagwright/tagwright/typed/Form;"), (0, .fieldref 7 14), (0, .nameAndType 15 12), (0, u "INTEGER"), (0, .fieldref 7 17), (0, .nameAndType 18 12), (0, u "BITS"), (0, .fieldref 7 20), (0, .nameAndType 21 12), (0, u "OCTETS"), (0, .fieldref 7 23), (0, .nameAndType 24 12), (0, u "NULL"), (0, .fieldref 7 26), (0, .nameAndType 27 12), (0, u "OBJECT_IDENTIFIER"), (0, .fieldref 7 29), (0, .nameAndType 30 12), (0, u "TEXT"), (0, .fieldref 7 32), (0, .nameAndType 33 12), (0, u "COMPONENTS"), (0, .fieldref 7 35), (0, .nameAndType 36 12), (0, u "ELEMENTS"), (0, .fieldref 7 38), (0, .nameAndType 39 12), (0, u "CHOICE"), (0, .fieldref 7 41), (0, .nameAndType 42 12), (0, u "ELEMENT"), (0, .integer 2147483647), (0, .methodref 7 45), (0, .nameAndType 46 47), (0, u "isSized"), (0, u "()Z"), (0, .methodref 49 50), (0, .class_ 51), (0, .nameAndType 52 53), (0, u "com/example/tagwright/tagwright/universal/BitString"), (0, u "of"), (0, u "([BI)Lcom/example/tagwright/tagwright/universal/BitString;"), (0, .long 8), (1, .string 57), (0, u ""), (0, .methodref 59 60), (0, .class_ 61), (0, .nameAndType 62 63), (0, u "java/lang/String"), (0, u "valueOf"), (0, u "(C)Ljava/lang/String;"), (0, .methodref 59 65), (0, .nameAndType 5 66), (0, u "([C)V"), (0, .class_ 68), (0, u "java/util/ArrayList"), (0, .methodref 67 3), (0, .methodref 71 72), (0, .class_ 73), (0, .nameAndType 62 74), (0, u "java/lang/Integer"), (0, u "(I)Ljava/lang/Integer;"), (0, .methodref 67 76), (0, .nameAndType 77 78), (0, u "add"), (0, u "(Ljava/lang/Object;)Z"), (0, .methodref 7 80), (0, .nameAndType 81 82), (0, u "sizeOf"), (0, u "(Ljava/lang/Object;)J"), (0, .class_ 84), (0, u "com/example/tagwright/tagwright/typed/FormIsSizedPinLaw"), (2, u "law"), (0, u "(III)Z")] 5

def k1m0 : Method := { name := "<init>", desc := "()V", sig := { parameters := [], returnType := none }, accessFlags := 2, code := none }
def k1c1 : Code := { maxStack := 6, maxLocals := 15, code := code, exceptionTable := #[], attributes := #[] }
def k1m1 : Method := { name := "law", desc := "(III)Z", sig := { parameters := [.int, .int, .int], returnType := some .boolean }, accessFlags := 9, code := some k1c1 }
/-- com/example/tagwright/tagwright/typed/FormIsSizedPinLaw -/
def k1 : Class := { plain "com/example/tagwright/tagwright/typed/FormIsSizedPinLaw" (some 0) with
  accessFlags := 49
  interfaces := #[]
  cf := some (fileOf pool1 83 #[] #[{ accessFlags := 2, nameIndex := 5, descriptorIndex := 6, attributes := #[] }, { accessFlags := 9, nameIndex := 87, descriptorIndex := 88, attributes := #[] }] 49 2 #[] #[])
  fields := #[]
  methods := #[k1m0, k1m1]
  instanceTypes := #[]
  staticTypes := #[]
  resolved := Array.replicate 94 none
  statics := none }

def pool2 : Array CpInfo := pool [(1, .class_ 2), (0, u "java/lang/constant/Constable"), (0, .class_ 4), (0, u "java/lang/Object")] 6

/-- java/lang/constant/Constable -/
def k2 : Class := { plain "java/lang/constant/Constable" (some 0) with
  accessFlags := 1537
  interfaces := #[]
  cf := some (fileOf pool2 1 #[] #[] 1537 3 #[] #[])
  fields := #[]
  methods := #[]
  instanceTypes := #[]
  staticTypes := #[]
  resolved := Array.replicate 11 none
  statics := none }

def pool3 : Array CpInfo := pool [(1, .class_ 2), (0, u "java/lang/Comparable"), (0, .class_ 4), (0, u "java/lang/Object")] 7

/-- java/lang/Comparable -/
def k3 : Class := { plain "java/lang/Comparable" (some 0) with
  accessFlags := 1537
  interfaces := #[]
  cf := some (fileOf pool3 1 #[] #[] 1537 3 #[] #[])
  fields := #[]
  methods := #[]
  instanceTypes := #[]
  staticTypes := #[]
  resolved := Array.replicate 12 none
  statics := none }

def pool4 : Array CpInfo := pool [(1, .class_ 2), (0, u "java/io/Serializable"), (0, .class_ 4), (0, u "java/lang/Object")] 2

/-- java/io/Serializable -/
def k4 : Class := { plain "java/io/Serializable" (some 0) with
  accessFlags := 1537
  interfaces := #[]
  cf := some (fileOf pool4 1 #[] #[] 1537 3 #[] #[])
  fields := #[]
  methods := #[]
  instanceTypes := #[]
  staticTypes := #[]
  resolved := Array.replicate 7 none
  statics := none }

def pool5 : Array CpInfo := pool [(2, .class_ 4), (1, u "java/lang/Enum"), (0, u "name"), (0, u "Ljava/lang/String;"), (0, .fieldref 2 8), (0, .nameAndType 9 10), (0, u "ordinal"), (0, u "I"), (1, .class_ 14), (1, u "java/lang/Object"), (4, u "hash"), (86, .class_ 108), (1, u "java/lang/Enum$EnumDesc"), (2, .class_ 112), (0, u "java/lang/constant/Constable"), (0, .class_ 114), (0, u "java/lang/Comparable"), (0, .class_ 116), (0, u "java/io/Serializable"), (9, u "()I")] 77

def k5c0 : Code := { maxStack := 1, maxLocals := 1, code := jdk_37_method_2_code, exceptionTable := #[], attributes := #[] }
def k5m0 : Method := { name := "ordinal", desc := "()I", sig := { parameters := [], returnType := some .int }, accessFlags := 17, code := some k5c0 }
/-- java/lang/Enum -/
def k5 : Class := { plain "java/lang/Enum" (some 0) with
  accessFlags := 1057
  interfaces := #[2, 3, 4]
  cf := some (fileOf pool5 2 #[.nestMembers #[106]] #[{ accessFlags := 17, nameIndex := 9, descriptorIndex := 126, attributes := #[] }] 1057 12 #[111, 113, 115] #[{ accessFlags := 18, nameIndex := 5, descriptorIndex := 6, attributes := #[] }, { accessFlags := 18, nameIndex := 9, descriptorIndex := 10, attributes := #[] }, { accessFlags := 2, nameIndex := 19, descriptorIndex := 10, attributes := #[] }])
  fields := #[{ name := "name", type := (.object "java/lang/String"), accessFlags := 18, slot := 0, constantValue := 0 }, { name := "ordinal", type := .int, accessFlags := 18, slot := 1, constantValue := 0 }, { name := "hash", type := .int, accessFlags := 2, slot := 2, constantValue := 0 }]
  methods := #[k5m0]
  instanceTypes := #[(.object "java/lang/String"), .int, .int]
  staticTypes := #[]
  resolved := Array.replicate 204 none
  statics := none }

def pool6 : Array CpInfo := pool [(1, .class_ 2), (0, u "com/example/tagwright/tagwright/typed/Form"), (2, u "BOOLEAN"), (0, u "Lcom/example/tagwright/tagwright/typed/Form;"), (2, u "INTEGER"), (0, .fieldref 1 11), (0, .nameAndType 12 6), (0, u "BITS"), (0, .fieldref 1 14), (0, .nameAndType 15 6), (0, u "OCTETS"), (2, u "NULL"), (2, u "OBJECT_IDENTIFIER"), (0, .fieldref 1 23), (0, .nameAndType 24 6), (0, u "TEXT"), (2, u "COMPONENTS"), (0, .fieldref 1 29), (0, .nameAndType 30 6), (0, u "ELEMENTS"), (2, u "CHOICE"), (2, u "ELEMENT"), (2, u "$VALUES"), (0, u "[Lcom/example/tagwright/tagwright/typed/Form;"), (6, .class_ 49), (1, u "java/lang/Enum"), (8, u "label"), (0, u "Ljava/lang/String;"), (2, u "givenAs"), (0, u "Ljava/lang/Class;"), (11, u "()Z"), (1, .class_ 79), (1, u "com/example/tagwright/tagwright/typed/Form$1"), (3, .nameAndType 84 85), (0, u "ordinal"), (0, u "()I"), (13, .methodref 1 83), (0, .class_ 101), (0, u "com/example/tagwright/tagwright/universal/BitString"), (0, .methodref 100 103), (0, .nameAndType 104 105), (0, u "getLength"), (0, u "()J"), (0, .class_ 107), (0, u "[B"), (0, .class_ 109), (0, u "java/lang/String"), (0, .methodref 108 111), (0, .nameAndType 112 85), (0, u "length"), (0, .methodref 108 114), (0, .nameAndType 115 116), (0, u "codePointCount"), (0, u "(II)I"), (0, .class_ 118), (0, u "java/util/List"), (0, .interfaceMethodref 117 120), (0, .nameAndType 121 85), (0, u "size"), (60, u "isSized"), (0, u "sizeOf"), (0, u "(Ljava/lang/Object;)J")] 24

def k6c0 : Code := { maxStack := 2, maxLocals := 1, code := prog_31_method_6_code, exceptionTable := #[], attributes := #[] }
def k6m0 : Method := { name := "isSized", desc := "()Z", sig := { parameters := [], returnType := some .boolean }, accessFlags := 0, code := some k6c0 }
def k6c1 : Code := { maxStack := 3, maxLocals := 4, code := prog_31_method_7_code, exceptionTable := #[], attributes := #[] }
def k6m1 : Method := { name := "sizeOf", desc := "(Ljava/lang/Object;)J", sig := { parameters := [(.object "java/lang/Object")], returnType := some .long }, accessFlags := 0, code := some k6c1 }
/-- com/example/tagwright/tagwright/typed/Form -/
def k6 : Class := { plain "com/example/tagwright/tagwright/typed/Form" (some 5) with
  accessFlags := 16432
  interfaces := #[]
  cf := some (fileOf pool6 1 #[.nestMembers #[77]] #[{ accessFlags := 0, nameIndex := 182, descriptorIndex := 75, attributes := #[] }, { accessFlags := 0, nameIndex := 183, descriptorIndex := 184, attributes := #[] }] 16432 47 #[] #[{ accessFlags := 16409, nameIndex := 5, descriptorIndex := 6, attributes := #[] }, { accessFlags := 16409, nameIndex := 9, descriptorIndex := 6, attributes := #[] }, { accessFlags := 16409, nameIndex := 12, descriptorIndex := 6, attributes := #[] }, { accessFlags := 16409, nameIndex := 15, descriptorIndex := 6, attributes := #[] }, { accessFlags := 16409, nameIndex := 18, descriptorIndex := 6, attributes := #[] }, { accessFlags := 16409, nameIndex := 21, descriptorIndex := 6, attributes := #[] }, { accessFlags := 16409, nameIndex := 24, descriptorIndex := 6, attributes := #[] }, { accessFlags := 16409, nameIndex := 27, descriptorIndex := 6, attributes := #[] }, { accessFlags := 16409, nameIndex := 30, descriptorIndex := 6, attributes := #[] }, { accessFlags := 16409, nameIndex := 33, descriptorIndex := 6, attributes := #[] }, { accessFlags := 16409, nameIndex := 36, descriptorIndex := 6, attributes := #[] }, { accessFlags := 18, nameIndex := 58, descriptorIndex := 59, attributes := #[] }, { accessFlags := 18, nameIndex := 62, descriptorIndex := 63, attributes := #[] }, { accessFlags := 4122, nameIndex := 39, descriptorIndex := 40, attributes := #[] }])
  fields := #[{ name := "BOOLEAN", type := (.object "com/example/tagwright/tagwright/typed/Form"), accessFlags := 16409, slot := 0, constantValue := 0 }, { name := "INTEGER", type := (.object "com/example/tagwright/tagwright/typed/Form"), accessFlags := 16409, slot := 1, constantValue := 0 }, { name := "BITS", type := (.object "com/example/tagwright/tagwright/typed/Form"), accessFlags := 16409, slot := 2, constantValue := 0 }, { name := "OCTETS", type := (.object "com/example/tagwright/tagwright/typed/Form"), accessFlags := 16409, slot := 3, constantValue := 0 }, { name := "NULL", type := (.object "com/example/tagwright/tagwright/typed/Form"), accessFlags := 16409, slot := 4, constantValue := 0 }, { name := "OBJECT_IDENTIFIER", type := (.object "com/example/tagwright/tagwright/typed/Form"), accessFlags := 16409, slot := 5, constantValue := 0 }, { name := "TEXT", type := (.object "com/example/tagwright/tagwright/typed/Form"), accessFlags := 16409, slot := 6, constantValue := 0 }, { name := "COMPONENTS", type := (.object "com/example/tagwright/tagwright/typed/Form"), accessFlags := 16409, slot := 7, constantValue := 0 }, { name := "ELEMENTS", type := (.object "com/example/tagwright/tagwright/typed/Form"), accessFlags := 16409, slot := 8, constantValue := 0 }, { name := "CHOICE", type := (.object "com/example/tagwright/tagwright/typed/Form"), accessFlags := 16409, slot := 9, constantValue := 0 }, { name := "ELEMENT", type := (.object "com/example/tagwright/tagwright/typed/Form"), accessFlags := 16409, slot := 10, constantValue := 0 }, { name := "label", type := (.object "java/lang/String"), accessFlags := 18, slot := 3, constantValue := 0 }, { name := "givenAs", type := (.object "java/lang/Class"), accessFlags := 18, slot := 4, constantValue := 0 }, { name := "$VALUES", type := (.array (.object "com/example/tagwright/tagwright/typed/Form")), accessFlags := 4122, slot := 11, constantValue := 0 }]
  methods := #[k6m0, k6m1]
  instanceTypes := #[(.object "java/lang/String"), .int, .int, (.object "java/lang/String"), (.object "java/lang/Class")]
  staticTypes := #[(.object "com/example/tagwright/tagwright/typed/Form"), (.object "com/example/tagwright/tagwright/typed/Form"), (.object "com/example/tagwright/tagwright/typed/Form"), (.object "com/example/tagwright/tagwright/typed/Form"), (.object "com/example/tagwright/tagwright/typed/Form"), (.object "com/example/tagwright/tagwright/typed/Form"), (.object "com/example/tagwright/tagwright/typed/Form"), (.object "com/example/tagwright/tagwright/typed/Form"), (.object "com/example/tagwright/tagwright/typed/Form"), (.object "com/example/tagwright/tagwright/typed/Form"), (.object "com/example/tagwright/tagwright/typed/Form"), (.array (.object "com/example/tagwright/tagwright/typed/Form"))]
  resolved := Array.replicate 209 none
  statics := some 0 }

def pool7 : Array CpInfo := pool [(8, .class_ 10), (1, u "java/lang/Iterable"), (24, .class_ 36), (0, u "java/lang/Object")] 25

/-- java/lang/Iterable -/
def k7 : Class := { plain "java/lang/Iterable" (some 0) with
  accessFlags := 1537
  interfaces := #[]
  cf := some (fileOf pool7 8 #[] #[] 1537 35 #[] #[])
  fields := #[]
  methods := #[]
  instanceTypes := #[]
  staticTypes := #[]
  resolved := Array.replicate 62 none
  statics := none }

def pool8 : Array CpInfo := pool [(10, .class_ 12), (1, u "java/util/Collection"), (47, .class_ 61), (0, u "java/lang/Object"), (0, .class_ 63), (0, u "java/lang/Iterable")] 51

/-- java/util/Collection -/
def k8 : Class := { plain "java/util/Collection" (some 0) with
  accessFlags := 1537
  interfaces := #[7]
  cf := some (fileOf pool8 10 #[] #[] 1537 60 #[62] #[])
  fields := #[]
  methods := #[]
  instanceTypes := #[]
  staticTypes := #[]
  resolved := Array.replicate 115 none
  statics := none }

def pool9 : Array CpInfo := pool [(1, .methodref 2 3), (0, .class_ 4), (0, .nameAndType 5 6), (0, u "java/lang/Object"), (0, u "<init>"), (0, u "()V"), (1, .class_ 10), (1, u "java/util/AbstractCollection"), (66, .class_ 78), (0, u "java/util/Collection")] 81

def k9c0 : Code := { maxStack := 1, maxLocals := 1, code := jdk_22_method_1_code, exceptionTable := #[], attributes := #[] }
def k9m0 : Method := { name := "<init>", desc := "()V", sig := { parameters := [], returnType := none }, accessFlags := 4, code := some k9c0 }
/-- java/util/AbstractCollection -/
def k9 : Class := { plain "java/util/AbstractCollection" (some 0) with
  accessFlags := 1057
  interfaces := #[8]
  cf := some (fileOf pool9 8 #[] #[{ accessFlags := 4, nameIndex := 5, descriptorIndex := 6, attributes := #[] }] 1057 2 #[77] #[])
  fields := #[]
  methods := #[k9m0]
  instanceTypes := #[]
  staticTypes := #[]
  resolved := Array.replicate 160 none
  statics := none }

def pool10 : Array CpInfo := pool [(8, .class_ 10), (1, u "java/util/SequencedCollection"), (15, .class_ 27), (0, u "java/lang/Object"), (0, .class_ 29), (0, u "java/util/Collection")] 27

/-- java/util/SequencedCollection -/
def k10 : Class := { plain "java/util/SequencedCollection" (some 0) with
  accessFlags := 1537
  interfaces := #[8]
  cf := some (fileOf pool10 8 #[] #[] 1537 26 #[28] #[])
  fields := #[]
  methods := #[]
  instanceTypes := #[]
  staticTypes := #[]
  resolved := Array.replicate 57 none
  statics := none }

def pool11 : Array CpInfo := pool [(8, .class_ 10), (1, u "java/util/List"), (68, u "size"), (0, u "()I"), (22, .class_ 104), (0, u "java/lang/Object"), (15, .class_ 121), (0, u "java/util/SequencedCollection")] 129

def k11m0 : Method := { name := "size", desc := "()I", sig := { parameters := [], returnType := some .int }, accessFlags := 1025, code := none }
/-- java/util/List -/
def k11 : Class := { plain "java/util/List" (some 0) with
  accessFlags := 1537
  interfaces := #[10]
  cf := some (fileOf pool11 8 #[] #[{ accessFlags := 1025, nameIndex := 79, descriptorIndex := 80, attributes := #[] }] 1537 103 #[120] #[])
  fields := #[]
  methods := #[k11m0]
  instanceTypes := #[]
  staticTypes := #[]
  resolved := Array.replicate 251 none
  statics := none }

def pool12 : Array CpInfo := pool [(1, .methodref 2 3), (0, .class_ 4), (0, .nameAndType 5 6), (0, u "java/util/AbstractCollection"), (0, u "<init>"), (0, u "()V"), (0, .fieldref 8 9), (0, .class_ 10), (0, .nameAndType 11 12), (0, u "java/util/AbstractList"), (0, u "modCount"), (0, u "I"), (64, .class_ 78), (0, u "java/util/AbstractList$Itr"), (3, .class_ 83), (0, u "java/util/AbstractList$ListItr"), (9, .class_ 94), (0, u "java/util/AbstractList$RandomAccessSubList"), (3, .class_ 99), (0, u "java/util/AbstractList$SubList"), (33, .class_ 134), (0, u "java/util/List"), (73, .class_ 209), (0, u "java/util/AbstractList$SubList$1"), (0, .class_ 211), (0, u "java/util/AbstractList$RandomAccessSpliterator")] 6

def k12c0 : Code := { maxStack := 2, maxLocals := 1, code := jdk_39_method_1_code, exceptionTable := #[], attributes := #[] }
def k12m0 : Method := { name := "<init>", desc := "()V", sig := { parameters := [], returnType := none }, accessFlags := 4, code := some k12c0 }
/-- java/util/AbstractList -/
def k12 : Class := { plain "java/util/AbstractList" (some 9) with
  accessFlags := 1057
  interfaces := #[11]
  cf := some (fileOf pool12 8 #[.nestMembers #[93, 98, 208, 210, 82, 77]] #[{ accessFlags := 4, nameIndex := 5, descriptorIndex := 6, attributes := #[] }] 1057 2 #[133] #[{ accessFlags := 132, nameIndex := 11, descriptorIndex := 12, attributes := #[] }])
  fields := #[{ name := "modCount", type := .int, accessFlags := 132, slot := 0, constantValue := 0 }]
  methods := #[k12m0]
  instanceTypes := #[.int]
  staticTypes := #[]
  resolved := Array.replicate 218 none
  statics := none }

def pool13 : Array CpInfo := pool [(1, .class_ 2), (0, u "java/util/RandomAccess"), (0, .class_ 4), (0, u "java/lang/Object")] 2

/-- java/util/RandomAccess -/
def k13 : Class := { plain "java/util/RandomAccess" (some 0) with
  accessFlags := 1537
  interfaces := #[]
  cf := some (fileOf pool13 1 #[] #[] 1537 3 #[] #[])
  fields := #[]
  methods := #[]
  instanceTypes := #[]
  staticTypes := #[]
  resolved := Array.replicate 7 none
  statics := none }

def pool14 : Array CpInfo := pool [(1, .class_ 2), (0, u "java/lang/Cloneable"), (0, .class_ 4), (0, u "java/lang/Object")] 2

/-- java/lang/Cloneable -/
def k14 : Class := { plain "java/lang/Cloneable" (some 0) with
  accessFlags := 1537
  interfaces := #[]
  cf := some (fileOf pool14 1 #[] #[] 1537 3 #[] #[])
  fields := #[]
  methods := #[]
  instanceTypes := #[]
  staticTypes := #[]
  resolved := Array.replicate 7 none
  statics := none }

def pool15 : Array CpInfo := pool [(1, .methodref 2 3), (0, .class_ 4), (0, .nameAndType 5 6), (0, u "java/util/AbstractList"), (0, u "<init>"), (0, u "()V"), (0, .class_ 8), (0, u "java/lang/Object"), (0, .fieldref 10 11), (0, .class_ 12), (0, .nameAndType 13 14), (0, u "java/util/ArrayList"), (0, u "elementData"), (0, u "[Ljava/lang/Object;"), (2, u "EMPTY_ELEMENTDATA"), (21, .fieldref 10 40), (0, .nameAndType 41 14), (0, u "DEFAULTCAPACITY_EMPTY_ELEMENTDATA"), (5, u "()[Ljava/lang/Object;"), (0, .fieldref 10 49), (0, .nameAndType 50 51), (0, u "size"), (0, u "I"), (11, .fieldref 10 64), (0, .nameAndType 65 51), (0, u "modCount"), (3, .methodref 10 70), (0, .nameAndType 71 72), (0, u "grow"), (0, u "(I)[Ljava/lang/Object;"), (6, .methodref 80 81), (0, .class_ 82), (0, .nameAndType 83 84), (0, u "java/lang/Math"), (0, u "max"), (0, u "(II)I"), (11, u "(Ljava/lang/Object;)Z"), (32, .methodref 10 130), (0, .nameAndType 71 47), (0, .methodref 10 132), (0, .nameAndType 133 134), (0, u "add"), (0, u "(Ljava/lang/Object;[Ljava/lang/Object;I)V"), (13, .class_ 149), (0, u "java/util/List"), (36, u "()I"), (75, .class_ 263), (0, u "java/util/ArrayList$ListItr"), (3, .class_ 268), (0, u "java/util/ArrayList$Itr"), (7, .class_ 277), (0, u "java/util/ArrayList$SubList"), (12, .class_ 291), (0, u "java/util/ArrayList$ArrayListSpliterator"), (37, .class_ 330), (0, u "java/util/RandomAccess"), (0, .class_ 332), (0, u "java/lang/Cloneable"), (0, .class_ 334), (0, u "java/io/Serializable"), (0, u "serialVersionUID"), (0, u "J"), (3, u "DEFAULT_CAPACITY"), (159, .class_ 501), (0, u "java/util/ArrayList$SubList$2"), (0, .class_ 503), (0, u "java/util/ArrayList$SubList$1")] 5

def k15c0 : Code := { maxStack := 2, maxLocals := 1, code := jdk_38_method_2_code, exceptionTable := #[], attributes := #[] }
def k15m0 : Method := { name := "<init>", desc := "()V", sig := { parameters := [], returnType := none }, accessFlags := 1, code := some k15c0 }
def k15c1 : Code := { maxStack := 4, maxLocals := 4, code := jdk_38_method_6_code, exceptionTable := #[], attributes := #[] }
def k15m1 : Method := { name := "grow", desc := "(I)[Ljava/lang/Object;", sig := { parameters := [.int], returnType := some (.array (.object "java/lang/Object")) }, accessFlags := 2, code := some k15c1 }
def k15c2 : Code := { maxStack := 3, maxLocals := 1, code := jdk_38_method_7_code, exceptionTable := #[], attributes := #[] }
def k15m2 : Method := { name := "grow", desc := "()[Ljava/lang/Object;", sig := { parameters := [], returnType := some (.array (.object "java/lang/Object")) }, accessFlags := 2, code := some k15c2 }
def k15c3 : Code := { maxStack := 1, maxLocals := 1, code := jdk_38_method_8_code, exceptionTable := #[], attributes := #[] }
def k15m3 : Method := { name := "size", desc := "()I", sig := { parameters := [], returnType := some .int }, accessFlags := 1, code := some k15c3 }
def k15c4 : Code := { maxStack := 3, maxLocals := 4, code := jdk_38_method_24_code, exceptionTable := #[], attributes := #[] }
def k15m4 : Method := { name := "add", desc := "(Ljava/lang/Object;[Ljava/lang/Object;I)V", sig := { parameters := [(.object "java/lang/Object"), (.array (.object "java/lang/Object")), .int], returnType := none }, accessFlags := 2, code := some k15c4 }
def k15c5 : Code := { maxStack := 4, maxLocals := 2, code := jdk_38_method_25_code, exceptionTable := #[], attributes := #[] }
def k15m5 : Method := { name := "add", desc := "(Ljava/lang/Object;)Z", sig := { parameters := [(.object "java/lang/Object")], returnType := some .boolean }, accessFlags := 1, code := some k15c5 }
/-- java/util/ArrayList -/
def k15 : Class := { plain "java/util/ArrayList" (some 12) with
  accessFlags := 33
  interfaces := #[11, 13, 14, 4]
  cf := some (fileOf pool15 10 #[.nestMembers #[290, 276, 500, 502, 262, 267]] #[{ accessFlags := 1, nameIndex := 5, descriptorIndex := 6, attributes := #[] }, { accessFlags := 2, nameIndex := 71, descriptorIndex := 72, attributes := #[] }, { accessFlags := 2, nameIndex := 71, descriptorIndex := 47, attributes := #[] }, { accessFlags := 1, nameIndex := 50, descriptorIndex := 186, attributes := #[] }, { accessFlags := 2, nameIndex := 133, descriptorIndex := 134, attributes := #[] }, { accessFlags := 1, nameIndex := 133, descriptorIndex := 96, attributes := #[] }] 33 2 #[148, 329, 331, 333] #[{ accessFlags := 26, nameIndex := 335, descriptorIndex := 336, attributes := #[] }, { accessFlags := 26, nameIndex := 340, descriptorIndex := 51, attributes := #[] }, { accessFlags := 26, nameIndex := 17, descriptorIndex := 14, attributes := #[] }, { accessFlags := 26, nameIndex := 41, descriptorIndex := 14, attributes := #[] }, { accessFlags := 128, nameIndex := 13, descriptorIndex := 14, attributes := #[] }, { accessFlags := 2, nameIndex := 50, descriptorIndex := 51, attributes := #[] }])
  fields := #[{ name := "serialVersionUID", type := .long, accessFlags := 26, slot := 0, constantValue := 0 }, { name := "DEFAULT_CAPACITY", type := .int, accessFlags := 26, slot := 1, constantValue := 0 }, { name := "EMPTY_ELEMENTDATA", type := (.array (.object "java/lang/Object")), accessFlags := 26, slot := 2, constantValue := 0 }, { name := "DEFAULTCAPACITY_EMPTY_ELEMENTDATA", type := (.array (.object "java/lang/Object")), accessFlags := 26, slot := 3, constantValue := 0 }, { name := "elementData", type := (.array (.object "java/lang/Object")), accessFlags := 128, slot := 1, constantValue := 0 }, { name := "size", type := .int, accessFlags := 2, slot := 2, constantValue := 0 }]
  methods := #[k15m0, k15m1, k15m2, k15m3, k15m4, k15m5]
  instanceTypes := #[.int, (.array (.object "java/lang/Object")), .int]
  staticTypes := #[.long, .int, (.array (.object "java/lang/Object")), (.array (.object "java/lang/Object"))]
  resolved := Array.replicate 509 none
  statics := some 1 }

def pool16 : Array CpInfo := pool [(1, .methodref 2 3), (0, .class_ 4), (0, .nameAndType 5 6), (0, u "java/lang/Object"), (0, u "<init>"), (0, u "()V"), (1, .class_ 10), (1, u "java/lang/Number"), (2, .class_ 14), (0, u "java/io/Serializable"), (0, u "serialVersionUID"), (0, u "J")] 20

def k16c0 : Code := { maxStack := 1, maxLocals := 1, code := jdk_18_method_1_code, exceptionTable := #[], attributes := #[] }
def k16m0 : Method := { name := "<init>", desc := "()V", sig := { parameters := [], returnType := none }, accessFlags := 1, code := some k16c0 }
/-- java/lang/Number -/
def k16 : Class := { plain "java/lang/Number" (some 0) with
  accessFlags := 1057
  interfaces := #[4]
  cf := some (fileOf pool16 8 #[] #[{ accessFlags := 1, nameIndex := 5, descriptorIndex := 6, attributes := #[] }] 1057 2 #[13] #[{ accessFlags := 26, nameIndex := 15, descriptorIndex := 16, attributes := #[] }])
  fields := #[{ name := "serialVersionUID", type := .long, accessFlags := 26, slot := 0, constantValue := 0 }]
  methods := #[k16m0]
  instanceTypes := #[]
  staticTypes := #[.long]
  resolved := Array.replicate 37 none
  statics := none }

def pool17 : Array CpInfo := pool [(1, .class_ 2), (0, u "java/lang/constant/ConstantDesc"), (0, .class_ 4), (0, u "java/lang/Object")] 32

/-- java/lang/constant/ConstantDesc -/
def k17 : Class := { plain "java/lang/constant/ConstantDesc" (some 0) with
  accessFlags := 1537
  interfaces := #[]
  cf := some (fileOf pool17 1 #[] #[] 1537 3 #[] #[])
  fields := #[]
  methods := #[]
  instanceTypes := #[]
  staticTypes := #[]
  resolved := Array.replicate 37 none
  statics := none }

def pool18 : Array CpInfo := pool [(1, .class_ 2), (0, u "java/lang/Integer"), (16, u "digits"), (0, u "[C"), (46, u "<init>"), (17, u "DigitOnes"), (0, u "[B"), (2, u "DigitTens"), (10, .nameAndType 67 101), (0, u "()V"), (85, u "valueOf"), (0, u "(I)Ljava/lang/Integer;"), (0, .class_ 190), (0, u "java/lang/Integer$IntegerCache"), (0, .fieldref 189 192), (0, .nameAndType 193 194), (0, u "high"), (0, u "I"), (0, .fieldref 189 196), (0, .nameAndType 197 198), (0, u "cache"), (0, u "[Ljava/lang/Integer;"), (0, .methodref 1 200), (0, .nameAndType 67 201), (0, u "(I)V"), (0, .methodref 203 100), (0, .class_ 204), (0, u "java/lang/Number"), (0, .fieldref 1 206), (0, .nameAndType 207 194), (0, u "value"), (94, u "TYPE"), (0, u "Ljava/lang/Class;"), (0, .class_ 305), (0, u "java/lang/Comparable"), (0, .class_ 307), (0, u "java/lang/constant/Constable"), (0, .class_ 309), (0, u "java/lang/constant/ConstantDesc"), (0, u "MIN_VALUE"), (1, u "MAX_VALUE"), (3, u "SIZE"), (1, u "BYTES"), (1, u "serialVersionUID"), (0, u "J")] 131

def k18c0 : Code := { maxStack := 3, maxLocals := 1, code := jdk_33_method_22_code, exceptionTable := #[], attributes := #[] }
def k18m0 : Method := { name := "valueOf", desc := "(I)Ljava/lang/Integer;", sig := { parameters := [.int], returnType := some (.object "java/lang/Integer") }, accessFlags := 9, code := some k18c0 }
def k18c1 : Code := { maxStack := 2, maxLocals := 2, code := jdk_33_method_23_code, exceptionTable := #[], attributes := #[] }
def k18m1 : Method := { name := "<init>", desc := "(I)V", sig := { parameters := [.int], returnType := none }, accessFlags := 1, code := some k18c1 }
/-- java/lang/Integer -/
def k18 : Class := { plain "java/lang/Integer" (some 16) with
  accessFlags := 49
  interfaces := #[3, 2, 17]
  cf := some (fileOf pool18 1 #[.nestMembers #[189]] #[{ accessFlags := 9, nameIndex := 187, descriptorIndex := 188, attributes := #[] }, { accessFlags := 1, nameIndex := 67, descriptorIndex := 201, attributes := #[] }] 49 203 #[304, 306, 308] #[{ accessFlags := 25, nameIndex := 310, descriptorIndex := 194, attributes := #[] }, { accessFlags := 25, nameIndex := 312, descriptorIndex := 194, attributes := #[] }, { accessFlags := 25, nameIndex := 302, descriptorIndex := 303, attributes := #[] }, { accessFlags := 24, nameIndex := 19, descriptorIndex := 20, attributes := #[] }, { accessFlags := 24, nameIndex := 89, descriptorIndex := 86, attributes := #[] }, { accessFlags := 24, nameIndex := 85, descriptorIndex := 86, attributes := #[] }, { accessFlags := 18, nameIndex := 207, descriptorIndex := 194, attributes := #[] }, { accessFlags := 25, nameIndex := 316, descriptorIndex := 194, attributes := #[] }, { accessFlags := 25, nameIndex := 318, descriptorIndex := 194, attributes := #[] }, { accessFlags := 26, nameIndex := 320, descriptorIndex := 321, attributes := #[] }])
  fields := #[{ name := "MIN_VALUE", type := .int, accessFlags := 25, slot := 0, constantValue := 0 }, { name := "MAX_VALUE", type := .int, accessFlags := 25, slot := 1, constantValue := 0 }, { name := "TYPE", type := (.object "java/lang/Class"), accessFlags := 25, slot := 2, constantValue := 0 }, { name := "digits", type := (.array .char), accessFlags := 24, slot := 3, constantValue := 0 }, { name := "DigitTens", type := (.array .byte), accessFlags := 24, slot := 4, constantValue := 0 }, { name := "DigitOnes", type := (.array .byte), accessFlags := 24, slot := 5, constantValue := 0 }, { name := "value", type := .int, accessFlags := 18, slot := 0, constantValue := 0 }, { name := "SIZE", type := .int, accessFlags := 25, slot := 6, constantValue := 0 }, { name := "BYTES", type := .int, accessFlags := 25, slot := 7, constantValue := 0 }, { name := "serialVersionUID", type := .long, accessFlags := 26, slot := 8, constantValue := 0 }]
  methods := #[k18m0, k18m1]
  instanceTypes := #[.int]
  staticTypes := #[.int, .int, (.object "java/lang/Class"), (.array .char), (.array .byte), (.array .byte), .int, .int, .long]
  resolved := Array.replicate 453 none
  statics := none }

def pool19 : Array CpInfo := pool [(1, .class_ 2), (0, u "java/lang/Math"), (1, .class_ 6), (1, u "java/lang/Object"), (0, u "<init>"), (0, u "()V"), (89, .class_ 100), (1, u "java/lang/Math$RandomNumberGeneratorHolder"), (71, u "negativeZeroFloatBits"), (0, u "J"), (2, u "negativeZeroDoubleBits"), (21, u "max"), (46, u "$assertionsDisabled"), (0, u "Z"), (88, u "(II)I"), (2, u "twoToTheDoubleScaleDown"), (0, u "D"), (4, u "twoToTheDoubleScaleUp"), (9, u "E"), (3, u "PI"), (2, u "TAU"), (2, u "DEGREES_TO_RADIANS"), (0, u "RADIANS_TO_DEGREES")] 94

def k19m0 : Method := { name := "<init>", desc := "()V", sig := { parameters := [], returnType := none }, accessFlags := 2, code := none }
def k19c1 : Code := { maxStack := 2, maxLocals := 2, code := jdk_29_method_65_code, exceptionTable := #[], attributes := #[] }
def k19m1 : Method := { name := "max", desc := "(II)I", sig := { parameters := [.int, .int], returnType := some .int }, accessFlags := 9, code := some k19c1 }
/-- java/lang/Math -/
def k19 : Class := { plain "java/lang/Math" (some 0) with
  accessFlags := 49
  interfaces := #[]
  cf := some (fileOf pool19 1 #[.nestMembers #[98]] #[{ accessFlags := 2, nameIndex := 7, descriptorIndex := 8, attributes := #[] }, { accessFlags := 9, nameIndex := 198, descriptorIndex := 335, attributes := #[] }] 49 4 #[] #[{ accessFlags := 25, nameIndex := 354, descriptorIndex := 339, attributes := #[] }, { accessFlags := 25, nameIndex := 358, descriptorIndex := 339, attributes := #[] }, { accessFlags := 25, nameIndex := 361, descriptorIndex := 339, attributes := #[] }, { accessFlags := 26, nameIndex := 364, descriptorIndex := 339, attributes := #[] }, { accessFlags := 26, nameIndex := 365, descriptorIndex := 339, attributes := #[] }, { accessFlags := 26, nameIndex := 172, descriptorIndex := 173, attributes := #[] }, { accessFlags := 26, nameIndex := 176, descriptorIndex := 173, attributes := #[] }, { accessFlags := 8, nameIndex := 344, descriptorIndex := 339, attributes := #[] }, { accessFlags := 8, nameIndex := 338, descriptorIndex := 339, attributes := #[] }, { accessFlags := 4120, nameIndex := 245, descriptorIndex := 246, attributes := #[] }])
  fields := #[{ name := "E", type := .double, accessFlags := 25, slot := 0, constantValue := 0 }, { name := "PI", type := .double, accessFlags := 25, slot := 1, constantValue := 0 }, { name := "TAU", type := .double, accessFlags := 25, slot := 2, constantValue := 0 }, { name := "DEGREES_TO_RADIANS", type := .double, accessFlags := 26, slot := 3, constantValue := 0 }, { name := "RADIANS_TO_DEGREES", type := .double, accessFlags := 26, slot := 4, constantValue := 0 }, { name := "negativeZeroFloatBits", type := .long, accessFlags := 26, slot := 5, constantValue := 0 }, { name := "negativeZeroDoubleBits", type := .long, accessFlags := 26, slot := 6, constantValue := 0 }, { name := "twoToTheDoubleScaleUp", type := .double, accessFlags := 8, slot := 7, constantValue := 0 }, { name := "twoToTheDoubleScaleDown", type := .double, accessFlags := 8, slot := 8, constantValue := 0 }, { name := "$assertionsDisabled", type := .boolean, accessFlags := 4120, slot := 9, constantValue := 0 }]
  methods := #[k19m0, k19m1]
  instanceTypes := #[]
  staticTypes := #[.double, .double, .double, .double, .double, .long, .long, .double, .double, .boolean]
  resolved := Array.replicate 460 none
  statics := none }

def pool20 : Array CpInfo := pool [(2, .class_ 4), (1, u "java/lang/Object"), (0, u "<init>"), (0, u "()V"), (0, .class_ 8), (0, u "java/lang/Integer"), (7, .class_ 18), (1, u "java/lang/Integer$IntegerCache"), (0, u "$assertionsDisabled"), (0, u "Z"), (26, u "high"), (0, u "I"), (8, u "archivedCache"), (0, u "[Ljava/lang/Integer;"), (12, u "cache"), (0, u "low")] 27

def k20m0 : Method := { name := "<init>", desc := "()V", sig := { parameters := [], returnType := none }, accessFlags := 2, code := none }
/-- java/lang/Integer$IntegerCache -/
def k20 : Class := { plain "java/lang/Integer$IntegerCache" (some 0) with
  accessFlags := 48
  interfaces := #[]
  cf := some (fileOf pool20 16 #[.nestHost 7] #[{ accessFlags := 2, nameIndex := 5, descriptorIndex := 6, attributes := #[] }] 48 2 #[] #[{ accessFlags := 24, nameIndex := 72, descriptorIndex := 48, attributes := #[] }, { accessFlags := 24, nameIndex := 47, descriptorIndex := 48, attributes := #[] }, { accessFlags := 24, nameIndex := 71, descriptorIndex := 58, attributes := #[] }, { accessFlags := 8, nameIndex := 57, descriptorIndex := 58, attributes := #[] }, { accessFlags := 4120, nameIndex := 19, descriptorIndex := 20, attributes := #[] }])
  fields := #[{ name := "low", type := .int, accessFlags := 24, slot := 0, constantValue := 0 }, { name := "high", type := .int, accessFlags := 24, slot := 1, constantValue := 0 }, { name := "cache", type := (.array (.object "java/lang/Integer")), accessFlags := 24, slot := 2, constantValue := 0 }, { name := "archivedCache", type := (.array (.object "java/lang/Integer")), accessFlags := 8, slot := 3, constantValue := 0 }, { name := "$assertionsDisabled", type := .boolean, accessFlags := 4120, slot := 4, constantValue := 0 }]
  methods := #[k20m0]
  instanceTypes := #[]
  staticTypes := #[.int, .int, (.array (.object "java/lang/Integer")), (.array (.object "java/lang/Integer")), .boolean]
  resolved := Array.replicate 100 none
  statics := some 2 }

def pool21 : Array CpInfo := pool [(1, .methodref 2 3), (0, .class_ 4), (0, .nameAndType 5 6), (0, u "java/lang/Object"), (0, u "<init>"), (0, u "()V"), (0, .fieldref 8 9), (0, .class_ 10), (0, .nameAndType 11 12), (0, u "com/example/tagwright/tagwright/universal/BitString"), (0, u "unusedBits"), (0, u "I"), (0, .fieldref 8 14), (0, .nameAndType 15 16), (0, u "octets"), (0, u "[B"), (0, .methodref 8 18), (0, .nameAndType 19 20), (0, u "fault"), (0, u "(II)Ljava/lang/String;"), (5, .methodref 27 28), (0, .class_ 16), (0, .nameAndType 29 30), (0, u "clone"), (0, u "()Ljava/lang/Object;"), (0, .methodref 8 32), (0, .nameAndType 5 33), (0, u "(I[B)V"), (21, .long 8), (21, u "of"), (0, u "([BI)Lcom/example/tagwright/tagwright/universal/BitString;"), (9, u "getLength"), (0, u "()J")] 21

def k21c0 : Code := { maxStack := 2, maxLocals := 3, code := prog_42_method_1_code, exceptionTable := #[], attributes := #[] }
def k21m0 : Method := { name := "<init>", desc := "(I[B)V", sig := { parameters := [.int, (.array .byte)], returnType := none }, accessFlags := 2, code := some k21c0 }
def k21c1 : Code := { maxStack := 4, maxLocals := 3, code := prog_42_method_2_code, exceptionTable := #[], attributes := #[] }
def k21m1 : Method := { name := "of", desc := "([BI)Lcom/example/tagwright/tagwright/universal/BitString;", sig := { parameters := [(.array .byte), .int], returnType := some (.object "com/example/tagwright/tagwright/universal/BitString") }, accessFlags := 9, code := some k21c1 }
def k21c2 : Code := { maxStack := 4, maxLocals := 1, code := prog_42_method_6_code, exceptionTable := #[], attributes := #[] }
def k21m2 : Method := { name := "getLength", desc := "()J", sig := { parameters := [], returnType := some .long }, accessFlags := 1, code := some k21c2 }
def k21c3 : Code := { maxStack := 2, maxLocals := 3, code := prog_42_method_10_code, exceptionTable := #[], attributes := #[] }
def k21m3 : Method := { name := "fault", desc := "(II)Ljava/lang/String;", sig := { parameters := [.int, .int], returnType := some (.object "java/lang/String") }, accessFlags := 10, code := some k21c3 }
/-- com/example/tagwright/tagwright/universal/BitString -/
def k21 : Class := { plain "com/example/tagwright/tagwright/universal/BitString" (some 0) with
  accessFlags := 49
  interfaces := #[]
  cf := some (fileOf pool21 8 #[] #[{ accessFlags := 2, nameIndex := 5, descriptorIndex := 33, attributes := #[] }, { accessFlags := 9, nameIndex := 77, descriptorIndex := 78, attributes := #[] }, { accessFlags := 1, nameIndex := 88, descriptorIndex := 89, attributes := #[] }, { accessFlags := 10, nameIndex := 19, descriptorIndex := 20, attributes := #[] }] 49 2 #[] #[{ accessFlags := 18, nameIndex := 11, descriptorIndex := 12, attributes := #[] }, { accessFlags := 18, nameIndex := 15, descriptorIndex := 16, attributes := #[] }])
  fields := #[{ name := "unusedBits", type := .int, accessFlags := 18, slot := 0, constantValue := 0 }, { name := "octets", type := (.array .byte), accessFlags := 18, slot := 1, constantValue := 0 }]
  methods := #[k21m0, k21m1, k21m2, k21m3]
  instanceTypes := #[.int, (.array .byte)]
  staticTypes := #[]
  resolved := Array.replicate 111 none
  statics := none }

def pool22 : Array CpInfo := pool [(2, .class_ 4), (1, u "java/lang/CharSequence"), (42, .class_ 48), (0, u "java/lang/CharSequence$1CodePointIterator"), (10, .class_ 60), (0, u "java/lang/CharSequence$1CharIterator"), (5, .class_ 67), (0, u "java/lang/Object")] 63

/-- java/lang/CharSequence -/
def k22 : Class := { plain "java/lang/CharSequence" (some 0) with
  accessFlags := 1537
  interfaces := #[]
  cf := some (fileOf pool22 2 #[.nestMembers #[47, 59]] #[] 1537 66 #[] #[])
  fields := #[]
  methods := #[]
  instanceTypes := #[]
  staticTypes := #[]
  resolved := Array.replicate 131 none
  statics := none }

def pool23 : Array CpInfo := pool [(1, .methodref 2 3), (0, .class_ 4), (0, .nameAndType 5 6), (0, u "java/lang/Object"), (0, u "<init>"), (0, u "()V"), (2, .fieldref 10 11), (0, .class_ 12), (0, .nameAndType 13 14), (0, u "java/lang/String"), (0, u "value"), (0, u "[B"), (0, .fieldref 10 16), (0, .nameAndType 17 18), (0, u "coder"), (0, u "B"), (2, u "hash"), (0, u "I"), (2, u "hashIsZero"), (0, u "Z"), (0, .methodref 10 28), (0, .nameAndType 5 29), (0, u "([CIILjava/lang/Void;)V"), (7, u "(III)I"), (0, .fieldref 10 39), (0, .nameAndType 40 26), (0, u "COMPACT_STRINGS"), (1, .class_ 44), (1, u "java/lang/StringUTF16"), (0, u "compress"), (1, .methodref 42 48), (0, .nameAndType 49 50), (0, u "coderFromArrayLen"), (0, u "([BI)B"), (2, u "toBytes"), (25, .class_ 81), (1, u "java/util/Objects"), (25, .class_ 109), (1, u "java/lang/StringLatin1"), (32, u "()Z"), (34, .methodref 42 178), (0, .nameAndType 45 179), (0, u "([CII)[B"), (29, .methodref 10 210), (0, .nameAndType 5 211), (0, u "([BB)V"), (122, u "()I"), (0, .methodref 10 336), (0, .nameAndType 17 337), (0, u "()B"), (31, u "(C)Z"), (122, .methodref 10 493), (0, .nameAndType 494 142), (0, u "isLatin1"), (10, .methodref 10 506), (0, .nameAndType 507 334), (0, u "length"), (3, .methodref 79 512), (0, .nameAndType 513 37), (0, u "checkFromToIndex"), (2, u "codePointCount"), (58, .class_ 576), (0, u "java/lang/CharSequence"), (22, u "CASE_INSENSITIVE_ORDER"), (0, u "Ljava/util/Comparator;"), (35, u "(II)I"), (145, u "valueOf"), (0, u "(C)Ljava/lang/String;"), (226, u "([C)V"), (4, .methodref 107 1016), (0, .nameAndType 1017 369), (0, u "canEncode"), (0, .methodref 107 1019), (0, .nameAndType 53 1020), (0, u "(C)[B"), (80, u "serialPersistentFields"), (0, u "[Ljava/io/ObjectStreamField;"), (0, .class_ 1104), (0, u "java/lang/String$CaseInsensitiveComparator"), (1, .class_ 1107), (0, u "java/io/Serializable"), (0, .class_ 1109), (0, u "java/lang/Comparable"), (0, .class_ 1111), (0, u "java/lang/constant/Constable"), (0, .class_ 1113), (0, u "java/lang/constant/ConstantDesc"), (2, u "serialVersionUID"), (0, u "J"), (3, u "REPL"), (0, u "C"), (2, u "LATIN1"), (1, u "UTF16")] 323

def k23m0 : Method := { name := "<init>", desc := "()V", sig := { parameters := [], returnType := none }, accessFlags := 1, code := none }
def k23c1 : Code := { maxStack := 5, maxLocals := 2, code := jdk_42_method_3_code, exceptionTable := #[], attributes := #[] }
def k23m1 : Method := { name := "<init>", desc := "([C)V", sig := { parameters := [(.array .char)], returnType := none }, accessFlags := 1, code := some k23c1 }
def k23c2 : Code := { maxStack := 2, maxLocals := 1, code := jdk_42_method_54_code, exceptionTable := #[], attributes := #[] }
def k23m2 : Method := { name := "length", desc := "()I", sig := { parameters := [], returnType := some .int }, accessFlags := 1, code := some k23c2 }
def k23c3 : Code := { maxStack := 3, maxLocals := 3, code := jdk_42_method_59_code, exceptionTable := #[], attributes := #[] }
def k23m3 : Method := { name := "codePointCount", desc := "(II)I", sig := { parameters := [.int, .int], returnType := some .int }, accessFlags := 1, code := some k23c3 }
def k23c4 : Code := { maxStack := 4, maxLocals := 1, code := jdk_42_method_139_code, exceptionTable := #[], attributes := #[] }
def k23m4 : Method := { name := "valueOf", desc := "(C)Ljava/lang/String;", sig := { parameters := [.char], returnType := some (.object "java/lang/String") }, accessFlags := 9, code := some k23c4 }
def k23c5 : Code := { maxStack := 4, maxLocals := 6, code := jdk_42_method_149_code, exceptionTable := #[], attributes := #[] }
def k23m5 : Method := { name := "<init>", desc := "([CIILjava/lang/Void;)V", sig := { parameters := [(.array .char), .int, .int, (.object "java/lang/Void")], returnType := none }, accessFlags := 2, code := some k23c5 }
def k23c6 : Code := { maxStack := 2, maxLocals := 3, code := jdk_42_method_151_code, exceptionTable := #[], attributes := #[] }
def k23m6 : Method := { name := "<init>", desc := "([BB)V", sig := { parameters := [(.array .byte), .byte], returnType := none }, accessFlags := 0, code := some k23c6 }
def k23c7 : Code := { maxStack := 1, maxLocals := 1, code := jdk_42_method_152_code, exceptionTable := #[], attributes := #[] }
def k23m7 : Method := { name := "coder", desc := "()B", sig := { parameters := [], returnType := some .byte }, accessFlags := 0, code := some k23c7 }
def k23c8 : Code := { maxStack := 1, maxLocals := 1, code := jdk_42_method_154_code, exceptionTable := #[], attributes := #[] }
def k23m8 : Method := { name := "isLatin1", desc := "()Z", sig := { parameters := [], returnType := some .boolean }, accessFlags := 0, code := some k23c8 }
/-- java/lang/String -/
def k23 : Class := { plain "java/lang/String" (some 0) with
  accessFlags := 49
  interfaces := #[4, 3, 22, 2, 17]
  cf := some (fileOf pool23 10 #[.nestMembers #[1103]] #[{ accessFlags := 1, nameIndex := 5, descriptorIndex := 6, attributes := #[] }, { accessFlags := 1, nameIndex := 5, descriptorIndex := 1010, attributes := #[] }, { accessFlags := 1, nameIndex := 507, descriptorIndex := 334, attributes := #[] }, { accessFlags := 1, nameIndex := 516, descriptorIndex := 636, attributes := #[] }, { accessFlags := 9, nameIndex := 782, descriptorIndex := 783, attributes := #[] }, { accessFlags := 2, nameIndex := 5, descriptorIndex := 29, attributes := #[] }, { accessFlags := 0, nameIndex := 5, descriptorIndex := 211, attributes := #[] }, { accessFlags := 0, nameIndex := 17, descriptorIndex := 337, attributes := #[] }, { accessFlags := 0, nameIndex := 494, descriptorIndex := 142, attributes := #[] }] 49 2 #[1106, 1108, 575, 1110, 1112] #[{ accessFlags := 18, nameIndex := 13, descriptorIndex := 14, attributes := #[] }, { accessFlags := 18, nameIndex := 17, descriptorIndex := 18, attributes := #[] }, { accessFlags := 2, nameIndex := 21, descriptorIndex := 22, attributes := #[] }, { accessFlags := 2, nameIndex := 25, descriptorIndex := 26, attributes := #[] }, { accessFlags := 26, nameIndex := 1116, descriptorIndex := 1117, attributes := #[] }, { accessFlags := 24, nameIndex := 40, descriptorIndex := 26, attributes := #[] }, { accessFlags := 26, nameIndex := 1101, descriptorIndex := 1102, attributes := #[] }, { accessFlags := 26, nameIndex := 1121, descriptorIndex := 1122, attributes := #[] }, { accessFlags := 25, nameIndex := 599, descriptorIndex := 600, attributes := #[] }, { accessFlags := 24, nameIndex := 1125, descriptorIndex := 18, attributes := #[] }, { accessFlags := 24, nameIndex := 1127, descriptorIndex := 18, attributes := #[] }])
  fields := #[{ name := "value", type := (.array .byte), accessFlags := 18, slot := 0, constantValue := 0 }, { name := "coder", type := .byte, accessFlags := 18, slot := 1, constantValue := 0 }, { name := "hash", type := .int, accessFlags := 2, slot := 2, constantValue := 0 }, { name := "hashIsZero", type := .boolean, accessFlags := 2, slot := 3, constantValue := 0 }, { name := "serialVersionUID", type := .long, accessFlags := 26, slot := 0, constantValue := 0 }, { name := "COMPACT_STRINGS", type := .boolean, accessFlags := 24, slot := 1, constantValue := 0 }, { name := "serialPersistentFields", type := (.array (.object "java/io/ObjectStreamField")), accessFlags := 26, slot := 2, constantValue := 0 }, { name := "REPL", type := .char, accessFlags := 26, slot := 3, constantValue := 0 }, { name := "CASE_INSENSITIVE_ORDER", type := (.object "java/util/Comparator"), accessFlags := 25, slot := 4, constantValue := 0 }, { name := "LATIN1", type := .byte, accessFlags := 24, slot := 5, constantValue := 0 }, { name := "UTF16", type := .byte, accessFlags := 24, slot := 6, constantValue := 0 }]
  methods := #[k23m0, k23m1, k23m2, k23m3, k23m4, k23m5, k23m6, k23m7, k23m8]
  instanceTypes := #[(.array .byte), .byte, .int, .boolean]
  staticTypes := #[.long, .boolean, (.array (.object "java/io/ObjectStreamField")), .char, (.object "java/util/Comparator"), .byte, .byte]
  resolved := Array.replicate 1451 none
  statics := some 3 }

def pool24 : Array CpInfo := pool [(6, .class_ 8), (1, u "java/lang/Object"), (0, u "<init>"), (0, u "()V"), (1, .class_ 14), (1, u "java/lang/StringUTF16"), (31, u "$assertionsDisabled"), (0, u "Z"), (13, u "HI_BYTE_SHIFT"), (0, u "I"), (2, u "LO_BYTE_SHIFT"), (49, .methodref 12 116), (0, .nameAndType 117 118), (0, u "compress"), (0, u "([CI[BII)I"), (3, u "([CII)[B"), (138, u "coderFromArrayLen"), (0, u "([BI)B"), (106, .class_ 371), (1, u "java/lang/StringUTF16$LinesSpliterator"), (58, u "MAX_LENGTH"), (196, .class_ 628), (0, u "java/lang/StringUTF16$CodePointsSpliterator"), (0, .class_ 630), (0, u "java/lang/StringUTF16$CharsSpliterator")] 4

def k24m0 : Method := { name := "<init>", desc := "()V", sig := { parameters := [], returnType := none }, accessFlags := 0, code := none }
def k24c1 : Code := { maxStack := 2, maxLocals := 2, code := jdk_52_method_15_code, exceptionTable := #[], attributes := #[] }
def k24m1 : Method := { name := "coderFromArrayLen", desc := "([BI)B", sig := { parameters := [(.array .byte), .int], returnType := some .byte }, accessFlags := 8, code := some k24c1 }
def k24c2 : Code := { maxStack := 5, maxLocals := 6, code := jdk_52_method_16_code, exceptionTable := #[], attributes := #[] }
def k24m2 : Method := { name := "compress", desc := "([CII)[B", sig := { parameters := [(.array .char), .int, .int], returnType := some (.array .byte) }, accessFlags := 9, code := some k24c2 }
def k24c3 : Code := { maxStack := 3, maxLocals := 7, code := jdk_52_method_21_code, exceptionTable := #[], attributes := #[] }
def k24m3 : Method := { name := "compress", desc := "([CI[BII)I", sig := { parameters := [(.array .char), .int, (.array .byte), .int, .int], returnType := some .int }, accessFlags := 9, code := some k24c3 }
/-- java/lang/StringUTF16 -/
def k24 : Class := { plain "java/lang/StringUTF16" (some 0) with
  accessFlags := 48
  interfaces := #[]
  cf := some (fileOf pool24 12 #[.nestMembers #[627, 629, 369]] #[{ accessFlags := 0, nameIndex := 9, descriptorIndex := 10, attributes := #[] }, { accessFlags := 8, nameIndex := 261, descriptorIndex := 262, attributes := #[] }, { accessFlags := 9, nameIndex := 117, descriptorIndex := 122, attributes := #[] }, { accessFlags := 9, nameIndex := 117, descriptorIndex := 118, attributes := #[] }] 48 6 #[] #[{ accessFlags := 26, nameIndex := 61, descriptorIndex := 62, attributes := #[] }, { accessFlags := 26, nameIndex := 65, descriptorIndex := 62, attributes := #[] }, { accessFlags := 24, nameIndex := 430, descriptorIndex := 62, attributes := #[] }, { accessFlags := 4120, nameIndex := 46, descriptorIndex := 47, attributes := #[] }])
  fields := #[{ name := "HI_BYTE_SHIFT", type := .int, accessFlags := 26, slot := 0, constantValue := 0 }, { name := "LO_BYTE_SHIFT", type := .int, accessFlags := 26, slot := 1, constantValue := 0 }, { name := "MAX_LENGTH", type := .int, accessFlags := 24, slot := 2, constantValue := 0 }, { name := "$assertionsDisabled", type := .boolean, accessFlags := 4120, slot := 3, constantValue := 0 }]
  methods := #[k24m0, k24m1, k24m2, k24m3]
  instanceTypes := #[]
  staticTypes := #[.int, .int, .int, .boolean]
  resolved := Array.replicate 635 none
  statics := none }

def pool25 : Array CpInfo := pool [(2, .class_ 4), (1, u "java/lang/Object"), (0, u "<init>"), (0, u "()V"), (35, .class_ 44), (1, u "java/util/Objects"), (61, .class_ 108), (1, u "jdk/internal/util/Preconditions"), (2, .methodref 106 112), (0, .nameAndType 113 114), (0, u "checkFromToIndex"), (0, u "(IIILjava/util/function/BiFunction;)I"), (60, u "(III)I")] 8

def k25m0 : Method := { name := "<init>", desc := "()V", sig := { parameters := [], returnType := none }, accessFlags := 2, code := none }
def k25c1 : Code := { maxStack := 4, maxLocals := 3, code := jdk_31_method_18_code, exceptionTable := #[], attributes := #[] }
def k25m1 : Method := { name := "checkFromToIndex", desc := "(III)I", sig := { parameters := [.int, .int, .int], returnType := some .int }, accessFlags := 9, code := some k25c1 }
/-- java/util/Objects -/
def k25 : Class := { plain "java/util/Objects" (some 0) with
  accessFlags := 49
  interfaces := #[]
  cf := some (fileOf pool25 42 #[] #[{ accessFlags := 2, nameIndex := 5, descriptorIndex := 6, attributes := #[] }, { accessFlags := 9, nameIndex := 113, descriptorIndex := 175, attributes := #[] }] 49 2 #[] #[])
  fields := #[]
  methods := #[k25m0, k25m1]
  instanceTypes := #[]
  staticTypes := #[]
  resolved := Array.replicate 184 none
  statics := none }

def pool26 : Array CpInfo := pool [(2, .class_ 4), (1, u "java/lang/Object"), (0, u "<init>"), (0, u "()V"), (17, .class_ 26), (1, u "jdk/internal/util/Preconditions"), (20, u "checkFromToIndex"), (7, .class_ 56), (0, u "jdk/internal/util/Preconditions$4"), (57, .class_ 115), (0, u "jdk/internal/util/Preconditions$1"), (7, u "SIOOBE_FORMATTER"), (0, u "Ljava/util/function/BiFunction;"), (0, .class_ 126), (0, u "jdk/internal/util/Preconditions$2"), (3, u "AIOOBE_FORMATTER"), (0, .class_ 132), (0, u "jdk/internal/util/Preconditions$3"), (3, u "IOOBE_FORMATTER"), (46, u "(IIILjava/util/function/BiFunction;)I")] 10

def k26m0 : Method := { name := "<init>", desc := "()V", sig := { parameters := [], returnType := none }, accessFlags := 1, code := none }
def k26c1 : Code := { maxStack := 4, maxLocals := 4, code := jdk_41_method_12_code, exceptionTable := #[], attributes := #[] }
def k26m1 : Method := { name := "checkFromToIndex", desc := "(IIILjava/util/function/BiFunction;)I", sig := { parameters := [.int, .int, .int, (.object "java/util/function/BiFunction")], returnType := some .int }, accessFlags := 9, code := some k26c1 }
/-- jdk/internal/util/Preconditions -/
def k26 : Class := { plain "jdk/internal/util/Preconditions" (some 0) with
  accessFlags := 33
  interfaces := #[]
  cf := some (fileOf pool26 24 #[.nestMembers #[55, 131, 125, 114]] #[{ accessFlags := 1, nameIndex := 5, descriptorIndex := 6, attributes := #[] }, { accessFlags := 9, nameIndex := 47, descriptorIndex := 183, attributes := #[] }] 33 2 #[] #[{ accessFlags := 25, nameIndex := 123, descriptorIndex := 124, attributes := #[] }, { accessFlags := 25, nameIndex := 130, descriptorIndex := 124, attributes := #[] }, { accessFlags := 25, nameIndex := 136, descriptorIndex := 124, attributes := #[] }])
  fields := #[{ name := "SIOOBE_FORMATTER", type := (.object "java/util/function/BiFunction"), accessFlags := 25, slot := 0, constantValue := 0 }, { name := "AIOOBE_FORMATTER", type := (.object "java/util/function/BiFunction"), accessFlags := 25, slot := 1, constantValue := 0 }, { name := "IOOBE_FORMATTER", type := (.object "java/util/function/BiFunction"), accessFlags := 25, slot := 2, constantValue := 0 }]
  methods := #[k26m0, k26m1]
  instanceTypes := #[]
  staticTypes := #[(.object "java/util/function/BiFunction"), (.object "java/util/function/BiFunction"), (.object "java/util/function/BiFunction")]
  resolved := Array.replicate 194 none
  statics := some 4 }

def pool27 : Array CpInfo := pool [(4, .class_ 6), (1, u "java/lang/Object"), (0, u "<init>"), (0, u "()V"), (5, .class_ 16), (1, u "java/lang/StringLatin1"), (73, u "canEncode"), (14, u "(C)Z"), (15, u "$assertionsDisabled"), (0, u "Z"), (98, .class_ 223), (1, u "java/lang/StringLatin1$LinesSpliterator"), (156, u "toBytes"), (1, u "(C)[B"), (7, .class_ 391), (0, u "java/lang/StringLatin1$CharsSpliterator")] 3

def k27m0 : Method := { name := "<init>", desc := "()V", sig := { parameters := [], returnType := none }, accessFlags := 0, code := none }
def k27c1 : Code := { maxStack := 2, maxLocals := 1, code := jdk_43_method_3_code, exceptionTable := #[], attributes := #[] }
def k27m1 : Method := { name := "canEncode", desc := "(C)Z", sig := { parameters := [.char], returnType := some .boolean }, accessFlags := 9, code := some k27c1 }
def k27c2 : Code := { maxStack := 4, maxLocals := 1, code := jdk_43_method_46_code, exceptionTable := #[], attributes := #[] }
def k27m2 : Method := { name := "toBytes", desc := "(C)[B", sig := { parameters := [.char], returnType := some (.array .byte) }, accessFlags := 9, code := some k27c2 }
/-- java/lang/StringLatin1 -/
def k27 : Class := { plain "java/lang/StringLatin1" (some 0) with
  accessFlags := 48
  interfaces := #[]
  cf := some (fileOf pool27 14 #[.nestMembers #[390, 221]] #[{ accessFlags := 0, nameIndex := 7, descriptorIndex := 8, attributes := #[] }, { accessFlags := 9, nameIndex := 90, descriptorIndex := 105, attributes := #[] }, { accessFlags := 9, nameIndex := 380, descriptorIndex := 382, attributes := #[] }] 48 4 #[] #[{ accessFlags := 4120, nameIndex := 121, descriptorIndex := 122, attributes := #[] }])
  fields := #[{ name := "$assertionsDisabled", type := .boolean, accessFlags := 4120, slot := 0, constantValue := 0 }]
  methods := #[k27m0, k27m1, k27m2]
  instanceTypes := #[]
  staticTypes := #[.boolean]
  resolved := Array.replicate 395 none
  statics := none }

def pool28 : Array CpInfo := pool [(9, u "<init>"), (6, .class_ 18), (1, u "java/lang/Object"), (0, u "()V"), (1, .class_ 23), (1, u "jdk/internal/util/ArraysSupport"), (0, u "LOG2_ARRAY_LONG_INDEX_SCALE"), (0, u "I"), (2, u "U"), (0, u "Ljdk/internal/misc/Unsafe;"), (8, u "BIG_ENDIAN"), (0, u "Z"), (8, u "LOG2_BYTE_BIT_SIZE"), (4, u "LOG2_ARRAY_INT_INDEX_SCALE"), (54, u "JLA"), (0, u "Ljdk/internal/access/JavaLangAccess;"), (11, u "LOG2_ARRAY_BOOLEAN_INDEX_SCALE"), (9, u "LOG2_ARRAY_BYTE_INDEX_SCALE"), (5, u "LOG2_ARRAY_CHAR_INDEX_SCALE"), (5, u "LOG2_ARRAY_SHORT_INDEX_SCALE"), (18, u "LOG2_ARRAY_FLOAT_INDEX_SCALE"), (24, u "LOG2_ARRAY_DOUBLE_INDEX_SCALE"), (89, u "T_BOOLEAN"), (2, u "T_CHAR"), (1, u "T_FLOAT"), (1, u "T_DOUBLE"), (1, u "T_BYTE"), (1, u "T_SHORT"), (1, u "T_INT"), (1, u "T_LONG"), (1, u "SOFT_MAX_ARRAY_LENGTH")] 83

def k28m0 : Method := { name := "<init>", desc := "()V", sig := { parameters := [], returnType := none }, accessFlags := 2, code := none }
/-- jdk/internal/util/ArraysSupport -/
def k28 : Class := { plain "jdk/internal/util/ArraysSupport" (some 0) with
  accessFlags := 33
  interfaces := #[]
  cf := some (fileOf pool28 21 #[] #[{ accessFlags := 2, nameIndex := 9, descriptorIndex := 19, attributes := #[] }] 33 16 #[] #[{ accessFlags := 24, nameIndex := 28, descriptorIndex := 29, attributes := #[] }, { accessFlags := 26, nameIndex := 38, descriptorIndex := 39, attributes := #[] }, { accessFlags := 25, nameIndex := 121, descriptorIndex := 25, attributes := #[] }, { accessFlags := 25, nameIndex := 131, descriptorIndex := 25, attributes := #[] }, { accessFlags := 25, nameIndex := 137, descriptorIndex := 25, attributes := #[] }, { accessFlags := 25, nameIndex := 143, descriptorIndex := 25, attributes := #[] }, { accessFlags := 25, nameIndex := 53, descriptorIndex := 25, attributes := #[] }, { accessFlags := 25, nameIndex := 24, descriptorIndex := 25, attributes := #[] }, { accessFlags := 25, nameIndex := 162, descriptorIndex := 25, attributes := #[] }, { accessFlags := 25, nameIndex := 187, descriptorIndex := 25, attributes := #[] }, { accessFlags := 26, nameIndex := 48, descriptorIndex := 25, attributes := #[] }, { accessFlags := 25, nameIndex := 277, descriptorIndex := 25, attributes := #[] }, { accessFlags := 25, nameIndex := 280, descriptorIndex := 25, attributes := #[] }, { accessFlags := 25, nameIndex := 282, descriptorIndex := 25, attributes := #[] }, { accessFlags := 25, nameIndex := 284, descriptorIndex := 25, attributes := #[] }, { accessFlags := 25, nameIndex := 286, descriptorIndex := 25, attributes := #[] }, { accessFlags := 25, nameIndex := 288, descriptorIndex := 25, attributes := #[] }, { accessFlags := 25, nameIndex := 290, descriptorIndex := 25, attributes := #[] }, { accessFlags := 25, nameIndex := 292, descriptorIndex := 25, attributes := #[] }, { accessFlags := 26, nameIndex := 108, descriptorIndex := 109, attributes := #[] }, { accessFlags := 25, nameIndex := 294, descriptorIndex := 25, attributes := #[] }])
  fields := #[{ name := "U", type := (.object "jdk/internal/misc/Unsafe"), accessFlags := 24, slot := 0, constantValue := 0 }, { name := "BIG_ENDIAN", type := .boolean, accessFlags := 26, slot := 1, constantValue := 0 }, { name := "LOG2_ARRAY_BOOLEAN_INDEX_SCALE", type := .int, accessFlags := 25, slot := 2, constantValue := 0 }, { name := "LOG2_ARRAY_BYTE_INDEX_SCALE", type := .int, accessFlags := 25, slot := 3, constantValue := 0 }, { name := "LOG2_ARRAY_CHAR_INDEX_SCALE", type := .int, accessFlags := 25, slot := 4, constantValue := 0 }, { name := "LOG2_ARRAY_SHORT_INDEX_SCALE", type := .int, accessFlags := 25, slot := 5, constantValue := 0 }, { name := "LOG2_ARRAY_INT_INDEX_SCALE", type := .int, accessFlags := 25, slot := 6, constantValue := 0 }, { name := "LOG2_ARRAY_LONG_INDEX_SCALE", type := .int, accessFlags := 25, slot := 7, constantValue := 0 }, { name := "LOG2_ARRAY_FLOAT_INDEX_SCALE", type := .int, accessFlags := 25, slot := 8, constantValue := 0 }, { name := "LOG2_ARRAY_DOUBLE_INDEX_SCALE", type := .int, accessFlags := 25, slot := 9, constantValue := 0 }, { name := "LOG2_BYTE_BIT_SIZE", type := .int, accessFlags := 26, slot := 10, constantValue := 0 }, { name := "T_BOOLEAN", type := .int, accessFlags := 25, slot := 11, constantValue := 0 }, { name := "T_CHAR", type := .int, accessFlags := 25, slot := 12, constantValue := 0 }, { name := "T_FLOAT", type := .int, accessFlags := 25, slot := 13, constantValue := 0 }, { name := "T_DOUBLE", type := .int, accessFlags := 25, slot := 14, constantValue := 0 }, { name := "T_BYTE", type := .int, accessFlags := 25, slot := 15, constantValue := 0 }, { name := "T_SHORT", type := .int, accessFlags := 25, slot := 16, constantValue := 0 }, { name := "T_INT", type := .int, accessFlags := 25, slot := 17, constantValue := 0 }, { name := "T_LONG", type := .int, accessFlags := 25, slot := 18, constantValue := 0 }, { name := "JLA", type := (.object "jdk/internal/access/JavaLangAccess"), accessFlags := 26, slot := 19, constantValue := 0 }, { name := "SOFT_MAX_ARRAY_LENGTH", type := .int, accessFlags := 25, slot := 20, constantValue := 0 }]
  methods := #[k28m0]
  instanceTypes := #[]
  staticTypes := #[(.object "jdk/internal/misc/Unsafe"), .boolean, .int, .int, .int, .int, .int, .int, .int, .int, .int, .int, .int, .int, .int, .int, .int, .int, .int, (.object "jdk/internal/access/JavaLangAccess"), .int]
  resolved := Array.replicate 378 none
  statics := none }

/-- the primitive byte -/
def k29 : Class := { plain "byte" none with kind := .primitive 'B', accessFlags := 0x411 }
/-- [B -/
def k30 : Class := { plain "[B" (some 0) with kind := .array 29 .byte, interfaces := #[14, 4], accessFlags := 1041 }

/-- the primitive char -/
def k31 : Class := { plain "char" none with kind := .primitive 'C', accessFlags := 0x411 }
/-- [C -/
def k32 : Class := { plain "[C" (some 0) with kind := .array 31 .char, interfaces := #[14, 4], accessFlags := 1041 }

/-- the primitive int -/
def k33 : Class := { plain "int" none with kind := .primitive 'I', accessFlags := 0x411 }
/-- [I -/
def k34 : Class := { plain "[I" (some 0) with kind := .array 33 .int, interfaces := #[14, 4], accessFlags := 1041 }

/-- [Lcom/example/tagwright/tagwright/typed/Form; -/
def k35 : Class := { plain "[Lcom/example/tagwright/tagwright/typed/Form;" (some 0) with kind := .array 6 (.object "com/example/tagwright/tagwright/typed/Form"), interfaces := #[14, 4], accessFlags := 1041 }

/-- [Ljava/lang/Integer; -/
def k36 : Class := { plain "[Ljava/lang/Integer;" (some 0) with kind := .array 18 (.object "java/lang/Integer"), interfaces := #[14, 4], accessFlags := 1041 }

/-- [Ljava/lang/Object; -/
def k37 : Class := { plain "[Ljava/lang/Object;" (some 0) with kind := .array 0 (.object "java/lang/Object"), interfaces := #[14, 4], accessFlags := 1041 }

def heap : Heap := #[{ cls := 6, slots := #[.ref 262, .ref 263, .ref 264, .ref 265, .ref 266, .ref 267, .ref 268, .ref 269, .ref 270, .ref 271, .ref 272, .null], vm := .statics 6 },
  { cls := 15, slots := #[.long 0, .int 0, .ref 273, .ref 274], vm := .statics 15 },
  { cls := 20, slots := #[.int 0, .int 127, .ref 5, .null, .int 0], vm := .statics 20 },
  { cls := 23, slots := #[.long 0, .int 1, .null, .int 0, .null, .int 0, .int 0], vm := .statics 23 },
  { cls := 26, slots := #[.null, .null, .null], vm := .statics 26 },
  { cls := 36, slots := #[.ref 6, .ref 7, .ref 8, .ref 9, .ref 10, .ref 11, .ref 12, .ref 13, .ref 14, .ref 15, .ref 16, .ref 17, .ref 18, .ref 19, .ref 20, .ref 21, .ref 22, .ref 23, .ref 24, .ref 25, .ref 26, .ref 27, .ref 28, .ref 29, .ref 30, .ref 31, .ref 32, .ref 33, .ref 34, .ref 35, .ref 36, .ref 37, .ref 38, .ref 39, .ref 40, .ref 41, .ref 42, .ref 43, .ref 44, .ref 45, .ref 46, .ref 47, .ref 48, .ref 49, .ref 50, .ref 51, .ref 52, .ref 53, .ref 54, .ref 55, .ref 56, .ref 57, .ref 58, .ref 59, .ref 60, .ref 61, .ref 62, .ref 63, .ref 64, .ref 65, .ref 66, .ref 67, .ref 68, .ref 69, .ref 70, .ref 71, .ref 72, .ref 73, .ref 74, .ref 75, .ref 76, .ref 77, .ref 78, .ref 79, .ref 80, .ref 81, .ref 82, .ref 83, .ref 84, .ref 85, .ref 86, .ref 87, .ref 88, .ref 89, .ref 90, .ref 91, .ref 92, .ref 93, .ref 94, .ref 95, .ref 96, .ref 97, .ref 98, .ref 99, .ref 100, .ref 101, .ref 102, .ref 103, .ref 104, .ref 105, .ref 106, .ref 107, .ref 108, .ref 109, .ref 110, .ref 111, .ref 112, .ref 113, .ref 114, .ref 115, .ref 116, .ref 117, .ref 118, .ref 119, .ref 120, .ref 121, .ref 122, .ref 123, .ref 124, .ref 125, .ref 126, .ref 127, .ref 128, .ref 129, .ref 130, .ref 131, .ref 132, .ref 133, .ref 134, .ref 135, .ref 136, .ref 137, .ref 138, .ref 139, .ref 140, .ref 141, .ref 142, .ref 143, .ref 144, .ref 145, .ref 146, .ref 147, .ref 148, .ref 149, .ref 150, .ref 151, .ref 152, .ref 153, .ref 154, .ref 155, .ref 156, .ref 157, .ref 158, .ref 159, .ref 160, .ref 161, .ref 162, .ref 163, .ref 164, .ref 165, .ref 166, .ref 167, .ref 168, .ref 169, .ref 170, .ref 171, .ref 172, .ref 173, .ref 174, .ref 175, .ref 176, .ref 177, .ref 178, .ref 179, .ref 180, .ref 181, .ref 182, .ref 183, .ref 184, .ref 185, .ref 186, .ref 187, .ref 188, .ref 189, .ref 190, .ref 191, .ref 192, .ref 193, .ref 194, .ref 195, .ref 196, .ref 197, .ref 198, .ref 199, .ref 200, .ref 201, .ref 202, .ref 203, .ref 204, .ref 205, .ref 206, .ref 207, .ref 208, .ref 209, .ref 210, .ref 211, .ref 212, .ref 213, .ref 214, .ref 215, .ref 216, .ref 217, .ref 218, .ref 219, .ref 220, .ref 221, .ref 222, .ref 223, .ref 224, .ref 225, .ref 226, .ref 227, .ref 228, .ref 229, .ref 230, .ref 231, .ref 232, .ref 233, .ref 234, .ref 235, .ref 236, .ref 237, .ref 238, .ref 239, .ref 240, .ref 241, .ref 242, .ref 243, .ref 244, .ref 245, .ref 246, .ref 247, .ref 248, .ref 249, .ref 250, .ref 251, .ref 252, .ref 253, .ref 254, .ref 255, .ref 256, .ref 257, .ref 258, .ref 259, .ref 260, .ref 261], vm := .none },
  { cls := 18, slots := #[.int (-128)], vm := .none },
  { cls := 18, slots := #[.int (-127)], vm := .none },
  { cls := 18, slots := #[.int (-126)], vm := .none },
  { cls := 18, slots := #[.int (-125)], vm := .none },
  { cls := 18, slots := #[.int (-124)], vm := .none },
  { cls := 18, slots := #[.int (-123)], vm := .none },
  { cls := 18, slots := #[.int (-122)], vm := .none },
  { cls := 18, slots := #[.int (-121)], vm := .none },
  { cls := 18, slots := #[.int (-120)], vm := .none },
  { cls := 18, slots := #[.int (-119)], vm := .none },
  { cls := 18, slots := #[.int (-118)], vm := .none },
  { cls := 18, slots := #[.int (-117)], vm := .none },
  { cls := 18, slots := #[.int (-116)], vm := .none },
  { cls := 18, slots := #[.int (-115)], vm := .none },
  { cls := 18, slots := #[.int (-114)], vm := .none },
  { cls := 18, slots := #[.int (-113)], vm := .none },
  { cls := 18, slots := #[.int (-112)], vm := .none },
  { cls := 18, slots := #[.int (-111)], vm := .none },
  { cls := 18, slots := #[.int (-110)], vm := .none },
  { cls := 18, slots := #[.int (-109)], vm := .none },
  { cls := 18, slots := #[.int (-108)], vm := .none },
  { cls := 18, slots := #[.int (-107)], vm := .none },
  { cls := 18, slots := #[.int (-106)], vm := .none },
  { cls := 18, slots := #[.int (-105)], vm := .none },
  { cls := 18, slots := #[.int (-104)], vm := .none },
  { cls := 18, slots := #[.int (-103)], vm := .none },
  { cls := 18, slots := #[.int (-102)], vm := .none },
  { cls := 18, slots := #[.int (-101)], vm := .none },
  { cls := 18, slots := #[.int (-100)], vm := .none },
  { cls := 18, slots := #[.int (-99)], vm := .none },
  { cls := 18, slots := #[.int (-98)], vm := .none },
  { cls := 18, slots := #[.int (-97)], vm := .none },
  { cls := 18, slots := #[.int (-96)], vm := .none },
  { cls := 18, slots := #[.int (-95)], vm := .none },
  { cls := 18, slots := #[.int (-94)], vm := .none },
  { cls := 18, slots := #[.int (-93)], vm := .none },
  { cls := 18, slots := #[.int (-92)], vm := .none },
  { cls := 18, slots := #[.int (-91)], vm := .none },
  { cls := 18, slots := #[.int (-90)], vm := .none },
  { cls := 18, slots := #[.int (-89)], vm := .none },
  { cls := 18, slots := #[.int (-88)], vm := .none },
  { cls := 18, slots := #[.int (-87)], vm := .none },
  { cls := 18, slots := #[.int (-86)], vm := .none },
  { cls := 18, slots := #[.int (-85)], vm := .none },
  { cls := 18, slots := #[.int (-84)], vm := .none },
  { cls := 18, slots := #[.int (-83)], vm := .none },
  { cls := 18, slots := #[.int (-82)], vm := .none },
  { cls := 18, slots := #[.int (-81)], vm := .none },
  { cls := 18, slots := #[.int (-80)], vm := .none },
  { cls := 18, slots := #[.int (-79)], vm := .none },
  { cls := 18, slots := #[.int (-78)], vm := .none },
  { cls := 18, slots := #[.int (-77)], vm := .none },
  { cls := 18, slots := #[.int (-76)], vm := .none },
  { cls := 18, slots := #[.int (-75)], vm := .none },
  { cls := 18, slots := #[.int (-74)], vm := .none },
  { cls := 18, slots := #[.int (-73)], vm := .none },
  { cls := 18, slots := #[.int (-72)], vm := .none },
  { cls := 18, slots := #[.int (-71)], vm := .none },
  { cls := 18, slots := #[.int (-70)], vm := .none },
  { cls := 18, slots := #[.int (-69)], vm := .none },
  { cls := 18, slots := #[.int (-68)], vm := .none },
  { cls := 18, slots := #[.int (-67)], vm := .none },
  { cls := 18, slots := #[.int (-66)], vm := .none },
  { cls := 18, slots := #[.int (-65)], vm := .none },
  { cls := 18, slots := #[.int (-64)], vm := .none },
  { cls := 18, slots := #[.int (-63)], vm := .none },
  { cls := 18, slots := #[.int (-62)], vm := .none },
  { cls := 18, slots := #[.int (-61)], vm := .none },
  { cls := 18, slots := #[.int (-60)], vm := .none },
  { cls := 18, slots := #[.int (-59)], vm := .none },
  { cls := 18, slots := #[.int (-58)], vm := .none },
  { cls := 18, slots := #[.int (-57)], vm := .none },
  { cls := 18, slots := #[.int (-56)], vm := .none },
  { cls := 18, slots := #[.int (-55)], vm := .none },
  { cls := 18, slots := #[.int (-54)], vm := .none },
  { cls := 18, slots := #[.int (-53)], vm := .none },
  { cls := 18, slots := #[.int (-52)], vm := .none },
  { cls := 18, slots := #[.int (-51)], vm := .none },
  { cls := 18, slots := #[.int (-50)], vm := .none },
  { cls := 18, slots := #[.int (-49)], vm := .none },
  { cls := 18, slots := #[.int (-48)], vm := .none },
  { cls := 18, slots := #[.int (-47)], vm := .none },
  { cls := 18, slots := #[.int (-46)], vm := .none },
  { cls := 18, slots := #[.int (-45)], vm := .none },
  { cls := 18, slots := #[.int (-44)], vm := .none },
  { cls := 18, slots := #[.int (-43)], vm := .none },
  { cls := 18, slots := #[.int (-42)], vm := .none },
  { cls := 18, slots := #[.int (-41)], vm := .none },
  { cls := 18, slots := #[.int (-40)], vm := .none },
  { cls := 18, slots := #[.int (-39)], vm := .none },
  { cls := 18, slots := #[.int (-38)], vm := .none },
  { cls := 18, slots := #[.int (-37)], vm := .none },
  { cls := 18, slots := #[.int (-36)], vm := .none },
  { cls := 18, slots := #[.int (-35)], vm := .none },
  { cls := 18, slots := #[.int (-34)], vm := .none },
  { cls := 18, slots := #[.int (-33)], vm := .none },
  { cls := 18, slots := #[.int (-32)], vm := .none },
  { cls := 18, slots := #[.int (-31)], vm := .none },
  { cls := 18, slots := #[.int (-30)], vm := .none },
  { cls := 18, slots := #[.int (-29)], vm := .none },
  { cls := 18, slots := #[.int (-28)], vm := .none },
  { cls := 18, slots := #[.int (-27)], vm := .none },
  { cls := 18, slots := #[.int (-26)], vm := .none },
  { cls := 18, slots := #[.int (-25)], vm := .none },
  { cls := 18, slots := #[.int (-24)], vm := .none },
  { cls := 18, slots := #[.int (-23)], vm := .none },
  { cls := 18, slots := #[.int (-22)], vm := .none },
  { cls := 18, slots := #[.int (-21)], vm := .none },
  { cls := 18, slots := #[.int (-20)], vm := .none },
  { cls := 18, slots := #[.int (-19)], vm := .none },
  { cls := 18, slots := #[.int (-18)], vm := .none },
  { cls := 18, slots := #[.int (-17)], vm := .none },
  { cls := 18, slots := #[.int (-16)], vm := .none },
  { cls := 18, slots := #[.int (-15)], vm := .none },
  { cls := 18, slots := #[.int (-14)], vm := .none },
  { cls := 18, slots := #[.int (-13)], vm := .none },
  { cls := 18, slots := #[.int (-12)], vm := .none },
  { cls := 18, slots := #[.int (-11)], vm := .none },
  { cls := 18, slots := #[.int (-10)], vm := .none },
  { cls := 18, slots := #[.int (-9)], vm := .none },
  { cls := 18, slots := #[.int (-8)], vm := .none },
  { cls := 18, slots := #[.int (-7)], vm := .none },
  { cls := 18, slots := #[.int (-6)], vm := .none },
  { cls := 18, slots := #[.int (-5)], vm := .none },
  { cls := 18, slots := #[.int (-4)], vm := .none },
  { cls := 18, slots := #[.int (-3)], vm := .none },
  { cls := 18, slots := #[.int (-2)], vm := .none },
  { cls := 18, slots := #[.int (-1)], vm := .none },
  { cls := 18, slots := #[.int 0], vm := .none },
  { cls := 18, slots := #[.int 1], vm := .none },
  { cls := 18, slots := #[.int 2], vm := .none },
  { cls := 18, slots := #[.int 3], vm := .none },
  { cls := 18, slots := #[.int 4], vm := .none },
  { cls := 18, slots := #[.int 5], vm := .none },
  { cls := 18, slots := #[.int 6], vm := .none },
  { cls := 18, slots := #[.int 7], vm := .none },
  { cls := 18, slots := #[.int 8], vm := .none },
  { cls := 18, slots := #[.int 9], vm := .none },
  { cls := 18, slots := #[.int 10], vm := .none },
  { cls := 18, slots := #[.int 11], vm := .none },
  { cls := 18, slots := #[.int 12], vm := .none },
  { cls := 18, slots := #[.int 13], vm := .none },
  { cls := 18, slots := #[.int 14], vm := .none },
  { cls := 18, slots := #[.int 15], vm := .none },
  { cls := 18, slots := #[.int 16], vm := .none },
  { cls := 18, slots := #[.int 17], vm := .none },
  { cls := 18, slots := #[.int 18], vm := .none },
  { cls := 18, slots := #[.int 19], vm := .none },
  { cls := 18, slots := #[.int 20], vm := .none },
  { cls := 18, slots := #[.int 21], vm := .none },
  { cls := 18, slots := #[.int 22], vm := .none },
  { cls := 18, slots := #[.int 23], vm := .none },
  { cls := 18, slots := #[.int 24], vm := .none },
  { cls := 18, slots := #[.int 25], vm := .none },
  { cls := 18, slots := #[.int 26], vm := .none },
  { cls := 18, slots := #[.int 27], vm := .none },
  { cls := 18, slots := #[.int 28], vm := .none },
  { cls := 18, slots := #[.int 29], vm := .none },
  { cls := 18, slots := #[.int 30], vm := .none },
  { cls := 18, slots := #[.int 31], vm := .none },
  { cls := 18, slots := #[.int 32], vm := .none },
  { cls := 18, slots := #[.int 33], vm := .none },
  { cls := 18, slots := #[.int 34], vm := .none },
  { cls := 18, slots := #[.int 35], vm := .none },
  { cls := 18, slots := #[.int 36], vm := .none },
  { cls := 18, slots := #[.int 37], vm := .none },
  { cls := 18, slots := #[.int 38], vm := .none },
  { cls := 18, slots := #[.int 39], vm := .none },
  { cls := 18, slots := #[.int 40], vm := .none },
  { cls := 18, slots := #[.int 41], vm := .none },
  { cls := 18, slots := #[.int 42], vm := .none },
  { cls := 18, slots := #[.int 43], vm := .none },
  { cls := 18, slots := #[.int 44], vm := .none },
  { cls := 18, slots := #[.int 45], vm := .none },
  { cls := 18, slots := #[.int 46], vm := .none },
  { cls := 18, slots := #[.int 47], vm := .none },
  { cls := 18, slots := #[.int 48], vm := .none },
  { cls := 18, slots := #[.int 49], vm := .none },
  { cls := 18, slots := #[.int 50], vm := .none },
  { cls := 18, slots := #[.int 51], vm := .none },
  { cls := 18, slots := #[.int 52], vm := .none },
  { cls := 18, slots := #[.int 53], vm := .none },
  { cls := 18, slots := #[.int 54], vm := .none },
  { cls := 18, slots := #[.int 55], vm := .none },
  { cls := 18, slots := #[.int 56], vm := .none },
  { cls := 18, slots := #[.int 57], vm := .none },
  { cls := 18, slots := #[.int 58], vm := .none },
  { cls := 18, slots := #[.int 59], vm := .none },
  { cls := 18, slots := #[.int 60], vm := .none },
  { cls := 18, slots := #[.int 61], vm := .none },
  { cls := 18, slots := #[.int 62], vm := .none },
  { cls := 18, slots := #[.int 63], vm := .none },
  { cls := 18, slots := #[.int 64], vm := .none },
  { cls := 18, slots := #[.int 65], vm := .none },
  { cls := 18, slots := #[.int 66], vm := .none },
  { cls := 18, slots := #[.int 67], vm := .none },
  { cls := 18, slots := #[.int 68], vm := .none },
  { cls := 18, slots := #[.int 69], vm := .none },
  { cls := 18, slots := #[.int 70], vm := .none },
  { cls := 18, slots := #[.int 71], vm := .none },
  { cls := 18, slots := #[.int 72], vm := .none },
  { cls := 18, slots := #[.int 73], vm := .none },
  { cls := 18, slots := #[.int 74], vm := .none },
  { cls := 18, slots := #[.int 75], vm := .none },
  { cls := 18, slots := #[.int 76], vm := .none },
  { cls := 18, slots := #[.int 77], vm := .none },
  { cls := 18, slots := #[.int 78], vm := .none },
  { cls := 18, slots := #[.int 79], vm := .none },
  { cls := 18, slots := #[.int 80], vm := .none },
  { cls := 18, slots := #[.int 81], vm := .none },
  { cls := 18, slots := #[.int 82], vm := .none },
  { cls := 18, slots := #[.int 83], vm := .none },
  { cls := 18, slots := #[.int 84], vm := .none },
  { cls := 18, slots := #[.int 85], vm := .none },
  { cls := 18, slots := #[.int 86], vm := .none },
  { cls := 18, slots := #[.int 87], vm := .none },
  { cls := 18, slots := #[.int 88], vm := .none },
  { cls := 18, slots := #[.int 89], vm := .none },
  { cls := 18, slots := #[.int 90], vm := .none },
  { cls := 18, slots := #[.int 91], vm := .none },
  { cls := 18, slots := #[.int 92], vm := .none },
  { cls := 18, slots := #[.int 93], vm := .none },
  { cls := 18, slots := #[.int 94], vm := .none },
  { cls := 18, slots := #[.int 95], vm := .none },
  { cls := 18, slots := #[.int 96], vm := .none },
  { cls := 18, slots := #[.int 97], vm := .none },
  { cls := 18, slots := #[.int 98], vm := .none },
  { cls := 18, slots := #[.int 99], vm := .none },
  { cls := 18, slots := #[.int 100], vm := .none },
  { cls := 18, slots := #[.int 101], vm := .none },
  { cls := 18, slots := #[.int 102], vm := .none },
  { cls := 18, slots := #[.int 103], vm := .none },
  { cls := 18, slots := #[.int 104], vm := .none },
  { cls := 18, slots := #[.int 105], vm := .none },
  { cls := 18, slots := #[.int 106], vm := .none },
  { cls := 18, slots := #[.int 107], vm := .none },
  { cls := 18, slots := #[.int 108], vm := .none },
  { cls := 18, slots := #[.int 109], vm := .none },
  { cls := 18, slots := #[.int 110], vm := .none },
  { cls := 18, slots := #[.int 111], vm := .none },
  { cls := 18, slots := #[.int 112], vm := .none },
  { cls := 18, slots := #[.int 113], vm := .none },
  { cls := 18, slots := #[.int 114], vm := .none },
  { cls := 18, slots := #[.int 115], vm := .none },
  { cls := 18, slots := #[.int 116], vm := .none },
  { cls := 18, slots := #[.int 117], vm := .none },
  { cls := 18, slots := #[.int 118], vm := .none },
  { cls := 18, slots := #[.int 119], vm := .none },
  { cls := 18, slots := #[.int 120], vm := .none },
  { cls := 18, slots := #[.int 121], vm := .none },
  { cls := 18, slots := #[.int 122], vm := .none },
  { cls := 18, slots := #[.int 123], vm := .none },
  { cls := 18, slots := #[.int 124], vm := .none },
  { cls := 18, slots := #[.int 125], vm := .none },
  { cls := 18, slots := #[.int 126], vm := .none },
  { cls := 18, slots := #[.int 127], vm := .none },
  { cls := 6, slots := #[.null, .int 0, .int 0, .null, .null], vm := .none },
  { cls := 6, slots := #[.null, .int 1, .int 0, .null, .null], vm := .none },
  { cls := 6, slots := #[.null, .int 2, .int 0, .null, .null], vm := .none },
  { cls := 6, slots := #[.null, .int 3, .int 0, .null, .null], vm := .none },
  { cls := 6, slots := #[.null, .int 4, .int 0, .null, .null], vm := .none },
  { cls := 6, slots := #[.null, .int 5, .int 0, .null, .null], vm := .none },
  { cls := 6, slots := #[.null, .int 6, .int 0, .null, .null], vm := .none },
  { cls := 6, slots := #[.null, .int 7, .int 0, .null, .null], vm := .none },
  { cls := 6, slots := #[.null, .int 8, .int 0, .null, .null], vm := .none },
  { cls := 6, slots := #[.null, .int 9, .int 0, .null, .null], vm := .none },
  { cls := 6, slots := #[.null, .int 10, .int 0, .null, .null], vm := .none },
  { cls := 37, slots := #[], vm := .none },
  { cls := 37, slots := #[], vm := .none }]
def classes : Array Class := #[k0, k1, k2, k3, k4, k5, k6, k7, k8, k9, k10, k11, k12, k13, k14, k15, k16, k17, k18, k19, k20, k21, k22, k23, k24, k25, k26, k27, k28, k29, k30, k31, k32, k33, k34, k35, k36, k37]
def interned : List (Array UInt16 × Addr) := []
def slotsUsed : Nat := 598
def theMethod : MethodId := ⟨1, 1⟩
def args0 : Array Value := #[.int 1, .int 66, .int 3]
def aboutOver (below : List Frame) : State where
  vm := { classes := classes, interned := interned.toArray }
  heap := heap
  slotsUsed := slotsUsed
  threads := #[{ frames := .invoking theMethod args0 :: below }]
def below0 : List Frame := [.native { method := ⟨0, 0⟩, args := #[] }]
def about1 : State := aboutOver below0
def p0 : Program := .bare "" "" ""
def e0 : Env := launch0.env 0 0 0
theorem w_frames : about1.frames = Frame.invoking theMethod args0 :: below0 := rfl
set_option maxRecDepth 65536 in
theorem w_args : argsFit about1.vm theMethod args0 = true := by decide +kernel
set_option maxRecDepth 65536 in
theorem w_heap : heapFits about1 = true := by decide +kernel
set_option maxRecDepth 65536 in
theorem w_runnable : about1.curStatus? = some .runnable := by decide +kernel
set_option maxRecDepth 65536 in
theorem w_alone : about1.alone = true := by decide +kernel
set_option maxRecDepth 65536 in
theorem w_named : about1.methodNamed? x = some theMethod := by decide +kernel
set_option maxRecDepth 65536 in
theorem w_hears : about1.hears theMethod below0 = true := by decide +kernel
set_option maxRecDepth 65536 in
theorem w_ripe : about1.ripe theMethod args0 below0 = true := by decide +kernel
theorem w_running : about1.status = .running := rfl
set_option maxRecDepth 65536 in
theorem w_room : about1.hasRoom e0.platform room_1 = true :=
  launch0.hasRoom_least _ room_1 (by decide +kernel) (by decide +kernel) (by decide +kernel) (by decide +kernel) (by decide +kernel) (by decide +kernel)
theorem allAtoms_all (ts : List Jvm.Cond) (a : Array Jvm.Value) (st : Jvm.State) : (allAtoms ts).before a st = ts.all (fun c => c.before a st) := by
  induction ts with
  | nil => rfl
  | cons c t ih =>
    show (Jvm.Cond.and c (allAtoms t)).before a st = _
    rw [Jvm.Cond.before_and, ih, List.all_cons]
def words1 : List Jvm.Cond := Jvm.Cond.code x code maxLocals ret :: tables_1
/-- a 'code' word, met by the world's own term for the bytes: nothing is compared byte by byte -/
theorem code_word {y : MethodName} {bytes : ByteArray} {mx : Nat} {rt : Option FieldType} {a : Array Value} {s : State} {m : MethodId} {meth : Method} {c : Code} (h1 : s.methodNamed? y = some m) (h2 : s.vm.method? m = some meth) (h3 : meth.code = some c) (h4 : c.code = bytes)
    (h5 : (c.maxLocals == mx && c.exceptionTable.isEmpty && decide (c.maxStack ≤ mostOperands) && decide (meth.sig.returnType = rt) && !meth.locks && decide (parseMethodDescriptor y.desc = some meth.sig)) = true) : (Jvm.Cond.code y bytes mx rt).before a s = true := by
  simp only [Bool.and_eq_true, beq_iff_eq, Bool.not_eq_true', decide_eq_true_eq] at h5
  obtain ⟨⟨⟨⟨⟨g1, g2⟩, g3⟩, g4⟩, g5⟩, g6⟩ := h5
  simp [Cond.before, Cond.holds, Cond.value, h1, h2, h3, h4, g1, g2, g3, g4, g5, g6]
def isCode : Jvm.Cond → Bool
  | .code _ _ _ _ => true
  | _ => false
theorem all_split {L : List Jvm.Cond} {P : Jvm.Cond → Bool} (h1 : L.all (fun c => isCode c || P c) = true) (h2 : ∀ c ∈ L.filter isCode, P c = true) : L.all P = true := by
  refine List.all_eq_true.mpr fun c hc => ?_
  have h := List.all_eq_true.mp h1 c hc
  rcases Bool.eq_false_or_eq_true (isCode c) with hi | hi
  · exact h2 c (List.mem_filter.mpr ⟨hc, hi⟩)
  · simpa [hi] using h
set_option maxRecDepth 65536 in
theorem w_c0 : (Jvm.Cond.code x code maxLocals ret).before args0 about1 = true := code_word (m := ⟨1, 1⟩) (meth := k1m1) (c := k1c1) (by decide +kernel) rfl rfl rfl (by decide +kernel)
set_option maxRecDepth 65536 in
theorem w_c1 : (Jvm.Cond.code ({ cls := "com/example/tagwright/tagwright/typed/Form", name := "isSized", desc := "()Z" } : Jvm.MethodName) prog_31_method_6_code (1 : Nat) (Option.some Jvm.ClassFile.FieldType.boolean)).before args0 about1 = true := code_word (m := ⟨6, 0⟩) (meth := k6m0) (c := k6c0) (by decide +kernel) rfl rfl rfl (by decide +kernel)
set_option maxRecDepth 65536 in
theorem w_c2 : (Jvm.Cond.code ({ cls := "java/util/ArrayList", name := "<init>", desc := "()V" } : Jvm.MethodName) jdk_38_method_2_code (1 : Nat) (Option.none : Option Jvm.ClassFile.FieldType)).before args0 about1 = true := code_word (m := ⟨15, 0⟩) (meth := k15m0) (c := k15c0) (by decide +kernel) rfl rfl rfl (by decide +kernel)
set_option maxRecDepth 65536 in
theorem w_c3 : (Jvm.Cond.code ({ cls := "java/util/AbstractList", name := "<init>", desc := "()V" } : Jvm.MethodName) jdk_39_method_1_code (1 : Nat) (Option.none : Option Jvm.ClassFile.FieldType)).before args0 about1 = true := code_word (m := ⟨12, 0⟩) (meth := k12m0) (c := k12c0) (by decide +kernel) rfl rfl rfl (by decide +kernel)
set_option maxRecDepth 65536 in
theorem w_c4 : (Jvm.Cond.code ({ cls := "java/util/AbstractCollection", name := "<init>", desc := "()V" } : Jvm.MethodName) jdk_22_method_1_code (1 : Nat) (Option.none : Option Jvm.ClassFile.FieldType)).before args0 about1 = true := code_word (m := ⟨9, 0⟩) (meth := k9m0) (c := k9c0) (by decide +kernel) rfl rfl rfl (by decide +kernel)
set_option maxRecDepth 65536 in
theorem w_c5 : (Jvm.Cond.code ({ cls := "java/lang/Object", name := "<init>", desc := "()V" } : Jvm.MethodName) object_method_1_code (1 : Nat) (Option.none : Option Jvm.ClassFile.FieldType)).before args0 about1 = true := code_word (m := ⟨0, 0⟩) (meth := k0m0) (c := k0c0) (by decide +kernel) rfl rfl rfl (by decide +kernel)
set_option maxRecDepth 65536 in
theorem w_c6 : (Jvm.Cond.code ({ cls := "com/example/tagwright/tagwright/typed/Form", name := "sizeOf", desc := "(Ljava/lang/Object;)J" } : Jvm.MethodName) prog_31_method_7_code (4 : Nat) (Option.some Jvm.ClassFile.FieldType.long)).before args0 about1 = true := code_word (m := ⟨6, 1⟩) (meth := k6m1) (c := k6c1) (by decide +kernel) rfl rfl rfl (by decide +kernel)
set_option maxRecDepth 65536 in
theorem w_c7 : (Jvm.Cond.code ({ cls := "java/lang/Enum", name := "ordinal", desc := "()I" } : Jvm.MethodName) jdk_37_method_2_code (1 : Nat) (Option.some Jvm.ClassFile.FieldType.int)).before args0 about1 = true := code_word (m := ⟨5, 0⟩) (meth := k5m0) (c := k5c0) (by decide +kernel) rfl rfl rfl (by decide +kernel)
set_option maxRecDepth 65536 in
theorem w_c8 : (Jvm.Cond.code ({ cls := "java/util/ArrayList", name := "size", desc := "()I" } : Jvm.MethodName) jdk_38_method_8_code (1 : Nat) (Option.some Jvm.ClassFile.FieldType.int)).before args0 about1 = true := code_word (m := ⟨15, 3⟩) (meth := k15m3) (c := k15c3) (by decide +kernel) rfl rfl rfl (by decide +kernel)
set_option maxRecDepth 65536 in
theorem w_c9 : (Jvm.Cond.code ({ cls := "java/lang/Integer", name := "valueOf", desc := "(I)Ljava/lang/Integer;" } : Jvm.MethodName) jdk_33_method_22_code (1 : Nat) (Option.some (Jvm.ClassFile.FieldType.object "java/lang/Integer"))).before args0 about1 = true := code_word (m := ⟨18, 0⟩) (meth := k18m0) (c := k18c0) (by decide +kernel) rfl rfl rfl (by decide +kernel)
set_option maxRecDepth 65536 in
theorem w_c10 : (Jvm.Cond.code ({ cls := "java/lang/Integer", name := "<init>", desc := "(I)V" } : Jvm.MethodName) jdk_33_method_23_code (2 : Nat) (Option.none : Option Jvm.ClassFile.FieldType)).before args0 about1 = true := code_word (m := ⟨18, 1⟩) (meth := k18m1) (c := k18c1) (by decide +kernel) rfl rfl rfl (by decide +kernel)
set_option maxRecDepth 65536 in
theorem w_c11 : (Jvm.Cond.code ({ cls := "java/lang/Number", name := "<init>", desc := "()V" } : Jvm.MethodName) jdk_18_method_1_code (1 : Nat) (Option.none : Option Jvm.ClassFile.FieldType)).before args0 about1 = true := code_word (m := ⟨16, 0⟩) (meth := k16m0) (c := k16c0) (by decide +kernel) rfl rfl rfl (by decide +kernel)
set_option maxRecDepth 65536 in
theorem w_c12 : (Jvm.Cond.code ({ cls := "java/util/ArrayList", name := "add", desc := "(Ljava/lang/Object;)Z" } : Jvm.MethodName) jdk_38_method_25_code (2 : Nat) (Option.some Jvm.ClassFile.FieldType.boolean)).before args0 about1 = true := code_word (m := ⟨15, 5⟩) (meth := k15m5) (c := k15c5) (by decide +kernel) rfl rfl rfl (by decide +kernel)
set_option maxRecDepth 65536 in
theorem w_c13 : (Jvm.Cond.code ({ cls := "java/util/ArrayList", name := "add", desc := "(Ljava/lang/Object;[Ljava/lang/Object;I)V" } : Jvm.MethodName) jdk_38_method_24_code (4 : Nat) (Option.none : Option Jvm.ClassFile.FieldType)).before args0 about1 = true := code_word (m := ⟨15, 4⟩) (meth := k15m4) (c := k15c4) (by decide +kernel) rfl rfl rfl (by decide +kernel)
set_option maxRecDepth 65536 in
theorem w_c14 : (Jvm.Cond.code ({ cls := "java/util/ArrayList", name := "grow", desc := "()[Ljava/lang/Object;" } : Jvm.MethodName) jdk_38_method_7_code (1 : Nat) (Option.some (Jvm.ClassFile.FieldType.array (Jvm.ClassFile.FieldType.object "java/lang/Object")))).before args0 about1 = true := code_word (m := ⟨15, 2⟩) (meth := k15m2) (c := k15c2) (by decide +kernel) rfl rfl rfl (by decide +kernel)
set_option maxRecDepth 65536 in
theorem w_c15 : (Jvm.Cond.code ({ cls := "java/util/ArrayList", name := "grow", desc := "(I)[Ljava/lang/Object;" } : Jvm.MethodName) jdk_38_method_6_code (4 : Nat) (Option.some (Jvm.ClassFile.FieldType.array (Jvm.ClassFile.FieldType.object "java/lang/Object")))).before args0 about1 = true := code_word (m := ⟨15, 1⟩) (meth := k15m1) (c := k15c1) (by decide +kernel) rfl rfl rfl (by decide +kernel)
set_option maxRecDepth 65536 in
theorem w_c16 : (Jvm.Cond.code ({ cls := "java/lang/Math", name := "max", desc := "(II)I" } : Jvm.MethodName) jdk_29_method_65_code (2 : Nat) (Option.some Jvm.ClassFile.FieldType.int)).before args0 about1 = true := code_word (m := ⟨19, 1⟩) (meth := k19m1) (c := k19c1) (by decide +kernel) rfl rfl rfl (by decide +kernel)
set_option maxRecDepth 65536 in
theorem w_c17 : (Jvm.Cond.code ({ cls := "com/example/tagwright/tagwright/universal/BitString", name := "of", desc := "([BI)Lcom/example/tagwright/tagwright/universal/BitString;" } : Jvm.MethodName) prog_42_method_2_code (3 : Nat) (Option.some (Jvm.ClassFile.FieldType.object "com/example/tagwright/tagwright/universal/BitString"))).before args0 about1 = true := code_word (m := ⟨21, 1⟩) (meth := k21m1) (c := k21c1) (by decide +kernel) rfl rfl rfl (by decide +kernel)
set_option maxRecDepth 65536 in
theorem w_c18 : (Jvm.Cond.code ({ cls := "com/example/tagwright/tagwright/universal/BitString", name := "fault", desc := "(II)Ljava/lang/String;" } : Jvm.MethodName) prog_42_method_10_code (3 : Nat) (Option.some (Jvm.ClassFile.FieldType.object "java/lang/String"))).before args0 about1 = true := code_word (m := ⟨21, 3⟩) (meth := k21m3) (c := k21c3) (by decide +kernel) rfl rfl rfl (by decide +kernel)
set_option maxRecDepth 65536 in
theorem w_c19 : (Jvm.Cond.code ({ cls := "com/example/tagwright/tagwright/universal/BitString", name := "<init>", desc := "(I[B)V" } : Jvm.MethodName) prog_42_method_1_code (3 : Nat) (Option.none : Option Jvm.ClassFile.FieldType)).before args0 about1 = true := code_word (m := ⟨21, 0⟩) (meth := k21m0) (c := k21c0) (by decide +kernel) rfl rfl rfl (by decide +kernel)
set_option maxRecDepth 65536 in
theorem w_c20 : (Jvm.Cond.code ({ cls := "com/example/tagwright/tagwright/universal/BitString", name := "getLength", desc := "()J" } : Jvm.MethodName) prog_42_method_6_code (1 : Nat) (Option.some Jvm.ClassFile.FieldType.long)).before args0 about1 = true := code_word (m := ⟨21, 2⟩) (meth := k21m2) (c := k21c2) (by decide +kernel) rfl rfl rfl (by decide +kernel)
set_option maxRecDepth 65536 in
theorem w_c21 : (Jvm.Cond.code ({ cls := "java/lang/String", name := "<init>", desc := "([C)V" } : Jvm.MethodName) jdk_42_method_3_code (2 : Nat) (Option.none : Option Jvm.ClassFile.FieldType)).before args0 about1 = true := code_word (m := ⟨23, 1⟩) (meth := k23m1) (c := k23c1) (by decide +kernel) rfl rfl rfl (by decide +kernel)
set_option maxRecDepth 65536 in
theorem w_c22 : (Jvm.Cond.code ({ cls := "java/lang/String", name := "<init>", desc := "([CIILjava/lang/Void;)V" } : Jvm.MethodName) jdk_42_method_149_code (6 : Nat) (Option.none : Option Jvm.ClassFile.FieldType)).before args0 about1 = true := code_word (m := ⟨23, 5⟩) (meth := k23m5) (c := k23c5) (by decide +kernel) rfl rfl rfl (by decide +kernel)
set_option maxRecDepth 65536 in
theorem w_c23 : (Jvm.Cond.code ({ cls := "java/lang/StringUTF16", name := "compress", desc := "([CII)[B" } : Jvm.MethodName) jdk_52_method_16_code (6 : Nat) (Option.some (Jvm.ClassFile.FieldType.array Jvm.ClassFile.FieldType.byte))).before args0 about1 = true := code_word (m := ⟨24, 2⟩) (meth := k24m2) (c := k24c2) (by decide +kernel) rfl rfl rfl (by decide +kernel)
set_option maxRecDepth 65536 in
theorem w_c24 : (Jvm.Cond.code ({ cls := "java/lang/StringUTF16", name := "compress", desc := "([CI[BII)I" } : Jvm.MethodName) jdk_52_method_21_code (7 : Nat) (Option.some Jvm.ClassFile.FieldType.int)).before args0 about1 = true := code_word (m := ⟨24, 3⟩) (meth := k24m3) (c := k24c3) (by decide +kernel) rfl rfl rfl (by decide +kernel)
set_option maxRecDepth 65536 in
theorem w_c25 : (Jvm.Cond.code ({ cls := "java/lang/StringUTF16", name := "coderFromArrayLen", desc := "([BI)B" } : Jvm.MethodName) jdk_52_method_15_code (2 : Nat) (Option.some Jvm.ClassFile.FieldType.byte)).before args0 about1 = true := code_word (m := ⟨24, 1⟩) (meth := k24m1) (c := k24c1) (by decide +kernel) rfl rfl rfl (by decide +kernel)
set_option maxRecDepth 65536 in
theorem w_c26 : (Jvm.Cond.code ({ cls := "java/lang/String", name := "length", desc := "()I" } : Jvm.MethodName) jdk_42_method_54_code (1 : Nat) (Option.some Jvm.ClassFile.FieldType.int)).before args0 about1 = true := code_word (m := ⟨23, 2⟩) (meth := k23m2) (c := k23c2) (by decide +kernel) rfl rfl rfl (by decide +kernel)
set_option maxRecDepth 65536 in
theorem w_c27 : (Jvm.Cond.code ({ cls := "java/lang/String", name := "coder", desc := "()B" } : Jvm.MethodName) jdk_42_method_152_code (1 : Nat) (Option.some Jvm.ClassFile.FieldType.byte)).before args0 about1 = true := code_word (m := ⟨23, 7⟩) (meth := k23m7) (c := k23c7) (by decide +kernel) rfl rfl rfl (by decide +kernel)
set_option maxRecDepth 65536 in
theorem w_c28 : (Jvm.Cond.code ({ cls := "java/lang/String", name := "codePointCount", desc := "(II)I" } : Jvm.MethodName) jdk_42_method_59_code (3 : Nat) (Option.some Jvm.ClassFile.FieldType.int)).before args0 about1 = true := code_word (m := ⟨23, 3⟩) (meth := k23m3) (c := k23c3) (by decide +kernel) rfl rfl rfl (by decide +kernel)
set_option maxRecDepth 65536 in
theorem w_c29 : (Jvm.Cond.code ({ cls := "java/util/Objects", name := "checkFromToIndex", desc := "(III)I" } : Jvm.MethodName) jdk_31_method_18_code (3 : Nat) (Option.some Jvm.ClassFile.FieldType.int)).before args0 about1 = true := code_word (m := ⟨25, 1⟩) (meth := k25m1) (c := k25c1) (by decide +kernel) rfl rfl rfl (by decide +kernel)
set_option maxRecDepth 65536 in
theorem w_c30 : (Jvm.Cond.code ({ cls := "jdk/internal/util/Preconditions", name := "checkFromToIndex", desc := "(IIILjava/util/function/BiFunction;)I" } : Jvm.MethodName) jdk_41_method_12_code (4 : Nat) (Option.some Jvm.ClassFile.FieldType.int)).before args0 about1 = true := code_word (m := ⟨26, 1⟩) (meth := k26m1) (c := k26c1) (by decide +kernel) rfl rfl rfl (by decide +kernel)
set_option maxRecDepth 65536 in
theorem w_c31 : (Jvm.Cond.code ({ cls := "java/lang/String", name := "isLatin1", desc := "()Z" } : Jvm.MethodName) jdk_42_method_154_code (1 : Nat) (Option.some Jvm.ClassFile.FieldType.boolean)).before args0 about1 = true := code_word (m := ⟨23, 8⟩) (meth := k23m8) (c := k23c8) (by decide +kernel) rfl rfl rfl (by decide +kernel)
set_option maxRecDepth 65536 in
theorem w_c32 : (Jvm.Cond.code ({ cls := "java/lang/String", name := "valueOf", desc := "(C)Ljava/lang/String;" } : Jvm.MethodName) jdk_42_method_139_code (1 : Nat) (Option.some (Jvm.ClassFile.FieldType.object "java/lang/String"))).before args0 about1 = true := code_word (m := ⟨23, 4⟩) (meth := k23m4) (c := k23c4) (by decide +kernel) rfl rfl rfl (by decide +kernel)
set_option maxRecDepth 65536 in
theorem w_c33 : (Jvm.Cond.code ({ cls := "java/lang/StringLatin1", name := "canEncode", desc := "(C)Z" } : Jvm.MethodName) jdk_43_method_3_code (1 : Nat) (Option.some Jvm.ClassFile.FieldType.boolean)).before args0 about1 = true := code_word (m := ⟨27, 1⟩) (meth := k27m1) (c := k27c1) (by decide +kernel) rfl rfl rfl (by decide +kernel)
set_option maxRecDepth 65536 in
theorem w_c34 : (Jvm.Cond.code ({ cls := "java/lang/StringLatin1", name := "toBytes", desc := "(C)[B" } : Jvm.MethodName) jdk_43_method_46_code (1 : Nat) (Option.some (Jvm.ClassFile.FieldType.array Jvm.ClassFile.FieldType.byte))).before args0 about1 = true := code_word (m := ⟨27, 2⟩) (meth := k27m2) (c := k27c2) (by decide +kernel) rfl rfl rfl (by decide +kernel)
set_option maxRecDepth 65536 in
theorem w_c35 : (Jvm.Cond.code ({ cls := "java/lang/String", name := "<init>", desc := "([BB)V" } : Jvm.MethodName) jdk_42_method_151_code (3 : Nat) (Option.none : Option Jvm.ClassFile.FieldType)).before args0 about1 = true := code_word (m := ⟨23, 6⟩) (meth := k23m6) (c := k23c6) (by decide +kernel) rfl rfl rfl (by decide +kernel)
def codes1 : List Jvm.Cond := [Jvm.Cond.code x code maxLocals ret, Jvm.Cond.code ({ cls := "com/example/tagwright/tagwright/typed/Form", name := "isSized", desc := "()Z" } : Jvm.MethodName) prog_31_method_6_code (1 : Nat) (Option.some Jvm.ClassFile.FieldType.boolean), Jvm.Cond.code ({ cls := "java/util/ArrayList", name := "<init>", desc := "()V" } : Jvm.MethodName) jdk_38_method_2_code (1 : Nat) (Option.none : Option Jvm.ClassFile.FieldType), Jvm.Cond.code ({ cls := "java/util/AbstractList", name := "<init>", desc := "()V" } : Jvm.MethodName) jdk_39_method_1_code (1 : Nat) (Option.none : Option Jvm.ClassFile.FieldType), Jvm.Cond.code ({ cls := "java/util/AbstractCollection", name := "<init>", desc := "()V" } : Jvm.MethodName) jdk_22_method_1_code (1 : Nat) (Option.none : Option Jvm.ClassFile.FieldType), Jvm.Cond.code ({ cls := "java/lang/Object", name := "<init>", desc := "()V" } : Jvm.MethodName) object_method_1_code (1 : Nat) (Option.none : Option Jvm.ClassFile.FieldType), Jvm.Cond.code ({ cls := "com/example/tagwright/tagwright/typed/Form", name := "sizeOf", desc := "(Ljava/lang/Object;)J" } : Jvm.MethodName) prog_31_method_7_code (4 : Nat) (Option.some Jvm.ClassFile.FieldType.long), Jvm.Cond.code ({ cls := "java/lang/Enum", name := "ordinal", desc := "()I" } : Jvm.MethodName) jdk_37_method_2_code (1 : Nat) (Option.some Jvm.ClassFile.FieldType.int), Jvm.Cond.code ({ cls := "java/util/ArrayList", name := "size", desc := "()I" } : Jvm.MethodName) jdk_38_method_8_code (1 : Nat) (Option.some Jvm.ClassFile.FieldType.int), Jvm.Cond.code ({ cls := "java/lang/Integer", name := "valueOf", desc := "(I)Ljava/lang/Integer;" } : Jvm.MethodName) jdk_33_method_22_code (1 : Nat) (Option.some (Jvm.ClassFile.FieldType.object "java/lang/Integer")), Jvm.Cond.code ({ cls := "java/lang/Integer", name := "<init>", desc := "(I)V" } : Jvm.MethodName) jdk_33_method_23_code (2 : Nat) (Option.none : Option Jvm.ClassFile.FieldType), Jvm.Cond.code ({ cls := "java/lang/Number", name := "<init>", desc := "()V" } : Jvm.MethodName) jdk_18_method_1_code (1 : Nat) (Option.none : Option Jvm.ClassFile.FieldType), Jvm.Cond.code ({ cls := "java/util/ArrayList", name := "add", desc := "(Ljava/lang/Object;)Z" } : Jvm.MethodName) jdk_38_method_25_code (2 : Nat) (Option.some Jvm.ClassFile.FieldType.boolean), Jvm.Cond.code ({ cls := "java/util/ArrayList", name := "add", desc := "(Ljava/lang/Object;[Ljava/lang/Object;I)V" } : Jvm.MethodName) jdk_38_method_24_code (4 : Nat) (Option.none : Option Jvm.ClassFile.FieldType), Jvm.Cond.code ({ cls := "java/util/ArrayList", name := "grow", desc := "()[Ljava/lang/Object;" } : Jvm.MethodName) jdk_38_method_7_code (1 : Nat) (Option.some (Jvm.ClassFile.FieldType.array (Jvm.ClassFile.FieldType.object "java/lang/Object"))), Jvm.Cond.code ({ cls := "java/util/ArrayList", name := "grow", desc := "(I)[Ljava/lang/Object;" } : Jvm.MethodName) jdk_38_method_6_code (4 : Nat) (Option.some (Jvm.ClassFile.FieldType.array (Jvm.ClassFile.FieldType.object "java/lang/Object"))), Jvm.Cond.code ({ cls := "java/lang/Math", name := "max", desc := "(II)I" } : Jvm.MethodName) jdk_29_method_65_code (2 : Nat) (Option.some Jvm.ClassFile.FieldType.int), Jvm.Cond.code ({ cls := "com/example/tagwright/tagwright/universal/BitString", name := "of", desc := "([BI)Lcom/example/tagwright/tagwright/universal/BitString;" } : Jvm.MethodName) prog_42_method_2_code (3 : Nat) (Option.some (Jvm.ClassFile.FieldType.object "com/example/tagwright/tagwright/universal/BitString")), Jvm.Cond.code ({ cls := "com/example/tagwright/tagwright/universal/BitString", name := "fault", desc := "(II)Ljava/lang/String;" } : Jvm.MethodName) prog_42_method_10_code (3 : Nat) (Option.some (Jvm.ClassFile.FieldType.object "java/lang/String")), Jvm.Cond.code ({ cls := "com/example/tagwright/tagwright/universal/BitString", name := "<init>", desc := "(I[B)V" } : Jvm.MethodName) prog_42_method_1_code (3 : Nat) (Option.none : Option Jvm.ClassFile.FieldType), Jvm.Cond.code ({ cls := "com/example/tagwright/tagwright/universal/BitString", name := "getLength", desc := "()J" } : Jvm.MethodName) prog_42_method_6_code (1 : Nat) (Option.some Jvm.ClassFile.FieldType.long), Jvm.Cond.code ({ cls := "java/lang/String", name := "<init>", desc := "([C)V" } : Jvm.MethodName) jdk_42_method_3_code (2 : Nat) (Option.none : Option Jvm.ClassFile.FieldType), Jvm.Cond.code ({ cls := "java/lang/String", name := "<init>", desc := "([CIILjava/lang/Void;)V" } : Jvm.MethodName) jdk_42_method_149_code (6 : Nat) (Option.none : Option Jvm.ClassFile.FieldType), Jvm.Cond.code ({ cls := "java/lang/StringUTF16", name := "compress", desc := "([CII)[B" } : Jvm.MethodName) jdk_52_method_16_code (6 : Nat) (Option.some (Jvm.ClassFile.FieldType.array Jvm.ClassFile.FieldType.byte)), Jvm.Cond.code ({ cls := "java/lang/StringUTF16", name := "compress", desc := "([CI[BII)I" } : Jvm.MethodName) jdk_52_method_21_code (7 : Nat) (Option.some Jvm.ClassFile.FieldType.int), Jvm.Cond.code ({ cls := "java/lang/StringUTF16", name := "coderFromArrayLen", desc := "([BI)B" } : Jvm.MethodName) jdk_52_method_15_code (2 : Nat) (Option.some Jvm.ClassFile.FieldType.byte), Jvm.Cond.code ({ cls := "java/lang/String", name := "length", desc := "()I" } : Jvm.MethodName) jdk_42_method_54_code (1 : Nat) (Option.some Jvm.ClassFile.FieldType.int), Jvm.Cond.code ({ cls := "java/lang/String", name := "coder", desc := "()B" } : Jvm.MethodName) jdk_42_method_152_code (1 : Nat) (Option.some Jvm.ClassFile.FieldType.byte), Jvm.Cond.code ({ cls := "java/lang/String", name := "codePointCount", desc := "(II)I" } : Jvm.MethodName) jdk_42_method_59_code (3 : Nat) (Option.some Jvm.ClassFile.FieldType.int), Jvm.Cond.code ({ cls := "java/util/Objects", name := "checkFromToIndex", desc := "(III)I" } : Jvm.MethodName) jdk_31_method_18_code (3 : Nat) (Option.some Jvm.ClassFile.FieldType.int), Jvm.Cond.code ({ cls := "jdk/internal/util/Preconditions", name := "checkFromToIndex", desc := "(IIILjava/util/function/BiFunction;)I" } : Jvm.MethodName) jdk_41_method_12_code (4 : Nat) (Option.some Jvm.ClassFile.FieldType.int), Jvm.Cond.code ({ cls := "java/lang/String", name := "isLatin1", desc := "()Z" } : Jvm.MethodName) jdk_42_method_154_code (1 : Nat) (Option.some Jvm.ClassFile.FieldType.boolean), Jvm.Cond.code ({ cls := "java/lang/String", name := "valueOf", desc := "(C)Ljava/lang/String;" } : Jvm.MethodName) jdk_42_method_139_code (1 : Nat) (Option.some (Jvm.ClassFile.FieldType.object "java/lang/String")), Jvm.Cond.code ({ cls := "java/lang/StringLatin1", name := "canEncode", desc := "(C)Z" } : Jvm.MethodName) jdk_43_method_3_code (1 : Nat) (Option.some Jvm.ClassFile.FieldType.boolean), Jvm.Cond.code ({ cls := "java/lang/StringLatin1", name := "toBytes", desc := "(C)[B" } : Jvm.MethodName) jdk_43_method_46_code (1 : Nat) (Option.some (Jvm.ClassFile.FieldType.array Jvm.ClassFile.FieldType.byte)), Jvm.Cond.code ({ cls := "java/lang/String", name := "<init>", desc := "([BB)V" } : Jvm.MethodName) jdk_42_method_151_code (3 : Nat) (Option.none : Option Jvm.ClassFile.FieldType)]
set_option maxRecDepth 65536 in
theorem codes_eq : words1.filter isCode = codes1 := rfl
theorem w_codes : ∀ c ∈ words1.filter isCode, c.before args0 about1 = true := by
  rw [codes_eq]
  intro c hc
  simp only [codes1, List.mem_cons, List.not_mem_nil, or_false] at hc
  rcases hc with rfl | rfl | rfl | rfl | rfl | rfl | rfl | rfl | rfl | rfl | rfl | rfl | rfl | rfl | rfl | rfl | rfl | rfl | rfl | rfl | rfl | rfl | rfl | rfl | rfl | rfl | rfl | rfl | rfl | rfl | rfl | rfl | rfl | rfl | rfl | rfl
  · exact w_c0
  · exact w_c1
  · exact w_c2
  · exact w_c3
  · exact w_c4
  · exact w_c5
  · exact w_c6
  · exact w_c7
  · exact w_c8
  · exact w_c9
  · exact w_c10
  · exact w_c11
  · exact w_c12
  · exact w_c13
  · exact w_c14
  · exact w_c15
  · exact w_c16
  · exact w_c17
  · exact w_c18
  · exact w_c19
  · exact w_c20
  · exact w_c21
  · exact w_c22
  · exact w_c23
  · exact w_c24
  · exact w_c25
  · exact w_c26
  · exact w_c27
  · exact w_c28
  · exact w_c29
  · exact w_c30
  · exact w_c31
  · exact w_c32
  · exact w_c33
  · exact w_c34
  · exact w_c35
set_option maxRecDepth 65536 in
theorem w_t1 : (words1.take 24).all (fun c => isCode c || c.before args0 about1) = true := by decide +kernel
set_option maxRecDepth 65536 in
theorem w_t2 : ((words1.drop 24).take 24).all (fun c => isCode c || c.before args0 about1) = true := by decide +kernel
set_option maxRecDepth 65536 in
theorem w_t3 : (((words1.drop 24).drop 24).take 24).all (fun c => isCode c || c.before args0 about1) = true := by decide +kernel
set_option maxRecDepth 65536 in
theorem w_t4 : ((((words1.drop 24).drop 24).drop 24).take 24).all (fun c => isCode c || c.before args0 about1) = true := by decide +kernel
set_option maxRecDepth 65536 in
theorem w_t5 : (((((words1.drop 24).drop 24).drop 24).drop 24).take 24).all (fun c => isCode c || c.before args0 about1) = true := by decide +kernel
set_option maxRecDepth 65536 in
theorem w_t6 : ((((((words1.drop 24).drop 24).drop 24).drop 24).drop 24).take 24).all (fun c => isCode c || c.before args0 about1) = true := by decide +kernel
set_option maxRecDepth 65536 in
theorem w_t7 : (((((((words1.drop 24).drop 24).drop 24).drop 24).drop 24).drop 24).take 24).all (fun c => isCode c || c.before args0 about1) = true := by decide +kernel
set_option maxRecDepth 65536 in
theorem w_t8 : ((((((((words1.drop 24).drop 24).drop 24).drop 24).drop 24).drop 24).drop 24).take 24).all (fun c => isCode c || c.before args0 about1) = true := by decide +kernel
set_option maxRecDepth 65536 in
theorem w_t9 : (((((((((words1.drop 24).drop 24).drop 24).drop 24).drop 24).drop 24).drop 24).drop 24).take 24).all (fun c => isCode c || c.before args0 about1) = true := by decide +kernel
set_option maxRecDepth 65536 in
theorem w_t10 : ((((((((((words1.drop 24).drop 24).drop 24).drop 24).drop 24).drop 24).drop 24).drop 24).drop 24).take 24).all (fun c => isCode c || c.before args0 about1) = true := by decide +kernel
set_option maxRecDepth 65536 in
theorem w_t11 : ((((((((((words1.drop 24).drop 24).drop 24).drop 24).drop 24).drop 24).drop 24).drop 24).drop 24).drop 24).all (fun c => isCode c || c.before args0 about1) = true := by decide +kernel
theorem w_tables : (allAtoms (Jvm.Cond.code x code maxLocals ret :: tables_1)).before args0 about1 = true := by
  rw [allAtoms_all]
  show words1.all (fun c => c.before args0 about1) = true
  refine all_split ?_ w_codes
  rw [← List.take_append_drop 24 words1, List.all_append, w_t1, ← List.take_append_drop 24 (words1.drop 24), List.all_append, w_t2, ← List.take_append_drop 24 ((words1.drop 24).drop 24), List.all_append, w_t3, ← List.take_append_drop 24 (((words1.drop 24).drop 24).drop 24), List.all_append, w_t4, ← List.take_append_drop 24 ((((words1.drop 24).drop 24).drop 24).drop 24), List.all_append, w_t5, ← List.take_append_drop 24 (((((words1.drop 24).drop 24).drop 24).drop 24).drop 24), List.all_append, w_t6, ← List.take_append_drop 24 ((((((words1.drop 24).drop 24).drop 24).drop 24).drop 24).drop 24), List.all_append, w_t7, ← List.take_append_drop 24 (((((((words1.drop 24).drop 24).drop 24).drop 24).drop 24).drop 24).drop 24), List.all_append, w_t8, ← List.take_append_drop 24 ((((((((words1.drop 24).drop 24).drop 24).drop 24).drop 24).drop 24).drop 24).drop 24), List.all_append, w_t9, ← List.take_append_drop 24 (((((((((words1.drop 24).drop 24).drop 24).drop 24).drop 24).drop 24).drop 24).drop 24).drop 24), List.all_append, w_t10, w_t11]
  rfl
set_option maxRecDepth 65536 in
theorem w_rest : rest_1_c.before args0 about1 = true := by decide +kernel
set_option maxRecDepth 65536 in
theorem w_case : (Jvm.Cond.and given_1 narrow_1).before args0 about1 = true := by decide +kernel
set_option maxRecDepth 65536 in
theorem w_consts : constsHeld consts_1 about1 := Jvm.Lit.constsHeldB_iff.mp (by decide +kernel)
theorem w_applies : (headSpec (Jvm.Cond.code x code maxLocals ret :: tables_1) room_1).applies x e0.platform about1 = true :=
  (Spec.applies_iff w_frames).mpr ⟨w_running, w_runnable, w_alone, w_named, w_hears, w_ripe, w_room, w_tables⟩
theorem atStart : AtStart classFile x code maxLocals ret World_1 tables_1 room_1 Calls_1 rest_1 Pre_1 launch0 p0 e0 about1 theMethod args0 below0 :=
  ⟨lists_1, trivial, launch0.admits_env _ _ _, launch0.least_env, fairChoices_fair.cas, fairChoices_fair.clock, w_frames, w_args, w_heap, w_applies, ⟨w_consts, trivial⟩, w_rest, w_case⟩
end start1
theorem witness_1 : WitnessClaimed_1 := ⟨start1.p0, start1.e0, start1.about1, start1.theMethod, start1.args0, start1.below0, start1.atStart⟩
end Jvm.Pilot.@@N@@
