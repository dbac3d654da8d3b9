import JvmDerived
import JvmDerived.Pilot.@@N@@Statement
import JvmDerived.Pilot.@@N@@Code
set_option linter.unusedVariables false
set_option linter.unusedSimpArgs false
@@BLOCK:NumsL.lean.txt@@
namespace Jvm.Pilot.@@N@@
open Jvm Jvm.ClassFile Sem Op Lib Jvm.Free Jvm.Stand Jvm.LawKit Jvm.RoadKit Bundle Jvm.Pilot.@@N@@.Jvm.D
/-- from the state W the run comes to an end of which K holds -/
abbrev own_Gl (p : Program) (e : Env) (below : List Frame) (K : Outcome → State → Prop) (W : State) : Prop := ∃ s₂ o, Steps p.tables e below W s₂ ∧ s₂.status = .running ∧ Ended s₂ below o ∧ K o s₂
theorem own_by {p : Program} {e : Env} {below : List Frame} {K : Outcome → State → Prop} {W W' : State} (st : ∀ t, Steps p.tables e below W' t → Steps p.tables e below W t) (h : own_Gl p e below K W') : own_Gl p e below K W := by
  obtain ⟨s₂, o, h1, h2⟩ := h; exact ⟨s₂, o, st _ h1, h2⟩
theorem own_tr {p : Program} {e : Env} {below : List Frame} {K : Outcome → State → Prop} {W W' : State} (st : Steps p.tables e below W W') (h : own_Gl p e below K W') : own_Gl p e below K W := own_by (fun _ k => st.trans k) h
theorem own_w {Z : State} {a0 : Array Value} (hw : ∀ d ∈ tables_1, d.before a0 Z = true) (i : Nat) {d : Jvm.Cond} (h : tables_1[i]? = some d := by rfl) : d.before a0 Z = true := hw _ (List.mem_of_getElem? h)
theorem own_cat1 {v : Value} (h : v.isRef = true) : v.category = 1 := by cases v <;> first | rfl | cases h
theorem own_le {Z : State} {n0 : Nat} {h : Heap} (O : Old Z n0 h) : n0 ≤ h.size := O.1 ▸ O.2.1
theorem own_lclt {x y : Int64} (h : x < y) : ifCond.holds .lt (lcmpW x y) = true ∧ ifCond.holds .ge (lcmpW x y) = false := by
  have h1 : ¬ x > y := fun q => by rw [Int64.lt_iff_toInt_lt] at h; have q' : y < x := q; rw [Int64.lt_iff_toInt_lt] at q'; omega
  have h2 : ¬ x = y := fun q => by subst q; rw [Int64.lt_iff_toInt_lt] at h; omega
  rw [lcmpW, if_neg h1, if_neg h2]; exact ⟨by decide, by decide⟩
theorem own_lcnlt {x y : Int64} (h : ¬ x < y) : ifCond.holds .lt (lcmpW x y) = false ∧ ifCond.holds .ge (lcmpW x y) = true := by
  by_cases h1 : x > y
  · rw [lcmpW, if_pos h1]; exact ⟨by decide, by decide⟩
  · have h2 : x = y := by
      have q1 : ¬ y < x := h1
      rw [Int64.lt_iff_toInt_lt] at h q1; exact Int64.toInt_inj.mp (by omega)
    rw [lcmpW, if_neg h1, if_pos h2]; exact ⟨by decide, by decide⟩
theorem own_lcgt {x y : Int64} (h : y < x) : ifCond.holds .gt (lcmpW x y) = true ∧ ifCond.holds .le (lcmpW x y) = false := by
  have h1 : x > y := h
  rw [lcmpW, if_pos h1]; exact ⟨by decide, by decide⟩
theorem own_lcngt {x y : Int64} (h : ¬ y < x) : ifCond.holds .gt (lcmpW x y) = false ∧ ifCond.holds .le (lcmpW x y) = true := by
  have h1 : ¬ x > y := h
  rw [lcmpW, if_neg h1]
  by_cases h2 : x = y
  · rw [if_pos h2]; exact ⟨by decide, by decide⟩
  · rw [if_neg h2]; exact ⟨by decide, by decide⟩
theorem own_lceq {x y : Int64} (h : x = y) : ifCond.holds .eq (lcmpW x y) = true ∧ ifCond.holds .ne (lcmpW x y) = false := by
  subst h
  have h1 : ¬ x > x := fun q => by have q' : x < x := q; rw [Int64.lt_iff_toInt_lt] at q'; omega
  rw [lcmpW, if_neg h1, if_pos rfl]; exact ⟨by decide, by decide⟩
theorem own_lcne {x y : Int64} (h : ¬ x = y) : ifCond.holds .eq (lcmpW x y) = false ∧ ifCond.holds .ne (lcmpW x y) = true := by
  by_cases h1 : x > y
  · rw [lcmpW, if_pos h1]; exact ⟨by decide, by decide⟩
  · rw [lcmpW, if_neg h1, if_neg h]; exact ⟨by decide, by decide⟩
theorem own_sta {Z : State} {args : Array Value} {C n d K : String} (h : (Jvm.Cond.exactly (Jvm.Term.static C n d) K).value args Z none Z [] = some true) (hi : (Jvm.Cond.initializedFor C n d).before args Z = true ∨ ((Jvm.Cond.initialized C).before args Z = true ∧ (Jvm.Cond.laysStatic C n d).before args Z = true)) :
    ∃ a, (Jvm.Term.static C n d).eval args Z none [] Z = some (.ref a) ∧ Sta Z Z.heap C n d (.ref a) ∧ Exa Z Z.heap a K := by
  obtain ⟨a, ev⟩ := exa_v h
  exact ⟨a, ev, Sta.start ev hi, Exa.start ev h⟩
theorem own_fldI {Z : State} {args : Array Value} {t : Jvm.Term} {a : Addr} {C n d : String} {k : Int32} (ev : t.eval args Z none [] Z = some (.ref a)) (h : (Jvm.Cond.eq (Jvm.Term.field t C n d) (Jvm.Term.int k)).value args Z none Z [] = some true) : Fld Z Z.heap a C n d (.int k) := by
  obtain ⟨x, y, hx, hy, -, -⟩ := cmp_v (Or.inl h)
  cases Option.some.inj ((Term.int_eval k).symm.trans hy)
  refine Fld.start ?_
  rw [← fld_at ev, hx]
  cases x <;> simp_all [Cond.value, Term.eval]
theorem own_fldJ {Z : State} {args : Array Value} {t : Jvm.Term} {a : Addr} {C n d : String} {k : Int64} (ev : t.eval args Z none [] Z = some (.ref a)) (h : (Jvm.Cond.eq (Jvm.Term.field t C n d) (Jvm.Term.long k)).value args Z none Z [] = some true) : Fld Z Z.heap a C n d (.long k) := by
  obtain ⟨x, y, hx, hy, -, -⟩ := cmp_v (Or.inl h)
  have hy' : (Jvm.Term.long k).eval args Z none [] Z = some (.long k) := by simp [Term.eval]
  cases Option.some.inj (hy'.symm.trans hy)
  refine Fld.start ?_
  rw [← fld_at ev, hx]
  cases x <;> simp_all [Cond.value, Term.eval]
theorem own_len {Z : State} {args : Array Value} {t : Jvm.Term} {a : Addr} {cl : Cell} {ty : FieldType} {n : Int32} (ev : t.eval args Z none [] Z = some (.ref a)) (A : Arr Z Z.heap a cl ty) (h : (Jvm.Cond.eq (Jvm.Term.length t) (Jvm.Term.int n)).value args Z none Z [] = some true) : cl.slots.size < 2 ^ 31 ∧ cl.slots.size.toInt32 = n := by
  have ha : Z.arrayAt? a = some cl := Arr.fin (U := Z) (Vm.Alike.refl _) A
  by_cases hq : cl.slots.size < 2 ^ 31
  · refine ⟨hq, ?_⟩
    have e1 := len_f (args := args) (first := Z) (o := none) (idx := []) ev ha hq
    simpa [Cond.value, e1, Term.int_eval] using h
  · exfalso
    obtain ⟨x, y, hx, -⟩ := cmp_v (Or.inl h)
    simp [Term.eval, ev, ha] at hx
    omega
theorem own_elem {Z : State} {args : Array Value} {t u : Jvm.Term} {a w : Addr} {cl : Cell} {ty : FieldType} {j : Int32} (ev : t.eval args Z none [] Z = some (.ref a)) (A : Arr Z Z.heap a cl ty) (evu : u.eval args Z none [] Z = some (.ref w)) (h : (Jvm.Cond.eq (Jvm.Term.elem t (Jvm.Term.int j)) u).value args Z none Z [] = some true) : cl.slots[j.toNatClampNeg]? = some (.ref w) := by
  obtain ⟨x, y, hx, hy, k1, k2⟩ := cmp_v (Or.inl h)
  cases Option.some.inj (evu.symm.trans hy)
  have q := (elem_in hx ev (Term.int_eval j) A.1).2
  rw [q]
  cases x <;> simp [Cond.value, hx, evu] at h ⊢
  exact h
/-- a String whose bytes are told (Latin-1) -/
def own_St (Z : State) (h : Heap) (a : Addr) (n : Int32) (bs : List Value) : Prop := Exa Z h a "java/lang/String" ∧ Fld Z h a "java/lang/String" "coder" "B" (.int (0 : Int32)) ∧ ∃ (b : Addr) (k : ClassId), Fld Z h a "java/lang/String" "value" "[B" (.ref b) ∧ Arv Z h b k .byte n bs (.int (0 : Int32))
theorem own_St.ext {Z : State} {h h' : Heap} {a : Addr} {n : Int32} {bs : List Value} (F : own_St Z h a n bs) (E : Ext h h') : own_St Z h' a n bs := by
  obtain ⟨h1, h2, b, k, h3, h4⟩ := F
  exact ⟨h1.ext E, h2.ext E, b, k, h3.ext E, h4.ext E⟩
theorem own_St.keep0 {Z : State} {h h' : Heap} {a : Addr} {n : Int32} {bs : List Value} (F : own_St Z h a n bs) (K : Keep h h' []) : own_St Z h' a n bs := by
  obtain ⟨h1, h2, b, k, h3, h4⟩ := F
  exact ⟨h1.keep K, h2.keep K nin0, b, k, h3.keep K nin0, h4.keep K nin0⟩
theorem own_St.keep1 {Z : State} {h h' : Heap} {a u : Addr} {n : Int32} {bs : List Value} {a0 : Array Value} {U : String} {k0 : Nat} (F : own_St Z h a n bs) (K : Keep h h' [u]) (E : Exa Z h u U) (wi : (Jvm.Cond.instantiable U k0).before a0 Z = true) (hn : "java/lang/String" ≠ U) : own_St Z h' a n bs := by
  obtain ⟨h1, h2, b, k, h3, h4⟩ := F
  have n1 : a ≠ u := ne_exa h1 E hn
  have n2 : b ≠ u := by
    obtain ⟨cl, A, -⟩ := id h4
    exact (ne_arr E wi A).symm
  exact ⟨h1.keep K, h2.keep K (ninS n1 nin0), b, k, h3.keep K (ninS n1 nin0), h4.keep K (ninS n2 nin0)⟩
theorem own_fldeq {Z : State} {h : Heap} {a : Addr} {C n d : String} {v w : Value} (F : Fld Z h a C n d v) (G : Fld Z h a C n d w) : v = w := by
  obtain ⟨c1, cf, k, i, f, h1, h2, -, -, -, -, h7⟩ := F
  obtain ⟨c2, cf', k', i', f', g1, g2, -, -, -, -, g7⟩ := G
  cases h1.symm.trans g1
  cases h2.symm.trans g2
  exact Option.some.inj (h7.symm.trans g7)
theorem own_arveq {Z : State} {h : Heap} {b : Addr} {k k' : ClassId} {n n' : Int32} {bs bs' : List Value} {d : Value} (F : Arv Z h b k .byte n bs d) (G : Arv Z h b k' .byte n' bs' d) (hl : n.toNatClampNeg = bs.length) (hl' : n'.toNatClampNeg = bs'.length) : bs = bs' := by
  obtain ⟨cl, A, -, S, -, H, -⟩ := F
  obtain ⟨cl', A', -, S', -, H', -⟩ := G
  cases A.1.symm.trans A'.1
  have el : bs.length = bs'.length := by rw [← hl, ← hl', ← S, ← S']
  apply List.ext_getElem el
  intro i h1 h2
  have e1 := H i (by rw [S, hl]; exact h1)
  have e2 := H' i (by rw [S', hl']; exact h2)
  have e := Option.some.inj (e1.symm.trans e2)
  simpa [List.getD_eq_getElem?_getD, h1, h2] using e
theorem own_St.inj {Z : State} {h : Heap} {a : Addr} {n n' : Int32} {bs bs' : List Value} (F : own_St Z h a n bs) (G : own_St Z h a n' bs') (hl : n.toNatClampNeg = bs.length) (hl' : n'.toNatClampNeg = bs'.length) : bs = bs' := by
  obtain ⟨-, -, b, k, h3, h4⟩ := F
  obtain ⟨-, -, b', k', g3, g4⟩ := G
  cases own_fldeq h3 g3
  exact own_arveq h4 g4 hl hl'
theorem own_St.len {Z : State} {h : Heap} {a : Addr} {n n' : Int32} {bs bs' : List Value} (F : own_St Z h a n bs) (G : own_St Z h a n' bs') : n = n' := by
  obtain ⟨-, -, b, k, h3, cl, A, -, S, hn, -⟩ := F
  obtain ⟨-, -, b', k', g3, cl', A', -, S', hn', -⟩ := G
  cases own_fldeq h3 g3
  cases A.1.symm.trans A'.1
  apply Int32.toInt_inj.mp
  rw [nat_of hn, nat_of hn', ← S, ← S']

/-- a String whose value is not yet there is no constant of the table -/
theorem own_safeNull {Z : State} {EL : List (String × Nat)} {vm : Vm} {h : Heap} {x : Addr} {a0 : Array Value} (hal : Z.vm.Alike vm) (E : Exa Z h x "java/lang/String") (wi : (Jvm.Cond.instantiable "java/lang/String" 4).before a0 Z = true) (F : Fld Z h x "java/lang/String" "value" "[B" .null) : Safe Z EL vm h x := fun B => by
  obtain ⟨p, -, u, a, -, q, -, ⟨cS, ⟨⟨s1, s2, s3, ⟨cv, kv, iv, s4, s4'⟩, -, s6, s7, s8, s9, s10, s11, s12, -⟩, -⟩, -⟩, rfl | rfl⟩ := B
  · obtain ⟨cell, cf, k, i, f, h1, h2, -, -, -, -, h7⟩ := F
    have e1 : cell = q.sC := Option.some.inj (h1.symm.trans s1)
    obtain ⟨k3, e3, -⟩ := State.fieldFound?_setVm (s := Z) hal h2
    have e4 := (show (Wst Z vm h).fieldFound? _ _ _ = _ from e3).symm.trans s4
    simp only [Option.some.injEq, Prod.mk.injEq] at e4
    rw [e1, e4.2.2.2, s8] at h7
    cases h7
  · obtain ⟨hst, k9, hk9, comp, hkind9⟩ := s11
    obtain ⟨kz, hkz, ekz⟩ := hal.symm.2.2 _ _ hk9
    have A : Arr Z h q.sd q.SA .byte := ⟨s10, ⟨hst, kz, hkz, comp, by rw [ekz]; exact hkind9⟩, s12⟩
    exact ne_arr E wi A rfl

def own_eqv (a b : List Value) : Int32 := if a = b then (1 : Int32) else (0 : Int32)
theorem own_eqv_t {a b : List Value} (h : a = b) : own_eqv a b = 1 := if_pos h
theorem own_eqv_f {a b : List Value} (h : ¬ a = b) : own_eqv a b = 0 := if_neg h
theorem own_eqv_0 {a b : List Value} (h : own_eqv a b = 0) : ¬ a = b := fun q => by rw [own_eqv_t q] at h; cases h
theorem own_eqv_1 {a b : List Value} (h : ¬ own_eqv a b = 0) : a = b := by
  by_cases q : a = b
  · exact q
  · exact absurd (own_eqv_f q) h

def own_Wd (Z : State) (wALLOW : Addr) (wFORBID : Addr) (tALLOW : Addr) (tFORBID : Addr) (wV : Addr) (kwV : ClassId) (cs : Int32) : Prop := Sta Z Z.heap "com/example/claviger/claviger/engine/Effect" "ALLOW" "Lcom/example/claviger/claviger/engine/Effect;" (.ref wALLOW) ∧ Exa Z Z.heap wALLOW "com/example/claviger/claviger/engine/Effect" ∧ Sta Z Z.heap "com/example/claviger/claviger/engine/Effect" "FORBID" "Lcom/example/claviger/claviger/engine/Effect;" (.ref wFORBID) ∧ Exa Z Z.heap wFORBID "com/example/claviger/claviger/engine/Effect" ∧ Fld Z Z.heap wALLOW "com/example/claviger/claviger/engine/Effect" "word" "Ljava/lang/String;" (.ref tALLOW) ∧ own_St Z Z.heap tALLOW (5 : Int32) [(.int (97 : Int32)), (.int (108 : Int32)), (.int (108 : Int32)), (.int (111 : Int32)), (.int (119 : Int32))] ∧ Exa Z Z.heap tALLOW "java/lang/String" ∧ Fld Z Z.heap wFORBID "com/example/claviger/claviger/engine/Effect" "word" "Ljava/lang/String;" (.ref tFORBID) ∧ own_St Z Z.heap tFORBID (6 : Int32) [(.int (102 : Int32)), (.int (111 : Int32)), (.int (114 : Int32)), (.int (98 : Int32)), (.int (105 : Int32)), (.int (100 : Int32))] ∧ Exa Z Z.heap tFORBID "java/lang/String" ∧ Sta Z Z.heap "com/example/claviger/claviger/engine/Effect" "$VALUES" "[Lcom/example/claviger/claviger/engine/Effect;" (.ref wV) ∧ Exa Z Z.heap wV "[Lcom/example/claviger/claviger/engine/Effect;" ∧ Arv Z Z.heap wV kwV (.object "com/example/claviger/claviger/engine/Effect") (2 : Int32) [(.ref wALLOW), (.ref wFORBID)] .null ∧ Sta Z Z.heap "java/lang/String" "COMPACT_STRINGS" "Z" (.int cs) ∧ ¬ cs = (0 : Int32)
theorem own_wS {Z : State} {a0 : Array Value} (hw : ∀ d ∈ tables_1, d.before a0 Z = true) : ∀ a ∈ Bundle.stringAtoms, a.before a0 Z = true := by
  intro d hd
  simp only [Bundle.stringAtoms, List.mem_cons, List.not_mem_nil, or_false] at hd
  rcases hd with rfl | rfl | rfl | rfl | rfl | rfl | rfl
  · exact own_w hw 9
  · exact own_w hw 8
  · exact own_w hw 25
  · exact own_w hw 35
  · exact own_w hw 33
  · exact own_w hw 37
  · exact own_w hw 38
theorem own_EW {Z : State} {a0 : Array Value} (hw : ∀ d ∈ tables_1, d.before a0 Z = true) : EW Z a0 consts_1 := (EW.cons (own_w hw 36) (by decide +kernel) (EW.cons (own_w hw 74) (by decide +kernel) (EW.cons (own_w hw 76) (by decide +kernel) EW.nil)))
theorem own_cw {s : State} {args : Array Value} (hsets : ∀ d ∈ jdkStatics_1, d.before args s = true) : Jvm.Lit.compactW.before args s = true := hsets _ (List.mem_of_getElem? (i := 2) rfl)
theorem own_elemI {Z : State} {args : Array Value} {t : Jvm.Term} {a : Addr} {cl : Cell} {ty : FieldType} {j k : Int32} (ev : t.eval args Z none [] Z = some (.ref a)) (A : Arr Z Z.heap a cl ty) (h : (Jvm.Cond.eq (Jvm.Term.elem t (Jvm.Term.int j)) (Jvm.Term.int k)).value args Z none Z [] = some true) : cl.slots[j.toNatClampNeg]? = some (.int k) := by
  obtain ⟨x, y, hx, hy, k1, k2⟩ := cmp_v (Or.inl h)
  have q := (elem_in hx ev (Term.int_eval j) A.1).2
  rw [q]
  have hx' := eqv_i (Term.int_eval k) h
  exact hx.symm.trans hx'
theorem own_eqv_comm (a b : List Value) : own_eqv a b = own_eqv b a := by
  unfold own_eqv
  by_cases h : a = b
  · rw [if_pos h, if_pos h.symm]
  · rw [if_neg h, if_neg (fun q => h q.symm)]
/-- a char of 0 to 255 -/
def own_ch (c : Int32) : Prop := nar .char c = c ∧ ¬ (255 : Int32) < c
theorem own_ch256 : ∀ n : Fin 256, own_ch ((Int32.ofNat n.val).toUInt32.toUInt16.toUInt32.toInt32) := by
  unfold own_ch; decide +kernel
theorem own_ch_of {y : Int64} {c : Int32} (h : ((y &&& (255 : Int64)).toInt32).toUInt32.toUInt16.toUInt32.toInt32 = c) : own_ch c := by
  subst h
  have e : (y &&& (255 : Int64)).toInt = y.toInt % 2 ^ 8 := Jvm.Kit.i64_mask y 255 (k := 8) (by decide) (by decide)
  have e2 : ((y &&& (255 : Int64)).toInt32).toInt = y.toInt % 2 ^ 8 := by rw [Jvm.Kit.i32_of_i64 (by omega) (by omega), e]
  generalize (y &&& (255 : Int64)).toInt32 = w at e2 ⊢
  obtain ⟨n, hn⟩ : ∃ n : Fin 256, w = Int32.ofNat n.val := by
    refine ⟨⟨w.toInt.toNat, by omega⟩, Int32.toInt_inj.mp ?_⟩
    rw [Int32.toInt_ofNat_of_lt (by show w.toInt.toNat < _; omega)]
    show w.toInt = (w.toInt.toNat : Int)
    omega
  rw [hn]
  exact own_ch256 n
theorem own_rem5 {x n : Int32} (h : (x &&& (2147483647 : Int32)) = n) : (n % (5 : Int32)) = (0 : Int32) ∨ (n % (5 : Int32)) = (1 : Int32) ∨ (n % (5 : Int32)) = (2 : Int32) ∨ (n % (5 : Int32)) = (3 : Int32) ∨ (n % (5 : Int32)) = (4 : Int32) := by
  subst h
  have e : (x &&& (2147483647 : Int32)).toInt = x.toInt % 2 ^ 31 := Jvm.Kit.i32_mask x 2147483647 (k := 31) (by decide) (by decide)
  have e2 : ((x &&& (2147483647 : Int32)) % (5 : Int32)).toInt = (x.toInt % 2 ^ 31) % 5 := by rw [Jvm.Kit.i32_rem_nonneg (by omega), e]; rfl
  generalize ((x &&& (2147483647 : Int32)) % (5 : Int32)) = r at e2 ⊢
  obtain ⟨m, hm⟩ : ∃ m : Fin 5, r = Int32.ofNat m.val := ⟨⟨r.toInt.toNat, by omega⟩, Int32.toInt_inj.mp (by rw [Int32.toInt_ofNat_of_lt (by show r.toInt.toNat < _; omega)]; show r.toInt = (r.toInt.toNat : Int); omega)⟩
  rw [hm]
  exact (by decide : ∀ m : Fin 5, (Int32.ofNat m.val) = (0 : Int32) ∨ (Int32.ofNat m.val) = (1 : Int32) ∨ (Int32.ofNat m.val) = (2 : Int32) ∨ (Int32.ofNat m.val) = (3 : Int32) ∨ (Int32.ofNat m.val) = (4 : Int32)) m
theorem own_rem6 {x n : Int32} (h : (x &&& (2147483647 : Int32)) = n) : (n % (6 : Int32)) = (0 : Int32) ∨ (n % (6 : Int32)) = (1 : Int32) ∨ (n % (6 : Int32)) = (2 : Int32) ∨ (n % (6 : Int32)) = (3 : Int32) ∨ (n % (6 : Int32)) = (4 : Int32) ∨ (n % (6 : Int32)) = (5 : Int32) := by
  subst h
  have e : (x &&& (2147483647 : Int32)).toInt = x.toInt % 2 ^ 31 := Jvm.Kit.i32_mask x 2147483647 (k := 31) (by decide) (by decide)
  have e2 : ((x &&& (2147483647 : Int32)) % (6 : Int32)).toInt = (x.toInt % 2 ^ 31) % 6 := by rw [Jvm.Kit.i32_rem_nonneg (by omega), e]; rfl
  generalize ((x &&& (2147483647 : Int32)) % (6 : Int32)) = r at e2 ⊢
  obtain ⟨m, hm⟩ : ∃ m : Fin 6, r = Int32.ofNat m.val := ⟨⟨r.toInt.toNat, by omega⟩, Int32.toInt_inj.mp (by rw [Int32.toInt_ofNat_of_lt (by show r.toInt.toNat < _; omega)]; show r.toInt = (r.toInt.toNat : Int); omega)⟩
  rw [hm]
  exact (by decide : ∀ m : Fin 6, (Int32.ofNat m.val) = (0 : Int32) ∨ (Int32.ofNat m.val) = (1 : Int32) ∨ (Int32.ofNat m.val) = (2 : Int32) ∨ (Int32.ofNat m.val) = (3 : Int32) ∨ (Int32.ofNat m.val) = (4 : Int32) ∨ (Int32.ofNat m.val) = (5 : Int32)) m
theorem own_rem7 {x n : Int32} (h : (x &&& (2147483647 : Int32)) = n) : (n % (7 : Int32)) = (0 : Int32) ∨ (n % (7 : Int32)) = (1 : Int32) ∨ (n % (7 : Int32)) = (2 : Int32) ∨ (n % (7 : Int32)) = (3 : Int32) ∨ (n % (7 : Int32)) = (4 : Int32) ∨ (n % (7 : Int32)) = (5 : Int32) ∨ (n % (7 : Int32)) = (6 : Int32) := by
  subst h
  have e : (x &&& (2147483647 : Int32)).toInt = x.toInt % 2 ^ 31 := Jvm.Kit.i32_mask x 2147483647 (k := 31) (by decide) (by decide)
  have e2 : ((x &&& (2147483647 : Int32)) % (7 : Int32)).toInt = (x.toInt % 2 ^ 31) % 7 := by rw [Jvm.Kit.i32_rem_nonneg (by omega), e]; rfl
  generalize ((x &&& (2147483647 : Int32)) % (7 : Int32)) = r at e2 ⊢
  obtain ⟨m, hm⟩ : ∃ m : Fin 7, r = Int32.ofNat m.val := ⟨⟨r.toInt.toNat, by omega⟩, Int32.toInt_inj.mp (by rw [Int32.toInt_ofNat_of_lt (by show r.toInt.toNat < _; omega)]; show r.toInt = (r.toInt.toNat : Int); omega)⟩
  rw [hm]
  exact (by decide : ∀ m : Fin 7, (Int32.ofNat m.val) = (0 : Int32) ∨ (Int32.ofNat m.val) = (1 : Int32) ∨ (Int32.ofNat m.val) = (2 : Int32) ∨ (Int32.ofNat m.val) = (3 : Int32) ∨ (Int32.ofNat m.val) = (4 : Int32) ∨ (Int32.ofNat m.val) = (5 : Int32) ∨ (Int32.ofNat m.val) = (6 : Int32)) m

theorem djdk_42_149_0 : decode jdk_42_method_149_code 0 = .ok (.aload_n 0, 1) := by decide +kernel
theorem djdk_42_149_1 : decode jdk_42_method_149_code 1 = .ok (.invokespecial 1, 3) := by decide +kernel
theorem djdk_42_149_4 : decode jdk_42_method_149_code 4 = .ok (.iload_n 3, 1) := by decide +kernel
theorem djdk_42_149_5 : decode jdk_42_method_149_code 5 = .ok (.ifCond .ne 22, 3) := by decide +kernel
theorem djdk_42_149_8 : decode jdk_42_method_149_code 8 = .ok (.aload_n 0, 1) := by decide +kernel
theorem djdk_42_149_9 : decode jdk_42_method_149_code 9 = .ok (.ldc 7, 2) := by decide +kernel
theorem djdk_42_149_11 : decode jdk_42_method_149_code 11 = .ok (.getfield 9, 3) := by decide +kernel
theorem djdk_42_149_14 : decode jdk_42_method_149_code 14 = .ok (.putfield 9, 3) := by decide +kernel
theorem djdk_42_149_17 : decode jdk_42_method_149_code 17 = .ok (.aload_n 0, 1) := by decide +kernel
theorem djdk_42_149_18 : decode jdk_42_method_149_code 18 = .ok (.ldc 7, 2) := by decide +kernel
theorem djdk_42_149_20 : decode jdk_42_method_149_code 20 = .ok (.getfield 15, 3) := by decide +kernel
theorem djdk_42_149_23 : decode jdk_42_method_149_code 23 = .ok (.putfield 15, 3) := by decide +kernel
theorem djdk_42_149_26 : decode jdk_42_method_149_code 26 = .ok (.return_, 1) := by decide +kernel
theorem pn_java_lang_String : plainName "java/lang/String" = true := by first | (simp [plainName, overriddenIn]; done) | decide +kernel
theorem efsb0 (m : MethodId) (r0 : Addr) (r1 : Addr) : entryFrame m #[(.ref r0), (.ref r1), (.int (0 : Int32)), (.int (0 : Int32)), .null] 6 = mkF m 0 #[.val (.ref r0), .val (.ref r1), .val (.int (0 : Int32)), .val (.int (0 : Int32)), .val .null, .unset] [] := by first | (simp [entryFrame, mkF, argsToLocals, Value.category]; done) | rfl
def Qsb0 (Z : State) (r0 : Addr) (r1 : Addr) (wALLOW : Addr) (wFORBID : Addr) (tALLOW : Addr) (tFORBID : Addr) (wV : Addr) (kwV : ClassId) (cs : Int32) (h0 : Heap) (n0 : Nat) (v : Option Value) (h : Heap) (L : List Loc) : Prop := v = none ∧ Fr n0 L ∧ Keep h0 h [r0] ∧ own_St Z h r0 (0 : Int32) []
abbrev own_Ksb0 (Z : State) (r0 : Addr) (r1 : Addr) (wALLOW : Addr) (wFORBID : Addr) (tALLOW : Addr) (tFORBID : Addr) (wV : Addr) (kwV : ClassId) (cs : Int32) (h0 : Heap) (n0 : Nat) (s : State) : Outcome → State → Prop := fun o U' => ∃ v L, o = .returned v ∧ Qsb0 Z r0 r1 wALLOW wFORBID tALLOW tFORBID wV kwV cs h0 n0 v U'.heap L ∧ CHr Z consts_1 s.vm s.heap U'.vm U'.heap ∧ ReturnedEndW s o U' L ({ frames := 1, cells := 4, slots := 8, locals := 12 } : Room).cells ({ frames := 1, cells := 4, slots := 8, locals := 12 } : Room).slots
set_option maxRecDepth 65536 in
set_option maxHeartbeats 40000000 in
theorem rmsb0 (l : Launch) (Z : State) (a0 : Array Value) (hw : ∀ d ∈ tables_1, d.before a0 Z = true) (ws : List Jvm.Cond) (r0 : Addr) (r1 : Addr) (wALLOW : Addr) (wFORBID : Addr) (tALLOW : Addr) (tFORBID : Addr) (wV : Addr) (kwV : ClassId) (cs : Int32) (h0 : Heap) (n0 : Nat) (Z0 : n0 ≤ h0.size) (O0 : Old Z n0 h0) (HW : own_Wd Z wALLOW wFORBID tALLOW tFORBID wV kwV cs) (E0 : Exa Z h0 r0 "java/lang/String") (g_r0 : n0 ≤ r0) (F_value : Fld Z h0 r0 "java/lang/String" "value" "[B" .null) (F_coder : Fld Z h0 r0 "java/lang/String" "coder" "B" (.int (0 : Int32))) :
    MetFree l (⟨"java/lang/String", "<init>", "([CIILjava/lang/Void;)V"⟩ : MethodName) (head1 (Jvm.Cond.code (⟨"java/lang/String", "<init>", "([CIILjava/lang/Void;)V"⟩ : MethodName) jdk_42_method_149_code 6 none :: ws) ({ frames := 1, cells := 4, slots := 8, locals := 12 } : Room)) (fun a U => a = #[(.ref r0), (.ref r1), (.int (0 : Int32)), (.int (0 : Int32)), .null] ∧ Z.Warmed39 U.vm ∧ U.heap = h0 ∧ CHv Z consts_1 U.vm h0) (fun _ _ _ _ _ => True) (fun _ U o U' => ∃ v L, o = .returned v ∧ Qsb0 Z r0 r1 wALLOW wFORBID tALLOW tFORBID wV kwV cs h0 n0 v U'.heap L ∧ CHr Z consts_1 U.vm U.heap U'.vm U'.heap ∧ ReturnedEndW U o U' L ({ frames := 1, cells := 4, slots := 8, locals := 12 } : Room).cells ({ frames := 1, cells := 4, slots := 8, locals := 12 } : Room).slots) := by
  refine MetFree.of_bodySF (plainFor_of_name pn_java_lang_String) hisR ?_
  intro p e s m args below meth c s₁ Bd hml0 hP hK
  obtain ⟨rfl, hZ, hh, hCH⟩ := hP
  have hx := Bd.exec
  have hby := Bd.bytes
  have hml : c.maxLocals = 6 := hml0
  have hown : s.vm.findClass "java/lang/String" = some m.cls := findClass_of_methodNamed Bd.named
  have hnm := (name_of_methodNamed Bd.named Bd.method).1
  have X0 : Stand p l e ({ frames := 1, cells := 4, slots := 8, locals := 12 } : Room) (s.setVm s.vm) m #[(.ref r0), (.ref r1), (.int (0 : Int32)), (.int (0 : Int32)), .null] below meth c s₁ [] 0 0 := Stand.of_body Bd
  have e0 : s₁.heap = h0 := by rw [← hh, Bd.state]; rfl
  have N0 := Fr.nil n0
  have hS0 : s.Since s.vm h0.size := (State.WarmedH.refl s).since _
  have C0 : CHr Z consts_1 s.vm h0 s.vm h0 := CHr.refl hCH
  refine own_by (p := p) (e := e) (below := below) (K := own_Ksb0 Z r0 r1 wALLOW wFORBID tALLOW tFORBID wV kwV cs h0 n0 s) (W' := s₁.setTop (mkF m 0 #[.val (.ref r0), .val (.ref r1), .val (.int (0 : Int32)), .val (.int (0 : Int32)), .val .null, .unset] [])) (fun t k => castTop (efsb0 m r0 r1) k) ?_
  have Sf_r0 : Safe Z consts_1 s.vm h0 r0 := own_safeNull hZ.alike E0 (own_w hw 8) F_value
  obtain ⟨T21, X21, e21, st21⟩ := initO X0 hx hZ hown (own_w hw 17) (own_w hw 18) (own_w hw 19) e0 (g := (mkF m 1 #[.val (.ref r0), .val (.ref r1), .val (.int (0 : Int32)), .val (.int (0 : Int32)), .val .null, .unset] [(.ref r0)])) rfl (by rw [hml]; rfl) rfl (hb hby djdk_42_149_1) (by decide) (W := 0) (by show 2 * 0 + _ ≤ _; exact Nat.le_of_eq rfl) (by decide)
  obtain ⟨a22, T22, h22, k22, lb22, lk22, X22, e22, E22, hS22, hk22, hZ22, hown22, Le22, Lc22_, Lv22, La22, -, -, Cm22, -, Ln22, st22⟩ := ldcCH (s := s) (vm0 := s.vm) X21 hx hZ hown (own_w hw 76) (own_wS hw) e21 hS0 (Nat.le_refl _) (own_EW hw) (List.mem_of_getElem? (i := 2) rfl) C0.1 (vs := []) (z := (0 : Int32)) ⟨by decide +kernel, by rfl⟩ (by decide) (by decide) (g := (mkF m 9 #[.val (.ref r0), .val (.ref r1), .val (.int (0 : Int32)), .val (.int (0 : Int32)), .val .null, .unset] [(.ref r0)])) rfl (hb hby djdk_42_149_9) (n := 0) (by decide +kernel) (by decide) (by decide) (by decide)
  have Sf22_r0 := CHr.safe Cm22 E0.lt Sf_r0
  have C22 := CHr.trans C0 Cm22
  have O22 := O0.ext E22
  have K22 := Keep.ext (Keep.refl h0 [r0]) E22
  have ne_r0_a22 := (Ln22 _ Sf22_r0).1
  have ne_r0_lb22 := (Ln22 _ Sf22_r0).2
  refine own_by (W' := (T22.setTop (mkF m 11 #[.val (.ref r0), .val (.ref r1), .val (.int (0 : Int32)), .val (.int (0 : Int32)), .val .null, .unset] [(.ref a22), (.ref r0)]))) (fun t k => XS.aloadN X0.here hx rfl (hb hby djdk_42_149_0) rfl rfl (st21 _ (XS.iloadN X21.here hx rfl (hb hby djdk_42_149_4) rfl (XS.ifNo X21.here hx rfl (hb hby djdk_42_149_5) rfl ((if0 _ _).trans (teq (rfl : (0 : Int32) = (0 : Int32))).2) (XS.aloadN X21.here hx rfl (hb hby djdk_42_149_8) rfl rfl (st22 _ k)))))) ?_
  obtain ⟨T23, X23, e23, st23⟩ := getF X22 hx hZ22 hown22 (host := "") (Or.inl (own_w hw 34)) Via.refl e22 Lv22 (g := (mkF m 11 #[.val (.ref r0), .val (.ref r1), .val (.int (0 : Int32)), .val (.int (0 : Int32)), .val .null, .unset] [(.ref a22), (.ref r0)])) rfl rfl (hb hby djdk_42_149_11)
  obtain ⟨T24, h24, X24, e24, W24, st24⟩ := putF X23 hx hZ22 hown22 (host := "") (Or.inl (own_w hw 34)) Via.refl e23 (F_value.ext E22) (E0.ext E22) (Or.inr ⟨(own_w hw 35), rfl, hnm⟩) (own_w hw 8) (ty := (.array .byte)) (by decide) rfl rfl (g := (mkF m 14 #[.val (.ref r0), .val (.ref r1), .val (.int (0 : Int32)), .val (.int (0 : Int32)), .val .null, .unset] [(.ref lb22), (.ref r0)])) rfl rfl (hb hby djdk_42_149_14)
  have Fw24 := (F_value.ext E22).same W24
  have Sf24_r0 := Safe.wr W24 Sf22_r0 C22.1 Sf22_r0
  have C24 := CHr.trans C22 (CHr.wr W24 Sf22_r0 C22.1)
  have O24 := Old.wr O22 W24 g_r0
  have N24 := Fr.snoc X24 N0 g_r0
  have K24 := Keep.wr K22 W24 (Or.inl (List.mem_of_getElem? (i := 0) rfl))
  obtain ⟨a25, T25, h25, k25, lb25, lk25, X25, e25, E25, hS25, hk25, hZ25, hown25, Le25, Lc25_, Lv25, La25, -, -, Cm25, -, Ln25, st25⟩ := ldcCH (s := s) (vm0 := T22.vm) X24 hx hZ22 hown22 (own_w hw 76) (own_wS hw) e24 hS22 (Nat.le_trans hk22 (Keep.of_wr W24).1) (own_EW hw) (List.mem_of_getElem? (i := 2) rfl) C24.1 (vs := []) (z := (0 : Int32)) ⟨by decide +kernel, by rfl⟩ (by decide) (by decide) (g := (mkF m 18 #[.val (.ref r0), .val (.ref r1), .val (.int (0 : Int32)), .val (.int (0 : Int32)), .val .null, .unset] [(.ref r0)])) rfl (hb hby djdk_42_149_18) (n := 0) (by decide +kernel) (by decide) (by decide) (by decide)
  have Sf25_r0 := CHr.safe Cm25 ((E0.ext E22).wr W24).lt Sf24_r0
  have C25 := CHr.trans C24 Cm25
  have O25 := O24.ext E25
  have K25 := Keep.ext K24 E25
  have ne_r0_a25 := (Ln25 _ Sf25_r0).1
  have ne_r0_lb25 := (Ln25 _ Sf25_r0).2
  obtain ⟨T26, X26, e26, st26⟩ := getF X25 hx hZ25 hown25 (host := "") (Or.inl (own_w hw 32)) Via.refl e25 Lc25_ (g := (mkF m 20 #[.val (.ref r0), .val (.ref r1), .val (.int (0 : Int32)), .val (.int (0 : Int32)), .val .null, .unset] [(.ref a25), (.ref r0)])) rfl rfl (hb hby djdk_42_149_20)
  obtain ⟨T27, h27, X27, e27, W27, st27⟩ := putFN X26 hx hZ25 hown25 (own_w hw 32) Via.refl e26 (((F_coder.ext E22).other W24 (Or.inr (slot_ne (Or.inr (own_w hw 33)) (Or.inr (own_w hw 35)) (by decide) (t := .byte) (t' := (.array .byte)) (by decide) (by decide)))).ext E25) (((E0.ext E22).wr W24).ext E25) (Or.inr ⟨(own_w hw 33), rfl, hnm⟩) (own_w hw 8) (ty := .byte) (v' := .int (0 : Int32)) (by decide) rfl (by decide) (g := (mkF m 23 #[.val (.ref r0), .val (.ref r1), .val (.int (0 : Int32)), .val (.int (0 : Int32)), .val .null, .unset] [(.int (0 : Int32)), (.ref r0)])) rfl rfl (hb hby djdk_42_149_23)
  have Fw27 := (((F_coder.ext E22).other W24 (Or.inr (slot_ne (Or.inr (own_w hw 33)) (Or.inr (own_w hw 35)) (by decide) (t := .byte) (t' := (.array .byte)) (by decide) (by decide)))).ext E25).same W27
  have Sf27_r0 := Safe.wr W27 Sf25_r0 C25.1 Sf25_r0
  have C27 := CHr.trans C25 (CHr.wr W27 Sf25_r0 C25.1)
  have O27 := Old.wr O25 W27 g_r0
  have N27 := Fr.snoc X27 N24 g_r0
  have K27 := Keep.wr K25 W27 (Or.inl (List.mem_of_getElem? (i := 0) rfl))
  refine own_by (W' := (T27.setTop (mkF m 26 #[.val (.ref r0), .val (.ref r1), .val (.int (0 : Int32)), .val (.int (0 : Int32)), .val .null, .unset] []))) (fun t k => st23 _ (st24 _ (XS.aloadN X24.here hx rfl (hb hby djdk_42_149_17) rfl rfl (st25 _ (st26 _ (st27 _ k)))))) ?_
  obtain ⟨fs, hr, hrun, hended, hEnd⟩ := Jvm.Stand.leaveW (s := s) (vm₁ := T25.vm) X27 hS25 (by rw [e27]; exact (Nat.le_trans hk25 (Keep.of_wr W27).1)) (v := none) (fun _ => rfl)
  refine ⟨_, _, X27.returnOut hx Bd.returns (hb hby djdk_42_149_26) hr, hrun, hended, _, _, rfl, ?_, (by rw [hh]; show CHr Z consts_1 s.vm h0 T27.vm T27.heap; rw [e27]; exact CHr.trans C27 (CHv.at (s := s) (vm0 := T25.vm) X27 hZ25 (own_EW hw) C27.1)), hEnd.1, hEnd.2.1, hEnd.2.2.1, hEnd.2.2.2.mono (by decide) (by decide)⟩
  show Qsb0 Z r0 r1 wALLOW wFORBID tALLOW tFORBID wV kwV cs h0 n0 _ T27.heap _
  rw [e27]
  exact ⟨rfl, N27, K27, ((((E0.ext E22).wr W24).ext E25).wr W27), Fw27, _, _, ((Fw24.ext E25).other W27 (Or.inr (slot_ne (Or.inr (own_w hw 35)) (Or.inr (own_w hw 33)) (by decide) (t := (.array .byte)) (t' := .byte) (by decide) (by decide)))), (((La22.other W24 ne_r0_lb22.symm).ext E25).other W27 ne_r0_lb22.symm)⟩
theorem pd_1 : parseMethodDescriptor "([CIILjava/lang/Void;)V" = some ⟨[(.array .char), .int, .int, (.object "java/lang/Void")], none⟩ := by decide +kernel
theorem djdk_42_3_0 : decode jdk_42_method_3_code 0 = .ok (.aload_n 0, 1) := by decide +kernel
theorem djdk_42_3_1 : decode jdk_42_method_3_code 1 = .ok (.aload_n 1, 1) := by decide +kernel
theorem djdk_42_3_2 : decode jdk_42_method_3_code 2 = .ok (.iconst 0, 1) := by decide +kernel
theorem djdk_42_3_3 : decode jdk_42_method_3_code 3 = .ok (.aload_n 1, 1) := by decide +kernel
theorem djdk_42_3_4 : decode jdk_42_method_3_code 4 = .ok (.arraylength, 1) := by decide +kernel
theorem djdk_42_3_5 : decode jdk_42_method_3_code 5 = .ok (.aconst_null, 1) := by decide +kernel
theorem djdk_42_3_6 : decode jdk_42_method_3_code 6 = .ok (.invokespecial 27, 3) := by decide +kernel
theorem djdk_42_3_9 : decode jdk_42_method_3_code 9 = .ok (.return_, 1) := by decide +kernel
theorem efsa0 (m : MethodId) (r0 : Addr) (r1 : Addr) : entryFrame m #[(.ref r0), (.ref r1)] 2 = mkF m 0 #[.val (.ref r0), .val (.ref r1)] [] := by first | (simp [entryFrame, mkF, argsToLocals, Value.category]; done) | rfl
def Qsa0 (Z : State) (r0 : Addr) (r1 : Addr) (kC : ClassId) (wALLOW : Addr) (wFORBID : Addr) (tALLOW : Addr) (tFORBID : Addr) (wV : Addr) (kwV : ClassId) (cs : Int32) (h0 : Heap) (n0 : Nat) (v : Option Value) (h : Heap) (L : List Loc) : Prop := v = none ∧ Fr n0 L ∧ Keep h0 h [r0] ∧ own_St Z h r0 (0 : Int32) []
abbrev own_Ksa0 (Z : State) (r0 : Addr) (r1 : Addr) (kC : ClassId) (wALLOW : Addr) (wFORBID : Addr) (tALLOW : Addr) (tFORBID : Addr) (wV : Addr) (kwV : ClassId) (cs : Int32) (h0 : Heap) (n0 : Nat) (s : State) : Outcome → State → Prop := fun o U' => ∃ v L, o = .returned v ∧ Qsa0 Z r0 r1 kC wALLOW wFORBID tALLOW tFORBID wV kwV cs h0 n0 v U'.heap L ∧ CHr Z consts_1 s.vm s.heap U'.vm U'.heap ∧ ReturnedEndW s o U' L ({ frames := 2, cells := 4, slots := 8, locals := 29 } : Room).cells ({ frames := 2, cells := 4, slots := 8, locals := 29 } : Room).slots
set_option maxRecDepth 65536 in
set_option maxHeartbeats 40000000 in
theorem rmsa0 (l : Launch) (Z : State) (a0 : Array Value) (hw : ∀ d ∈ tables_1, d.before a0 Z = true) (ws : List Jvm.Cond) (r0 : Addr) (r1 : Addr) (kC : ClassId) (wALLOW : Addr) (wFORBID : Addr) (tALLOW : Addr) (tFORBID : Addr) (wV : Addr) (kwV : ClassId) (cs : Int32) (h0 : Heap) (n0 : Nat) (Z0 : n0 ≤ h0.size) (O0 : Old Z n0 h0) (HW : own_Wd Z wALLOW wFORBID tALLOW tFORBID wV kwV cs) (E0 : Exa Z h0 r0 "java/lang/String") (g_r0 : n0 ≤ r0) (F_value : Fld Z h0 r0 "java/lang/String" "value" "[B" .null) (F_coder : Fld Z h0 r0 "java/lang/String" "coder" "B" (.int (0 : Int32))) (V1 : Arv Z h0 r1 kC .char (0 : Int32) [] (.int (0 : Int32))) :
    MetFree l (⟨"java/lang/String", "<init>", "([C)V"⟩ : MethodName) (head1 (Jvm.Cond.code (⟨"java/lang/String", "<init>", "([C)V"⟩ : MethodName) jdk_42_method_3_code 2 none :: ws) ({ frames := 2, cells := 4, slots := 8, locals := 29 } : Room)) (fun a U => a = #[(.ref r0), (.ref r1)] ∧ Z.Warmed39 U.vm ∧ U.heap = h0 ∧ CHv Z consts_1 U.vm h0) (fun _ _ _ _ _ => True) (fun _ U o U' => ∃ v L, o = .returned v ∧ Qsa0 Z r0 r1 kC wALLOW wFORBID tALLOW tFORBID wV kwV cs h0 n0 v U'.heap L ∧ CHr Z consts_1 U.vm U.heap U'.vm U'.heap ∧ ReturnedEndW U o U' L ({ frames := 2, cells := 4, slots := 8, locals := 29 } : Room).cells ({ frames := 2, cells := 4, slots := 8, locals := 29 } : Room).slots) := by
  refine MetFree.of_bodySF (plainFor_of_name pn_java_lang_String) hisR ?_
  intro p e s m args below meth c s₁ Bd hml0 hP hK
  obtain ⟨rfl, hZ, hh, hCH⟩ := hP
  have hx := Bd.exec
  have hby := Bd.bytes
  have hml : c.maxLocals = 2 := hml0
  have hown : s.vm.findClass "java/lang/String" = some m.cls := findClass_of_methodNamed Bd.named
  have hnm := (name_of_methodNamed Bd.named Bd.method).1
  have X0 : Stand p l e ({ frames := 2, cells := 4, slots := 8, locals := 29 } : Room) (s.setVm s.vm) m #[(.ref r0), (.ref r1)] below meth c s₁ [] 0 0 := Stand.of_body Bd
  have e0 : s₁.heap = h0 := by rw [← hh, Bd.state]; rfl
  have N0 := Fr.nil n0
  have hS0 : s.Since s.vm h0.size := (State.WarmedH.refl s).since _
  have C0 : CHr Z consts_1 s.vm h0 s.vm h0 := CHr.refl hCH
  refine own_by (p := p) (e := e) (below := below) (K := own_Ksa0 Z r0 r1 kC wALLOW wFORBID tALLOW tFORBID wV kwV cs h0 n0 s) (W' := s₁.setTop (mkF m 0 #[.val (.ref r0), .val (.ref r1)] [])) (fun t k => castTop (efsa0 m r0 r1) k) ?_
  have Sf_r0 : Safe Z consts_1 s.vm h0 r0 := own_safeNull hZ.alike E0 (own_w hw 8) F_value
  obtain ⟨clu21, Aru21, qu21, Su21, Ngu21, Hau21, Gau21⟩ := id V1
  refine own_by (W' := (s₁.setTop (mkF m 5 #[.val (.ref r0), .val (.ref r1)] [(.int clu21.slots.size.toInt32), (.int (0 : Int32)), (.ref r1), (.ref r0)]))) (fun t k => XS.aloadN X0.here hx rfl (hb hby djdk_42_3_0) rfl rfl (XS.aloadN X0.here hx rfl (hb hby djdk_42_3_1) rfl rfl (XS.iconst X0.here hx rfl (hb hby djdk_42_3_2) (XS.aloadN X0.here hx rfl (hb hby djdk_42_3_3) rfl rfl ((X0.arraylength hx (by rw [e0]; exact Aru21.1) (State.isArrayOf_alike hZ.alike Aru21.2.1) (g := (mkF m 4 #[.val (.ref r0), .val (.ref r1)] [(.ref r1), (.int (0 : Int32)), (.ref r1), (.ref r0)])) rfl rfl (hb hby djdk_42_3_4)) _ k))))) ?_
  rw [len_of Su21 Ngu21]
  obtain ⟨_, _, ⟨T22, L22, k22, n22⟩, -, X22, hs222, hg222, ⟨Lc22, hQ22, l22, y22, z22, Cm22⟩, st22⟩ := X0.specialBackS hx (y := (⟨"java/lang/String", "<init>", "([CIILjava/lang/Void;)V"⟩ : MethodName)) rfl hown (mvT hZ (own_w hw 13)) (mvT hZ (own_w hw 14)) (mvT hZ (own_w hw 16)) (by decide) (backOfSH (s := s) (vm0 := s.vm) (W := 0) (rmsb0 l Z a0 hw [] r0 r1 wALLOW wFORBID tALLOW tFORBID wV kwV cs h0 n0 Z0 O0 HW E0 g_r0 F_value F_coder) hZ (own_w hw 16) (own_w hw 9) (by decide) (by decide) (own_EW hw) C0.1) (g := (mkF m 6 #[.val (.ref r0), .val (.ref r1)] [.null, (.int (0 : Int32)), (.int (0 : Int32)), (.ref r1), (.ref r0)])) rfl (by rw [hml]; rfl) (Steps.refl _) (a := r0) (argsL := [(.ref r1), (.int (0 : Int32)), (.int (0 : Int32)), .null]) (rest := []) (lenOf pd_1 rfl) rfl (by show 2 * 0 + _ ≤ _; exact Nat.le_of_eq rfl) (hb hby djdk_42_3_6) (fun _ _ => ⟨rfl, e0, (by decide : 0 + 4 ≤ _), (by decide : 0 + 8 ≤ _)⟩)
  dsimp only [Pt.U, Pt.locs, Pt.cells, Pt.slots] at X22 l22 y22 z22 st22 hQ22 hs222 hg222 Cm22
  subst l22 y22 z22
  have Sf22_r0 := CHr.safe Cm22 E0.lt Sf_r0
  have C22 := CHr.trans C0 Cm22
  have hS22 : s.Since T22.vm T22.heap.size := foldS hS0 (by rw [e0]; exact (Nat.le_refl _)) hs222 hg222
  have hZ22 : Z.Warmed39 (s.setVm T22.vm).vm := State.Warmed39.trans (t := (s.setVm s.vm)) hZ hs222.1
  have hown22 : (s.setVm T22.vm).vm.findClass "java/lang/String" = some m.cls := by rw [show (s.setVm T22.vm).vm = T22.vm from rfl, hs222.1.alike.findClass]; exact hown
  obtain ⟨rfl, N22q, Kq22, Tq22⟩ := hQ22
  have O22 := Old.keep O0 Kq22 (allS g_r0 all0)
  have K22 := Keep.trans (Keep.refl h0 [r0]) Kq22 (allS (Or.inl (List.mem_of_getElem? (i := 0) rfl)) all0)
  have N22 := Fr.app N0 N22q
  obtain ⟨fs, hr, hrun, hended, hEnd⟩ := Jvm.Stand.leaveW (s := s) (vm₁ := T22.vm) X22 hS22 (Nat.le_refl _) (v := none) (fun _ => rfl)
  refine own_by (W' := (T22.setTop (mkF m 9 #[.val (.ref r0), .val (.ref r1)] []))) (fun t k => XS.aconstNull X0.here hx rfl (hb hby djdk_42_3_5) (Steps.trans st22 k)) ?_
  refine ⟨_, _, X22.returnOut hx Bd.returns (hb hby djdk_42_3_9) hr, hrun, hended, _, _, rfl, ?_, (by rw [hh]; show CHr Z consts_1 s.vm h0 T22.vm T22.heap; exact CHr.trans C22 (CHv.at (s := s) (vm0 := T22.vm) X22 hZ22 (own_EW hw) C22.1)), hEnd.1, hEnd.2.1, hEnd.2.2.1, hEnd.2.2.2.mono (by decide) (by decide)⟩
  show Qsa0 Z r0 r1 kC wALLOW wFORBID tALLOW tFORBID wV kwV cs h0 n0 _ T22.heap _
  exact ⟨rfl, N22, K22, Tq22⟩
theorem pd_2 : parseMethodDescriptor "([C)V" = some ⟨[(.array .char)], none⟩ := by decide +kernel
theorem dmethod_3_0 : decode method_3_code 0 = .ok (.iload_n 1, 1) := by decide +kernel
theorem dmethod_3_1 : decode method_3_code 1 = .ok (.ifCond .ne 14, 3) := by decide +kernel
theorem dmethod_3_4 : decode method_3_code 4 = .ok (.new 19, 3) := by decide +kernel
theorem dmethod_3_7 : decode method_3_code 7 = .ok (.dup, 1) := by decide +kernel
theorem dmethod_3_8 : decode method_3_code 8 = .ok (.iconst 0, 1) := by decide +kernel
theorem dmethod_3_9 : decode method_3_code 9 = .ok (.newarray .char, 2) := by decide +kernel
theorem dmethod_3_11 : decode method_3_code 11 = .ok (.invokespecial 39, 3) := by decide +kernel
theorem dmethod_3_14 : decode method_3_code 14 = .ok (.areturn, 1) := by decide +kernel
theorem pn_com_example_claviger_claviger_engine_EffectNamedPinLaw : plainName "com/example/claviger/claviger/engine/EffectNamedPinLaw" = true := by first | (simp [plainName, overriddenIn]; done) | decide +kernel
theorem efmk0 (m : MethodId) (r0 : Addr) : entryFrame m #[(.ref r0), (.int (0 : Int32))] 2 = mkF m 0 #[.val (.ref r0), .val (.int (0 : Int32))] [] := by first | (simp [entryFrame, mkF, argsToLocals, Value.category]; done) | rfl
def Qmk0 (Z : State) (r0 : Addr) (kC : ClassId) (c0 : Int32) (c1 : Int32) (c2 : Int32) (c3 : Int32) (c4 : Int32) (c5 : Int32) (wALLOW : Addr) (wFORBID : Addr) (tALLOW : Addr) (tFORBID : Addr) (wV : Addr) (kwV : ClassId) (cs : Int32) (h0 : Heap) (n0 : Nat) (v : Option Value) (h : Heap) (L : List Loc) : Prop := ∃ q : Addr, v = some (.ref q) ∧ Fr n0 L ∧ Keep h0 h [] ∧ h0.size ≤ q ∧ own_St Z h q (0 : Int32) []
abbrev own_Kmk0 (Z : State) (r0 : Addr) (kC : ClassId) (c0 : Int32) (c1 : Int32) (c2 : Int32) (c3 : Int32) (c4 : Int32) (c5 : Int32) (wALLOW : Addr) (wFORBID : Addr) (tALLOW : Addr) (tFORBID : Addr) (wV : Addr) (kwV : ClassId) (cs : Int32) (h0 : Heap) (n0 : Nat) (s : State) : Outcome → State → Prop := fun o U' => ∃ v L, o = .returned v ∧ Qmk0 Z r0 kC c0 c1 c2 c3 c4 c5 wALLOW wFORBID tALLOW tFORBID wV kwV cs h0 n0 v U'.heap L ∧ CHr Z consts_1 s.vm s.heap U'.vm U'.heap ∧ ReturnedEndW s o U' L ({ frames := 3, cells := 6, slots := 12, locals := 43 } : Room).cells ({ frames := 3, cells := 6, slots := 12, locals := 43 } : Room).slots
set_option maxRecDepth 65536 in
set_option maxHeartbeats 40000000 in
theorem rmmk0 (l : Launch) (Z : State) (a0 : Array Value) (hw : ∀ d ∈ tables_1, d.before a0 Z = true) (ws : List Jvm.Cond) (r0 : Addr) (kC : ClassId) (c0 : Int32) (c1 : Int32) (c2 : Int32) (c3 : Int32) (c4 : Int32) (c5 : Int32) (wALLOW : Addr) (wFORBID : Addr) (tALLOW : Addr) (tFORBID : Addr) (wV : Addr) (kwV : ClassId) (cs : Int32) (h0 : Heap) (n0 : Nat) (Z0 : n0 ≤ h0.size) (O0 : Old Z n0 h0) (HW : own_Wd Z wALLOW wFORBID tALLOW tFORBID wV kwV cs) (V0 : Arv Z h0 r0 kC .char (6 : Int32) [(.int c0), (.int c1), (.int c2), (.int c3), (.int c4), (.int c5)] (.int (0 : Int32))) (hl_c0 : own_ch c0) (hl_c1 : own_ch c1) (hl_c2 : own_ch c2) (hl_c3 : own_ch c3) (hl_c4 : own_ch c4) (hl_c5 : own_ch c5) :
    MetFree l (⟨"com/example/claviger/claviger/engine/EffectNamedPinLaw", "make", "([CI)Ljava/lang/String;"⟩ : MethodName) (head1 (Jvm.Cond.code (⟨"com/example/claviger/claviger/engine/EffectNamedPinLaw", "make", "([CI)Ljava/lang/String;"⟩ : MethodName) method_3_code 2 (some (.object "java/lang/String")) :: ws) ({ frames := 3, cells := 6, slots := 12, locals := 43 } : Room)) (fun a U => a = #[(.ref r0), (.int (0 : Int32))] ∧ Z.Warmed39 U.vm ∧ U.heap = h0 ∧ CHv Z consts_1 U.vm h0) (fun _ _ _ _ _ => True) (fun _ U o U' => ∃ v L, o = .returned v ∧ Qmk0 Z r0 kC c0 c1 c2 c3 c4 c5 wALLOW wFORBID tALLOW tFORBID wV kwV cs h0 n0 v U'.heap L ∧ CHr Z consts_1 U.vm U.heap U'.vm U'.heap ∧ ReturnedEndW U o U' L ({ frames := 3, cells := 6, slots := 12, locals := 43 } : Room).cells ({ frames := 3, cells := 6, slots := 12, locals := 43 } : Room).slots) := by
  refine MetFree.of_bodySF (plainFor_of_name pn_com_example_claviger_claviger_engine_EffectNamedPinLaw) hisR ?_
  intro p e s m args below meth c s₁ Bd hml0 hP hK
  obtain ⟨rfl, hZ, hh, hCH⟩ := hP
  have hx := Bd.exec
  have hby := Bd.bytes
  have hml : c.maxLocals = 2 := hml0
  have hown : s.vm.findClass "com/example/claviger/claviger/engine/EffectNamedPinLaw" = some m.cls := findClass_of_methodNamed Bd.named
  have hnm := (name_of_methodNamed Bd.named Bd.method).1
  have X0 : Stand p l e ({ frames := 3, cells := 6, slots := 12, locals := 43 } : Room) (s.setVm s.vm) m #[(.ref r0), (.int (0 : Int32))] below meth c s₁ [] 0 0 := Stand.of_body Bd
  have e0 : s₁.heap = h0 := by rw [← hh, Bd.state]; rfl
  have N0 := Fr.nil n0
  have hS0 : s.Since s.vm h0.size := (State.WarmedH.refl s).since _
  have C0 : CHr Z consts_1 s.vm h0 s.vm h0 := CHr.refl hCH
  refine own_by (p := p) (e := e) (below := below) (K := own_Kmk0 Z r0 kC c0 c1 c2 c3 c4 c5 wALLOW wFORBID tALLOW tFORBID wV kwV cs h0 n0 s) (W' := s₁.setTop (mkF m 0 #[.val (.ref r0), .val (.int (0 : Int32))] [])) (fun t k => castTop (efmk0 m r0) k) ?_
  obtain ⟨T21, h21, X21, e21, E21, A21, D21, -, st21⟩ := newO X0 hx hZ hown (own_w hw 7) (own_w hw 8) (own_w hw 9) e0 (g := (mkF m 4 #[.val (.ref r0), .val (.int (0 : Int32))] [])) rfl (hb hby dmethod_3_4) (by decide) (by decide)
  obtain ⟨b21, g21⟩ : ∃ z, z = h0.size := ⟨_, rfl⟩
  rw [← g21] at A21 D21 st21
  have g_b21 : n0 ≤ b21 := Nat.le_trans (own_le O0) (Nat.le_of_eq g21.symm)
  have sz_b21 : h0.size ≤ b21 := Nat.le_trans (Keep.refl h0 []).1 (Nat.le_of_eq g21.symm)
  have ne_r0_b21 : r0 ≠ b21 := Nat.ne_of_lt (Nat.lt_of_lt_of_le V0.lt (Nat.le_of_eq g21.symm))
  have Sf21_b21 : Safe Z consts_1 s.vm _ b21 := Safe.ext E21 C0.1 (Safe.new (Nat.le_of_eq g21.symm))
  have C21 := CHr.trans C0 (CHr.ext E21 C0.1)
  have O21 := O0.ext E21
  have K21 := Keep.ext (Keep.refl h0 []) E21
  have F_coder_b21 : Fld Z h21 b21 "java/lang/String" "coder" "B" (.int (0 : Int32)) := D21 (Or.inr (own_w hw 33)) (ty := .byte) (by decide)
  have F_value_b21 : Fld Z h21 b21 "java/lang/String" "value" "[B" .null := D21 (Or.inr (own_w hw 35)) (ty := (.array .byte)) (by decide)
  obtain ⟨T22, h22, k22, X22, e22, E22, A22, st22⟩ := newP X21 hx hZ (own_w hw 1) e21 (g := (mkF m 9 #[.val (.ref r0), .val (.int (0 : Int32))] [(.int (0 : Int32)), (.ref b21), (.ref b21)])) rfl (hb hby dmethod_3_9) rfl (by decide) (cap := 0) (by decide) (by decide) (by decide) (by decide)
  obtain ⟨b22, g22⟩ : ∃ z, z = h21.size := ⟨_, rfl⟩
  rw [← g22] at A22 st22
  have g_b22 : n0 ≤ b22 := Nat.le_trans (own_le O21) (Nat.le_of_eq g22.symm)
  have sz_b22 : h0.size ≤ b22 := Nat.le_trans K21.1 (Nat.le_of_eq g22.symm)
  have ne_r0_b22 : r0 ≠ b22 := Nat.ne_of_lt (Nat.lt_of_lt_of_le (V0.ext E21).lt (Nat.le_of_eq g22.symm))
  have ne_b21_b22 : b21 ≠ b22 := Nat.ne_of_lt (Nat.lt_of_lt_of_le A21.lt (Nat.le_of_eq g22.symm))
  have Sf22_b22 : Safe Z consts_1 s.vm _ b22 := Safe.ext E22 C21.1 (Safe.new (Nat.le_of_eq g22.symm))
  have Sf22_b21 := Safe.ext E22 C21.1 Sf21_b21
  have C22 := CHr.trans C21 (CHr.ext E22 C21.1)
  have O22 := O21.ext E22
  have K22 := Keep.ext K21 E22
  have V_b22 : Arv Z h22 b22 k22 .char (0 : Int32) [] (.int (0 : Int32)) := Arv.new A22 (by decide)
  refine own_by (W' := (T22.setTop (mkF m 11 #[.val (.ref r0), .val (.int (0 : Int32))] [(.ref b22), (.ref b21), (.ref b21)]))) (fun t k => XS.iloadN X0.here hx rfl (hb hby dmethod_3_0) rfl (XS.ifNo X0.here hx rfl (hb hby dmethod_3_1) rfl ((if0 _ _).trans (teq (rfl : (0 : Int32) = (0 : Int32))).2) (st21 _ (XS.dup X21.here hx rfl (hb hby dmethod_3_7) rfl rfl (XS.iconst X21.here hx rfl (hb hby dmethod_3_8) (st22 _ k)))))) ?_
  obtain ⟨_, _, ⟨T23, L23, k23, n23⟩, -, X23, hs223, hg223, ⟨Lc23, hQ23, l23, y23, z23, Cm23⟩, st23⟩ := X22.specialBackS hx (y := (⟨"java/lang/String", "<init>", "([C)V"⟩ : MethodName)) rfl hown (mvT hZ (own_w hw 10)) (mvT hZ (own_w hw 11)) (mvT hZ (own_w hw 12)) (by decide) (backOfSH (s := s) (vm0 := s.vm) (W := 1) (rmsa0 l Z a0 hw [] b21 b22 k22 wALLOW wFORBID tALLOW tFORBID wV kwV cs h22 n0 (own_le O22) O22 HW (A21.ext E22) g_b21 (F_value_b21.ext E22) (F_coder_b21.ext E22) V_b22) hZ (own_w hw 12) (own_w hw 9) (by decide) (by decide) (own_EW hw) C22.1) (g := (mkF m 11 #[.val (.ref r0), .val (.int (0 : Int32))] [(.ref b22), (.ref b21), (.ref b21)])) rfl (by rw [hml]; rfl) (Steps.refl _) (a := b21) (argsL := [(.ref b22)]) (rest := [(.ref b21)]) (lenOf pd_2 rfl) rfl (by show 2 * 0 + _ ≤ _; exact Nat.le_of_eq rfl) (hb hby dmethod_3_11) (fun _ _ => ⟨rfl, e22, (by decide : 2 + 4 ≤ _), (by decide : 4 + 8 ≤ _)⟩)
  dsimp only [Pt.U, Pt.locs, Pt.cells, Pt.slots] at X23 l23 y23 z23 st23 hQ23 hs223 hg223 Cm23
  subst l23 y23 z23
  have Sf23_b21 := CHr.safe Cm23 (A21.ext E22).lt Sf22_b21
  have Sf23_b22 := CHr.safe Cm23 V_b22.lt Sf22_b22
  have C23 := CHr.trans C22 Cm23
  have hS23 : s.Since T23.vm T23.heap.size := foldS hS0 (by rw [e22]; exact (Nat.le_trans (Nat.le_trans (Nat.le_refl _) E21.1) E22.1)) hs223 hg223
  have hZ23 : Z.Warmed39 (s.setVm T23.vm).vm := State.Warmed39.trans (t := (s.setVm s.vm)) hZ hs223.1
  have hown23 : (s.setVm T23.vm).vm.findClass "com/example/claviger/claviger/engine/EffectNamedPinLaw" = some m.cls := by rw [show (s.setVm T23.vm).vm = T23.vm from rfl, hs223.1.alike.findClass]; exact hown
  obtain ⟨rfl, N23q, Kq23, Tq23⟩ := hQ23
  have O23 := Old.keep O22 Kq23 (allS g_b21 all0)
  have K23 := Keep.trans K22 Kq23 (allS (Or.inr sz_b21) all0)
  have N23 := Fr.app N0 N23q
  obtain ⟨fs, hr, hrun, hended, hEnd⟩ := Jvm.Stand.leaveW (s := s) (vm₁ := T23.vm) X23 hS23 (Nat.le_refl _) (v := some (.ref b21)) (fun h => by rw [Bd.returns] at h; cases h)
  refine own_by (W' := (T23.setTop (mkF m 14 #[.val (.ref r0), .val (.int (0 : Int32))] [(.ref b21)]))) (fun t k => Steps.trans st23 k) ?_
  refine ⟨_, _, retOut X23 hx Bd.returns rfl (Or.inr (Or.inr (Or.inr (Or.inr ⟨rfl, rfl, rfl⟩)))) (hb hby dmethod_3_14) hr, hrun, hended, _, _, rfl, ?_, (by rw [hh]; show CHr Z consts_1 s.vm h0 T23.vm T23.heap; exact CHr.trans C23 (CHv.at (s := s) (vm0 := T23.vm) X23 hZ23 (own_EW hw) C23.1)), hEnd.1, hEnd.2.1, hEnd.2.2.1, hEnd.2.2.2.mono (by decide) (by decide)⟩
  show Qmk0 Z r0 kC c0 c1 c2 c3 c4 c5 wALLOW wFORBID tALLOW tFORBID wV kwV cs h0 n0 _ T23.heap _
  exact ⟨_, rfl, N23, K23, sz_b21, Tq23⟩
theorem djdk_52_21_0 : decode jdk_52_method_21_code 0 = .ok (.iconst 0, 1) := by decide +kernel
theorem djdk_52_21_1 : decode jdk_52_method_21_code 1 = .ok (.istore 5, 2) := by decide +kernel
theorem djdk_52_21_3 : decode jdk_52_method_21_code 3 = .ok (.iload 5, 2) := by decide +kernel
theorem djdk_52_21_5 : decode jdk_52_method_21_code 5 = .ok (.iload 4, 2) := by decide +kernel
theorem djdk_52_21_7 : decode jdk_52_method_21_code 7 = .ok (.if_icmp .ge 37, 3) := by decide +kernel
theorem djdk_52_21_10 : decode jdk_52_method_21_code 10 = .ok (.aload_n 0, 1) := by decide +kernel
theorem djdk_52_21_11 : decode jdk_52_method_21_code 11 = .ok (.iload_n 1, 1) := by decide +kernel
theorem djdk_52_21_12 : decode jdk_52_method_21_code 12 = .ok (.caload, 1) := by decide +kernel
theorem djdk_52_21_13 : decode jdk_52_method_21_code 13 = .ok (.istore 6, 2) := by decide +kernel
theorem djdk_52_21_15 : decode jdk_52_method_21_code 15 = .ok (.iload 6, 2) := by decide +kernel
theorem djdk_52_21_17 : decode jdk_52_method_21_code 17 = .ok (.sipush 255, 3) := by decide +kernel
theorem djdk_52_21_20 : decode jdk_52_method_21_code 20 = .ok (.if_icmp .le 6, 3) := by decide +kernel
theorem djdk_52_21_26 : decode jdk_52_method_21_code 26 = .ok (.aload_n 2, 1) := by decide +kernel
theorem djdk_52_21_27 : decode jdk_52_method_21_code 27 = .ok (.iload_n 3, 1) := by decide +kernel
theorem djdk_52_21_28 : decode jdk_52_method_21_code 28 = .ok (.iload 6, 2) := by decide +kernel
theorem djdk_52_21_30 : decode jdk_52_method_21_code 30 = .ok (.i2b, 1) := by decide +kernel
theorem djdk_52_21_31 : decode jdk_52_method_21_code 31 = .ok (.bastore, 1) := by decide +kernel
theorem djdk_52_21_32 : decode jdk_52_method_21_code 32 = .ok (.iinc 1 1, 3) := by decide +kernel
theorem djdk_52_21_35 : decode jdk_52_method_21_code 35 = .ok (.iinc 3 1, 3) := by decide +kernel
theorem djdk_52_21_38 : decode jdk_52_method_21_code 38 = .ok (.iinc 5 1, 3) := by decide +kernel
theorem djdk_52_21_41 : decode jdk_52_method_21_code 41 = .ok (.goto (-38), 3) := by decide +kernel
theorem djdk_52_21_44 : decode jdk_52_method_21_code 44 = .ok (.iload 4, 2) := by decide +kernel
theorem djdk_52_21_46 : decode jdk_52_method_21_code 46 = .ok (.ireturn, 1) := by decide +kernel
theorem pn_java_lang_StringUTF16 : plainName "java/lang/StringUTF16" = true := by first | (simp [plainName, overriddenIn]; done) | decide +kernel
theorem efcb1 (m : MethodId) (r0 : Addr) (r2 : Addr) : entryFrame m #[(.ref r0), (.int (0 : Int32)), (.ref r2), (.int (0 : Int32)), (.int (1 : Int32))] 7 = mkF m 0 #[.val (.ref r0), .val (.int (0 : Int32)), .val (.ref r2), .val (.int (0 : Int32)), .val (.int (1 : Int32)), .unset, .unset] [] := by first | (simp [entryFrame, mkF, argsToLocals, Value.category]; done) | rfl
def Qcb1 (Z : State) (r0 : Addr) (r2 : Addr) (kC : ClassId) (kB : ClassId) (c0 : Int32) (h0 : Heap) (n0 : Nat) (v : Option Value) (h : Heap) (L : List Loc) : Prop := v = some (.int (1 : Int32)) ∧ Fr n0 L ∧ Keep h0 h [r2] ∧ Arv Z h r2 kB .byte (1 : Int32) [(.int (nar .byte (c0.toInt8.toInt32)))] (.int (0 : Int32))
abbrev own_Kcb1 (Z : State) (r0 : Addr) (r2 : Addr) (kC : ClassId) (kB : ClassId) (c0 : Int32) (h0 : Heap) (n0 : Nat) (s : State) : Outcome → State → Prop := fun o U' => ∃ v L, o = .returned v ∧ Qcb1 Z r0 r2 kC kB c0 h0 n0 v U'.heap L ∧ FrameEnd s o U' L ({ frames := 0, cells := 0, slots := 0, locals := 0 } : Room).cells ({ frames := 0, cells := 0, slots := 0, locals := 0 } : Room).slots
set_option maxRecDepth 65536 in
set_option maxHeartbeats 40000000 in
theorem rmcb1 (l : Launch) (Z : State) (a0 : Array Value) (hw : ∀ d ∈ tables_1, d.before a0 Z = true) (ws : List Jvm.Cond) (r0 : Addr) (r2 : Addr) (kC : ClassId) (kB : ClassId) (c0 : Int32) (h0 : Heap) (n0 : Nat) (Z0 : n0 ≤ h0.size) (O0 : Old Z n0 h0) (V0 : Arv Z h0 r0 kC .char (1 : Int32) [(.int c0)] (.int (0 : Int32))) (V2 : Arv Z h0 r2 kB .byte (1 : Int32) [(.int (0 : Int32))] (.int (0 : Int32))) (g_r2 : n0 ≤ r2) (hne : r0 ≠ r2) (hc_c0 : ¬ (255 : Int32) < c0) :
    MetFree l (⟨"java/lang/StringUTF16", "compress", "([CI[BII)I"⟩ : MethodName) (head1 (Jvm.Cond.code (⟨"java/lang/StringUTF16", "compress", "([CI[BII)I"⟩ : MethodName) jdk_52_method_21_code 7 (some .int) :: ws) ({ frames := 0, cells := 0, slots := 0, locals := 0 } : Room)) (fun a U => a = #[(.ref r0), (.int (0 : Int32)), (.ref r2), (.int (0 : Int32)), (.int (1 : Int32))] ∧ Z.Warmed39 U.vm ∧ U.heap = h0) (fun _ _ _ _ _ => True) (fun _ U o U' => ∃ v L, o = .returned v ∧ Qcb1 Z r0 r2 kC kB c0 h0 n0 v U'.heap L ∧ FrameEnd U o U' L ({ frames := 0, cells := 0, slots := 0, locals := 0 } : Room).cells ({ frames := 0, cells := 0, slots := 0, locals := 0 } : Room).slots) := by
  refine MetFree.of_bodySF (plainFor_of_name pn_java_lang_StringUTF16) hisR ?_
  intro p e s m args below meth c s₁ Bd hml0 hP hK
  obtain ⟨rfl, hZ, hh⟩ := hP
  have hx := Bd.exec
  have hby := Bd.bytes
  have hml : c.maxLocals = 7 := hml0
  have hown : s.vm.findClass "java/lang/StringUTF16" = some m.cls := findClass_of_methodNamed Bd.named
  have hnm := (name_of_methodNamed Bd.named Bd.method).1
  have X0 : Stand p l e ({ frames := 0, cells := 0, slots := 0, locals := 0 } : Room) s m #[(.ref r0), (.int (0 : Int32)), (.ref r2), (.int (0 : Int32)), (.int (1 : Int32))] below meth c s₁ [] 0 0 := Stand.of_body Bd
  have e0 : s₁.heap = h0 := by rw [← hh, Bd.state]; rfl
  have N0 := Fr.nil n0
  refine own_by (p := p) (e := e) (below := below) (K := own_Kcb1 Z r0 r2 kC kB c0 h0 n0 s) (W' := s₁.setTop (mkF m 0 #[.val (.ref r0), .val (.int (0 : Int32)), .val (.ref r2), .val (.int (0 : Int32)), .val (.int (1 : Int32)), .unset, .unset] [])) (fun t k => castTop (efcb1 m r0 r2) k) ?_
  refine own_by (W' := (s₁.setTop (mkF m 11 #[.val (.ref r0), .val (.int (0 : Int32)), .val (.ref r2), .val (.int (0 : Int32)), .val (.int (1 : Int32)), .val (.int (0 : Int32)), .unset] [(.ref r0)]))) (fun t k => XS.iconst X0.here hx rfl (hb hby djdk_52_21_0) (XS.istore X0.here hx rfl (hb hby djdk_52_21_1) rfl (l' := #[.val (.ref r0), .val (.int (0 : Int32)), .val (.ref r2), .val (.int (0 : Int32)), .val (.int (1 : Int32)), .val (.int (0 : Int32)), .unset]) rfl (XS.iload X0.here hx rfl (hb hby djdk_52_21_3) rfl (XS.iload X0.here hx rfl (hb hby djdk_52_21_5) rfl (XS.icmpNo X0.here hx rfl (hb hby djdk_52_21_7) rfl (tlt (by decide : (0 : Int32) < (1 : Int32))).2.1 (XS.aloadN X0.here hx rfl (hb hby djdk_52_21_10) rfl rfl k)))))) ?_
  obtain ⟨clu21, Aru21, qu21, Su21, Ngu21, Hau21, Gau21⟩ := id V0
  have hinu21 : ¬ ((0 : Int32) < 0 ∨ clu21.slots.size ≤ ((0 : Int32)).toNatClampNeg) := inb_of Su21 ⟨by decide, by decide⟩
  have hatu21 : clu21.slots[((0 : Int32)).toNatClampNeg]? = some (.int c0) := Has.at Hau21 hinu21 rfl
  refine own_by (W' := (s₁.setTop (mkF m 26 #[.val (.ref r0), .val (.int (0 : Int32)), .val (.ref r2), .val (.int (0 : Int32)), .val (.int (1 : Int32)), .val (.int (0 : Int32)), .val (.int c0)] []))) (fun t k => XS.iloadN X0.here hx rfl (hb hby djdk_52_21_11) rfl ((X0.caload hx (j := (0 : Int32)) (v := (.int c0)) (by rw [e0]; exact Aru21.1) (State.isArrayOf_alike hZ.alike Aru21.2.1) Aru21.2.2 hinu21 hatu21 (g := (mkF m 12 #[.val (.ref r0), .val (.int (0 : Int32)), .val (.ref r2), .val (.int (0 : Int32)), .val (.int (1 : Int32)), .val (.int (0 : Int32)), .unset] [(.int (0 : Int32)), (.ref r0)])) rfl rfl (hb hby djdk_52_21_12)) _ (XS.istore X0.here hx rfl (hb hby djdk_52_21_13) rfl (l' := #[.val (.ref r0), .val (.int (0 : Int32)), .val (.ref r2), .val (.int (0 : Int32)), .val (.int (1 : Int32)), .val (.int (0 : Int32)), .val (.int c0)]) rfl (XS.iload X0.here hx rfl (hb hby djdk_52_21_15) rfl (XS.sipush X0.here hx rfl (hb hby djdk_52_21_17) (XS.icmpYes X0.here hx rfl (pc0 := 20) (pc' := 26) rfl (hb hby djdk_52_21_20) rfl (flt hc_c0).2.2.2 (by decide) (by decide) k)))))) ?_
  obtain ⟨clu22, Aru22, qu22, Su22, Ngu22, Hau22, Gau22⟩ := id V2
  have hinu22 : ¬ ((0 : Int32) < 0 ∨ clu22.slots.size ≤ ((0 : Int32)).toNatClampNeg) := inb_of Su22 ⟨by decide, by decide⟩
  obtain ⟨T23, h23, X23, e23, W23, st23⟩ := stB X0 hx hZ e0 Aru22 (j := (0 : Int32)) hinu22 (g := (mkF m 31 #[.val (.ref r0), .val (.int (0 : Int32)), .val (.ref r2), .val (.int (0 : Int32)), .val (.int (1 : Int32)), .val (.int (0 : Int32)), .val (.int c0)] [(.int (c0.toInt8.toInt32)), (.int (0 : Int32)), (.ref r2)])) rfl rfl (hb hby djdk_52_21_31)
  have Vu22 : Arv Z h23 r2 kB .byte (1 : Int32) [(.int (nar .byte (c0.toInt8.toInt32)))] (.int (0 : Int32)) := Arv.set Aru22 qu22 Su22 Ngu22 Hau22 Gau22 (fits_nar_byte _) W23 0 rfl (Nat.le_of_ble_eq_true rfl)
  have O23 := Old.wr O0 W23 g_r2
  have N23 := Fr.snoc X23 N0 g_r2
  have K23 := Keep.wr (Keep.refl h0 [r2]) W23 (Or.inl (List.mem_of_getElem? (i := 0) rfl))
  refine own_by (W' := (T23.setTop (mkF m 35 #[.val (.ref r0), .val (.int (1 : Int32)), .val (.ref r2), .val (.int (0 : Int32)), .val (.int (1 : Int32)), .val (.int (0 : Int32)), .val (.int c0)] []))) (fun t k => XS.aloadN X0.here hx rfl (hb hby djdk_52_21_26) rfl rfl (XS.iloadN X0.here hx rfl (hb hby djdk_52_21_27) rfl (XS.iload X0.here hx rfl (hb hby djdk_52_21_28) rfl (XS.i2b X0.here hx rfl (hb hby djdk_52_21_30) rfl (st23 _ (XS.iinc X23.here hx rfl (hb hby djdk_52_21_32) rfl (l' := #[.val (.ref r0), .val (.int (1 : Int32)), .val (.ref r2), .val (.int (0 : Int32)), .val (.int (1 : Int32)), .val (.int (0 : Int32)), .val (.int c0)]) rfl k)))))) ?_
  refine own_by (W' := (T23.setTop (mkF m 44 #[.val (.ref r0), .val (.int (1 : Int32)), .val (.ref r2), .val (.int (1 : Int32)), .val (.int (1 : Int32)), .val (.int (1 : Int32)), .val (.int c0)] []))) (fun t k => XS.iinc X23.here hx rfl (hb hby djdk_52_21_35) rfl (l' := #[.val (.ref r0), .val (.int (1 : Int32)), .val (.ref r2), .val (.int (1 : Int32)), .val (.int (1 : Int32)), .val (.int (0 : Int32)), .val (.int c0)]) rfl (XS.iinc X23.here hx rfl (hb hby djdk_52_21_38) rfl (l' := #[.val (.ref r0), .val (.int (1 : Int32)), .val (.ref r2), .val (.int (1 : Int32)), .val (.int (1 : Int32)), .val (.int (1 : Int32)), .val (.int c0)]) rfl (XS.goto X23.here hx rfl (pc0 := 41) (pc' := 3) rfl (hb hby djdk_52_21_41) (by decide) (by decide) (XS.iload X23.here hx rfl (hb hby djdk_52_21_3) rfl (XS.iload X23.here hx rfl (hb hby djdk_52_21_5) rfl (XS.icmpYes X23.here hx rfl (pc0 := 7) (pc' := 44) rfl (hb hby djdk_52_21_7) rfl (flt (by decide : ¬ ((1 : Int32) < (1 : Int32)))).2.1 (by decide) (by decide) k)))))) ?_
  obtain ⟨fs, hr, hrun, hended, hW, hsame⟩ := X23.leave (v := some (.int (1 : Int32))) (fun h => by rw [Bd.returns] at h; cases h)
  refine own_by (W' := (T23.setTop (mkF m 46 #[.val (.ref r0), .val (.int (1 : Int32)), .val (.ref r2), .val (.int (1 : Int32)), .val (.int (1 : Int32)), .val (.int (1 : Int32)), .val (.int c0)] [(.int (1 : Int32))]))) (fun t k => XS.iload X23.here hx rfl (hb hby djdk_52_21_44) rfl k) ?_
  refine ⟨_, _, retOut X23 hx Bd.returns rfl (Or.inl ⟨rfl, Or.inl rfl, _, rfl⟩) (hb hby djdk_52_21_46) hr, hrun, hended, _, _, rfl, ?_, ⟨_, rfl⟩, hW, hsame.mono (by decide) (by decide)⟩
  show Qcb1 Z r0 r2 kC kB c0 h0 n0 _ T23.heap _
  rw [e23]
  exact ⟨rfl, N23, K23, Vu22⟩
theorem pd_3 : parseMethodDescriptor "([CI[BII)I" = some ⟨[(.array .char), .int, (.array .byte), .int, .int], some .int⟩ := by decide +kernel
theorem djdk_52_16_0 : decode jdk_52_method_16_code 0 = .ok (.iload_n 2, 1) := by decide +kernel
theorem djdk_52_16_1 : decode jdk_52_method_16_code 1 = .ok (.newarray .byte, 2) := by decide +kernel
theorem djdk_52_16_3 : decode jdk_52_method_16_code 3 = .ok (.astore_n 3, 1) := by decide +kernel
theorem djdk_52_16_4 : decode jdk_52_method_16_code 4 = .ok (.aload_n 0, 1) := by decide +kernel
theorem djdk_52_16_5 : decode jdk_52_method_16_code 5 = .ok (.iload_n 1, 1) := by decide +kernel
theorem djdk_52_16_6 : decode jdk_52_method_16_code 6 = .ok (.aload_n 3, 1) := by decide +kernel
theorem djdk_52_16_7 : decode jdk_52_method_16_code 7 = .ok (.iconst 0, 1) := by decide +kernel
theorem djdk_52_16_8 : decode jdk_52_method_16_code 8 = .ok (.iload_n 2, 1) := by decide +kernel
theorem djdk_52_16_9 : decode jdk_52_method_16_code 9 = .ok (.invokestatic 115, 3) := by decide +kernel
theorem djdk_52_16_12 : decode jdk_52_method_16_code 12 = .ok (.istore 4, 2) := by decide +kernel
theorem djdk_52_16_14 : decode jdk_52_method_16_code 14 = .ok (.iload 4, 2) := by decide +kernel
theorem djdk_52_16_16 : decode jdk_52_method_16_code 16 = .ok (.iload_n 2, 1) := by decide +kernel
theorem djdk_52_16_17 : decode jdk_52_method_16_code 17 = .ok (.if_icmp .eq 40, 3) := by decide +kernel
theorem djdk_52_16_57 : decode jdk_52_method_16_code 57 = .ok (.aload_n 3, 1) := by decide +kernel
theorem djdk_52_16_58 : decode jdk_52_method_16_code 58 = .ok (.areturn, 1) := by decide +kernel
theorem efca1 (m : MethodId) (r0 : Addr) : entryFrame m #[(.ref r0), (.int (0 : Int32)), (.int (1 : Int32))] 6 = mkF m 0 #[.val (.ref r0), .val (.int (0 : Int32)), .val (.int (1 : Int32)), .unset, .unset, .unset] [] := by first | (simp [entryFrame, mkF, argsToLocals, Value.category]; done) | rfl
def Qca1 (Z : State) (r0 : Addr) (kC : ClassId) (c0 : Int32) (h0 : Heap) (n0 : Nat) (v : Option Value) (h : Heap) (L : List Loc) : Prop := ∃ (q : Addr) (kq : ClassId), v = some (.ref q) ∧ Fr n0 L ∧ Keep h0 h [] ∧ h0.size ≤ q ∧ Arv Z h q kq .byte (1 : Int32) [(.int (nar .byte (c0.toInt8.toInt32)))] (.int (0 : Int32))
abbrev own_Kca1 (Z : State) (r0 : Addr) (kC : ClassId) (c0 : Int32) (h0 : Heap) (n0 : Nat) (s : State) : Outcome → State → Prop := fun o U' => ∃ v L, o = .returned v ∧ Qca1 Z r0 kC c0 h0 n0 v U'.heap L ∧ FrameEnd s o U' L ({ frames := 1, cells := 1, slots := 1, locals := 18 } : Room).cells ({ frames := 1, cells := 1, slots := 1, locals := 18 } : Room).slots
set_option maxRecDepth 65536 in
set_option maxHeartbeats 40000000 in
theorem rmca1 (l : Launch) (Z : State) (a0 : Array Value) (hw : ∀ d ∈ tables_1, d.before a0 Z = true) (ws : List Jvm.Cond) (r0 : Addr) (kC : ClassId) (c0 : Int32) (h0 : Heap) (n0 : Nat) (Z0 : n0 ≤ h0.size) (O0 : Old Z n0 h0) (V0 : Arv Z h0 r0 kC .char (1 : Int32) [(.int c0)] (.int (0 : Int32))) (hc_c0 : ¬ (255 : Int32) < c0) :
    MetFree l (⟨"java/lang/StringUTF16", "compress", "([CII)[B"⟩ : MethodName) (head1 (Jvm.Cond.code (⟨"java/lang/StringUTF16", "compress", "([CII)[B"⟩ : MethodName) jdk_52_method_16_code 6 (some (.array .byte)) :: ws) ({ frames := 1, cells := 1, slots := 1, locals := 18 } : Room)) (fun a U => a = #[(.ref r0), (.int (0 : Int32)), (.int (1 : Int32))] ∧ Z.Warmed39 U.vm ∧ U.heap = h0) (fun _ _ _ _ _ => True) (fun _ U o U' => ∃ v L, o = .returned v ∧ Qca1 Z r0 kC c0 h0 n0 v U'.heap L ∧ FrameEnd U o U' L ({ frames := 1, cells := 1, slots := 1, locals := 18 } : Room).cells ({ frames := 1, cells := 1, slots := 1, locals := 18 } : Room).slots) := by
  refine MetFree.of_bodySF (plainFor_of_name pn_java_lang_StringUTF16) hisR ?_
  intro p e s m args below meth c s₁ Bd hml0 hP hK
  obtain ⟨rfl, hZ, hh⟩ := hP
  have hx := Bd.exec
  have hby := Bd.bytes
  have hml : c.maxLocals = 6 := hml0
  have hown : s.vm.findClass "java/lang/StringUTF16" = some m.cls := findClass_of_methodNamed Bd.named
  have hnm := (name_of_methodNamed Bd.named Bd.method).1
  have X0 : Stand p l e ({ frames := 1, cells := 1, slots := 1, locals := 18 } : Room) s m #[(.ref r0), (.int (0 : Int32)), (.int (1 : Int32))] below meth c s₁ [] 0 0 := Stand.of_body Bd
  have e0 : s₁.heap = h0 := by rw [← hh, Bd.state]; rfl
  have N0 := Fr.nil n0
  refine own_by (p := p) (e := e) (below := below) (K := own_Kca1 Z r0 kC c0 h0 n0 s) (W' := s₁.setTop (mkF m 0 #[.val (.ref r0), .val (.int (0 : Int32)), .val (.int (1 : Int32)), .unset, .unset, .unset] [])) (fun t k => castTop (efca1 m r0) k) ?_
  obtain ⟨T21, h21, k21, X21, e21, E21, A21, st21⟩ := newP X0 hx hZ (own_w hw 25) e0 (g := (mkF m 1 #[.val (.ref r0), .val (.int (0 : Int32)), .val (.int (1 : Int32)), .unset, .unset, .unset] [(.int (1 : Int32))])) rfl (hb hby djdk_52_16_1) rfl (by decide) (cap := 1) (by decide) (by decide) (by decide) (by decide)
  obtain ⟨b21, g21⟩ : ∃ z, z = h0.size := ⟨_, rfl⟩
  rw [← g21] at A21 st21
  have g_b21 : n0 ≤ b21 := Nat.le_trans (own_le O0) (Nat.le_of_eq g21.symm)
  have sz_b21 : h0.size ≤ b21 := Nat.le_trans (Keep.refl h0 []).1 (Nat.le_of_eq g21.symm)
  have ne_r0_b21 : r0 ≠ b21 := Nat.ne_of_lt (Nat.lt_of_lt_of_le V0.lt (Nat.le_of_eq g21.symm))
  have O21 := O0.ext E21
  have K21 := Keep.ext (Keep.refl h0 []) E21
  have V_b21 : Arv Z h21 b21 k21 .byte (1 : Int32) [(.int (0 : Int32))] (.int (0 : Int32)) := (Arv.new A21 (by decide)).pad (pad_rep [] (.int (0 : Int32)) 1)
  refine own_by (W' := (T21.setTop (mkF m 7 #[.val (.ref r0), .val (.int (0 : Int32)), .val (.int (1 : Int32)), .val (.ref b21), .unset, .unset] [(.ref b21), (.int (0 : Int32)), (.ref r0)]))) (fun t k => XS.iloadN X0.here hx rfl (hb hby djdk_52_16_0) rfl (st21 _ (XS.astoreN X21.here hx rfl (hb hby djdk_52_16_3) rfl rfl (l' := #[.val (.ref r0), .val (.int (0 : Int32)), .val (.int (1 : Int32)), .val (.ref b21), .unset, .unset]) rfl (XS.aloadN X21.here hx rfl (hb hby djdk_52_16_4) rfl rfl (XS.iloadN X21.here hx rfl (hb hby djdk_52_16_5) rfl (XS.aloadN X21.here hx rfl (hb hby djdk_52_16_6) rfl rfl k)))))) ?_
  obtain ⟨_, _, ⟨T22, L22, k22, n22⟩, -, X22, ⟨Lc22, hQ22, l22, y22, z22⟩, st22⟩ := Jvm.LawKit.callS X21 hx (y := (⟨"java/lang/StringUTF16", "compress", "([CI[BII)I"⟩ : MethodName)) hown (mvT hZ (own_w hw 26)) (mvT hZ (own_w hw 27)) (mvT hZ (own_w hw 23)) (mvT hZ (own_w hw 28)) (by decide) (backOf (W := 0) (rmcb1 l Z a0 hw [] r0 b21 kC k21 c0 h21 n0 (own_le O21) O21 (V0.ext E21) V_b21 g_b21 ne_r0_b21 hc_c0) hZ (own_w hw 28) (own_w hw 23) (by decide) (by decide)) (g := (mkF m 9 #[.val (.ref r0), .val (.int (0 : Int32)), .val (.int (1 : Int32)), .val (.ref b21), .unset, .unset] [(.int (1 : Int32)), (.int (0 : Int32)), (.ref b21), (.int (0 : Int32)), (.ref r0)])) rfl (by rw [hml]; rfl) (argsL := [(.ref r0), (.int (0 : Int32)), (.ref b21), (.int (0 : Int32)), (.int (1 : Int32))]) (rest := []) (lenOf pd_3 rfl) rfl (by show 2 * 0 + _ ≤ _; exact Nat.le_of_eq rfl) (hb hby djdk_52_16_9) (fun _ _ => ⟨rfl, e21, (by decide : 1 + 0 ≤ _), (by decide : 1 + 0 ≤ _)⟩)
  dsimp only [Pt.U, Pt.locs, Pt.cells, Pt.slots] at X22 l22 y22 z22 st22 hQ22
  subst l22 y22 z22
  obtain ⟨rfl, N22q, Kq22, Vq22⟩ := hQ22
  have O22 := Old.keep O21 Kq22 (allS g_b21 all0)
  have K22 := Keep.trans K21 Kq22 (allS (Or.inr sz_b21) all0)
  have N22 := Fr.app N0 N22q
  refine own_by (W' := (T22.setTop (mkF m 17 #[.val (.ref r0), .val (.int (0 : Int32)), .val (.int (1 : Int32)), .val (.ref b21), .val (.int (1 : Int32)), .unset] [(.int (1 : Int32)), (.int (1 : Int32))]))) (fun t k => XS.iconst X21.here hx rfl (hb hby djdk_52_16_7) (XS.iloadN X21.here hx rfl (hb hby djdk_52_16_8) rfl (st22 _ (XS.istore X22.here hx rfl (hb hby djdk_52_16_12) rfl (l' := #[.val (.ref r0), .val (.int (0 : Int32)), .val (.int (1 : Int32)), .val (.ref b21), .val (.int (1 : Int32)), .unset]) rfl (XS.iload X22.here hx rfl (hb hby djdk_52_16_14) rfl (XS.iloadN X22.here hx rfl (hb hby djdk_52_16_16) rfl k)))))) ?_
  obtain ⟨fs, hr, hrun, hended, hW, hsame⟩ := X22.leave (v := some (.ref b21)) (fun h => by rw [Bd.returns] at h; cases h)
  refine own_by (W' := (T22.setTop (mkF m 58 #[.val (.ref r0), .val (.int (0 : Int32)), .val (.int (1 : Int32)), .val (.ref b21), .val (.int (1 : Int32)), .unset] [(.ref b21)]))) (fun t k => XS.icmpYes X22.here hx rfl (pc0 := 17) (pc' := 57) rfl (hb hby djdk_52_16_17) rfl (teq (rfl : (1 : Int32) = (1 : Int32))).1 (by decide) (by decide) (XS.aloadN X22.here hx rfl (hb hby djdk_52_16_57) rfl rfl k)) ?_
  refine ⟨_, _, retOut X22 hx Bd.returns rfl (Or.inr (Or.inr (Or.inr (Or.inr ⟨rfl, rfl, rfl⟩)))) (hb hby djdk_52_16_58) hr, hrun, hended, _, _, rfl, ?_, ⟨_, rfl⟩, hW, hsame.mono (by decide) (by decide)⟩
  show Qca1 Z r0 kC c0 h0 n0 _ T22.heap _
  exact ⟨_, _, rfl, N22, K22, sz_b21, Vq22⟩
theorem djdk_52_15_0 : decode jdk_52_method_15_code 0 = .ok (.iload_n 1, 1) := by decide +kernel
theorem djdk_52_15_1 : decode jdk_52_method_15_code 1 = .ok (.aload_n 0, 1) := by decide +kernel
theorem djdk_52_15_2 : decode jdk_52_method_15_code 2 = .ok (.arraylength, 1) := by decide +kernel
theorem djdk_52_15_3 : decode jdk_52_method_15_code 3 = .ok (.isub, 1) := by decide +kernel
theorem djdk_52_15_4 : decode jdk_52_method_15_code 4 = .ok (.bipush 31, 2) := by decide +kernel
theorem djdk_52_15_6 : decode jdk_52_method_15_code 6 = .ok (.iushr, 1) := by decide +kernel
theorem djdk_52_15_7 : decode jdk_52_method_15_code 7 = .ok (.i2b, 1) := by decide +kernel
theorem djdk_52_15_8 : decode jdk_52_method_15_code 8 = .ok (.ireturn, 1) := by decide +kernel
theorem efcd1 (m : MethodId) (r0 : Addr) : entryFrame m #[(.ref r0), (.int (1 : Int32))] 2 = mkF m 0 #[.val (.ref r0), .val (.int (1 : Int32))] [] := by first | (simp [entryFrame, mkF, argsToLocals, Value.category]; done) | rfl
def Qcd1 (Z : State) (r0 : Addr) (kB : ClassId) (vl : List Value) (h0 : Heap) (n0 : Nat) (v : Option Value) (h : Heap) (L : List Loc) : Prop := v = some (.int (0 : Int32)) ∧ Fr n0 L ∧ h = h0
abbrev own_Kcd1 (Z : State) (r0 : Addr) (kB : ClassId) (vl : List Value) (h0 : Heap) (n0 : Nat) (s : State) : Outcome → State → Prop := fun o U' => ∃ v L, o = .returned v ∧ Qcd1 Z r0 kB vl h0 n0 v U'.heap L ∧ FrameEnd s o U' L ({ frames := 0, cells := 0, slots := 0, locals := 0 } : Room).cells ({ frames := 0, cells := 0, slots := 0, locals := 0 } : Room).slots
set_option maxRecDepth 65536 in
set_option maxHeartbeats 40000000 in
theorem rmcd1 (l : Launch) (Z : State) (a0 : Array Value) (hw : ∀ d ∈ tables_1, d.before a0 Z = true) (ws : List Jvm.Cond) (r0 : Addr) (kB : ClassId) (vl : List Value) (h0 : Heap) (n0 : Nat) (Z0 : n0 ≤ h0.size) (V0 : Arv Z h0 r0 kB .byte (1 : Int32) vl (.int (0 : Int32))) :
    MetFree l (⟨"java/lang/StringUTF16", "coderFromArrayLen", "([BI)B"⟩ : MethodName) (head1 (Jvm.Cond.code (⟨"java/lang/StringUTF16", "coderFromArrayLen", "([BI)B"⟩ : MethodName) jdk_52_method_15_code 2 (some .byte) :: ws) ({ frames := 0, cells := 0, slots := 0, locals := 0 } : Room)) (fun a U => a = #[(.ref r0), (.int (1 : Int32))] ∧ Z.Warmed39 U.vm ∧ U.heap = h0) (fun _ _ _ _ _ => True) (fun _ U o U' => ∃ v L, o = .returned v ∧ Qcd1 Z r0 kB vl h0 n0 v U'.heap L ∧ FrameEnd U o U' L ({ frames := 0, cells := 0, slots := 0, locals := 0 } : Room).cells ({ frames := 0, cells := 0, slots := 0, locals := 0 } : Room).slots) := by
  refine MetFree.of_bodySF (plainFor_of_name pn_java_lang_StringUTF16) hisR ?_
  intro p e s m args below meth c s₁ Bd hml0 hP hK
  obtain ⟨rfl, hZ, hh⟩ := hP
  have hx := Bd.exec
  have hby := Bd.bytes
  have hml : c.maxLocals = 2 := hml0
  have hown : s.vm.findClass "java/lang/StringUTF16" = some m.cls := findClass_of_methodNamed Bd.named
  have hnm := (name_of_methodNamed Bd.named Bd.method).1
  have X0 : Stand p l e ({ frames := 0, cells := 0, slots := 0, locals := 0 } : Room) s m #[(.ref r0), (.int (1 : Int32))] below meth c s₁ [] 0 0 := Stand.of_body Bd
  have e0 : s₁.heap = h0 := by rw [← hh, Bd.state]; rfl
  have N0 := Fr.nil n0
  refine own_by (p := p) (e := e) (below := below) (K := own_Kcd1 Z r0 kB vl h0 n0 s) (W' := s₁.setTop (mkF m 0 #[.val (.ref r0), .val (.int (1 : Int32))] [])) (fun t k => castTop (efcd1 m r0) k) ?_
  obtain ⟨clu21, Aru21, qu21, Su21, Ngu21, Hau21, Gau21⟩ := id V0
  refine own_by (W' := (s₁.setTop (mkF m 3 #[.val (.ref r0), .val (.int (1 : Int32))] [(.int clu21.slots.size.toInt32), (.int (1 : Int32))]))) (fun t k => XS.iloadN X0.here hx rfl (hb hby djdk_52_15_0) rfl (XS.aloadN X0.here hx rfl (hb hby djdk_52_15_1) rfl rfl ((X0.arraylength hx (by rw [e0]; exact Aru21.1) (State.isArrayOf_alike hZ.alike Aru21.2.1) (g := (mkF m 2 #[.val (.ref r0), .val (.int (1 : Int32))] [(.ref r0), (.int (1 : Int32))])) rfl rfl (hb hby djdk_52_15_2)) _ k))) ?_
  rw [len_of Su21 Ngu21]
  obtain ⟨fs, hr, hrun, hended, hW, hsame⟩ := X0.leave (v := some (.int (((((1 : Int32) - (1 : Int32)).toUInt32 >>> ((31 : Int32) &&& 31).toUInt32).toInt32).toInt8.toInt32))) (fun h => by rw [Bd.returns] at h; cases h)
  refine own_by (W' := (s₁.setTop (mkF m 8 #[.val (.ref r0), .val (.int (1 : Int32))] [(.int (((((1 : Int32) - (1 : Int32)).toUInt32 >>> ((31 : Int32) &&& 31).toUInt32).toInt32).toInt8.toInt32))]))) (fun t k => XS.isub X0.here hx rfl (hb hby djdk_52_15_3) rfl (XS.bipush X0.here hx rfl (hb hby djdk_52_15_4) (XS.iushr X0.here hx rfl (hb hby djdk_52_15_6) rfl (XS.i2b X0.here hx rfl (hb hby djdk_52_15_7) rfl k)))) ?_
  refine ⟨_, _, retOut X0 hx Bd.returns rfl (Or.inl ⟨rfl, Or.inr (Or.inr (Or.inl rfl)), _, rfl⟩) (hb hby djdk_52_15_8) hr, hrun, hended, _, _, rfl, ?_, ⟨_, rfl⟩, hW, hsame.mono (by decide) (by decide)⟩
  exact ⟨by rfl, N0, e0⟩
theorem pd_4 : parseMethodDescriptor "([CII)[B" = some ⟨[(.array .char), .int, .int], some (.array .byte)⟩ := by decide +kernel
theorem pd_5 : parseMethodDescriptor "([BI)B" = some ⟨[(.array .byte), .int], some .byte⟩ := by decide +kernel
theorem djdk_42_149_27 : decode jdk_42_method_149_code 27 = .ok (.getstatic 38, 3) := by decide +kernel
theorem djdk_42_149_30 : decode jdk_42_method_149_code 30 = .ok (.ifCond .eq 28, 3) := by decide +kernel
theorem djdk_42_149_33 : decode jdk_42_method_149_code 33 = .ok (.aload_n 1, 1) := by decide +kernel
theorem djdk_42_149_34 : decode jdk_42_method_149_code 34 = .ok (.iload_n 2, 1) := by decide +kernel
theorem djdk_42_149_35 : decode jdk_42_method_149_code 35 = .ok (.iload_n 3, 1) := by decide +kernel
theorem djdk_42_149_36 : decode jdk_42_method_149_code 36 = .ok (.invokestatic 177, 3) := by decide +kernel
theorem djdk_42_149_39 : decode jdk_42_method_149_code 39 = .ok (.astore 5, 2) := by decide +kernel
theorem djdk_42_149_41 : decode jdk_42_method_149_code 41 = .ok (.aload_n 0, 1) := by decide +kernel
theorem djdk_42_149_42 : decode jdk_42_method_149_code 42 = .ok (.aload 5, 2) := by decide +kernel
theorem djdk_42_149_44 : decode jdk_42_method_149_code 44 = .ok (.iload_n 3, 1) := by decide +kernel
theorem djdk_42_149_45 : decode jdk_42_method_149_code 45 = .ok (.invokestatic 47, 3) := by decide +kernel
theorem djdk_42_149_48 : decode jdk_42_method_149_code 48 = .ok (.putfield 15, 3) := by decide +kernel
theorem djdk_42_149_51 : decode jdk_42_method_149_code 51 = .ok (.aload_n 0, 1) := by decide +kernel
theorem djdk_42_149_52 : decode jdk_42_method_149_code 52 = .ok (.aload 5, 2) := by decide +kernel
theorem djdk_42_149_54 : decode jdk_42_method_149_code 54 = .ok (.putfield 9, 3) := by decide +kernel
theorem djdk_42_149_57 : decode jdk_42_method_149_code 57 = .ok (.return_, 1) := by decide +kernel
theorem efsb1 (m : MethodId) (r0 : Addr) (r1 : Addr) : entryFrame m #[(.ref r0), (.ref r1), (.int (0 : Int32)), (.int (1 : Int32)), .null] 6 = mkF m 0 #[.val (.ref r0), .val (.ref r1), .val (.int (0 : Int32)), .val (.int (1 : Int32)), .val .null, .unset] [] := by first | (simp [entryFrame, mkF, argsToLocals, Value.category]; done) | rfl
def Qsb1 (Z : State) (r0 : Addr) (r1 : Addr) (kC : ClassId) (c0 : Int32) (wALLOW : Addr) (wFORBID : Addr) (tALLOW : Addr) (tFORBID : Addr) (wV : Addr) (kwV : ClassId) (cs : Int32) (h0 : Heap) (n0 : Nat) (v : Option Value) (h : Heap) (L : List Loc) : Prop := v = none ∧ Fr n0 L ∧ Keep h0 h [r0] ∧ own_St Z h r0 (1 : Int32) [(.int (nar .byte (c0.toInt8.toInt32)))]
abbrev own_Ksb1 (Z : State) (r0 : Addr) (r1 : Addr) (kC : ClassId) (c0 : Int32) (wALLOW : Addr) (wFORBID : Addr) (tALLOW : Addr) (tFORBID : Addr) (wV : Addr) (kwV : ClassId) (cs : Int32) (h0 : Heap) (n0 : Nat) (s : State) : Outcome → State → Prop := fun o U' => ∃ v L, o = .returned v ∧ Qsb1 Z r0 r1 kC c0 wALLOW wFORBID tALLOW tFORBID wV kwV cs h0 n0 v U'.heap L ∧ FrameEnd s o U' L ({ frames := 2, cells := 1, slots := 1, locals := 35 } : Room).cells ({ frames := 2, cells := 1, slots := 1, locals := 35 } : Room).slots
set_option maxRecDepth 65536 in
set_option maxHeartbeats 40000000 in
theorem rmsb1 (l : Launch) (Z : State) (a0 : Array Value) (hw : ∀ d ∈ tables_1, d.before a0 Z = true) (ws : List Jvm.Cond) (r0 : Addr) (r1 : Addr) (kC : ClassId) (c0 : Int32) (wALLOW : Addr) (wFORBID : Addr) (tALLOW : Addr) (tFORBID : Addr) (wV : Addr) (kwV : ClassId) (cs : Int32) (h0 : Heap) (n0 : Nat) (Z0 : n0 ≤ h0.size) (O0 : Old Z n0 h0) (HW : own_Wd Z wALLOW wFORBID tALLOW tFORBID wV kwV cs) (E0 : Exa Z h0 r0 "java/lang/String") (g_r0 : n0 ≤ r0) (F_value : Fld Z h0 r0 "java/lang/String" "value" "[B" .null) (F_coder : Fld Z h0 r0 "java/lang/String" "coder" "B" (.int (0 : Int32))) (V1 : Arv Z h0 r1 kC .char (1 : Int32) [(.int c0)] (.int (0 : Int32))) (hc_c0 : ¬ (255 : Int32) < c0) :
    MetFree l (⟨"java/lang/String", "<init>", "([CIILjava/lang/Void;)V"⟩ : MethodName) (head1 (Jvm.Cond.code (⟨"java/lang/String", "<init>", "([CIILjava/lang/Void;)V"⟩ : MethodName) jdk_42_method_149_code 6 none :: ws) ({ frames := 2, cells := 1, slots := 1, locals := 35 } : Room)) (fun a U => a = #[(.ref r0), (.ref r1), (.int (0 : Int32)), (.int (1 : Int32)), .null] ∧ Z.Warmed39 U.vm ∧ U.heap = h0) (fun _ _ _ _ _ => True) (fun _ U o U' => ∃ v L, o = .returned v ∧ Qsb1 Z r0 r1 kC c0 wALLOW wFORBID tALLOW tFORBID wV kwV cs h0 n0 v U'.heap L ∧ FrameEnd U o U' L ({ frames := 2, cells := 1, slots := 1, locals := 35 } : Room).cells ({ frames := 2, cells := 1, slots := 1, locals := 35 } : Room).slots) := by
  refine MetFree.of_bodySF (plainFor_of_name pn_java_lang_String) hisR ?_
  intro p e s m args below meth c s₁ Bd hml0 hP hK
  obtain ⟨rfl, hZ, hh⟩ := hP
  have hx := Bd.exec
  have hby := Bd.bytes
  have hml : c.maxLocals = 6 := hml0
  have hown : s.vm.findClass "java/lang/String" = some m.cls := findClass_of_methodNamed Bd.named
  have hnm := (name_of_methodNamed Bd.named Bd.method).1
  have X0 : Stand p l e ({ frames := 2, cells := 1, slots := 1, locals := 35 } : Room) s m #[(.ref r0), (.ref r1), (.int (0 : Int32)), (.int (1 : Int32)), .null] below meth c s₁ [] 0 0 := Stand.of_body Bd
  have e0 : s₁.heap = h0 := by rw [← hh, Bd.state]; rfl
  have N0 := Fr.nil n0
  refine own_by (p := p) (e := e) (below := below) (K := own_Ksb1 Z r0 r1 kC c0 wALLOW wFORBID tALLOW tFORBID wV kwV cs h0 n0 s) (W' := s₁.setTop (mkF m 0 #[.val (.ref r0), .val (.ref r1), .val (.int (0 : Int32)), .val (.int (1 : Int32)), .val .null, .unset] [])) (fun t k => castTop (efsb1 m r0 r1) k) ?_
  obtain ⟨T21, X21, e21, st21⟩ := initO X0 hx hZ hown (own_w hw 17) (own_w hw 18) (own_w hw 19) e0 (g := (mkF m 1 #[.val (.ref r0), .val (.ref r1), .val (.int (0 : Int32)), .val (.int (1 : Int32)), .val .null, .unset] [(.ref r0)])) rfl (by rw [hml]; rfl) rfl (hb hby djdk_42_149_1) (by decide) (W := 0) (by show 2 * 0 + _ ≤ _; exact Nat.le_of_eq rfl) (by decide)
  obtain ⟨T22, X22, e22, st22⟩ := getS (host := "") X21 hx hZ hown (own_w hw 20) Via.refl e21 (HW.2.2.2.2.2.2.2.2.2.2.2.2.2.1.ext O0.2) (g := (mkF m 27 #[.val (.ref r0), .val (.ref r1), .val (.int (0 : Int32)), .val (.int (1 : Int32)), .val .null, .unset] [])) rfl (hb hby djdk_42_149_27)
  refine own_by (W' := (T22.setTop (mkF m 33 #[.val (.ref r0), .val (.ref r1), .val (.int (0 : Int32)), .val (.int (1 : Int32)), .val .null, .unset] []))) (fun t k => XS.aloadN X0.here hx rfl (hb hby djdk_42_149_0) rfl rfl (st21 _ (XS.iloadN X21.here hx rfl (hb hby djdk_42_149_4) rfl (XS.ifYes X21.here hx rfl (pc0 := 5) (pc' := 27) rfl (hb hby djdk_42_149_5) rfl ((if0 _ _).trans (feq (by decide : ¬ ((1 : Int32) = (0 : Int32)))).2) (by decide) (by decide) (st22 _ (XS.ifNo X22.here hx rfl (hb hby djdk_42_149_30) rfl ((if0 _ _).trans (feq HW.2.2.2.2.2.2.2.2.2.2.2.2.2.2).1) k)))))) ?_
  obtain ⟨_, _, ⟨T23, L23, k23, n23⟩, -, X23, ⟨Lc23, hQ23, l23, y23, z23⟩, st23⟩ := Jvm.LawKit.callS X22 hx (y := (⟨"java/lang/StringUTF16", "compress", "([CII)[B"⟩ : MethodName)) hown (mvT hZ (own_w hw 21)) (mvT hZ (own_w hw 22)) (mvT hZ (own_w hw 23)) (mvT hZ (own_w hw 24)) (by decide) (backOf (W := 0) (rmca1 l Z a0 hw [] r1 kC c0 h0 n0 Z0 O0 V1 hc_c0) hZ (own_w hw 24) (own_w hw 23) (by decide) (by decide)) (g := (mkF m 36 #[.val (.ref r0), .val (.ref r1), .val (.int (0 : Int32)), .val (.int (1 : Int32)), .val .null, .unset] [(.int (1 : Int32)), (.int (0 : Int32)), (.ref r1)])) rfl (by rw [hml]; rfl) (argsL := [(.ref r1), (.int (0 : Int32)), (.int (1 : Int32))]) (rest := []) (lenOf pd_4 rfl) rfl (by show 2 * 0 + _ ≤ _; exact Nat.le_of_eq rfl) (hb hby djdk_42_149_36) (fun _ _ => ⟨rfl, e22, (by decide : 0 + 1 ≤ _), (by decide : 0 + 1 ≤ _)⟩)
  dsimp only [Pt.U, Pt.locs, Pt.cells, Pt.slots] at X23 l23 y23 z23 st23 hQ23
  subst l23 y23 z23
  obtain ⟨fb23, kb23, rfl, N23q, Kq23, hsz23, Vq23⟩ := hQ23
  have ne_r0_fb23 : r0 ≠ fb23 := Nat.ne_of_lt (Nat.lt_of_lt_of_le E0.lt hsz23)
  have ne_r1_fb23 : r1 ≠ fb23 := Nat.ne_of_lt (Nat.lt_of_lt_of_le V1.lt hsz23)
  have O23 := Old.keep O0 Kq23 all0
  have K23 := Keep.trans (Keep.refl h0 [r0]) Kq23 all0
  have N23 := Fr.app N0 N23q
  refine own_by (W' := (T23.setTop (mkF m 42 #[.val (.ref r0), .val (.ref r1), .val (.int (0 : Int32)), .val (.int (1 : Int32)), .val .null, .val (.ref fb23)] [(.ref r0)]))) (fun t k => XS.aloadN X22.here hx rfl (hb hby djdk_42_149_33) rfl rfl (XS.iloadN X22.here hx rfl (hb hby djdk_42_149_34) rfl (XS.iloadN X22.here hx rfl (hb hby djdk_42_149_35) rfl (st23 _ (XS.astore X23.here hx rfl (hb hby djdk_42_149_39) rfl rfl (l' := #[.val (.ref r0), .val (.ref r1), .val (.int (0 : Int32)), .val (.int (1 : Int32)), .val .null, .val (.ref fb23)]) rfl (XS.aloadN X23.here hx rfl (hb hby djdk_42_149_41) rfl rfl k)))))) ?_
  obtain ⟨_, _, ⟨T24, L24, k24, n24⟩, -, X24, ⟨Lc24, hQ24, l24, y24, z24⟩, st24⟩ := Jvm.LawKit.callS X23 hx (y := (⟨"java/lang/StringUTF16", "coderFromArrayLen", "([BI)B"⟩ : MethodName)) hown (mvT hZ (own_w hw 29)) (mvT hZ (own_w hw 30)) (mvT hZ (own_w hw 23)) (mvT hZ (own_w hw 31)) (by decide) (backOf (W := 1) (rmcd1 l Z a0 hw [] fb23 kb23 [(.int (nar .byte (c0.toInt8.toInt32)))] T23.heap n0 (own_le O23) Vq23) hZ (own_w hw 31) (own_w hw 23) (by decide) (by decide)) (g := (mkF m 45 #[.val (.ref r0), .val (.ref r1), .val (.int (0 : Int32)), .val (.int (1 : Int32)), .val .null, .val (.ref fb23)] [(.int (1 : Int32)), (.ref fb23), (.ref r0)])) rfl (by rw [hml]; rfl) (argsL := [(.ref fb23), (.int (1 : Int32))]) (rest := [(.ref r0)]) (lenOf pd_5 rfl) rfl (by show 2 * 0 + _ ≤ _; exact Nat.le_of_eq rfl) (hb hby djdk_42_149_45) (fun _ _ => ⟨rfl, rfl, (by decide : 1 + 0 ≤ _), (by decide : 1 + 0 ≤ _)⟩)
  dsimp only [Pt.U, Pt.locs, Pt.cells, Pt.slots] at X24 l24 y24 z24 st24 hQ24
  subst l24 y24 z24
  obtain ⟨rfl, N24q, e24⟩ := hQ24
  have N24 := Fr.app N23 N24q
  obtain ⟨T25, h25, X25, e25, W25, st25⟩ := putFN X24 hx hZ hown (own_w hw 32) Via.refl e24 (F_coder.keep Kq23 nin0) (E0.keep Kq23) (Or.inr ⟨(own_w hw 33), rfl, hnm⟩) (own_w hw 8) (ty := .byte) (v' := .int (0 : Int32)) (by decide) rfl (by decide) (g := (mkF m 48 #[.val (.ref r0), .val (.ref r1), .val (.int (0 : Int32)), .val (.int (1 : Int32)), .val .null, .val (.ref fb23)] [(.int (0 : Int32)), (.ref r0)])) rfl rfl (hb hby djdk_42_149_48)
  have Fw25 := (F_coder.keep Kq23 nin0).same W25
  have O25 := Old.wr O23 W25 g_r0
  have N25 := Fr.snoc X25 N24 g_r0
  have K25 := Keep.wr K23 W25 (Or.inl (List.mem_of_getElem? (i := 0) rfl))
  refine own_by (W' := (T25.setTop (mkF m 54 #[.val (.ref r0), .val (.ref r1), .val (.int (0 : Int32)), .val (.int (1 : Int32)), .val .null, .val (.ref fb23)] [(.ref fb23), (.ref r0)]))) (fun t k => XS.aload X23.here hx rfl (hb hby djdk_42_149_42) rfl rfl (XS.iloadN X23.here hx rfl (hb hby djdk_42_149_44) rfl (st24 _ (st25 _ (XS.aloadN X25.here hx rfl (hb hby djdk_42_149_51) rfl rfl (XS.aload X25.here hx rfl (hb hby djdk_42_149_52) rfl rfl k)))))) ?_
  obtain ⟨T26, h26, X26, e26, W26, st26⟩ := putF X25 hx hZ hown (host := "") (Or.inl (own_w hw 34)) Via.refl e25 ((F_value.keep Kq23 nin0).other W25 (Or.inr (slot_ne (Or.inr (own_w hw 35)) (Or.inr (own_w hw 33)) (by decide) (t := (.array .byte)) (t' := .byte) (by decide) (by decide)))) ((E0.keep Kq23).wr W25) (Or.inr ⟨(own_w hw 35), rfl, hnm⟩) (own_w hw 8) (ty := (.array .byte)) (by decide) rfl rfl (g := (mkF m 54 #[.val (.ref r0), .val (.ref r1), .val (.int (0 : Int32)), .val (.int (1 : Int32)), .val .null, .val (.ref fb23)] [(.ref fb23), (.ref r0)])) rfl rfl (hb hby djdk_42_149_54)
  have Fw26 := ((F_value.keep Kq23 nin0).other W25 (Or.inr (slot_ne (Or.inr (own_w hw 35)) (Or.inr (own_w hw 33)) (by decide) (t := (.array .byte)) (t' := .byte) (by decide) (by decide)))).same W26
  have O26 := Old.wr O25 W26 g_r0
  have N26 := Fr.snoc X26 N25 g_r0
  have K26 := Keep.wr K25 W26 (Or.inl (List.mem_of_getElem? (i := 0) rfl))
  obtain ⟨fs, hr, hrun, hended, hW, hsame⟩ := X26.leave (v := none) (fun _ => rfl)
  refine own_by (W' := (T26.setTop (mkF m 57 #[.val (.ref r0), .val (.ref r1), .val (.int (0 : Int32)), .val (.int (1 : Int32)), .val .null, .val (.ref fb23)] []))) (fun t k => st26 _ k) ?_
  refine ⟨_, _, X26.returnOut hx Bd.returns (hb hby djdk_42_149_57) hr, hrun, hended, _, _, rfl, ?_, ⟨_, rfl⟩, hW, hsame.mono (by decide) (by decide)⟩
  show Qsb1 Z r0 r1 kC c0 wALLOW wFORBID tALLOW tFORBID wV kwV cs h0 n0 _ T26.heap _
  rw [e26]
  exact ⟨rfl, N26, K26, (((E0.keep Kq23).wr W25).wr W26), (Fw25.other W26 (Or.inr (slot_ne (Or.inr (own_w hw 33)) (Or.inr (own_w hw 35)) (by decide) (t := .byte) (t' := (.array .byte)) (by decide) (by decide)))), _, _, Fw26, ((Vq23.other W25 ne_r0_fb23.symm).other W26 ne_r0_fb23.symm)⟩
theorem efsa1 (m : MethodId) (r0 : Addr) (r1 : Addr) : entryFrame m #[(.ref r0), (.ref r1)] 2 = mkF m 0 #[.val (.ref r0), .val (.ref r1)] [] := by first | (simp [entryFrame, mkF, argsToLocals, Value.category]; done) | rfl
def Qsa1 (Z : State) (r0 : Addr) (r1 : Addr) (kC : ClassId) (c0 : Int32) (wALLOW : Addr) (wFORBID : Addr) (tALLOW : Addr) (tFORBID : Addr) (wV : Addr) (kwV : ClassId) (cs : Int32) (h0 : Heap) (n0 : Nat) (v : Option Value) (h : Heap) (L : List Loc) : Prop := v = none ∧ Fr n0 L ∧ Keep h0 h [r0] ∧ own_St Z h r0 (1 : Int32) [(.int (nar .byte (c0.toInt8.toInt32)))]
abbrev own_Ksa1 (Z : State) (r0 : Addr) (r1 : Addr) (kC : ClassId) (c0 : Int32) (wALLOW : Addr) (wFORBID : Addr) (tALLOW : Addr) (tFORBID : Addr) (wV : Addr) (kwV : ClassId) (cs : Int32) (h0 : Heap) (n0 : Nat) (s : State) : Outcome → State → Prop := fun o U' => ∃ v L, o = .returned v ∧ Qsa1 Z r0 r1 kC c0 wALLOW wFORBID tALLOW tFORBID wV kwV cs h0 n0 v U'.heap L ∧ FrameEnd s o U' L ({ frames := 3, cells := 1, slots := 1, locals := 52 } : Room).cells ({ frames := 3, cells := 1, slots := 1, locals := 52 } : Room).slots
set_option maxRecDepth 65536 in
set_option maxHeartbeats 40000000 in
theorem rmsa1 (l : Launch) (Z : State) (a0 : Array Value) (hw : ∀ d ∈ tables_1, d.before a0 Z = true) (ws : List Jvm.Cond) (r0 : Addr) (r1 : Addr) (kC : ClassId) (c0 : Int32) (wALLOW : Addr) (wFORBID : Addr) (tALLOW : Addr) (tFORBID : Addr) (wV : Addr) (kwV : ClassId) (cs : Int32) (h0 : Heap) (n0 : Nat) (Z0 : n0 ≤ h0.size) (O0 : Old Z n0 h0) (HW : own_Wd Z wALLOW wFORBID tALLOW tFORBID wV kwV cs) (E0 : Exa Z h0 r0 "java/lang/String") (g_r0 : n0 ≤ r0) (F_value : Fld Z h0 r0 "java/lang/String" "value" "[B" .null) (F_coder : Fld Z h0 r0 "java/lang/String" "coder" "B" (.int (0 : Int32))) (V1 : Arv Z h0 r1 kC .char (1 : Int32) [(.int c0)] (.int (0 : Int32))) (hc_c0 : ¬ (255 : Int32) < c0) :
    MetFree l (⟨"java/lang/String", "<init>", "([C)V"⟩ : MethodName) (head1 (Jvm.Cond.code (⟨"java/lang/String", "<init>", "([C)V"⟩ : MethodName) jdk_42_method_3_code 2 none :: ws) ({ frames := 3, cells := 1, slots := 1, locals := 52 } : Room)) (fun a U => a = #[(.ref r0), (.ref r1)] ∧ Z.Warmed39 U.vm ∧ U.heap = h0) (fun _ _ _ _ _ => True) (fun _ U o U' => ∃ v L, o = .returned v ∧ Qsa1 Z r0 r1 kC c0 wALLOW wFORBID tALLOW tFORBID wV kwV cs h0 n0 v U'.heap L ∧ FrameEnd U o U' L ({ frames := 3, cells := 1, slots := 1, locals := 52 } : Room).cells ({ frames := 3, cells := 1, slots := 1, locals := 52 } : Room).slots) := by
  refine MetFree.of_bodySF (plainFor_of_name pn_java_lang_String) hisR ?_
  intro p e s m args below meth c s₁ Bd hml0 hP hK
  obtain ⟨rfl, hZ, hh⟩ := hP
  have hx := Bd.exec
  have hby := Bd.bytes
  have hml : c.maxLocals = 2 := hml0
  have hown : s.vm.findClass "java/lang/String" = some m.cls := findClass_of_methodNamed Bd.named
  have hnm := (name_of_methodNamed Bd.named Bd.method).1
  have X0 : Stand p l e ({ frames := 3, cells := 1, slots := 1, locals := 52 } : Room) s m #[(.ref r0), (.ref r1)] below meth c s₁ [] 0 0 := Stand.of_body Bd
  have e0 : s₁.heap = h0 := by rw [← hh, Bd.state]; rfl
  have N0 := Fr.nil n0
  refine own_by (p := p) (e := e) (below := below) (K := own_Ksa1 Z r0 r1 kC c0 wALLOW wFORBID tALLOW tFORBID wV kwV cs h0 n0 s) (W' := s₁.setTop (mkF m 0 #[.val (.ref r0), .val (.ref r1)] [])) (fun t k => castTop (efsa1 m r0 r1) k) ?_
  obtain ⟨clu21, Aru21, qu21, Su21, Ngu21, Hau21, Gau21⟩ := id V1
  refine own_by (W' := (s₁.setTop (mkF m 5 #[.val (.ref r0), .val (.ref r1)] [(.int clu21.slots.size.toInt32), (.int (0 : Int32)), (.ref r1), (.ref r0)]))) (fun t k => XS.aloadN X0.here hx rfl (hb hby djdk_42_3_0) rfl rfl (XS.aloadN X0.here hx rfl (hb hby djdk_42_3_1) rfl rfl (XS.iconst X0.here hx rfl (hb hby djdk_42_3_2) (XS.aloadN X0.here hx rfl (hb hby djdk_42_3_3) rfl rfl ((X0.arraylength hx (by rw [e0]; exact Aru21.1) (State.isArrayOf_alike hZ.alike Aru21.2.1) (g := (mkF m 4 #[.val (.ref r0), .val (.ref r1)] [(.ref r1), (.int (0 : Int32)), (.ref r1), (.ref r0)])) rfl rfl (hb hby djdk_42_3_4)) _ k))))) ?_
  rw [len_of Su21 Ngu21]
  obtain ⟨_, _, ⟨T22, L22, k22, n22⟩, -, X22, ⟨Lc22, hQ22, l22, y22, z22⟩, st22⟩ := X0.specialBack hx (y := (⟨"java/lang/String", "<init>", "([CIILjava/lang/Void;)V"⟩ : MethodName)) rfl hown (mvT hZ (own_w hw 13)) (mvT hZ (own_w hw 14)) (mvT hZ (own_w hw 16)) (by decide) (backOf (W := 0) (rmsb1 l Z a0 hw [] r0 r1 kC c0 wALLOW wFORBID tALLOW tFORBID wV kwV cs h0 n0 Z0 O0 HW E0 g_r0 F_value F_coder V1 hc_c0) hZ (own_w hw 16) (own_w hw 9) (by decide) (by decide)) (g := (mkF m 6 #[.val (.ref r0), .val (.ref r1)] [.null, (.int (1 : Int32)), (.int (0 : Int32)), (.ref r1), (.ref r0)])) rfl (by rw [hml]; rfl) (Steps.refl _) (a := r0) (argsL := [(.ref r1), (.int (0 : Int32)), (.int (1 : Int32)), .null]) (rest := []) (lenOf pd_1 rfl) rfl (by show 2 * 0 + _ ≤ _; exact Nat.le_of_eq rfl) (hb hby djdk_42_3_6) (fun _ _ => ⟨rfl, e0, (by decide : 0 + 1 ≤ _), (by decide : 0 + 1 ≤ _)⟩)
  dsimp only [Pt.U, Pt.locs, Pt.cells, Pt.slots] at X22 l22 y22 z22 st22 hQ22
  subst l22 y22 z22
  obtain ⟨rfl, N22q, Kq22, Tq22⟩ := hQ22
  have O22 := Old.keep O0 Kq22 (allS g_r0 all0)
  have K22 := Keep.trans (Keep.refl h0 [r0]) Kq22 (allS (Or.inl (List.mem_of_getElem? (i := 0) rfl)) all0)
  have N22 := Fr.app N0 N22q
  obtain ⟨fs, hr, hrun, hended, hW, hsame⟩ := X22.leave (v := none) (fun _ => rfl)
  refine own_by (W' := (T22.setTop (mkF m 9 #[.val (.ref r0), .val (.ref r1)] []))) (fun t k => XS.aconstNull X0.here hx rfl (hb hby djdk_42_3_5) (Steps.trans st22 k)) ?_
  refine ⟨_, _, X22.returnOut hx Bd.returns (hb hby djdk_42_3_9) hr, hrun, hended, _, _, rfl, ?_, ⟨_, rfl⟩, hW, hsame.mono (by decide) (by decide)⟩
  show Qsa1 Z r0 r1 kC c0 wALLOW wFORBID tALLOW tFORBID wV kwV cs h0 n0 _ T22.heap _
  exact ⟨rfl, N22, K22, Tq22⟩
theorem dmethod_3_15 : decode method_3_code 15 = .ok (.iload_n 1, 1) := by decide +kernel
theorem dmethod_3_16 : decode method_3_code 16 = .ok (.iconst 1, 1) := by decide +kernel
theorem dmethod_3_17 : decode method_3_code 17 = .ok (.if_icmp .ne 20, 3) := by decide +kernel
theorem dmethod_3_20 : decode method_3_code 20 = .ok (.new 19, 3) := by decide +kernel
theorem dmethod_3_23 : decode method_3_code 23 = .ok (.dup, 1) := by decide +kernel
theorem dmethod_3_24 : decode method_3_code 24 = .ok (.iconst 1, 1) := by decide +kernel
theorem dmethod_3_25 : decode method_3_code 25 = .ok (.newarray .char, 2) := by decide +kernel
theorem dmethod_3_27 : decode method_3_code 27 = .ok (.dup, 1) := by decide +kernel
theorem dmethod_3_28 : decode method_3_code 28 = .ok (.iconst 0, 1) := by decide +kernel
theorem dmethod_3_29 : decode method_3_code 29 = .ok (.aload_n 0, 1) := by decide +kernel
theorem dmethod_3_30 : decode method_3_code 30 = .ok (.iconst 0, 1) := by decide +kernel
theorem dmethod_3_31 : decode method_3_code 31 = .ok (.caload, 1) := by decide +kernel
theorem dmethod_3_32 : decode method_3_code 32 = .ok (.castore, 1) := by decide +kernel
theorem dmethod_3_33 : decode method_3_code 33 = .ok (.invokespecial 39, 3) := by decide +kernel
theorem dmethod_3_36 : decode method_3_code 36 = .ok (.areturn, 1) := by decide +kernel
theorem efmk1 (m : MethodId) (r0 : Addr) : entryFrame m #[(.ref r0), (.int (1 : Int32))] 2 = mkF m 0 #[.val (.ref r0), .val (.int (1 : Int32))] [] := by first | (simp [entryFrame, mkF, argsToLocals, Value.category]; done) | rfl
def Qmk1 (Z : State) (r0 : Addr) (kC : ClassId) (c0 : Int32) (c1 : Int32) (c2 : Int32) (c3 : Int32) (c4 : Int32) (c5 : Int32) (wALLOW : Addr) (wFORBID : Addr) (tALLOW : Addr) (tFORBID : Addr) (wV : Addr) (kwV : ClassId) (cs : Int32) (h0 : Heap) (n0 : Nat) (v : Option Value) (h : Heap) (L : List Loc) : Prop := ∃ q : Addr, v = some (.ref q) ∧ Fr n0 L ∧ Keep h0 h [] ∧ h0.size ≤ q ∧ own_St Z h q (1 : Int32) [(.int (nar .byte (c0.toInt8.toInt32)))]
abbrev own_Kmk1 (Z : State) (r0 : Addr) (kC : ClassId) (c0 : Int32) (c1 : Int32) (c2 : Int32) (c3 : Int32) (c4 : Int32) (c5 : Int32) (wALLOW : Addr) (wFORBID : Addr) (tALLOW : Addr) (tFORBID : Addr) (wV : Addr) (kwV : ClassId) (cs : Int32) (h0 : Heap) (n0 : Nat) (s : State) : Outcome → State → Prop := fun o U' => ∃ v L, o = .returned v ∧ Qmk1 Z r0 kC c0 c1 c2 c3 c4 c5 wALLOW wFORBID tALLOW tFORBID wV kwV cs h0 n0 v U'.heap L ∧ FrameEnd s o U' L ({ frames := 4, cells := 3, slots := 6, locals := 66 } : Room).cells ({ frames := 4, cells := 3, slots := 6, locals := 66 } : Room).slots
set_option maxRecDepth 65536 in
set_option maxHeartbeats 40000000 in
theorem rmmk1 (l : Launch) (Z : State) (a0 : Array Value) (hw : ∀ d ∈ tables_1, d.before a0 Z = true) (ws : List Jvm.Cond) (r0 : Addr) (kC : ClassId) (c0 : Int32) (c1 : Int32) (c2 : Int32) (c3 : Int32) (c4 : Int32) (c5 : Int32) (wALLOW : Addr) (wFORBID : Addr) (tALLOW : Addr) (tFORBID : Addr) (wV : Addr) (kwV : ClassId) (cs : Int32) (h0 : Heap) (n0 : Nat) (Z0 : n0 ≤ h0.size) (O0 : Old Z n0 h0) (HW : own_Wd Z wALLOW wFORBID tALLOW tFORBID wV kwV cs) (V0 : Arv Z h0 r0 kC .char (6 : Int32) [(.int c0), (.int c1), (.int c2), (.int c3), (.int c4), (.int c5)] (.int (0 : Int32))) (hl_c0 : own_ch c0) (hl_c1 : own_ch c1) (hl_c2 : own_ch c2) (hl_c3 : own_ch c3) (hl_c4 : own_ch c4) (hl_c5 : own_ch c5) :
    MetFree l (⟨"com/example/claviger/claviger/engine/EffectNamedPinLaw", "make", "([CI)Ljava/lang/String;"⟩ : MethodName) (head1 (Jvm.Cond.code (⟨"com/example/claviger/claviger/engine/EffectNamedPinLaw", "make", "([CI)Ljava/lang/String;"⟩ : MethodName) method_3_code 2 (some (.object "java/lang/String")) :: ws) ({ frames := 4, cells := 3, slots := 6, locals := 66 } : Room)) (fun a U => a = #[(.ref r0), (.int (1 : Int32))] ∧ Z.Warmed39 U.vm ∧ U.heap = h0) (fun _ _ _ _ _ => True) (fun _ U o U' => ∃ v L, o = .returned v ∧ Qmk1 Z r0 kC c0 c1 c2 c3 c4 c5 wALLOW wFORBID tALLOW tFORBID wV kwV cs h0 n0 v U'.heap L ∧ FrameEnd U o U' L ({ frames := 4, cells := 3, slots := 6, locals := 66 } : Room).cells ({ frames := 4, cells := 3, slots := 6, locals := 66 } : Room).slots) := by
  refine MetFree.of_bodySF (plainFor_of_name pn_com_example_claviger_claviger_engine_EffectNamedPinLaw) hisR ?_
  intro p e s m args below meth c s₁ Bd hml0 hP hK
  obtain ⟨rfl, hZ, hh⟩ := hP
  have hx := Bd.exec
  have hby := Bd.bytes
  have hml : c.maxLocals = 2 := hml0
  have hown : s.vm.findClass "com/example/claviger/claviger/engine/EffectNamedPinLaw" = some m.cls := findClass_of_methodNamed Bd.named
  have hnm := (name_of_methodNamed Bd.named Bd.method).1
  have X0 : Stand p l e ({ frames := 4, cells := 3, slots := 6, locals := 66 } : Room) s m #[(.ref r0), (.int (1 : Int32))] below meth c s₁ [] 0 0 := Stand.of_body Bd
  have e0 : s₁.heap = h0 := by rw [← hh, Bd.state]; rfl
  have N0 := Fr.nil n0
  refine own_by (p := p) (e := e) (below := below) (K := own_Kmk1 Z r0 kC c0 c1 c2 c3 c4 c5 wALLOW wFORBID tALLOW tFORBID wV kwV cs h0 n0 s) (W' := s₁.setTop (mkF m 0 #[.val (.ref r0), .val (.int (1 : Int32))] [])) (fun t k => castTop (efmk1 m r0) k) ?_
  obtain ⟨T21, h21, X21, e21, E21, A21, D21, -, st21⟩ := newO X0 hx hZ hown (own_w hw 7) (own_w hw 8) (own_w hw 9) e0 (g := (mkF m 20 #[.val (.ref r0), .val (.int (1 : Int32))] [])) rfl (hb hby dmethod_3_20) (by decide) (by decide)
  obtain ⟨b21, g21⟩ : ∃ z, z = h0.size := ⟨_, rfl⟩
  rw [← g21] at A21 D21 st21
  have g_b21 : n0 ≤ b21 := Nat.le_trans (own_le O0) (Nat.le_of_eq g21.symm)
  have sz_b21 : h0.size ≤ b21 := Nat.le_trans (Keep.refl h0 []).1 (Nat.le_of_eq g21.symm)
  have ne_r0_b21 : r0 ≠ b21 := Nat.ne_of_lt (Nat.lt_of_lt_of_le V0.lt (Nat.le_of_eq g21.symm))
  have O21 := O0.ext E21
  have K21 := Keep.ext (Keep.refl h0 []) E21
  have F_coder_b21 : Fld Z h21 b21 "java/lang/String" "coder" "B" (.int (0 : Int32)) := D21 (Or.inr (own_w hw 33)) (ty := .byte) (by decide)
  have F_value_b21 : Fld Z h21 b21 "java/lang/String" "value" "[B" .null := D21 (Or.inr (own_w hw 35)) (ty := (.array .byte)) (by decide)
  refine own_by (W' := (T21.setTop (mkF m 23 #[.val (.ref r0), .val (.int (1 : Int32))] [(.ref b21)]))) (fun t k => XS.iloadN X0.here hx rfl (hb hby dmethod_3_0) rfl (XS.ifYes X0.here hx rfl (pc0 := 1) (pc' := 15) rfl (hb hby dmethod_3_1) rfl ((if0 _ _).trans (feq (by decide : ¬ ((1 : Int32) = (0 : Int32)))).2) (by decide) (by decide) (XS.iloadN X0.here hx rfl (hb hby dmethod_3_15) rfl (XS.iconst X0.here hx rfl (hb hby dmethod_3_16) (XS.icmpNo X0.here hx rfl (hb hby dmethod_3_17) rfl (teq (rfl : (1 : Int32) = (1 : Int32))).2 (st21 _ k)))))) ?_
  obtain ⟨T22, h22, k22, X22, e22, E22, A22, st22⟩ := newP X21 hx hZ (own_w hw 1) e21 (g := (mkF m 25 #[.val (.ref r0), .val (.int (1 : Int32))] [(.int (1 : Int32)), (.ref b21), (.ref b21)])) rfl (hb hby dmethod_3_25) rfl (by decide) (cap := 1) (by decide) (by decide) (by decide) (by decide)
  obtain ⟨b22, g22⟩ : ∃ z, z = h21.size := ⟨_, rfl⟩
  rw [← g22] at A22 st22
  have g_b22 : n0 ≤ b22 := Nat.le_trans (own_le O21) (Nat.le_of_eq g22.symm)
  have sz_b22 : h0.size ≤ b22 := Nat.le_trans K21.1 (Nat.le_of_eq g22.symm)
  have ne_r0_b22 : r0 ≠ b22 := Nat.ne_of_lt (Nat.lt_of_lt_of_le (V0.ext E21).lt (Nat.le_of_eq g22.symm))
  have ne_b21_b22 : b21 ≠ b22 := Nat.ne_of_lt (Nat.lt_of_lt_of_le A21.lt (Nat.le_of_eq g22.symm))
  have O22 := O21.ext E22
  have K22 := Keep.ext K21 E22
  have V_b22 : Arv Z h22 b22 k22 .char (1 : Int32) [(.int (0 : Int32))] (.int (0 : Int32)) := (Arv.new A22 (by decide)).pad (pad_rep [] (.int (0 : Int32)) 1)
  refine own_by (W' := (T22.setTop (mkF m 30 #[.val (.ref r0), .val (.int (1 : Int32))] [(.ref r0), (.int (0 : Int32)), (.ref b22), (.ref b22), (.ref b21), (.ref b21)]))) (fun t k => XS.dup X21.here hx rfl (hb hby dmethod_3_23) rfl rfl (XS.iconst X21.here hx rfl (hb hby dmethod_3_24) (st22 _ (XS.dup X22.here hx rfl (hb hby dmethod_3_27) rfl rfl (XS.iconst X22.here hx rfl (hb hby dmethod_3_28) (XS.aloadN X22.here hx rfl (hb hby dmethod_3_29) rfl rfl k)))))) ?_
  obtain ⟨clu23, Aru23, qu23, Su23, Ngu23, Hau23, Gau23⟩ := id ((V0.ext E21).ext E22)
  have hinu23 : ¬ ((0 : Int32) < 0 ∨ clu23.slots.size ≤ ((0 : Int32)).toNatClampNeg) := inb_of Su23 ⟨by decide, by decide⟩
  have hatu23 : clu23.slots[((0 : Int32)).toNatClampNeg]? = some (.int c0) := Has.at Hau23 hinu23 rfl
  obtain ⟨clu24, Aru24, qu24, Su24, Ngu24, Hau24, Gau24⟩ := id V_b22
  have hinu24 : ¬ ((0 : Int32) < 0 ∨ clu24.slots.size ≤ ((0 : Int32)).toNatClampNeg) := inb_of Su24 ⟨by decide, by decide⟩
  obtain ⟨T25, h25, X25, e25, W25, st25⟩ := stC X22 hx hZ e22 Aru24 (j := (0 : Int32)) hinu24 (g := (mkF m 32 #[.val (.ref r0), .val (.int (1 : Int32))] [(.int c0), (.int (0 : Int32)), (.ref b22), (.ref b22), (.ref b21), (.ref b21)])) rfl rfl (hb hby dmethod_3_32)
  have Vu24 : Arv Z h25 b22 k22 .char (1 : Int32) [(.int (nar .char c0))] (.int (0 : Int32)) := Arv.set Aru24 qu24 Su24 Ngu24 Hau24 Gau24 (fits_nar_char _) W25 0 rfl (Nat.le_of_ble_eq_true rfl)
  rw [show nar .char c0 = c0 from hl_c0.1] at Vu24
  have O25 := Old.wr O22 W25 g_b22
  have N25 := Fr.snoc X25 N0 g_b22
  have K25 := Keep.wr K22 W25 (Or.inr sz_b22)
  obtain ⟨_, _, ⟨T26, L26, k26, n26⟩, -, X26, ⟨Lc26, hQ26, l26, y26, z26⟩, st26⟩ := X25.specialBack hx (y := (⟨"java/lang/String", "<init>", "([C)V"⟩ : MethodName)) rfl hown (mvT hZ (own_w hw 10)) (mvT hZ (own_w hw 11)) (mvT hZ (own_w hw 12)) (by decide) (backOf (W := 1) (rmsa1 l Z a0 hw [] b21 b22 k22 c0 wALLOW wFORBID tALLOW tFORBID wV kwV cs h25 n0 (own_le O25) O25 HW ((A21.ext E22).wr W25) g_b21 ((F_value_b21.ext E22).other W25 (Or.inl ne_b21_b22)) ((F_coder_b21.ext E22).other W25 (Or.inl ne_b21_b22)) Vu24 hl_c0.2) hZ (own_w hw 12) (own_w hw 9) (by decide) (by decide)) (g := (mkF m 33 #[.val (.ref r0), .val (.int (1 : Int32))] [(.ref b22), (.ref b21), (.ref b21)])) rfl (by rw [hml]; rfl) (Steps.refl _) (a := b21) (argsL := [(.ref b22)]) (rest := [(.ref b21)]) (lenOf pd_2 rfl) rfl (by show 2 * 0 + _ ≤ _; exact Nat.le_of_eq rfl) (hb hby dmethod_3_33) (fun _ _ => ⟨rfl, e25, (by decide : 2 + 1 ≤ _), (by decide : 5 + 1 ≤ _)⟩)
  dsimp only [Pt.U, Pt.locs, Pt.cells, Pt.slots] at X26 l26 y26 z26 st26 hQ26
  subst l26 y26 z26
  obtain ⟨rfl, N26q, Kq26, Tq26⟩ := hQ26
  have O26 := Old.keep O25 Kq26 (allS g_b21 all0)
  have K26 := Keep.trans K25 Kq26 (allS (Or.inr sz_b21) all0)
  have N26 := Fr.app N25 N26q
  obtain ⟨fs, hr, hrun, hended, hW, hsame⟩ := X26.leave (v := some (.ref b21)) (fun h => by rw [Bd.returns] at h; cases h)
  refine own_by (W' := (T26.setTop (mkF m 36 #[.val (.ref r0), .val (.int (1 : Int32))] [(.ref b21)]))) (fun t k => XS.iconst X22.here hx rfl (hb hby dmethod_3_30) ((X22.caload hx (j := (0 : Int32)) (v := (.int c0)) (by rw [e22]; exact Aru23.1) (State.isArrayOf_alike hZ.alike Aru23.2.1) Aru23.2.2 hinu23 hatu23 (g := (mkF m 31 #[.val (.ref r0), .val (.int (1 : Int32))] [(.int (0 : Int32)), (.ref r0), (.int (0 : Int32)), (.ref b22), (.ref b22), (.ref b21), (.ref b21)])) rfl rfl (hb hby dmethod_3_31)) _ (st25 _ (Steps.trans st26 k)))) ?_
  refine ⟨_, _, retOut X26 hx Bd.returns rfl (Or.inr (Or.inr (Or.inr (Or.inr ⟨rfl, rfl, rfl⟩)))) (hb hby dmethod_3_36) hr, hrun, hended, _, _, rfl, ?_, ⟨_, rfl⟩, hW, hsame.mono (by decide) (by decide)⟩
  show Qmk1 Z r0 kC c0 c1 c2 c3 c4 c5 wALLOW wFORBID tALLOW tFORBID wV kwV cs h0 n0 _ T26.heap _
  exact ⟨_, rfl, N26, K26, sz_b21, Tq26⟩
theorem efcb2 (m : MethodId) (r0 : Addr) (r2 : Addr) : entryFrame m #[(.ref r0), (.int (0 : Int32)), (.ref r2), (.int (0 : Int32)), (.int (2 : Int32))] 7 = mkF m 0 #[.val (.ref r0), .val (.int (0 : Int32)), .val (.ref r2), .val (.int (0 : Int32)), .val (.int (2 : Int32)), .unset, .unset] [] := by first | (simp [entryFrame, mkF, argsToLocals, Value.category]; done) | rfl
def Qcb2 (Z : State) (r0 : Addr) (r2 : Addr) (kC : ClassId) (kB : ClassId) (c0 : Int32) (c1 : Int32) (h0 : Heap) (n0 : Nat) (v : Option Value) (h : Heap) (L : List Loc) : Prop := v = some (.int (2 : Int32)) ∧ Fr n0 L ∧ Keep h0 h [r2] ∧ Arv Z h r2 kB .byte (2 : Int32) [(.int (nar .byte (c0.toInt8.toInt32))), (.int (nar .byte (c1.toInt8.toInt32)))] (.int (0 : Int32))
abbrev own_Kcb2 (Z : State) (r0 : Addr) (r2 : Addr) (kC : ClassId) (kB : ClassId) (c0 : Int32) (c1 : Int32) (h0 : Heap) (n0 : Nat) (s : State) : Outcome → State → Prop := fun o U' => ∃ v L, o = .returned v ∧ Qcb2 Z r0 r2 kC kB c0 c1 h0 n0 v U'.heap L ∧ FrameEnd s o U' L ({ frames := 0, cells := 0, slots := 0, locals := 0 } : Room).cells ({ frames := 0, cells := 0, slots := 0, locals := 0 } : Room).slots
set_option maxRecDepth 65536 in
set_option maxHeartbeats 40000000 in
theorem rmcb2 (l : Launch) (Z : State) (a0 : Array Value) (hw : ∀ d ∈ tables_1, d.before a0 Z = true) (ws : List Jvm.Cond) (r0 : Addr) (r2 : Addr) (kC : ClassId) (kB : ClassId) (c0 : Int32) (c1 : Int32) (h0 : Heap) (n0 : Nat) (Z0 : n0 ≤ h0.size) (O0 : Old Z n0 h0) (V0 : Arv Z h0 r0 kC .char (2 : Int32) [(.int c0), (.int c1)] (.int (0 : Int32))) (V2 : Arv Z h0 r2 kB .byte (2 : Int32) [(.int (0 : Int32)), (.int (0 : Int32))] (.int (0 : Int32))) (g_r2 : n0 ≤ r2) (hne : r0 ≠ r2) (hc_c0 : ¬ (255 : Int32) < c0) (hc_c1 : ¬ (255 : Int32) < c1) :
    MetFree l (⟨"java/lang/StringUTF16", "compress", "([CI[BII)I"⟩ : MethodName) (head1 (Jvm.Cond.code (⟨"java/lang/StringUTF16", "compress", "([CI[BII)I"⟩ : MethodName) jdk_52_method_21_code 7 (some .int) :: ws) ({ frames := 0, cells := 0, slots := 0, locals := 0 } : Room)) (fun a U => a = #[(.ref r0), (.int (0 : Int32)), (.ref r2), (.int (0 : Int32)), (.int (2 : Int32))] ∧ Z.Warmed39 U.vm ∧ U.heap = h0) (fun _ _ _ _ _ => True) (fun _ U o U' => ∃ v L, o = .returned v ∧ Qcb2 Z r0 r2 kC kB c0 c1 h0 n0 v U'.heap L ∧ FrameEnd U o U' L ({ frames := 0, cells := 0, slots := 0, locals := 0 } : Room).cells ({ frames := 0, cells := 0, slots := 0, locals := 0 } : Room).slots) := by
  refine MetFree.of_bodySF (plainFor_of_name pn_java_lang_StringUTF16) hisR ?_
  intro p e s m args below meth c s₁ Bd hml0 hP hK
  obtain ⟨rfl, hZ, hh⟩ := hP
  have hx := Bd.exec
  have hby := Bd.bytes
  have hml : c.maxLocals = 7 := hml0
  have hown : s.vm.findClass "java/lang/StringUTF16" = some m.cls := findClass_of_methodNamed Bd.named
  have hnm := (name_of_methodNamed Bd.named Bd.method).1
  have X0 : Stand p l e ({ frames := 0, cells := 0, slots := 0, locals := 0 } : Room) s m #[(.ref r0), (.int (0 : Int32)), (.ref r2), (.int (0 : Int32)), (.int (2 : Int32))] below meth c s₁ [] 0 0 := Stand.of_body Bd
  have e0 : s₁.heap = h0 := by rw [← hh, Bd.state]; rfl
  have N0 := Fr.nil n0
  refine own_by (p := p) (e := e) (below := below) (K := own_Kcb2 Z r0 r2 kC kB c0 c1 h0 n0 s) (W' := s₁.setTop (mkF m 0 #[.val (.ref r0), .val (.int (0 : Int32)), .val (.ref r2), .val (.int (0 : Int32)), .val (.int (2 : Int32)), .unset, .unset] [])) (fun t k => castTop (efcb2 m r0 r2) k) ?_
  refine own_by (W' := (s₁.setTop (mkF m 11 #[.val (.ref r0), .val (.int (0 : Int32)), .val (.ref r2), .val (.int (0 : Int32)), .val (.int (2 : Int32)), .val (.int (0 : Int32)), .unset] [(.ref r0)]))) (fun t k => XS.iconst X0.here hx rfl (hb hby djdk_52_21_0) (XS.istore X0.here hx rfl (hb hby djdk_52_21_1) rfl (l' := #[.val (.ref r0), .val (.int (0 : Int32)), .val (.ref r2), .val (.int (0 : Int32)), .val (.int (2 : Int32)), .val (.int (0 : Int32)), .unset]) rfl (XS.iload X0.here hx rfl (hb hby djdk_52_21_3) rfl (XS.iload X0.here hx rfl (hb hby djdk_52_21_5) rfl (XS.icmpNo X0.here hx rfl (hb hby djdk_52_21_7) rfl (tlt (by decide : (0 : Int32) < (2 : Int32))).2.1 (XS.aloadN X0.here hx rfl (hb hby djdk_52_21_10) rfl rfl k)))))) ?_
  obtain ⟨clu21, Aru21, qu21, Su21, Ngu21, Hau21, Gau21⟩ := id V0
  have hinu21 : ¬ ((0 : Int32) < 0 ∨ clu21.slots.size ≤ ((0 : Int32)).toNatClampNeg) := inb_of Su21 ⟨by decide, by decide⟩
  have hatu21 : clu21.slots[((0 : Int32)).toNatClampNeg]? = some (.int c0) := Has.at Hau21 hinu21 rfl
  refine own_by (W' := (s₁.setTop (mkF m 26 #[.val (.ref r0), .val (.int (0 : Int32)), .val (.ref r2), .val (.int (0 : Int32)), .val (.int (2 : Int32)), .val (.int (0 : Int32)), .val (.int c0)] []))) (fun t k => XS.iloadN X0.here hx rfl (hb hby djdk_52_21_11) rfl ((X0.caload hx (j := (0 : Int32)) (v := (.int c0)) (by rw [e0]; exact Aru21.1) (State.isArrayOf_alike hZ.alike Aru21.2.1) Aru21.2.2 hinu21 hatu21 (g := (mkF m 12 #[.val (.ref r0), .val (.int (0 : Int32)), .val (.ref r2), .val (.int (0 : Int32)), .val (.int (2 : Int32)), .val (.int (0 : Int32)), .unset] [(.int (0 : Int32)), (.ref r0)])) rfl rfl (hb hby djdk_52_21_12)) _ (XS.istore X0.here hx rfl (hb hby djdk_52_21_13) rfl (l' := #[.val (.ref r0), .val (.int (0 : Int32)), .val (.ref r2), .val (.int (0 : Int32)), .val (.int (2 : Int32)), .val (.int (0 : Int32)), .val (.int c0)]) rfl (XS.iload X0.here hx rfl (hb hby djdk_52_21_15) rfl (XS.sipush X0.here hx rfl (hb hby djdk_52_21_17) (XS.icmpYes X0.here hx rfl (pc0 := 20) (pc' := 26) rfl (hb hby djdk_52_21_20) rfl (flt hc_c0).2.2.2 (by decide) (by decide) k)))))) ?_
  obtain ⟨clu22, Aru22, qu22, Su22, Ngu22, Hau22, Gau22⟩ := id V2
  have hinu22 : ¬ ((0 : Int32) < 0 ∨ clu22.slots.size ≤ ((0 : Int32)).toNatClampNeg) := inb_of Su22 ⟨by decide, by decide⟩
  obtain ⟨T23, h23, X23, e23, W23, st23⟩ := stB X0 hx hZ e0 Aru22 (j := (0 : Int32)) hinu22 (g := (mkF m 31 #[.val (.ref r0), .val (.int (0 : Int32)), .val (.ref r2), .val (.int (0 : Int32)), .val (.int (2 : Int32)), .val (.int (0 : Int32)), .val (.int c0)] [(.int (c0.toInt8.toInt32)), (.int (0 : Int32)), (.ref r2)])) rfl rfl (hb hby djdk_52_21_31)
  have Vu22 : Arv Z h23 r2 kB .byte (2 : Int32) [(.int (nar .byte (c0.toInt8.toInt32))), (.int (0 : Int32))] (.int (0 : Int32)) := Arv.set Aru22 qu22 Su22 Ngu22 Hau22 Gau22 (fits_nar_byte _) W23 0 rfl (Nat.le_of_ble_eq_true rfl)
  have O23 := Old.wr O0 W23 g_r2
  have N23 := Fr.snoc X23 N0 g_r2
  have K23 := Keep.wr (Keep.refl h0 [r2]) W23 (Or.inl (List.mem_of_getElem? (i := 0) rfl))
  refine own_by (W' := (T23.setTop (mkF m 35 #[.val (.ref r0), .val (.int (1 : Int32)), .val (.ref r2), .val (.int (0 : Int32)), .val (.int (2 : Int32)), .val (.int (0 : Int32)), .val (.int c0)] []))) (fun t k => XS.aloadN X0.here hx rfl (hb hby djdk_52_21_26) rfl rfl (XS.iloadN X0.here hx rfl (hb hby djdk_52_21_27) rfl (XS.iload X0.here hx rfl (hb hby djdk_52_21_28) rfl (XS.i2b X0.here hx rfl (hb hby djdk_52_21_30) rfl (st23 _ (XS.iinc X23.here hx rfl (hb hby djdk_52_21_32) rfl (l' := #[.val (.ref r0), .val (.int (1 : Int32)), .val (.ref r2), .val (.int (0 : Int32)), .val (.int (2 : Int32)), .val (.int (0 : Int32)), .val (.int c0)]) rfl k)))))) ?_
  refine own_by (W' := (T23.setTop (mkF m 10 #[.val (.ref r0), .val (.int (1 : Int32)), .val (.ref r2), .val (.int (1 : Int32)), .val (.int (2 : Int32)), .val (.int (1 : Int32)), .val (.int c0)] []))) (fun t k => XS.iinc X23.here hx rfl (hb hby djdk_52_21_35) rfl (l' := #[.val (.ref r0), .val (.int (1 : Int32)), .val (.ref r2), .val (.int (1 : Int32)), .val (.int (2 : Int32)), .val (.int (0 : Int32)), .val (.int c0)]) rfl (XS.iinc X23.here hx rfl (hb hby djdk_52_21_38) rfl (l' := #[.val (.ref r0), .val (.int (1 : Int32)), .val (.ref r2), .val (.int (1 : Int32)), .val (.int (2 : Int32)), .val (.int (1 : Int32)), .val (.int c0)]) rfl (XS.goto X23.here hx rfl (pc0 := 41) (pc' := 3) rfl (hb hby djdk_52_21_41) (by decide) (by decide) (XS.iload X23.here hx rfl (hb hby djdk_52_21_3) rfl (XS.iload X23.here hx rfl (hb hby djdk_52_21_5) rfl (XS.icmpNo X23.here hx rfl (hb hby djdk_52_21_7) rfl (tlt (by decide : (1 : Int32) < (2 : Int32))).2.1 k)))))) ?_
  obtain ⟨clu24, Aru24, qu24, Su24, Ngu24, Hau24, Gau24⟩ := id (V0.other W23 hne)
  have hinu24 : ¬ ((1 : Int32) < 0 ∨ clu24.slots.size ≤ ((1 : Int32)).toNatClampNeg) := inb_of Su24 ⟨by decide, by decide⟩
  have hatu24 : clu24.slots[((1 : Int32)).toNatClampNeg]? = some (.int c1) := Has.at Hau24 hinu24 rfl
  refine own_by (W' := (T23.setTop (mkF m 20 #[.val (.ref r0), .val (.int (1 : Int32)), .val (.ref r2), .val (.int (1 : Int32)), .val (.int (2 : Int32)), .val (.int (1 : Int32)), .val (.int c1)] [(.int (255 : Int32)), (.int c1)]))) (fun t k => XS.aloadN X23.here hx rfl (hb hby djdk_52_21_10) rfl rfl (XS.iloadN X23.here hx rfl (hb hby djdk_52_21_11) rfl ((X23.caload hx (j := (1 : Int32)) (v := (.int c1)) (by rw [e23]; exact Aru24.1) (State.isArrayOf_alike hZ.alike Aru24.2.1) Aru24.2.2 hinu24 hatu24 (g := (mkF m 12 #[.val (.ref r0), .val (.int (1 : Int32)), .val (.ref r2), .val (.int (1 : Int32)), .val (.int (2 : Int32)), .val (.int (1 : Int32)), .val (.int c0)] [(.int (1 : Int32)), (.ref r0)])) rfl rfl (hb hby djdk_52_21_12)) _ (XS.istore X23.here hx rfl (hb hby djdk_52_21_13) rfl (l' := #[.val (.ref r0), .val (.int (1 : Int32)), .val (.ref r2), .val (.int (1 : Int32)), .val (.int (2 : Int32)), .val (.int (1 : Int32)), .val (.int c1)]) rfl (XS.iload X23.here hx rfl (hb hby djdk_52_21_15) rfl (XS.sipush X23.here hx rfl (hb hby djdk_52_21_17) k)))))) ?_
  obtain ⟨clu25, Aru25, qu25, Su25, Ngu25, Hau25, Gau25⟩ := id Vu22
  have hinu25 : ¬ ((1 : Int32) < 0 ∨ clu25.slots.size ≤ ((1 : Int32)).toNatClampNeg) := inb_of Su25 ⟨by decide, by decide⟩
  obtain ⟨T26, h26, X26, e26, W26, st26⟩ := stB X23 hx hZ e23 Aru25 (j := (1 : Int32)) hinu25 (g := (mkF m 31 #[.val (.ref r0), .val (.int (1 : Int32)), .val (.ref r2), .val (.int (1 : Int32)), .val (.int (2 : Int32)), .val (.int (1 : Int32)), .val (.int c1)] [(.int (c1.toInt8.toInt32)), (.int (1 : Int32)), (.ref r2)])) rfl rfl (hb hby djdk_52_21_31)
  have Vu25 : Arv Z h26 r2 kB .byte (2 : Int32) [(.int (nar .byte (c0.toInt8.toInt32))), (.int (nar .byte (c1.toInt8.toInt32)))] (.int (0 : Int32)) := Arv.set Aru25 qu25 Su25 Ngu25 Hau25 Gau25 (fits_nar_byte _) W26 1 rfl (Nat.le_of_ble_eq_true rfl)
  have O26 := Old.wr O23 W26 g_r2
  have N26 := Fr.snoc X26 N23 g_r2
  have K26 := Keep.wr K23 W26 (Or.inl (List.mem_of_getElem? (i := 0) rfl))
  refine own_by (W' := (T26.setTop (mkF m 32 #[.val (.ref r0), .val (.int (1 : Int32)), .val (.ref r2), .val (.int (1 : Int32)), .val (.int (2 : Int32)), .val (.int (1 : Int32)), .val (.int c1)] []))) (fun t k => XS.icmpYes X23.here hx rfl (pc0 := 20) (pc' := 26) rfl (hb hby djdk_52_21_20) rfl (flt hc_c1).2.2.2 (by decide) (by decide) (XS.aloadN X23.here hx rfl (hb hby djdk_52_21_26) rfl rfl (XS.iloadN X23.here hx rfl (hb hby djdk_52_21_27) rfl (XS.iload X23.here hx rfl (hb hby djdk_52_21_28) rfl (XS.i2b X23.here hx rfl (hb hby djdk_52_21_30) rfl (st26 _ k)))))) ?_
  refine own_by (W' := (T26.setTop (mkF m 7 #[.val (.ref r0), .val (.int (2 : Int32)), .val (.ref r2), .val (.int (2 : Int32)), .val (.int (2 : Int32)), .val (.int (2 : Int32)), .val (.int c1)] [(.int (2 : Int32)), (.int (2 : Int32))]))) (fun t k => XS.iinc X26.here hx rfl (hb hby djdk_52_21_32) rfl (l' := #[.val (.ref r0), .val (.int (2 : Int32)), .val (.ref r2), .val (.int (1 : Int32)), .val (.int (2 : Int32)), .val (.int (1 : Int32)), .val (.int c1)]) rfl (XS.iinc X26.here hx rfl (hb hby djdk_52_21_35) rfl (l' := #[.val (.ref r0), .val (.int (2 : Int32)), .val (.ref r2), .val (.int (2 : Int32)), .val (.int (2 : Int32)), .val (.int (1 : Int32)), .val (.int c1)]) rfl (XS.iinc X26.here hx rfl (hb hby djdk_52_21_38) rfl (l' := #[.val (.ref r0), .val (.int (2 : Int32)), .val (.ref r2), .val (.int (2 : Int32)), .val (.int (2 : Int32)), .val (.int (2 : Int32)), .val (.int c1)]) rfl (XS.goto X26.here hx rfl (pc0 := 41) (pc' := 3) rfl (hb hby djdk_52_21_41) (by decide) (by decide) (XS.iload X26.here hx rfl (hb hby djdk_52_21_3) rfl (XS.iload X26.here hx rfl (hb hby djdk_52_21_5) rfl k)))))) ?_
  obtain ⟨fs, hr, hrun, hended, hW, hsame⟩ := X26.leave (v := some (.int (2 : Int32))) (fun h => by rw [Bd.returns] at h; cases h)
  refine own_by (W' := (T26.setTop (mkF m 46 #[.val (.ref r0), .val (.int (2 : Int32)), .val (.ref r2), .val (.int (2 : Int32)), .val (.int (2 : Int32)), .val (.int (2 : Int32)), .val (.int c1)] [(.int (2 : Int32))]))) (fun t k => XS.icmpYes X26.here hx rfl (pc0 := 7) (pc' := 44) rfl (hb hby djdk_52_21_7) rfl (flt (by decide : ¬ ((2 : Int32) < (2 : Int32)))).2.1 (by decide) (by decide) (XS.iload X26.here hx rfl (hb hby djdk_52_21_44) rfl k)) ?_
  refine ⟨_, _, retOut X26 hx Bd.returns rfl (Or.inl ⟨rfl, Or.inl rfl, _, rfl⟩) (hb hby djdk_52_21_46) hr, hrun, hended, _, _, rfl, ?_, ⟨_, rfl⟩, hW, hsame.mono (by decide) (by decide)⟩
  show Qcb2 Z r0 r2 kC kB c0 c1 h0 n0 _ T26.heap _
  rw [e26]
  exact ⟨rfl, N26, K26, Vu25⟩
theorem efca2 (m : MethodId) (r0 : Addr) : entryFrame m #[(.ref r0), (.int (0 : Int32)), (.int (2 : Int32))] 6 = mkF m 0 #[.val (.ref r0), .val (.int (0 : Int32)), .val (.int (2 : Int32)), .unset, .unset, .unset] [] := by first | (simp [entryFrame, mkF, argsToLocals, Value.category]; done) | rfl
def Qca2 (Z : State) (r0 : Addr) (kC : ClassId) (c0 : Int32) (c1 : Int32) (h0 : Heap) (n0 : Nat) (v : Option Value) (h : Heap) (L : List Loc) : Prop := ∃ (q : Addr) (kq : ClassId), v = some (.ref q) ∧ Fr n0 L ∧ Keep h0 h [] ∧ h0.size ≤ q ∧ Arv Z h q kq .byte (2 : Int32) [(.int (nar .byte (c0.toInt8.toInt32))), (.int (nar .byte (c1.toInt8.toInt32)))] (.int (0 : Int32))
abbrev own_Kca2 (Z : State) (r0 : Addr) (kC : ClassId) (c0 : Int32) (c1 : Int32) (h0 : Heap) (n0 : Nat) (s : State) : Outcome → State → Prop := fun o U' => ∃ v L, o = .returned v ∧ Qca2 Z r0 kC c0 c1 h0 n0 v U'.heap L ∧ FrameEnd s o U' L ({ frames := 1, cells := 1, slots := 2, locals := 18 } : Room).cells ({ frames := 1, cells := 1, slots := 2, locals := 18 } : Room).slots
set_option maxRecDepth 65536 in
set_option maxHeartbeats 40000000 in
theorem rmca2 (l : Launch) (Z : State) (a0 : Array Value) (hw : ∀ d ∈ tables_1, d.before a0 Z = true) (ws : List Jvm.Cond) (r0 : Addr) (kC : ClassId) (c0 : Int32) (c1 : Int32) (h0 : Heap) (n0 : Nat) (Z0 : n0 ≤ h0.size) (O0 : Old Z n0 h0) (V0 : Arv Z h0 r0 kC .char (2 : Int32) [(.int c0), (.int c1)] (.int (0 : Int32))) (hc_c0 : ¬ (255 : Int32) < c0) (hc_c1 : ¬ (255 : Int32) < c1) :
    MetFree l (⟨"java/lang/StringUTF16", "compress", "([CII)[B"⟩ : MethodName) (head1 (Jvm.Cond.code (⟨"java/lang/StringUTF16", "compress", "([CII)[B"⟩ : MethodName) jdk_52_method_16_code 6 (some (.array .byte)) :: ws) ({ frames := 1, cells := 1, slots := 2, locals := 18 } : Room)) (fun a U => a = #[(.ref r0), (.int (0 : Int32)), (.int (2 : Int32))] ∧ Z.Warmed39 U.vm ∧ U.heap = h0) (fun _ _ _ _ _ => True) (fun _ U o U' => ∃ v L, o = .returned v ∧ Qca2 Z r0 kC c0 c1 h0 n0 v U'.heap L ∧ FrameEnd U o U' L ({ frames := 1, cells := 1, slots := 2, locals := 18 } : Room).cells ({ frames := 1, cells := 1, slots := 2, locals := 18 } : Room).slots) := by
  refine MetFree.of_bodySF (plainFor_of_name pn_java_lang_StringUTF16) hisR ?_
  intro p e s m args below meth c s₁ Bd hml0 hP hK
  obtain ⟨rfl, hZ, hh⟩ := hP
  have hx := Bd.exec
  have hby := Bd.bytes
  have hml : c.maxLocals = 6 := hml0
  have hown : s.vm.findClass "java/lang/StringUTF16" = some m.cls := findClass_of_methodNamed Bd.named
  have hnm := (name_of_methodNamed Bd.named Bd.method).1
  have X0 : Stand p l e ({ frames := 1, cells := 1, slots := 2, locals := 18 } : Room) s m #[(.ref r0), (.int (0 : Int32)), (.int (2 : Int32))] below meth c s₁ [] 0 0 := Stand.of_body Bd
  have e0 : s₁.heap = h0 := by rw [← hh, Bd.state]; rfl
  have N0 := Fr.nil n0
  refine own_by (p := p) (e := e) (below := below) (K := own_Kca2 Z r0 kC c0 c1 h0 n0 s) (W' := s₁.setTop (mkF m 0 #[.val (.ref r0), .val (.int (0 : Int32)), .val (.int (2 : Int32)), .unset, .unset, .unset] [])) (fun t k => castTop (efca2 m r0) k) ?_
  obtain ⟨T21, h21, k21, X21, e21, E21, A21, st21⟩ := newP X0 hx hZ (own_w hw 25) e0 (g := (mkF m 1 #[.val (.ref r0), .val (.int (0 : Int32)), .val (.int (2 : Int32)), .unset, .unset, .unset] [(.int (2 : Int32))])) rfl (hb hby djdk_52_16_1) rfl (by decide) (cap := 2) (by decide) (by decide) (by decide) (by decide)
  obtain ⟨b21, g21⟩ : ∃ z, z = h0.size := ⟨_, rfl⟩
  rw [← g21] at A21 st21
  have g_b21 : n0 ≤ b21 := Nat.le_trans (own_le O0) (Nat.le_of_eq g21.symm)
  have sz_b21 : h0.size ≤ b21 := Nat.le_trans (Keep.refl h0 []).1 (Nat.le_of_eq g21.symm)
  have ne_r0_b21 : r0 ≠ b21 := Nat.ne_of_lt (Nat.lt_of_lt_of_le V0.lt (Nat.le_of_eq g21.symm))
  have O21 := O0.ext E21
  have K21 := Keep.ext (Keep.refl h0 []) E21
  have V_b21 : Arv Z h21 b21 k21 .byte (2 : Int32) [(.int (0 : Int32)), (.int (0 : Int32))] (.int (0 : Int32)) := (Arv.new A21 (by decide)).pad (pad_rep [] (.int (0 : Int32)) 2)
  refine own_by (W' := (T21.setTop (mkF m 7 #[.val (.ref r0), .val (.int (0 : Int32)), .val (.int (2 : Int32)), .val (.ref b21), .unset, .unset] [(.ref b21), (.int (0 : Int32)), (.ref r0)]))) (fun t k => XS.iloadN X0.here hx rfl (hb hby djdk_52_16_0) rfl (st21 _ (XS.astoreN X21.here hx rfl (hb hby djdk_52_16_3) rfl rfl (l' := #[.val (.ref r0), .val (.int (0 : Int32)), .val (.int (2 : Int32)), .val (.ref b21), .unset, .unset]) rfl (XS.aloadN X21.here hx rfl (hb hby djdk_52_16_4) rfl rfl (XS.iloadN X21.here hx rfl (hb hby djdk_52_16_5) rfl (XS.aloadN X21.here hx rfl (hb hby djdk_52_16_6) rfl rfl k)))))) ?_
  obtain ⟨_, _, ⟨T22, L22, k22, n22⟩, -, X22, ⟨Lc22, hQ22, l22, y22, z22⟩, st22⟩ := Jvm.LawKit.callS X21 hx (y := (⟨"java/lang/StringUTF16", "compress", "([CI[BII)I"⟩ : MethodName)) hown (mvT hZ (own_w hw 26)) (mvT hZ (own_w hw 27)) (mvT hZ (own_w hw 23)) (mvT hZ (own_w hw 28)) (by decide) (backOf (W := 0) (rmcb2 l Z a0 hw [] r0 b21 kC k21 c0 c1 h21 n0 (own_le O21) O21 (V0.ext E21) V_b21 g_b21 ne_r0_b21 hc_c0 hc_c1) hZ (own_w hw 28) (own_w hw 23) (by decide) (by decide)) (g := (mkF m 9 #[.val (.ref r0), .val (.int (0 : Int32)), .val (.int (2 : Int32)), .val (.ref b21), .unset, .unset] [(.int (2 : Int32)), (.int (0 : Int32)), (.ref b21), (.int (0 : Int32)), (.ref r0)])) rfl (by rw [hml]; rfl) (argsL := [(.ref r0), (.int (0 : Int32)), (.ref b21), (.int (0 : Int32)), (.int (2 : Int32))]) (rest := []) (lenOf pd_3 rfl) rfl (by show 2 * 0 + _ ≤ _; exact Nat.le_of_eq rfl) (hb hby djdk_52_16_9) (fun _ _ => ⟨rfl, e21, (by decide : 1 + 0 ≤ _), (by decide : 2 + 0 ≤ _)⟩)
  dsimp only [Pt.U, Pt.locs, Pt.cells, Pt.slots] at X22 l22 y22 z22 st22 hQ22
  subst l22 y22 z22
  obtain ⟨rfl, N22q, Kq22, Vq22⟩ := hQ22
  have O22 := Old.keep O21 Kq22 (allS g_b21 all0)
  have K22 := Keep.trans K21 Kq22 (allS (Or.inr sz_b21) all0)
  have N22 := Fr.app N0 N22q
  refine own_by (W' := (T22.setTop (mkF m 17 #[.val (.ref r0), .val (.int (0 : Int32)), .val (.int (2 : Int32)), .val (.ref b21), .val (.int (2 : Int32)), .unset] [(.int (2 : Int32)), (.int (2 : Int32))]))) (fun t k => XS.iconst X21.here hx rfl (hb hby djdk_52_16_7) (XS.iloadN X21.here hx rfl (hb hby djdk_52_16_8) rfl (st22 _ (XS.istore X22.here hx rfl (hb hby djdk_52_16_12) rfl (l' := #[.val (.ref r0), .val (.int (0 : Int32)), .val (.int (2 : Int32)), .val (.ref b21), .val (.int (2 : Int32)), .unset]) rfl (XS.iload X22.here hx rfl (hb hby djdk_52_16_14) rfl (XS.iloadN X22.here hx rfl (hb hby djdk_52_16_16) rfl k)))))) ?_
  obtain ⟨fs, hr, hrun, hended, hW, hsame⟩ := X22.leave (v := some (.ref b21)) (fun h => by rw [Bd.returns] at h; cases h)
  refine own_by (W' := (T22.setTop (mkF m 58 #[.val (.ref r0), .val (.int (0 : Int32)), .val (.int (2 : Int32)), .val (.ref b21), .val (.int (2 : Int32)), .unset] [(.ref b21)]))) (fun t k => XS.icmpYes X22.here hx rfl (pc0 := 17) (pc' := 57) rfl (hb hby djdk_52_16_17) rfl (teq (rfl : (2 : Int32) = (2 : Int32))).1 (by decide) (by decide) (XS.aloadN X22.here hx rfl (hb hby djdk_52_16_57) rfl rfl k)) ?_
  refine ⟨_, _, retOut X22 hx Bd.returns rfl (Or.inr (Or.inr (Or.inr (Or.inr ⟨rfl, rfl, rfl⟩)))) (hb hby djdk_52_16_58) hr, hrun, hended, _, _, rfl, ?_, ⟨_, rfl⟩, hW, hsame.mono (by decide) (by decide)⟩
  show Qca2 Z r0 kC c0 c1 h0 n0 _ T22.heap _
  exact ⟨_, _, rfl, N22, K22, sz_b21, Vq22⟩
theorem efcd2 (m : MethodId) (r0 : Addr) : entryFrame m #[(.ref r0), (.int (2 : Int32))] 2 = mkF m 0 #[.val (.ref r0), .val (.int (2 : Int32))] [] := by first | (simp [entryFrame, mkF, argsToLocals, Value.category]; done) | rfl
def Qcd2 (Z : State) (r0 : Addr) (kB : ClassId) (vl : List Value) (h0 : Heap) (n0 : Nat) (v : Option Value) (h : Heap) (L : List Loc) : Prop := v = some (.int (0 : Int32)) ∧ Fr n0 L ∧ h = h0
abbrev own_Kcd2 (Z : State) (r0 : Addr) (kB : ClassId) (vl : List Value) (h0 : Heap) (n0 : Nat) (s : State) : Outcome → State → Prop := fun o U' => ∃ v L, o = .returned v ∧ Qcd2 Z r0 kB vl h0 n0 v U'.heap L ∧ FrameEnd s o U' L ({ frames := 0, cells := 0, slots := 0, locals := 0 } : Room).cells ({ frames := 0, cells := 0, slots := 0, locals := 0 } : Room).slots
set_option maxRecDepth 65536 in
set_option maxHeartbeats 40000000 in
theorem rmcd2 (l : Launch) (Z : State) (a0 : Array Value) (hw : ∀ d ∈ tables_1, d.before a0 Z = true) (ws : List Jvm.Cond) (r0 : Addr) (kB : ClassId) (vl : List Value) (h0 : Heap) (n0 : Nat) (Z0 : n0 ≤ h0.size) (V0 : Arv Z h0 r0 kB .byte (2 : Int32) vl (.int (0 : Int32))) :
    MetFree l (⟨"java/lang/StringUTF16", "coderFromArrayLen", "([BI)B"⟩ : MethodName) (head1 (Jvm.Cond.code (⟨"java/lang/StringUTF16", "coderFromArrayLen", "([BI)B"⟩ : MethodName) jdk_52_method_15_code 2 (some .byte) :: ws) ({ frames := 0, cells := 0, slots := 0, locals := 0 } : Room)) (fun a U => a = #[(.ref r0), (.int (2 : Int32))] ∧ Z.Warmed39 U.vm ∧ U.heap = h0) (fun _ _ _ _ _ => True) (fun _ U o U' => ∃ v L, o = .returned v ∧ Qcd2 Z r0 kB vl h0 n0 v U'.heap L ∧ FrameEnd U o U' L ({ frames := 0, cells := 0, slots := 0, locals := 0 } : Room).cells ({ frames := 0, cells := 0, slots := 0, locals := 0 } : Room).slots) := by
  refine MetFree.of_bodySF (plainFor_of_name pn_java_lang_StringUTF16) hisR ?_
  intro p e s m args below meth c s₁ Bd hml0 hP hK
  obtain ⟨rfl, hZ, hh⟩ := hP
  have hx := Bd.exec
  have hby := Bd.bytes
  have hml : c.maxLocals = 2 := hml0
  have hown : s.vm.findClass "java/lang/StringUTF16" = some m.cls := findClass_of_methodNamed Bd.named
  have hnm := (name_of_methodNamed Bd.named Bd.method).1
  have X0 : Stand p l e ({ frames := 0, cells := 0, slots := 0, locals := 0 } : Room) s m #[(.ref r0), (.int (2 : Int32))] below meth c s₁ [] 0 0 := Stand.of_body Bd
  have e0 : s₁.heap = h0 := by rw [← hh, Bd.state]; rfl
  have N0 := Fr.nil n0
  refine own_by (p := p) (e := e) (below := below) (K := own_Kcd2 Z r0 kB vl h0 n0 s) (W' := s₁.setTop (mkF m 0 #[.val (.ref r0), .val (.int (2 : Int32))] [])) (fun t k => castTop (efcd2 m r0) k) ?_
  obtain ⟨clu21, Aru21, qu21, Su21, Ngu21, Hau21, Gau21⟩ := id V0
  refine own_by (W' := (s₁.setTop (mkF m 3 #[.val (.ref r0), .val (.int (2 : Int32))] [(.int clu21.slots.size.toInt32), (.int (2 : Int32))]))) (fun t k => XS.iloadN X0.here hx rfl (hb hby djdk_52_15_0) rfl (XS.aloadN X0.here hx rfl (hb hby djdk_52_15_1) rfl rfl ((X0.arraylength hx (by rw [e0]; exact Aru21.1) (State.isArrayOf_alike hZ.alike Aru21.2.1) (g := (mkF m 2 #[.val (.ref r0), .val (.int (2 : Int32))] [(.ref r0), (.int (2 : Int32))])) rfl rfl (hb hby djdk_52_15_2)) _ k))) ?_
  rw [len_of Su21 Ngu21]
  obtain ⟨fs, hr, hrun, hended, hW, hsame⟩ := X0.leave (v := some (.int (((((2 : Int32) - (2 : Int32)).toUInt32 >>> ((31 : Int32) &&& 31).toUInt32).toInt32).toInt8.toInt32))) (fun h => by rw [Bd.returns] at h; cases h)
  refine own_by (W' := (s₁.setTop (mkF m 8 #[.val (.ref r0), .val (.int (2 : Int32))] [(.int (((((2 : Int32) - (2 : Int32)).toUInt32 >>> ((31 : Int32) &&& 31).toUInt32).toInt32).toInt8.toInt32))]))) (fun t k => XS.isub X0.here hx rfl (hb hby djdk_52_15_3) rfl (XS.bipush X0.here hx rfl (hb hby djdk_52_15_4) (XS.iushr X0.here hx rfl (hb hby djdk_52_15_6) rfl (XS.i2b X0.here hx rfl (hb hby djdk_52_15_7) rfl k)))) ?_
  refine ⟨_, _, retOut X0 hx Bd.returns rfl (Or.inl ⟨rfl, Or.inr (Or.inr (Or.inl rfl)), _, rfl⟩) (hb hby djdk_52_15_8) hr, hrun, hended, _, _, rfl, ?_, ⟨_, rfl⟩, hW, hsame.mono (by decide) (by decide)⟩
  exact ⟨by rfl, N0, e0⟩
theorem efsb2 (m : MethodId) (r0 : Addr) (r1 : Addr) : entryFrame m #[(.ref r0), (.ref r1), (.int (0 : Int32)), (.int (2 : Int32)), .null] 6 = mkF m 0 #[.val (.ref r0), .val (.ref r1), .val (.int (0 : Int32)), .val (.int (2 : Int32)), .val .null, .unset] [] := by first | (simp [entryFrame, mkF, argsToLocals, Value.category]; done) | rfl
def Qsb2 (Z : State) (r0 : Addr) (r1 : Addr) (kC : ClassId) (c0 : Int32) (c1 : Int32) (wALLOW : Addr) (wFORBID : Addr) (tALLOW : Addr) (tFORBID : Addr) (wV : Addr) (kwV : ClassId) (cs : Int32) (h0 : Heap) (n0 : Nat) (v : Option Value) (h : Heap) (L : List Loc) : Prop := v = none ∧ Fr n0 L ∧ Keep h0 h [r0] ∧ own_St Z h r0 (2 : Int32) [(.int (nar .byte (c0.toInt8.toInt32))), (.int (nar .byte (c1.toInt8.toInt32)))]
abbrev own_Ksb2 (Z : State) (r0 : Addr) (r1 : Addr) (kC : ClassId) (c0 : Int32) (c1 : Int32) (wALLOW : Addr) (wFORBID : Addr) (tALLOW : Addr) (tFORBID : Addr) (wV : Addr) (kwV : ClassId) (cs : Int32) (h0 : Heap) (n0 : Nat) (s : State) : Outcome → State → Prop := fun o U' => ∃ v L, o = .returned v ∧ Qsb2 Z r0 r1 kC c0 c1 wALLOW wFORBID tALLOW tFORBID wV kwV cs h0 n0 v U'.heap L ∧ FrameEnd s o U' L ({ frames := 2, cells := 1, slots := 2, locals := 35 } : Room).cells ({ frames := 2, cells := 1, slots := 2, locals := 35 } : Room).slots
set_option maxRecDepth 65536 in
set_option maxHeartbeats 40000000 in
theorem rmsb2 (l : Launch) (Z : State) (a0 : Array Value) (hw : ∀ d ∈ tables_1, d.before a0 Z = true) (ws : List Jvm.Cond) (r0 : Addr) (r1 : Addr) (kC : ClassId) (c0 : Int32) (c1 : Int32) (wALLOW : Addr) (wFORBID : Addr) (tALLOW : Addr) (tFORBID : Addr) (wV : Addr) (kwV : ClassId) (cs : Int32) (h0 : Heap) (n0 : Nat) (Z0 : n0 ≤ h0.size) (O0 : Old Z n0 h0) (HW : own_Wd Z wALLOW wFORBID tALLOW tFORBID wV kwV cs) (E0 : Exa Z h0 r0 "java/lang/String") (g_r0 : n0 ≤ r0) (F_value : Fld Z h0 r0 "java/lang/String" "value" "[B" .null) (F_coder : Fld Z h0 r0 "java/lang/String" "coder" "B" (.int (0 : Int32))) (V1 : Arv Z h0 r1 kC .char (2 : Int32) [(.int c0), (.int c1)] (.int (0 : Int32))) (hc_c0 : ¬ (255 : Int32) < c0) (hc_c1 : ¬ (255 : Int32) < c1) :
    MetFree l (⟨"java/lang/String", "<init>", "([CIILjava/lang/Void;)V"⟩ : MethodName) (head1 (Jvm.Cond.code (⟨"java/lang/String", "<init>", "([CIILjava/lang/Void;)V"⟩ : MethodName) jdk_42_method_149_code 6 none :: ws) ({ frames := 2, cells := 1, slots := 2, locals := 35 } : Room)) (fun a U => a = #[(.ref r0), (.ref r1), (.int (0 : Int32)), (.int (2 : Int32)), .null] ∧ Z.Warmed39 U.vm ∧ U.heap = h0) (fun _ _ _ _ _ => True) (fun _ U o U' => ∃ v L, o = .returned v ∧ Qsb2 Z r0 r1 kC c0 c1 wALLOW wFORBID tALLOW tFORBID wV kwV cs h0 n0 v U'.heap L ∧ FrameEnd U o U' L ({ frames := 2, cells := 1, slots := 2, locals := 35 } : Room).cells ({ frames := 2, cells := 1, slots := 2, locals := 35 } : Room).slots) := by
  refine MetFree.of_bodySF (plainFor_of_name pn_java_lang_String) hisR ?_
  intro p e s m args below meth c s₁ Bd hml0 hP hK
  obtain ⟨rfl, hZ, hh⟩ := hP
  have hx := Bd.exec
  have hby := Bd.bytes
  have hml : c.maxLocals = 6 := hml0
  have hown : s.vm.findClass "java/lang/String" = some m.cls := findClass_of_methodNamed Bd.named
  have hnm := (name_of_methodNamed Bd.named Bd.method).1
  have X0 : Stand p l e ({ frames := 2, cells := 1, slots := 2, locals := 35 } : Room) s m #[(.ref r0), (.ref r1), (.int (0 : Int32)), (.int (2 : Int32)), .null] below meth c s₁ [] 0 0 := Stand.of_body Bd
  have e0 : s₁.heap = h0 := by rw [← hh, Bd.state]; rfl
  have N0 := Fr.nil n0
  refine own_by (p := p) (e := e) (below := below) (K := own_Ksb2 Z r0 r1 kC c0 c1 wALLOW wFORBID tALLOW tFORBID wV kwV cs h0 n0 s) (W' := s₁.setTop (mkF m 0 #[.val (.ref r0), .val (.ref r1), .val (.int (0 : Int32)), .val (.int (2 : Int32)), .val .null, .unset] [])) (fun t k => castTop (efsb2 m r0 r1) k) ?_
  obtain ⟨T21, X21, e21, st21⟩ := initO X0 hx hZ hown (own_w hw 17) (own_w hw 18) (own_w hw 19) e0 (g := (mkF m 1 #[.val (.ref r0), .val (.ref r1), .val (.int (0 : Int32)), .val (.int (2 : Int32)), .val .null, .unset] [(.ref r0)])) rfl (by rw [hml]; rfl) rfl (hb hby djdk_42_149_1) (by decide) (W := 0) (by show 2 * 0 + _ ≤ _; exact Nat.le_of_eq rfl) (by decide)
  obtain ⟨T22, X22, e22, st22⟩ := getS (host := "") X21 hx hZ hown (own_w hw 20) Via.refl e21 (HW.2.2.2.2.2.2.2.2.2.2.2.2.2.1.ext O0.2) (g := (mkF m 27 #[.val (.ref r0), .val (.ref r1), .val (.int (0 : Int32)), .val (.int (2 : Int32)), .val .null, .unset] [])) rfl (hb hby djdk_42_149_27)
  refine own_by (W' := (T22.setTop (mkF m 33 #[.val (.ref r0), .val (.ref r1), .val (.int (0 : Int32)), .val (.int (2 : Int32)), .val .null, .unset] []))) (fun t k => XS.aloadN X0.here hx rfl (hb hby djdk_42_149_0) rfl rfl (st21 _ (XS.iloadN X21.here hx rfl (hb hby djdk_42_149_4) rfl (XS.ifYes X21.here hx rfl (pc0 := 5) (pc' := 27) rfl (hb hby djdk_42_149_5) rfl ((if0 _ _).trans (feq (by decide : ¬ ((2 : Int32) = (0 : Int32)))).2) (by decide) (by decide) (st22 _ (XS.ifNo X22.here hx rfl (hb hby djdk_42_149_30) rfl ((if0 _ _).trans (feq HW.2.2.2.2.2.2.2.2.2.2.2.2.2.2).1) k)))))) ?_
  obtain ⟨_, _, ⟨T23, L23, k23, n23⟩, -, X23, ⟨Lc23, hQ23, l23, y23, z23⟩, st23⟩ := Jvm.LawKit.callS X22 hx (y := (⟨"java/lang/StringUTF16", "compress", "([CII)[B"⟩ : MethodName)) hown (mvT hZ (own_w hw 21)) (mvT hZ (own_w hw 22)) (mvT hZ (own_w hw 23)) (mvT hZ (own_w hw 24)) (by decide) (backOf (W := 0) (rmca2 l Z a0 hw [] r1 kC c0 c1 h0 n0 Z0 O0 V1 hc_c0 hc_c1) hZ (own_w hw 24) (own_w hw 23) (by decide) (by decide)) (g := (mkF m 36 #[.val (.ref r0), .val (.ref r1), .val (.int (0 : Int32)), .val (.int (2 : Int32)), .val .null, .unset] [(.int (2 : Int32)), (.int (0 : Int32)), (.ref r1)])) rfl (by rw [hml]; rfl) (argsL := [(.ref r1), (.int (0 : Int32)), (.int (2 : Int32))]) (rest := []) (lenOf pd_4 rfl) rfl (by show 2 * 0 + _ ≤ _; exact Nat.le_of_eq rfl) (hb hby djdk_42_149_36) (fun _ _ => ⟨rfl, e22, (by decide : 0 + 1 ≤ _), (by decide : 0 + 2 ≤ _)⟩)
  dsimp only [Pt.U, Pt.locs, Pt.cells, Pt.slots] at X23 l23 y23 z23 st23 hQ23
  subst l23 y23 z23
  obtain ⟨fb23, kb23, rfl, N23q, Kq23, hsz23, Vq23⟩ := hQ23
  have ne_r0_fb23 : r0 ≠ fb23 := Nat.ne_of_lt (Nat.lt_of_lt_of_le E0.lt hsz23)
  have ne_r1_fb23 : r1 ≠ fb23 := Nat.ne_of_lt (Nat.lt_of_lt_of_le V1.lt hsz23)
  have O23 := Old.keep O0 Kq23 all0
  have K23 := Keep.trans (Keep.refl h0 [r0]) Kq23 all0
  have N23 := Fr.app N0 N23q
  refine own_by (W' := (T23.setTop (mkF m 42 #[.val (.ref r0), .val (.ref r1), .val (.int (0 : Int32)), .val (.int (2 : Int32)), .val .null, .val (.ref fb23)] [(.ref r0)]))) (fun t k => XS.aloadN X22.here hx rfl (hb hby djdk_42_149_33) rfl rfl (XS.iloadN X22.here hx rfl (hb hby djdk_42_149_34) rfl (XS.iloadN X22.here hx rfl (hb hby djdk_42_149_35) rfl (st23 _ (XS.astore X23.here hx rfl (hb hby djdk_42_149_39) rfl rfl (l' := #[.val (.ref r0), .val (.ref r1), .val (.int (0 : Int32)), .val (.int (2 : Int32)), .val .null, .val (.ref fb23)]) rfl (XS.aloadN X23.here hx rfl (hb hby djdk_42_149_41) rfl rfl k)))))) ?_
  obtain ⟨_, _, ⟨T24, L24, k24, n24⟩, -, X24, ⟨Lc24, hQ24, l24, y24, z24⟩, st24⟩ := Jvm.LawKit.callS X23 hx (y := (⟨"java/lang/StringUTF16", "coderFromArrayLen", "([BI)B"⟩ : MethodName)) hown (mvT hZ (own_w hw 29)) (mvT hZ (own_w hw 30)) (mvT hZ (own_w hw 23)) (mvT hZ (own_w hw 31)) (by decide) (backOf (W := 1) (rmcd2 l Z a0 hw [] fb23 kb23 [(.int (nar .byte (c0.toInt8.toInt32))), (.int (nar .byte (c1.toInt8.toInt32)))] T23.heap n0 (own_le O23) Vq23) hZ (own_w hw 31) (own_w hw 23) (by decide) (by decide)) (g := (mkF m 45 #[.val (.ref r0), .val (.ref r1), .val (.int (0 : Int32)), .val (.int (2 : Int32)), .val .null, .val (.ref fb23)] [(.int (2 : Int32)), (.ref fb23), (.ref r0)])) rfl (by rw [hml]; rfl) (argsL := [(.ref fb23), (.int (2 : Int32))]) (rest := [(.ref r0)]) (lenOf pd_5 rfl) rfl (by show 2 * 0 + _ ≤ _; exact Nat.le_of_eq rfl) (hb hby djdk_42_149_45) (fun _ _ => ⟨rfl, rfl, (by decide : 1 + 0 ≤ _), (by decide : 2 + 0 ≤ _)⟩)
  dsimp only [Pt.U, Pt.locs, Pt.cells, Pt.slots] at X24 l24 y24 z24 st24 hQ24
  subst l24 y24 z24
  obtain ⟨rfl, N24q, e24⟩ := hQ24
  have N24 := Fr.app N23 N24q
  obtain ⟨T25, h25, X25, e25, W25, st25⟩ := putFN X24 hx hZ hown (own_w hw 32) Via.refl e24 (F_coder.keep Kq23 nin0) (E0.keep Kq23) (Or.inr ⟨(own_w hw 33), rfl, hnm⟩) (own_w hw 8) (ty := .byte) (v' := .int (0 : Int32)) (by decide) rfl (by decide) (g := (mkF m 48 #[.val (.ref r0), .val (.ref r1), .val (.int (0 : Int32)), .val (.int (2 : Int32)), .val .null, .val (.ref fb23)] [(.int (0 : Int32)), (.ref r0)])) rfl rfl (hb hby djdk_42_149_48)
  have Fw25 := (F_coder.keep Kq23 nin0).same W25
  have O25 := Old.wr O23 W25 g_r0
  have N25 := Fr.snoc X25 N24 g_r0
  have K25 := Keep.wr K23 W25 (Or.inl (List.mem_of_getElem? (i := 0) rfl))
  refine own_by (W' := (T25.setTop (mkF m 54 #[.val (.ref r0), .val (.ref r1), .val (.int (0 : Int32)), .val (.int (2 : Int32)), .val .null, .val (.ref fb23)] [(.ref fb23), (.ref r0)]))) (fun t k => XS.aload X23.here hx rfl (hb hby djdk_42_149_42) rfl rfl (XS.iloadN X23.here hx rfl (hb hby djdk_42_149_44) rfl (st24 _ (st25 _ (XS.aloadN X25.here hx rfl (hb hby djdk_42_149_51) rfl rfl (XS.aload X25.here hx rfl (hb hby djdk_42_149_52) rfl rfl k)))))) ?_
  obtain ⟨T26, h26, X26, e26, W26, st26⟩ := putF X25 hx hZ hown (host := "") (Or.inl (own_w hw 34)) Via.refl e25 ((F_value.keep Kq23 nin0).other W25 (Or.inr (slot_ne (Or.inr (own_w hw 35)) (Or.inr (own_w hw 33)) (by decide) (t := (.array .byte)) (t' := .byte) (by decide) (by decide)))) ((E0.keep Kq23).wr W25) (Or.inr ⟨(own_w hw 35), rfl, hnm⟩) (own_w hw 8) (ty := (.array .byte)) (by decide) rfl rfl (g := (mkF m 54 #[.val (.ref r0), .val (.ref r1), .val (.int (0 : Int32)), .val (.int (2 : Int32)), .val .null, .val (.ref fb23)] [(.ref fb23), (.ref r0)])) rfl rfl (hb hby djdk_42_149_54)
  have Fw26 := ((F_value.keep Kq23 nin0).other W25 (Or.inr (slot_ne (Or.inr (own_w hw 35)) (Or.inr (own_w hw 33)) (by decide) (t := (.array .byte)) (t' := .byte) (by decide) (by decide)))).same W26
  have O26 := Old.wr O25 W26 g_r0
  have N26 := Fr.snoc X26 N25 g_r0
  have K26 := Keep.wr K25 W26 (Or.inl (List.mem_of_getElem? (i := 0) rfl))
  obtain ⟨fs, hr, hrun, hended, hW, hsame⟩ := X26.leave (v := none) (fun _ => rfl)
  refine own_by (W' := (T26.setTop (mkF m 57 #[.val (.ref r0), .val (.ref r1), .val (.int (0 : Int32)), .val (.int (2 : Int32)), .val .null, .val (.ref fb23)] []))) (fun t k => st26 _ k) ?_
  refine ⟨_, _, X26.returnOut hx Bd.returns (hb hby djdk_42_149_57) hr, hrun, hended, _, _, rfl, ?_, ⟨_, rfl⟩, hW, hsame.mono (by decide) (by decide)⟩
  show Qsb2 Z r0 r1 kC c0 c1 wALLOW wFORBID tALLOW tFORBID wV kwV cs h0 n0 _ T26.heap _
  rw [e26]
  exact ⟨rfl, N26, K26, (((E0.keep Kq23).wr W25).wr W26), (Fw25.other W26 (Or.inr (slot_ne (Or.inr (own_w hw 33)) (Or.inr (own_w hw 35)) (by decide) (t := .byte) (t' := (.array .byte)) (by decide) (by decide)))), _, _, Fw26, ((Vq23.other W25 ne_r0_fb23.symm).other W26 ne_r0_fb23.symm)⟩
theorem efsa2 (m : MethodId) (r0 : Addr) (r1 : Addr) : entryFrame m #[(.ref r0), (.ref r1)] 2 = mkF m 0 #[.val (.ref r0), .val (.ref r1)] [] := by first | (simp [entryFrame, mkF, argsToLocals, Value.category]; done) | rfl
def Qsa2 (Z : State) (r0 : Addr) (r1 : Addr) (kC : ClassId) (c0 : Int32) (c1 : Int32) (wALLOW : Addr) (wFORBID : Addr) (tALLOW : Addr) (tFORBID : Addr) (wV : Addr) (kwV : ClassId) (cs : Int32) (h0 : Heap) (n0 : Nat) (v : Option Value) (h : Heap) (L : List Loc) : Prop := v = none ∧ Fr n0 L ∧ Keep h0 h [r0] ∧ own_St Z h r0 (2 : Int32) [(.int (nar .byte (c0.toInt8.toInt32))), (.int (nar .byte (c1.toInt8.toInt32)))]
abbrev own_Ksa2 (Z : State) (r0 : Addr) (r1 : Addr) (kC : ClassId) (c0 : Int32) (c1 : Int32) (wALLOW : Addr) (wFORBID : Addr) (tALLOW : Addr) (tFORBID : Addr) (wV : Addr) (kwV : ClassId) (cs : Int32) (h0 : Heap) (n0 : Nat) (s : State) : Outcome → State → Prop := fun o U' => ∃ v L, o = .returned v ∧ Qsa2 Z r0 r1 kC c0 c1 wALLOW wFORBID tALLOW tFORBID wV kwV cs h0 n0 v U'.heap L ∧ FrameEnd s o U' L ({ frames := 3, cells := 1, slots := 2, locals := 52 } : Room).cells ({ frames := 3, cells := 1, slots := 2, locals := 52 } : Room).slots
set_option maxRecDepth 65536 in
set_option maxHeartbeats 40000000 in
theorem rmsa2 (l : Launch) (Z : State) (a0 : Array Value) (hw : ∀ d ∈ tables_1, d.before a0 Z = true) (ws : List Jvm.Cond) (r0 : Addr) (r1 : Addr) (kC : ClassId) (c0 : Int32) (c1 : Int32) (wALLOW : Addr) (wFORBID : Addr) (tALLOW : Addr) (tFORBID : Addr) (wV : Addr) (kwV : ClassId) (cs : Int32) (h0 : Heap) (n0 : Nat) (Z0 : n0 ≤ h0.size) (O0 : Old Z n0 h0) (HW : own_Wd Z wALLOW wFORBID tALLOW tFORBID wV kwV cs) (E0 : Exa Z h0 r0 "java/lang/String") (g_r0 : n0 ≤ r0) (F_value : Fld Z h0 r0 "java/lang/String" "value" "[B" .null) (F_coder : Fld Z h0 r0 "java/lang/String" "coder" "B" (.int (0 : Int32))) (V1 : Arv Z h0 r1 kC .char (2 : Int32) [(.int c0), (.int c1)] (.int (0 : Int32))) (hc_c0 : ¬ (255 : Int32) < c0) (hc_c1 : ¬ (255 : Int32) < c1) :
    MetFree l (⟨"java/lang/String", "<init>", "([C)V"⟩ : MethodName) (head1 (Jvm.Cond.code (⟨"java/lang/String", "<init>", "([C)V"⟩ : MethodName) jdk_42_method_3_code 2 none :: ws) ({ frames := 3, cells := 1, slots := 2, locals := 52 } : Room)) (fun a U => a = #[(.ref r0), (.ref r1)] ∧ Z.Warmed39 U.vm ∧ U.heap = h0) (fun _ _ _ _ _ => True) (fun _ U o U' => ∃ v L, o = .returned v ∧ Qsa2 Z r0 r1 kC c0 c1 wALLOW wFORBID tALLOW tFORBID wV kwV cs h0 n0 v U'.heap L ∧ FrameEnd U o U' L ({ frames := 3, cells := 1, slots := 2, locals := 52 } : Room).cells ({ frames := 3, cells := 1, slots := 2, locals := 52 } : Room).slots) := by
  refine MetFree.of_bodySF (plainFor_of_name pn_java_lang_String) hisR ?_
  intro p e s m args below meth c s₁ Bd hml0 hP hK
  obtain ⟨rfl, hZ, hh⟩ := hP
  have hx := Bd.exec
  have hby := Bd.bytes
  have hml : c.maxLocals = 2 := hml0
  have hown : s.vm.findClass "java/lang/String" = some m.cls := findClass_of_methodNamed Bd.named
  have hnm := (name_of_methodNamed Bd.named Bd.method).1
  have X0 : Stand p l e ({ frames := 3, cells := 1, slots := 2, locals := 52 } : Room) s m #[(.ref r0), (.ref r1)] below meth c s₁ [] 0 0 := Stand.of_body Bd
  have e0 : s₁.heap = h0 := by rw [← hh, Bd.state]; rfl
  have N0 := Fr.nil n0
  refine own_by (p := p) (e := e) (below := below) (K := own_Ksa2 Z r0 r1 kC c0 c1 wALLOW wFORBID tALLOW tFORBID wV kwV cs h0 n0 s) (W' := s₁.setTop (mkF m 0 #[.val (.ref r0), .val (.ref r1)] [])) (fun t k => castTop (efsa2 m r0 r1) k) ?_
  obtain ⟨clu21, Aru21, qu21, Su21, Ngu21, Hau21, Gau21⟩ := id V1
  refine own_by (W' := (s₁.setTop (mkF m 5 #[.val (.ref r0), .val (.ref r1)] [(.int clu21.slots.size.toInt32), (.int (0 : Int32)), (.ref r1), (.ref r0)]))) (fun t k => XS.aloadN X0.here hx rfl (hb hby djdk_42_3_0) rfl rfl (XS.aloadN X0.here hx rfl (hb hby djdk_42_3_1) rfl rfl (XS.iconst X0.here hx rfl (hb hby djdk_42_3_2) (XS.aloadN X0.here hx rfl (hb hby djdk_42_3_3) rfl rfl ((X0.arraylength hx (by rw [e0]; exact Aru21.1) (State.isArrayOf_alike hZ.alike Aru21.2.1) (g := (mkF m 4 #[.val (.ref r0), .val (.ref r1)] [(.ref r1), (.int (0 : Int32)), (.ref r1), (.ref r0)])) rfl rfl (hb hby djdk_42_3_4)) _ k))))) ?_
  rw [len_of Su21 Ngu21]
  obtain ⟨_, _, ⟨T22, L22, k22, n22⟩, -, X22, ⟨Lc22, hQ22, l22, y22, z22⟩, st22⟩ := X0.specialBack hx (y := (⟨"java/lang/String", "<init>", "([CIILjava/lang/Void;)V"⟩ : MethodName)) rfl hown (mvT hZ (own_w hw 13)) (mvT hZ (own_w hw 14)) (mvT hZ (own_w hw 16)) (by decide) (backOf (W := 0) (rmsb2 l Z a0 hw [] r0 r1 kC c0 c1 wALLOW wFORBID tALLOW tFORBID wV kwV cs h0 n0 Z0 O0 HW E0 g_r0 F_value F_coder V1 hc_c0 hc_c1) hZ (own_w hw 16) (own_w hw 9) (by decide) (by decide)) (g := (mkF m 6 #[.val (.ref r0), .val (.ref r1)] [.null, (.int (2 : Int32)), (.int (0 : Int32)), (.ref r1), (.ref r0)])) rfl (by rw [hml]; rfl) (Steps.refl _) (a := r0) (argsL := [(.ref r1), (.int (0 : Int32)), (.int (2 : Int32)), .null]) (rest := []) (lenOf pd_1 rfl) rfl (by show 2 * 0 + _ ≤ _; exact Nat.le_of_eq rfl) (hb hby djdk_42_3_6) (fun _ _ => ⟨rfl, e0, (by decide : 0 + 1 ≤ _), (by decide : 0 + 2 ≤ _)⟩)
  dsimp only [Pt.U, Pt.locs, Pt.cells, Pt.slots] at X22 l22 y22 z22 st22 hQ22
  subst l22 y22 z22
  obtain ⟨rfl, N22q, Kq22, Tq22⟩ := hQ22
  have O22 := Old.keep O0 Kq22 (allS g_r0 all0)
  have K22 := Keep.trans (Keep.refl h0 [r0]) Kq22 (allS (Or.inl (List.mem_of_getElem? (i := 0) rfl)) all0)
  have N22 := Fr.app N0 N22q
  obtain ⟨fs, hr, hrun, hended, hW, hsame⟩ := X22.leave (v := none) (fun _ => rfl)
  refine own_by (W' := (T22.setTop (mkF m 9 #[.val (.ref r0), .val (.ref r1)] []))) (fun t k => XS.aconstNull X0.here hx rfl (hb hby djdk_42_3_5) (Steps.trans st22 k)) ?_
  refine ⟨_, _, X22.returnOut hx Bd.returns (hb hby djdk_42_3_9) hr, hrun, hended, _, _, rfl, ?_, ⟨_, rfl⟩, hW, hsame.mono (by decide) (by decide)⟩
  show Qsa2 Z r0 r1 kC c0 c1 wALLOW wFORBID tALLOW tFORBID wV kwV cs h0 n0 _ T22.heap _
  exact ⟨rfl, N22, K22, Tq22⟩
theorem dmethod_3_37 : decode method_3_code 37 = .ok (.iload_n 1, 1) := by decide +kernel
theorem dmethod_3_38 : decode method_3_code 38 = .ok (.iconst 2, 1) := by decide +kernel
theorem dmethod_3_39 : decode method_3_code 39 = .ok (.if_icmp .ne 26, 3) := by decide +kernel
theorem dmethod_3_42 : decode method_3_code 42 = .ok (.new 19, 3) := by decide +kernel
theorem dmethod_3_45 : decode method_3_code 45 = .ok (.dup, 1) := by decide +kernel
theorem dmethod_3_46 : decode method_3_code 46 = .ok (.iconst 2, 1) := by decide +kernel
theorem dmethod_3_47 : decode method_3_code 47 = .ok (.newarray .char, 2) := by decide +kernel
theorem dmethod_3_49 : decode method_3_code 49 = .ok (.dup, 1) := by decide +kernel
theorem dmethod_3_50 : decode method_3_code 50 = .ok (.iconst 0, 1) := by decide +kernel
theorem dmethod_3_51 : decode method_3_code 51 = .ok (.aload_n 0, 1) := by decide +kernel
theorem dmethod_3_52 : decode method_3_code 52 = .ok (.iconst 0, 1) := by decide +kernel
theorem dmethod_3_53 : decode method_3_code 53 = .ok (.caload, 1) := by decide +kernel
theorem dmethod_3_54 : decode method_3_code 54 = .ok (.castore, 1) := by decide +kernel
theorem dmethod_3_55 : decode method_3_code 55 = .ok (.dup, 1) := by decide +kernel
theorem dmethod_3_56 : decode method_3_code 56 = .ok (.iconst 1, 1) := by decide +kernel
theorem dmethod_3_57 : decode method_3_code 57 = .ok (.aload_n 0, 1) := by decide +kernel
theorem dmethod_3_58 : decode method_3_code 58 = .ok (.iconst 1, 1) := by decide +kernel
theorem dmethod_3_59 : decode method_3_code 59 = .ok (.caload, 1) := by decide +kernel
theorem dmethod_3_60 : decode method_3_code 60 = .ok (.castore, 1) := by decide +kernel
theorem dmethod_3_61 : decode method_3_code 61 = .ok (.invokespecial 39, 3) := by decide +kernel
theorem dmethod_3_64 : decode method_3_code 64 = .ok (.areturn, 1) := by decide +kernel
theorem efmk2 (m : MethodId) (r0 : Addr) : entryFrame m #[(.ref r0), (.int (2 : Int32))] 2 = mkF m 0 #[.val (.ref r0), .val (.int (2 : Int32))] [] := by first | (simp [entryFrame, mkF, argsToLocals, Value.category]; done) | rfl
def Qmk2 (Z : State) (r0 : Addr) (kC : ClassId) (c0 : Int32) (c1 : Int32) (c2 : Int32) (c3 : Int32) (c4 : Int32) (c5 : Int32) (wALLOW : Addr) (wFORBID : Addr) (tALLOW : Addr) (tFORBID : Addr) (wV : Addr) (kwV : ClassId) (cs : Int32) (h0 : Heap) (n0 : Nat) (v : Option Value) (h : Heap) (L : List Loc) : Prop := ∃ q : Addr, v = some (.ref q) ∧ Fr n0 L ∧ Keep h0 h [] ∧ h0.size ≤ q ∧ own_St Z h q (2 : Int32) [(.int (nar .byte (c0.toInt8.toInt32))), (.int (nar .byte (c1.toInt8.toInt32)))]
abbrev own_Kmk2 (Z : State) (r0 : Addr) (kC : ClassId) (c0 : Int32) (c1 : Int32) (c2 : Int32) (c3 : Int32) (c4 : Int32) (c5 : Int32) (wALLOW : Addr) (wFORBID : Addr) (tALLOW : Addr) (tFORBID : Addr) (wV : Addr) (kwV : ClassId) (cs : Int32) (h0 : Heap) (n0 : Nat) (s : State) : Outcome → State → Prop := fun o U' => ∃ v L, o = .returned v ∧ Qmk2 Z r0 kC c0 c1 c2 c3 c4 c5 wALLOW wFORBID tALLOW tFORBID wV kwV cs h0 n0 v U'.heap L ∧ FrameEnd s o U' L ({ frames := 4, cells := 3, slots := 8, locals := 66 } : Room).cells ({ frames := 4, cells := 3, slots := 8, locals := 66 } : Room).slots
set_option maxRecDepth 65536 in
set_option maxHeartbeats 40000000 in
theorem rmmk2 (l : Launch) (Z : State) (a0 : Array Value) (hw : ∀ d ∈ tables_1, d.before a0 Z = true) (ws : List Jvm.Cond) (r0 : Addr) (kC : ClassId) (c0 : Int32) (c1 : Int32) (c2 : Int32) (c3 : Int32) (c4 : Int32) (c5 : Int32) (wALLOW : Addr) (wFORBID : Addr) (tALLOW : Addr) (tFORBID : Addr) (wV : Addr) (kwV : ClassId) (cs : Int32) (h0 : Heap) (n0 : Nat) (Z0 : n0 ≤ h0.size) (O0 : Old Z n0 h0) (HW : own_Wd Z wALLOW wFORBID tALLOW tFORBID wV kwV cs) (V0 : Arv Z h0 r0 kC .char (6 : Int32) [(.int c0), (.int c1), (.int c2), (.int c3), (.int c4), (.int c5)] (.int (0 : Int32))) (hl_c0 : own_ch c0) (hl_c1 : own_ch c1) (hl_c2 : own_ch c2) (hl_c3 : own_ch c3) (hl_c4 : own_ch c4) (hl_c5 : own_ch c5) :
    MetFree l (⟨"com/example/claviger/claviger/engine/EffectNamedPinLaw", "make", "([CI)Ljava/lang/String;"⟩ : MethodName) (head1 (Jvm.Cond.code (⟨"com/example/claviger/claviger/engine/EffectNamedPinLaw", "make", "([CI)Ljava/lang/String;"⟩ : MethodName) method_3_code 2 (some (.object "java/lang/String")) :: ws) ({ frames := 4, cells := 3, slots := 8, locals := 66 } : Room)) (fun a U => a = #[(.ref r0), (.int (2 : Int32))] ∧ Z.Warmed39 U.vm ∧ U.heap = h0) (fun _ _ _ _ _ => True) (fun _ U o U' => ∃ v L, o = .returned v ∧ Qmk2 Z r0 kC c0 c1 c2 c3 c4 c5 wALLOW wFORBID tALLOW tFORBID wV kwV cs h0 n0 v U'.heap L ∧ FrameEnd U o U' L ({ frames := 4, cells := 3, slots := 8, locals := 66 } : Room).cells ({ frames := 4, cells := 3, slots := 8, locals := 66 } : Room).slots) := by
  refine MetFree.of_bodySF (plainFor_of_name pn_com_example_claviger_claviger_engine_EffectNamedPinLaw) hisR ?_
  intro p e s m args below meth c s₁ Bd hml0 hP hK
  obtain ⟨rfl, hZ, hh⟩ := hP
  have hx := Bd.exec
  have hby := Bd.bytes
  have hml : c.maxLocals = 2 := hml0
  have hown : s.vm.findClass "com/example/claviger/claviger/engine/EffectNamedPinLaw" = some m.cls := findClass_of_methodNamed Bd.named
  have hnm := (name_of_methodNamed Bd.named Bd.method).1
  have X0 : Stand p l e ({ frames := 4, cells := 3, slots := 8, locals := 66 } : Room) s m #[(.ref r0), (.int (2 : Int32))] below meth c s₁ [] 0 0 := Stand.of_body Bd
  have e0 : s₁.heap = h0 := by rw [← hh, Bd.state]; rfl
  have N0 := Fr.nil n0
  refine own_by (p := p) (e := e) (below := below) (K := own_Kmk2 Z r0 kC c0 c1 c2 c3 c4 c5 wALLOW wFORBID tALLOW tFORBID wV kwV cs h0 n0 s) (W' := s₁.setTop (mkF m 0 #[.val (.ref r0), .val (.int (2 : Int32))] [])) (fun t k => castTop (efmk2 m r0) k) ?_
  refine own_by (W' := (s₁.setTop (mkF m 38 #[.val (.ref r0), .val (.int (2 : Int32))] [(.int (2 : Int32))]))) (fun t k => XS.iloadN X0.here hx rfl (hb hby dmethod_3_0) rfl (XS.ifYes X0.here hx rfl (pc0 := 1) (pc' := 15) rfl (hb hby dmethod_3_1) rfl ((if0 _ _).trans (feq (by decide : ¬ ((2 : Int32) = (0 : Int32)))).2) (by decide) (by decide) (XS.iloadN X0.here hx rfl (hb hby dmethod_3_15) rfl (XS.iconst X0.here hx rfl (hb hby dmethod_3_16) (XS.icmpYes X0.here hx rfl (pc0 := 17) (pc' := 37) rfl (hb hby dmethod_3_17) rfl (feq (by decide : ¬ ((2 : Int32) = (1 : Int32)))).2 (by decide) (by decide) (XS.iloadN X0.here hx rfl (hb hby dmethod_3_37) rfl k)))))) ?_
  obtain ⟨T21, h21, X21, e21, E21, A21, D21, -, st21⟩ := newO X0 hx hZ hown (own_w hw 7) (own_w hw 8) (own_w hw 9) e0 (g := (mkF m 42 #[.val (.ref r0), .val (.int (2 : Int32))] [])) rfl (hb hby dmethod_3_42) (by decide) (by decide)
  obtain ⟨b21, g21⟩ : ∃ z, z = h0.size := ⟨_, rfl⟩
  rw [← g21] at A21 D21 st21
  have g_b21 : n0 ≤ b21 := Nat.le_trans (own_le O0) (Nat.le_of_eq g21.symm)
  have sz_b21 : h0.size ≤ b21 := Nat.le_trans (Keep.refl h0 []).1 (Nat.le_of_eq g21.symm)
  have ne_r0_b21 : r0 ≠ b21 := Nat.ne_of_lt (Nat.lt_of_lt_of_le V0.lt (Nat.le_of_eq g21.symm))
  have O21 := O0.ext E21
  have K21 := Keep.ext (Keep.refl h0 []) E21
  have F_coder_b21 : Fld Z h21 b21 "java/lang/String" "coder" "B" (.int (0 : Int32)) := D21 (Or.inr (own_w hw 33)) (ty := .byte) (by decide)
  have F_value_b21 : Fld Z h21 b21 "java/lang/String" "value" "[B" .null := D21 (Or.inr (own_w hw 35)) (ty := (.array .byte)) (by decide)
  obtain ⟨T22, h22, k22, X22, e22, E22, A22, st22⟩ := newP X21 hx hZ (own_w hw 1) e21 (g := (mkF m 47 #[.val (.ref r0), .val (.int (2 : Int32))] [(.int (2 : Int32)), (.ref b21), (.ref b21)])) rfl (hb hby dmethod_3_47) rfl (by decide) (cap := 2) (by decide) (by decide) (by decide) (by decide)
  obtain ⟨b22, g22⟩ : ∃ z, z = h21.size := ⟨_, rfl⟩
  rw [← g22] at A22 st22
  have g_b22 : n0 ≤ b22 := Nat.le_trans (own_le O21) (Nat.le_of_eq g22.symm)
  have sz_b22 : h0.size ≤ b22 := Nat.le_trans K21.1 (Nat.le_of_eq g22.symm)
  have ne_r0_b22 : r0 ≠ b22 := Nat.ne_of_lt (Nat.lt_of_lt_of_le (V0.ext E21).lt (Nat.le_of_eq g22.symm))
  have ne_b21_b22 : b21 ≠ b22 := Nat.ne_of_lt (Nat.lt_of_lt_of_le A21.lt (Nat.le_of_eq g22.symm))
  have O22 := O21.ext E22
  have K22 := Keep.ext K21 E22
  have V_b22 : Arv Z h22 b22 k22 .char (2 : Int32) [(.int (0 : Int32)), (.int (0 : Int32))] (.int (0 : Int32)) := (Arv.new A22 (by decide)).pad (pad_rep [] (.int (0 : Int32)) 2)
  refine own_by (W' := (T22.setTop (mkF m 49 #[.val (.ref r0), .val (.int (2 : Int32))] [(.ref b22), (.ref b21), (.ref b21)]))) (fun t k => XS.iconst X0.here hx rfl (hb hby dmethod_3_38) (XS.icmpNo X0.here hx rfl (hb hby dmethod_3_39) rfl (teq (rfl : (2 : Int32) = (2 : Int32))).2 (st21 _ (XS.dup X21.here hx rfl (hb hby dmethod_3_45) rfl rfl (XS.iconst X21.here hx rfl (hb hby dmethod_3_46) (st22 _ k)))))) ?_
  obtain ⟨clu23, Aru23, qu23, Su23, Ngu23, Hau23, Gau23⟩ := id ((V0.ext E21).ext E22)
  have hinu23 : ¬ ((0 : Int32) < 0 ∨ clu23.slots.size ≤ ((0 : Int32)).toNatClampNeg) := inb_of Su23 ⟨by decide, by decide⟩
  have hatu23 : clu23.slots[((0 : Int32)).toNatClampNeg]? = some (.int c0) := Has.at Hau23 hinu23 rfl
  obtain ⟨clu24, Aru24, qu24, Su24, Ngu24, Hau24, Gau24⟩ := id V_b22
  have hinu24 : ¬ ((0 : Int32) < 0 ∨ clu24.slots.size ≤ ((0 : Int32)).toNatClampNeg) := inb_of Su24 ⟨by decide, by decide⟩
  obtain ⟨T25, h25, X25, e25, W25, st25⟩ := stC X22 hx hZ e22 Aru24 (j := (0 : Int32)) hinu24 (g := (mkF m 54 #[.val (.ref r0), .val (.int (2 : Int32))] [(.int c0), (.int (0 : Int32)), (.ref b22), (.ref b22), (.ref b21), (.ref b21)])) rfl rfl (hb hby dmethod_3_54)
  have Vu24 : Arv Z h25 b22 k22 .char (2 : Int32) [(.int (nar .char c0)), (.int (0 : Int32))] (.int (0 : Int32)) := Arv.set Aru24 qu24 Su24 Ngu24 Hau24 Gau24 (fits_nar_char _) W25 0 rfl (Nat.le_of_ble_eq_true rfl)
  rw [show nar .char c0 = c0 from hl_c0.1] at Vu24
  have O25 := Old.wr O22 W25 g_b22
  have N25 := Fr.snoc X25 N0 g_b22
  have K25 := Keep.wr K22 W25 (Or.inr sz_b22)
  refine own_by (W' := (T25.setTop (mkF m 55 #[.val (.ref r0), .val (.int (2 : Int32))] [(.ref b22), (.ref b21), (.ref b21)]))) (fun t k => XS.dup X22.here hx rfl (hb hby dmethod_3_49) rfl rfl (XS.iconst X22.here hx rfl (hb hby dmethod_3_50) (XS.aloadN X22.here hx rfl (hb hby dmethod_3_51) rfl rfl (XS.iconst X22.here hx rfl (hb hby dmethod_3_52) ((X22.caload hx (j := (0 : Int32)) (v := (.int c0)) (by rw [e22]; exact Aru23.1) (State.isArrayOf_alike hZ.alike Aru23.2.1) Aru23.2.2 hinu23 hatu23 (g := (mkF m 53 #[.val (.ref r0), .val (.int (2 : Int32))] [(.int (0 : Int32)), (.ref r0), (.int (0 : Int32)), (.ref b22), (.ref b22), (.ref b21), (.ref b21)])) rfl rfl (hb hby dmethod_3_53)) _ (st25 _ k)))))) ?_
  obtain ⟨clu26, Aru26, qu26, Su26, Ngu26, Hau26, Gau26⟩ := id (((V0.ext E21).ext E22).other W25 ne_r0_b22)
  have hinu26 : ¬ ((1 : Int32) < 0 ∨ clu26.slots.size ≤ ((1 : Int32)).toNatClampNeg) := inb_of Su26 ⟨by decide, by decide⟩
  have hatu26 : clu26.slots[((1 : Int32)).toNatClampNeg]? = some (.int c1) := Has.at Hau26 hinu26 rfl
  obtain ⟨clu27, Aru27, qu27, Su27, Ngu27, Hau27, Gau27⟩ := id Vu24
  have hinu27 : ¬ ((1 : Int32) < 0 ∨ clu27.slots.size ≤ ((1 : Int32)).toNatClampNeg) := inb_of Su27 ⟨by decide, by decide⟩
  obtain ⟨T28, h28, X28, e28, W28, st28⟩ := stC X25 hx hZ e25 Aru27 (j := (1 : Int32)) hinu27 (g := (mkF m 60 #[.val (.ref r0), .val (.int (2 : Int32))] [(.int c1), (.int (1 : Int32)), (.ref b22), (.ref b22), (.ref b21), (.ref b21)])) rfl rfl (hb hby dmethod_3_60)
  have Vu27 : Arv Z h28 b22 k22 .char (2 : Int32) [(.int c0), (.int (nar .char c1))] (.int (0 : Int32)) := Arv.set Aru27 qu27 Su27 Ngu27 Hau27 Gau27 (fits_nar_char _) W28 1 rfl (Nat.le_of_ble_eq_true rfl)
  rw [show nar .char c1 = c1 from hl_c1.1] at Vu27
  have O28 := Old.wr O25 W28 g_b22
  have N28 := Fr.snoc X28 N25 g_b22
  have K28 := Keep.wr K25 W28 (Or.inr sz_b22)
  refine own_by (W' := (T28.setTop (mkF m 61 #[.val (.ref r0), .val (.int (2 : Int32))] [(.ref b22), (.ref b21), (.ref b21)]))) (fun t k => XS.dup X25.here hx rfl (hb hby dmethod_3_55) rfl rfl (XS.iconst X25.here hx rfl (hb hby dmethod_3_56) (XS.aloadN X25.here hx rfl (hb hby dmethod_3_57) rfl rfl (XS.iconst X25.here hx rfl (hb hby dmethod_3_58) ((X25.caload hx (j := (1 : Int32)) (v := (.int c1)) (by rw [e25]; exact Aru26.1) (State.isArrayOf_alike hZ.alike Aru26.2.1) Aru26.2.2 hinu26 hatu26 (g := (mkF m 59 #[.val (.ref r0), .val (.int (2 : Int32))] [(.int (1 : Int32)), (.ref r0), (.int (1 : Int32)), (.ref b22), (.ref b22), (.ref b21), (.ref b21)])) rfl rfl (hb hby dmethod_3_59)) _ (st28 _ k)))))) ?_
  obtain ⟨_, _, ⟨T29, L29, k29, n29⟩, -, X29, ⟨Lc29, hQ29, l29, y29, z29⟩, st29⟩ := X28.specialBack hx (y := (⟨"java/lang/String", "<init>", "([C)V"⟩ : MethodName)) rfl hown (mvT hZ (own_w hw 10)) (mvT hZ (own_w hw 11)) (mvT hZ (own_w hw 12)) (by decide) (backOf (W := 1) (rmsa2 l Z a0 hw [] b21 b22 k22 c0 c1 wALLOW wFORBID tALLOW tFORBID wV kwV cs h28 n0 (own_le O28) O28 HW (((A21.ext E22).wr W25).wr W28) g_b21 (((F_value_b21.ext E22).other W25 (Or.inl ne_b21_b22)).other W28 (Or.inl ne_b21_b22)) (((F_coder_b21.ext E22).other W25 (Or.inl ne_b21_b22)).other W28 (Or.inl ne_b21_b22)) Vu27 hl_c0.2 hl_c1.2) hZ (own_w hw 12) (own_w hw 9) (by decide) (by decide)) (g := (mkF m 61 #[.val (.ref r0), .val (.int (2 : Int32))] [(.ref b22), (.ref b21), (.ref b21)])) rfl (by rw [hml]; rfl) (Steps.refl _) (a := b21) (argsL := [(.ref b22)]) (rest := [(.ref b21)]) (lenOf pd_2 rfl) rfl (by show 2 * 0 + _ ≤ _; exact Nat.le_of_eq rfl) (hb hby dmethod_3_61) (fun _ _ => ⟨rfl, e28, (by decide : 2 + 1 ≤ _), (by decide : 6 + 2 ≤ _)⟩)
  dsimp only [Pt.U, Pt.locs, Pt.cells, Pt.slots] at X29 l29 y29 z29 st29 hQ29
  subst l29 y29 z29
  obtain ⟨rfl, N29q, Kq29, Tq29⟩ := hQ29
  have O29 := Old.keep O28 Kq29 (allS g_b21 all0)
  have K29 := Keep.trans K28 Kq29 (allS (Or.inr sz_b21) all0)
  have N29 := Fr.app N28 N29q
  obtain ⟨fs, hr, hrun, hended, hW, hsame⟩ := X29.leave (v := some (.ref b21)) (fun h => by rw [Bd.returns] at h; cases h)
  refine own_by (W' := (T29.setTop (mkF m 64 #[.val (.ref r0), .val (.int (2 : Int32))] [(.ref b21)]))) (fun t k => Steps.trans st29 k) ?_
  refine ⟨_, _, retOut X29 hx Bd.returns rfl (Or.inr (Or.inr (Or.inr (Or.inr ⟨rfl, rfl, rfl⟩)))) (hb hby dmethod_3_64) hr, hrun, hended, _, _, rfl, ?_, ⟨_, rfl⟩, hW, hsame.mono (by decide) (by decide)⟩
  show Qmk2 Z r0 kC c0 c1 c2 c3 c4 c5 wALLOW wFORBID tALLOW tFORBID wV kwV cs h0 n0 _ T29.heap _
  exact ⟨_, rfl, N29, K29, sz_b21, Tq29⟩
theorem efcb3 (m : MethodId) (r0 : Addr) (r2 : Addr) : entryFrame m #[(.ref r0), (.int (0 : Int32)), (.ref r2), (.int (0 : Int32)), (.int (3 : Int32))] 7 = mkF m 0 #[.val (.ref r0), .val (.int (0 : Int32)), .val (.ref r2), .val (.int (0 : Int32)), .val (.int (3 : Int32)), .unset, .unset] [] := by first | (simp [entryFrame, mkF, argsToLocals, Value.category]; done) | rfl
def Qcb3 (Z : State) (r0 : Addr) (r2 : Addr) (kC : ClassId) (kB : ClassId) (c0 : Int32) (c1 : Int32) (c2 : Int32) (h0 : Heap) (n0 : Nat) (v : Option Value) (h : Heap) (L : List Loc) : Prop := v = some (.int (3 : Int32)) ∧ Fr n0 L ∧ Keep h0 h [r2] ∧ Arv Z h r2 kB .byte (3 : Int32) [(.int (nar .byte (c0.toInt8.toInt32))), (.int (nar .byte (c1.toInt8.toInt32))), (.int (nar .byte (c2.toInt8.toInt32)))] (.int (0 : Int32))
abbrev own_Kcb3 (Z : State) (r0 : Addr) (r2 : Addr) (kC : ClassId) (kB : ClassId) (c0 : Int32) (c1 : Int32) (c2 : Int32) (h0 : Heap) (n0 : Nat) (s : State) : Outcome → State → Prop := fun o U' => ∃ v L, o = .returned v ∧ Qcb3 Z r0 r2 kC kB c0 c1 c2 h0 n0 v U'.heap L ∧ FrameEnd s o U' L ({ frames := 0, cells := 0, slots := 0, locals := 0 } : Room).cells ({ frames := 0, cells := 0, slots := 0, locals := 0 } : Room).slots
set_option maxRecDepth 65536 in
set_option maxHeartbeats 40000000 in
theorem rmcb3 (l : Launch) (Z : State) (a0 : Array Value) (hw : ∀ d ∈ tables_1, d.before a0 Z = true) (ws : List Jvm.Cond) (r0 : Addr) (r2 : Addr) (kC : ClassId) (kB : ClassId) (c0 : Int32) (c1 : Int32) (c2 : Int32) (h0 : Heap) (n0 : Nat) (Z0 : n0 ≤ h0.size) (O0 : Old Z n0 h0) (V0 : Arv Z h0 r0 kC .char (3 : Int32) [(.int c0), (.int c1), (.int c2)] (.int (0 : Int32))) (V2 : Arv Z h0 r2 kB .byte (3 : Int32) [(.int (0 : Int32)), (.int (0 : Int32)), (.int (0 : Int32))] (.int (0 : Int32))) (g_r2 : n0 ≤ r2) (hne : r0 ≠ r2) (hc_c0 : ¬ (255 : Int32) < c0) (hc_c1 : ¬ (255 : Int32) < c1) (hc_c2 : ¬ (255 : Int32) < c2) :
    MetFree l (⟨"java/lang/StringUTF16", "compress", "([CI[BII)I"⟩ : MethodName) (head1 (Jvm.Cond.code (⟨"java/lang/StringUTF16", "compress", "([CI[BII)I"⟩ : MethodName) jdk_52_method_21_code 7 (some .int) :: ws) ({ frames := 0, cells := 0, slots := 0, locals := 0 } : Room)) (fun a U => a = #[(.ref r0), (.int (0 : Int32)), (.ref r2), (.int (0 : Int32)), (.int (3 : Int32))] ∧ Z.Warmed39 U.vm ∧ U.heap = h0) (fun _ _ _ _ _ => True) (fun _ U o U' => ∃ v L, o = .returned v ∧ Qcb3 Z r0 r2 kC kB c0 c1 c2 h0 n0 v U'.heap L ∧ FrameEnd U o U' L ({ frames := 0, cells := 0, slots := 0, locals := 0 } : Room).cells ({ frames := 0, cells := 0, slots := 0, locals := 0 } : Room).slots) := by
  refine MetFree.of_bodySF (plainFor_of_name pn_java_lang_StringUTF16) hisR ?_
  intro p e s m args below meth c s₁ Bd hml0 hP hK
  obtain ⟨rfl, hZ, hh⟩ := hP
  have hx := Bd.exec
  have hby := Bd.bytes
  have hml : c.maxLocals = 7 := hml0
  have hown : s.vm.findClass "java/lang/StringUTF16" = some m.cls := findClass_of_methodNamed Bd.named
  have hnm := (name_of_methodNamed Bd.named Bd.method).1
  have X0 : Stand p l e ({ frames := 0, cells := 0, slots := 0, locals := 0 } : Room) s m #[(.ref r0), (.int (0 : Int32)), (.ref r2), (.int (0 : Int32)), (.int (3 : Int32))] below meth c s₁ [] 0 0 := Stand.of_body Bd
  have e0 : s₁.heap = h0 := by rw [← hh, Bd.state]; rfl
  have N0 := Fr.nil n0
  refine own_by (p := p) (e := e) (below := below) (K := own_Kcb3 Z r0 r2 kC kB c0 c1 c2 h0 n0 s) (W' := s₁.setTop (mkF m 0 #[.val (.ref r0), .val (.int (0 : Int32)), .val (.ref r2), .val (.int (0 : Int32)), .val (.int (3 : Int32)), .unset, .unset] [])) (fun t k => castTop (efcb3 m r0 r2) k) ?_
  refine own_by (W' := (s₁.setTop (mkF m 11 #[.val (.ref r0), .val (.int (0 : Int32)), .val (.ref r2), .val (.int (0 : Int32)), .val (.int (3 : Int32)), .val (.int (0 : Int32)), .unset] [(.ref r0)]))) (fun t k => XS.iconst X0.here hx rfl (hb hby djdk_52_21_0) (XS.istore X0.here hx rfl (hb hby djdk_52_21_1) rfl (l' := #[.val (.ref r0), .val (.int (0 : Int32)), .val (.ref r2), .val (.int (0 : Int32)), .val (.int (3 : Int32)), .val (.int (0 : Int32)), .unset]) rfl (XS.iload X0.here hx rfl (hb hby djdk_52_21_3) rfl (XS.iload X0.here hx rfl (hb hby djdk_52_21_5) rfl (XS.icmpNo X0.here hx rfl (hb hby djdk_52_21_7) rfl (tlt (by decide : (0 : Int32) < (3 : Int32))).2.1 (XS.aloadN X0.here hx rfl (hb hby djdk_52_21_10) rfl rfl k)))))) ?_
  obtain ⟨clu21, Aru21, qu21, Su21, Ngu21, Hau21, Gau21⟩ := id V0
  have hinu21 : ¬ ((0 : Int32) < 0 ∨ clu21.slots.size ≤ ((0 : Int32)).toNatClampNeg) := inb_of Su21 ⟨by decide, by decide⟩
  have hatu21 : clu21.slots[((0 : Int32)).toNatClampNeg]? = some (.int c0) := Has.at Hau21 hinu21 rfl
  refine own_by (W' := (s₁.setTop (mkF m 26 #[.val (.ref r0), .val (.int (0 : Int32)), .val (.ref r2), .val (.int (0 : Int32)), .val (.int (3 : Int32)), .val (.int (0 : Int32)), .val (.int c0)] []))) (fun t k => XS.iloadN X0.here hx rfl (hb hby djdk_52_21_11) rfl ((X0.caload hx (j := (0 : Int32)) (v := (.int c0)) (by rw [e0]; exact Aru21.1) (State.isArrayOf_alike hZ.alike Aru21.2.1) Aru21.2.2 hinu21 hatu21 (g := (mkF m 12 #[.val (.ref r0), .val (.int (0 : Int32)), .val (.ref r2), .val (.int (0 : Int32)), .val (.int (3 : Int32)), .val (.int (0 : Int32)), .unset] [(.int (0 : Int32)), (.ref r0)])) rfl rfl (hb hby djdk_52_21_12)) _ (XS.istore X0.here hx rfl (hb hby djdk_52_21_13) rfl (l' := #[.val (.ref r0), .val (.int (0 : Int32)), .val (.ref r2), .val (.int (0 : Int32)), .val (.int (3 : Int32)), .val (.int (0 : Int32)), .val (.int c0)]) rfl (XS.iload X0.here hx rfl (hb hby djdk_52_21_15) rfl (XS.sipush X0.here hx rfl (hb hby djdk_52_21_17) (XS.icmpYes X0.here hx rfl (pc0 := 20) (pc' := 26) rfl (hb hby djdk_52_21_20) rfl (flt hc_c0).2.2.2 (by decide) (by decide) k)))))) ?_
  obtain ⟨clu22, Aru22, qu22, Su22, Ngu22, Hau22, Gau22⟩ := id V2
  have hinu22 : ¬ ((0 : Int32) < 0 ∨ clu22.slots.size ≤ ((0 : Int32)).toNatClampNeg) := inb_of Su22 ⟨by decide, by decide⟩
  obtain ⟨T23, h23, X23, e23, W23, st23⟩ := stB X0 hx hZ e0 Aru22 (j := (0 : Int32)) hinu22 (g := (mkF m 31 #[.val (.ref r0), .val (.int (0 : Int32)), .val (.ref r2), .val (.int (0 : Int32)), .val (.int (3 : Int32)), .val (.int (0 : Int32)), .val (.int c0)] [(.int (c0.toInt8.toInt32)), (.int (0 : Int32)), (.ref r2)])) rfl rfl (hb hby djdk_52_21_31)
  have Vu22 : Arv Z h23 r2 kB .byte (3 : Int32) [(.int (nar .byte (c0.toInt8.toInt32))), (.int (0 : Int32)), (.int (0 : Int32))] (.int (0 : Int32)) := Arv.set Aru22 qu22 Su22 Ngu22 Hau22 Gau22 (fits_nar_byte _) W23 0 rfl (Nat.le_of_ble_eq_true rfl)
  have O23 := Old.wr O0 W23 g_r2
  have N23 := Fr.snoc X23 N0 g_r2
  have K23 := Keep.wr (Keep.refl h0 [r2]) W23 (Or.inl (List.mem_of_getElem? (i := 0) rfl))
  refine own_by (W' := (T23.setTop (mkF m 35 #[.val (.ref r0), .val (.int (1 : Int32)), .val (.ref r2), .val (.int (0 : Int32)), .val (.int (3 : Int32)), .val (.int (0 : Int32)), .val (.int c0)] []))) (fun t k => XS.aloadN X0.here hx rfl (hb hby djdk_52_21_26) rfl rfl (XS.iloadN X0.here hx rfl (hb hby djdk_52_21_27) rfl (XS.iload X0.here hx rfl (hb hby djdk_52_21_28) rfl (XS.i2b X0.here hx rfl (hb hby djdk_52_21_30) rfl (st23 _ (XS.iinc X23.here hx rfl (hb hby djdk_52_21_32) rfl (l' := #[.val (.ref r0), .val (.int (1 : Int32)), .val (.ref r2), .val (.int (0 : Int32)), .val (.int (3 : Int32)), .val (.int (0 : Int32)), .val (.int c0)]) rfl k)))))) ?_
  refine own_by (W' := (T23.setTop (mkF m 10 #[.val (.ref r0), .val (.int (1 : Int32)), .val (.ref r2), .val (.int (1 : Int32)), .val (.int (3 : Int32)), .val (.int (1 : Int32)), .val (.int c0)] []))) (fun t k => XS.iinc X23.here hx rfl (hb hby djdk_52_21_35) rfl (l' := #[.val (.ref r0), .val (.int (1 : Int32)), .val (.ref r2), .val (.int (1 : Int32)), .val (.int (3 : Int32)), .val (.int (0 : Int32)), .val (.int c0)]) rfl (XS.iinc X23.here hx rfl (hb hby djdk_52_21_38) rfl (l' := #[.val (.ref r0), .val (.int (1 : Int32)), .val (.ref r2), .val (.int (1 : Int32)), .val (.int (3 : Int32)), .val (.int (1 : Int32)), .val (.int c0)]) rfl (XS.goto X23.here hx rfl (pc0 := 41) (pc' := 3) rfl (hb hby djdk_52_21_41) (by decide) (by decide) (XS.iload X23.here hx rfl (hb hby djdk_52_21_3) rfl (XS.iload X23.here hx rfl (hb hby djdk_52_21_5) rfl (XS.icmpNo X23.here hx rfl (hb hby djdk_52_21_7) rfl (tlt (by decide : (1 : Int32) < (3 : Int32))).2.1 k)))))) ?_
  obtain ⟨clu24, Aru24, qu24, Su24, Ngu24, Hau24, Gau24⟩ := id (V0.other W23 hne)
  have hinu24 : ¬ ((1 : Int32) < 0 ∨ clu24.slots.size ≤ ((1 : Int32)).toNatClampNeg) := inb_of Su24 ⟨by decide, by decide⟩
  have hatu24 : clu24.slots[((1 : Int32)).toNatClampNeg]? = some (.int c1) := Has.at Hau24 hinu24 rfl
  refine own_by (W' := (T23.setTop (mkF m 20 #[.val (.ref r0), .val (.int (1 : Int32)), .val (.ref r2), .val (.int (1 : Int32)), .val (.int (3 : Int32)), .val (.int (1 : Int32)), .val (.int c1)] [(.int (255 : Int32)), (.int c1)]))) (fun t k => XS.aloadN X23.here hx rfl (hb hby djdk_52_21_10) rfl rfl (XS.iloadN X23.here hx rfl (hb hby djdk_52_21_11) rfl ((X23.caload hx (j := (1 : Int32)) (v := (.int c1)) (by rw [e23]; exact Aru24.1) (State.isArrayOf_alike hZ.alike Aru24.2.1) Aru24.2.2 hinu24 hatu24 (g := (mkF m 12 #[.val (.ref r0), .val (.int (1 : Int32)), .val (.ref r2), .val (.int (1 : Int32)), .val (.int (3 : Int32)), .val (.int (1 : Int32)), .val (.int c0)] [(.int (1 : Int32)), (.ref r0)])) rfl rfl (hb hby djdk_52_21_12)) _ (XS.istore X23.here hx rfl (hb hby djdk_52_21_13) rfl (l' := #[.val (.ref r0), .val (.int (1 : Int32)), .val (.ref r2), .val (.int (1 : Int32)), .val (.int (3 : Int32)), .val (.int (1 : Int32)), .val (.int c1)]) rfl (XS.iload X23.here hx rfl (hb hby djdk_52_21_15) rfl (XS.sipush X23.here hx rfl (hb hby djdk_52_21_17) k)))))) ?_
  obtain ⟨clu25, Aru25, qu25, Su25, Ngu25, Hau25, Gau25⟩ := id Vu22
  have hinu25 : ¬ ((1 : Int32) < 0 ∨ clu25.slots.size ≤ ((1 : Int32)).toNatClampNeg) := inb_of Su25 ⟨by decide, by decide⟩
  obtain ⟨T26, h26, X26, e26, W26, st26⟩ := stB X23 hx hZ e23 Aru25 (j := (1 : Int32)) hinu25 (g := (mkF m 31 #[.val (.ref r0), .val (.int (1 : Int32)), .val (.ref r2), .val (.int (1 : Int32)), .val (.int (3 : Int32)), .val (.int (1 : Int32)), .val (.int c1)] [(.int (c1.toInt8.toInt32)), (.int (1 : Int32)), (.ref r2)])) rfl rfl (hb hby djdk_52_21_31)
  have Vu25 : Arv Z h26 r2 kB .byte (3 : Int32) [(.int (nar .byte (c0.toInt8.toInt32))), (.int (nar .byte (c1.toInt8.toInt32))), (.int (0 : Int32))] (.int (0 : Int32)) := Arv.set Aru25 qu25 Su25 Ngu25 Hau25 Gau25 (fits_nar_byte _) W26 1 rfl (Nat.le_of_ble_eq_true rfl)
  have O26 := Old.wr O23 W26 g_r2
  have N26 := Fr.snoc X26 N23 g_r2
  have K26 := Keep.wr K23 W26 (Or.inl (List.mem_of_getElem? (i := 0) rfl))
  refine own_by (W' := (T26.setTop (mkF m 32 #[.val (.ref r0), .val (.int (1 : Int32)), .val (.ref r2), .val (.int (1 : Int32)), .val (.int (3 : Int32)), .val (.int (1 : Int32)), .val (.int c1)] []))) (fun t k => XS.icmpYes X23.here hx rfl (pc0 := 20) (pc' := 26) rfl (hb hby djdk_52_21_20) rfl (flt hc_c1).2.2.2 (by decide) (by decide) (XS.aloadN X23.here hx rfl (hb hby djdk_52_21_26) rfl rfl (XS.iloadN X23.here hx rfl (hb hby djdk_52_21_27) rfl (XS.iload X23.here hx rfl (hb hby djdk_52_21_28) rfl (XS.i2b X23.here hx rfl (hb hby djdk_52_21_30) rfl (st26 _ k)))))) ?_
  refine own_by (W' := (T26.setTop (mkF m 7 #[.val (.ref r0), .val (.int (2 : Int32)), .val (.ref r2), .val (.int (2 : Int32)), .val (.int (3 : Int32)), .val (.int (2 : Int32)), .val (.int c1)] [(.int (3 : Int32)), (.int (2 : Int32))]))) (fun t k => XS.iinc X26.here hx rfl (hb hby djdk_52_21_32) rfl (l' := #[.val (.ref r0), .val (.int (2 : Int32)), .val (.ref r2), .val (.int (1 : Int32)), .val (.int (3 : Int32)), .val (.int (1 : Int32)), .val (.int c1)]) rfl (XS.iinc X26.here hx rfl (hb hby djdk_52_21_35) rfl (l' := #[.val (.ref r0), .val (.int (2 : Int32)), .val (.ref r2), .val (.int (2 : Int32)), .val (.int (3 : Int32)), .val (.int (1 : Int32)), .val (.int c1)]) rfl (XS.iinc X26.here hx rfl (hb hby djdk_52_21_38) rfl (l' := #[.val (.ref r0), .val (.int (2 : Int32)), .val (.ref r2), .val (.int (2 : Int32)), .val (.int (3 : Int32)), .val (.int (2 : Int32)), .val (.int c1)]) rfl (XS.goto X26.here hx rfl (pc0 := 41) (pc' := 3) rfl (hb hby djdk_52_21_41) (by decide) (by decide) (XS.iload X26.here hx rfl (hb hby djdk_52_21_3) rfl (XS.iload X26.here hx rfl (hb hby djdk_52_21_5) rfl k)))))) ?_
  obtain ⟨clu27, Aru27, qu27, Su27, Ngu27, Hau27, Gau27⟩ := id ((V0.other W23 hne).other W26 hne)
  have hinu27 : ¬ ((2 : Int32) < 0 ∨ clu27.slots.size ≤ ((2 : Int32)).toNatClampNeg) := inb_of Su27 ⟨by decide, by decide⟩
  have hatu27 : clu27.slots[((2 : Int32)).toNatClampNeg]? = some (.int c2) := Has.at Hau27 hinu27 rfl
  refine own_by (W' := (T26.setTop (mkF m 17 #[.val (.ref r0), .val (.int (2 : Int32)), .val (.ref r2), .val (.int (2 : Int32)), .val (.int (3 : Int32)), .val (.int (2 : Int32)), .val (.int c2)] [(.int c2)]))) (fun t k => XS.icmpNo X26.here hx rfl (hb hby djdk_52_21_7) rfl (tlt (by decide : (2 : Int32) < (3 : Int32))).2.1 (XS.aloadN X26.here hx rfl (hb hby djdk_52_21_10) rfl rfl (XS.iloadN X26.here hx rfl (hb hby djdk_52_21_11) rfl ((X26.caload hx (j := (2 : Int32)) (v := (.int c2)) (by rw [e26]; exact Aru27.1) (State.isArrayOf_alike hZ.alike Aru27.2.1) Aru27.2.2 hinu27 hatu27 (g := (mkF m 12 #[.val (.ref r0), .val (.int (2 : Int32)), .val (.ref r2), .val (.int (2 : Int32)), .val (.int (3 : Int32)), .val (.int (2 : Int32)), .val (.int c1)] [(.int (2 : Int32)), (.ref r0)])) rfl rfl (hb hby djdk_52_21_12)) _ (XS.istore X26.here hx rfl (hb hby djdk_52_21_13) rfl (l' := #[.val (.ref r0), .val (.int (2 : Int32)), .val (.ref r2), .val (.int (2 : Int32)), .val (.int (3 : Int32)), .val (.int (2 : Int32)), .val (.int c2)]) rfl (XS.iload X26.here hx rfl (hb hby djdk_52_21_15) rfl k)))))) ?_
  refine own_by (W' := (T26.setTop (mkF m 31 #[.val (.ref r0), .val (.int (2 : Int32)), .val (.ref r2), .val (.int (2 : Int32)), .val (.int (3 : Int32)), .val (.int (2 : Int32)), .val (.int c2)] [(.int (c2.toInt8.toInt32)), (.int (2 : Int32)), (.ref r2)]))) (fun t k => XS.sipush X26.here hx rfl (hb hby djdk_52_21_17) (XS.icmpYes X26.here hx rfl (pc0 := 20) (pc' := 26) rfl (hb hby djdk_52_21_20) rfl (flt hc_c2).2.2.2 (by decide) (by decide) (XS.aloadN X26.here hx rfl (hb hby djdk_52_21_26) rfl rfl (XS.iloadN X26.here hx rfl (hb hby djdk_52_21_27) rfl (XS.iload X26.here hx rfl (hb hby djdk_52_21_28) rfl (XS.i2b X26.here hx rfl (hb hby djdk_52_21_30) rfl k)))))) ?_
  obtain ⟨clu28, Aru28, qu28, Su28, Ngu28, Hau28, Gau28⟩ := id Vu25
  have hinu28 : ¬ ((2 : Int32) < 0 ∨ clu28.slots.size ≤ ((2 : Int32)).toNatClampNeg) := inb_of Su28 ⟨by decide, by decide⟩
  obtain ⟨T29, h29, X29, e29, W29, st29⟩ := stB X26 hx hZ e26 Aru28 (j := (2 : Int32)) hinu28 (g := (mkF m 31 #[.val (.ref r0), .val (.int (2 : Int32)), .val (.ref r2), .val (.int (2 : Int32)), .val (.int (3 : Int32)), .val (.int (2 : Int32)), .val (.int c2)] [(.int (c2.toInt8.toInt32)), (.int (2 : Int32)), (.ref r2)])) rfl rfl (hb hby djdk_52_21_31)
  have Vu28 : Arv Z h29 r2 kB .byte (3 : Int32) [(.int (nar .byte (c0.toInt8.toInt32))), (.int (nar .byte (c1.toInt8.toInt32))), (.int (nar .byte (c2.toInt8.toInt32)))] (.int (0 : Int32)) := Arv.set Aru28 qu28 Su28 Ngu28 Hau28 Gau28 (fits_nar_byte _) W29 2 rfl (Nat.le_of_ble_eq_true rfl)
  have O29 := Old.wr O26 W29 g_r2
  have N29 := Fr.snoc X29 N26 g_r2
  have K29 := Keep.wr K26 W29 (Or.inl (List.mem_of_getElem? (i := 0) rfl))
  refine own_by (W' := (T29.setTop (mkF m 5 #[.val (.ref r0), .val (.int (3 : Int32)), .val (.ref r2), .val (.int (3 : Int32)), .val (.int (3 : Int32)), .val (.int (3 : Int32)), .val (.int c2)] [(.int (3 : Int32))]))) (fun t k => st29 _ (XS.iinc X29.here hx rfl (hb hby djdk_52_21_32) rfl (l' := #[.val (.ref r0), .val (.int (3 : Int32)), .val (.ref r2), .val (.int (2 : Int32)), .val (.int (3 : Int32)), .val (.int (2 : Int32)), .val (.int c2)]) rfl (XS.iinc X29.here hx rfl (hb hby djdk_52_21_35) rfl (l' := #[.val (.ref r0), .val (.int (3 : Int32)), .val (.ref r2), .val (.int (3 : Int32)), .val (.int (3 : Int32)), .val (.int (2 : Int32)), .val (.int c2)]) rfl (XS.iinc X29.here hx rfl (hb hby djdk_52_21_38) rfl (l' := #[.val (.ref r0), .val (.int (3 : Int32)), .val (.ref r2), .val (.int (3 : Int32)), .val (.int (3 : Int32)), .val (.int (3 : Int32)), .val (.int c2)]) rfl (XS.goto X29.here hx rfl (pc0 := 41) (pc' := 3) rfl (hb hby djdk_52_21_41) (by decide) (by decide) (XS.iload X29.here hx rfl (hb hby djdk_52_21_3) rfl k)))))) ?_
  obtain ⟨fs, hr, hrun, hended, hW, hsame⟩ := X29.leave (v := some (.int (3 : Int32))) (fun h => by rw [Bd.returns] at h; cases h)
  refine own_by (W' := (T29.setTop (mkF m 46 #[.val (.ref r0), .val (.int (3 : Int32)), .val (.ref r2), .val (.int (3 : Int32)), .val (.int (3 : Int32)), .val (.int (3 : Int32)), .val (.int c2)] [(.int (3 : Int32))]))) (fun t k => XS.iload X29.here hx rfl (hb hby djdk_52_21_5) rfl (XS.icmpYes X29.here hx rfl (pc0 := 7) (pc' := 44) rfl (hb hby djdk_52_21_7) rfl (flt (by decide : ¬ ((3 : Int32) < (3 : Int32)))).2.1 (by decide) (by decide) (XS.iload X29.here hx rfl (hb hby djdk_52_21_44) rfl k))) ?_
  refine ⟨_, _, retOut X29 hx Bd.returns rfl (Or.inl ⟨rfl, Or.inl rfl, _, rfl⟩) (hb hby djdk_52_21_46) hr, hrun, hended, _, _, rfl, ?_, ⟨_, rfl⟩, hW, hsame.mono (by decide) (by decide)⟩
  show Qcb3 Z r0 r2 kC kB c0 c1 c2 h0 n0 _ T29.heap _
  rw [e29]
  exact ⟨rfl, N29, K29, Vu28⟩
theorem efca3 (m : MethodId) (r0 : Addr) : entryFrame m #[(.ref r0), (.int (0 : Int32)), (.int (3 : Int32))] 6 = mkF m 0 #[.val (.ref r0), .val (.int (0 : Int32)), .val (.int (3 : Int32)), .unset, .unset, .unset] [] := by first | (simp [entryFrame, mkF, argsToLocals, Value.category]; done) | rfl
def Qca3 (Z : State) (r0 : Addr) (kC : ClassId) (c0 : Int32) (c1 : Int32) (c2 : Int32) (h0 : Heap) (n0 : Nat) (v : Option Value) (h : Heap) (L : List Loc) : Prop := ∃ (q : Addr) (kq : ClassId), v = some (.ref q) ∧ Fr n0 L ∧ Keep h0 h [] ∧ h0.size ≤ q ∧ Arv Z h q kq .byte (3 : Int32) [(.int (nar .byte (c0.toInt8.toInt32))), (.int (nar .byte (c1.toInt8.toInt32))), (.int (nar .byte (c2.toInt8.toInt32)))] (.int (0 : Int32))
abbrev own_Kca3 (Z : State) (r0 : Addr) (kC : ClassId) (c0 : Int32) (c1 : Int32) (c2 : Int32) (h0 : Heap) (n0 : Nat) (s : State) : Outcome → State → Prop := fun o U' => ∃ v L, o = .returned v ∧ Qca3 Z r0 kC c0 c1 c2 h0 n0 v U'.heap L ∧ FrameEnd s o U' L ({ frames := 1, cells := 1, slots := 3, locals := 18 } : Room).cells ({ frames := 1, cells := 1, slots := 3, locals := 18 } : Room).slots
set_option maxRecDepth 65536 in
set_option maxHeartbeats 40000000 in
theorem rmca3 (l : Launch) (Z : State) (a0 : Array Value) (hw : ∀ d ∈ tables_1, d.before a0 Z = true) (ws : List Jvm.Cond) (r0 : Addr) (kC : ClassId) (c0 : Int32) (c1 : Int32) (c2 : Int32) (h0 : Heap) (n0 : Nat) (Z0 : n0 ≤ h0.size) (O0 : Old Z n0 h0) (V0 : Arv Z h0 r0 kC .char (3 : Int32) [(.int c0), (.int c1), (.int c2)] (.int (0 : Int32))) (hc_c0 : ¬ (255 : Int32) < c0) (hc_c1 : ¬ (255 : Int32) < c1) (hc_c2 : ¬ (255 : Int32) < c2) :
    MetFree l (⟨"java/lang/StringUTF16", "compress", "([CII)[B"⟩ : MethodName) (head1 (Jvm.Cond.code (⟨"java/lang/StringUTF16", "compress", "([CII)[B"⟩ : MethodName) jdk_52_method_16_code 6 (some (.array .byte)) :: ws) ({ frames := 1, cells := 1, slots := 3, locals := 18 } : Room)) (fun a U => a = #[(.ref r0), (.int (0 : Int32)), (.int (3 : Int32))] ∧ Z.Warmed39 U.vm ∧ U.heap = h0) (fun _ _ _ _ _ => True) (fun _ U o U' => ∃ v L, o = .returned v ∧ Qca3 Z r0 kC c0 c1 c2 h0 n0 v U'.heap L ∧ FrameEnd U o U' L ({ frames := 1, cells := 1, slots := 3, locals := 18 } : Room).cells ({ frames := 1, cells := 1, slots := 3, locals := 18 } : Room).slots) := by
  refine MetFree.of_bodySF (plainFor_of_name pn_java_lang_StringUTF16) hisR ?_
  intro p e s m args below meth c s₁ Bd hml0 hP hK
  obtain ⟨rfl, hZ, hh⟩ := hP
  have hx := Bd.exec
  have hby := Bd.bytes
  have hml : c.maxLocals = 6 := hml0
  have hown : s.vm.findClass "java/lang/StringUTF16" = some m.cls := findClass_of_methodNamed Bd.named
  have hnm := (name_of_methodNamed Bd.named Bd.method).1
  have X0 : Stand p l e ({ frames := 1, cells := 1, slots := 3, locals := 18 } : Room) s m #[(.ref r0), (.int (0 : Int32)), (.int (3 : Int32))] below meth c s₁ [] 0 0 := Stand.of_body Bd
  have e0 : s₁.heap = h0 := by rw [← hh, Bd.state]; rfl
  have N0 := Fr.nil n0
  refine own_by (p := p) (e := e) (below := below) (K := own_Kca3 Z r0 kC c0 c1 c2 h0 n0 s) (W' := s₁.setTop (mkF m 0 #[.val (.ref r0), .val (.int (0 : Int32)), .val (.int (3 : Int32)), .unset, .unset, .unset] [])) (fun t k => castTop (efca3 m r0) k) ?_
  obtain ⟨T21, h21, k21, X21, e21, E21, A21, st21⟩ := newP X0 hx hZ (own_w hw 25) e0 (g := (mkF m 1 #[.val (.ref r0), .val (.int (0 : Int32)), .val (.int (3 : Int32)), .unset, .unset, .unset] [(.int (3 : Int32))])) rfl (hb hby djdk_52_16_1) rfl (by decide) (cap := 3) (by decide) (by decide) (by decide) (by decide)
  obtain ⟨b21, g21⟩ : ∃ z, z = h0.size := ⟨_, rfl⟩
  rw [← g21] at A21 st21
  have g_b21 : n0 ≤ b21 := Nat.le_trans (own_le O0) (Nat.le_of_eq g21.symm)
  have sz_b21 : h0.size ≤ b21 := Nat.le_trans (Keep.refl h0 []).1 (Nat.le_of_eq g21.symm)
  have ne_r0_b21 : r0 ≠ b21 := Nat.ne_of_lt (Nat.lt_of_lt_of_le V0.lt (Nat.le_of_eq g21.symm))
  have O21 := O0.ext E21
  have K21 := Keep.ext (Keep.refl h0 []) E21
  have V_b21 : Arv Z h21 b21 k21 .byte (3 : Int32) [(.int (0 : Int32)), (.int (0 : Int32)), (.int (0 : Int32))] (.int (0 : Int32)) := (Arv.new A21 (by decide)).pad (pad_rep [] (.int (0 : Int32)) 3)
  refine own_by (W' := (T21.setTop (mkF m 7 #[.val (.ref r0), .val (.int (0 : Int32)), .val (.int (3 : Int32)), .val (.ref b21), .unset, .unset] [(.ref b21), (.int (0 : Int32)), (.ref r0)]))) (fun t k => XS.iloadN X0.here hx rfl (hb hby djdk_52_16_0) rfl (st21 _ (XS.astoreN X21.here hx rfl (hb hby djdk_52_16_3) rfl rfl (l' := #[.val (.ref r0), .val (.int (0 : Int32)), .val (.int (3 : Int32)), .val (.ref b21), .unset, .unset]) rfl (XS.aloadN X21.here hx rfl (hb hby djdk_52_16_4) rfl rfl (XS.iloadN X21.here hx rfl (hb hby djdk_52_16_5) rfl (XS.aloadN X21.here hx rfl (hb hby djdk_52_16_6) rfl rfl k)))))) ?_
  obtain ⟨_, _, ⟨T22, L22, k22, n22⟩, -, X22, ⟨Lc22, hQ22, l22, y22, z22⟩, st22⟩ := Jvm.LawKit.callS X21 hx (y := (⟨"java/lang/StringUTF16", "compress", "([CI[BII)I"⟩ : MethodName)) hown (mvT hZ (own_w hw 26)) (mvT hZ (own_w hw 27)) (mvT hZ (own_w hw 23)) (mvT hZ (own_w hw 28)) (by decide) (backOf (W := 0) (rmcb3 l Z a0 hw [] r0 b21 kC k21 c0 c1 c2 h21 n0 (own_le O21) O21 (V0.ext E21) V_b21 g_b21 ne_r0_b21 hc_c0 hc_c1 hc_c2) hZ (own_w hw 28) (own_w hw 23) (by decide) (by decide)) (g := (mkF m 9 #[.val (.ref r0), .val (.int (0 : Int32)), .val (.int (3 : Int32)), .val (.ref b21), .unset, .unset] [(.int (3 : Int32)), (.int (0 : Int32)), (.ref b21), (.int (0 : Int32)), (.ref r0)])) rfl (by rw [hml]; rfl) (argsL := [(.ref r0), (.int (0 : Int32)), (.ref b21), (.int (0 : Int32)), (.int (3 : Int32))]) (rest := []) (lenOf pd_3 rfl) rfl (by show 2 * 0 + _ ≤ _; exact Nat.le_of_eq rfl) (hb hby djdk_52_16_9) (fun _ _ => ⟨rfl, e21, (by decide : 1 + 0 ≤ _), (by decide : 3 + 0 ≤ _)⟩)
  dsimp only [Pt.U, Pt.locs, Pt.cells, Pt.slots] at X22 l22 y22 z22 st22 hQ22
  subst l22 y22 z22
  obtain ⟨rfl, N22q, Kq22, Vq22⟩ := hQ22
  have O22 := Old.keep O21 Kq22 (allS g_b21 all0)
  have K22 := Keep.trans K21 Kq22 (allS (Or.inr sz_b21) all0)
  have N22 := Fr.app N0 N22q
  refine own_by (W' := (T22.setTop (mkF m 17 #[.val (.ref r0), .val (.int (0 : Int32)), .val (.int (3 : Int32)), .val (.ref b21), .val (.int (3 : Int32)), .unset] [(.int (3 : Int32)), (.int (3 : Int32))]))) (fun t k => XS.iconst X21.here hx rfl (hb hby djdk_52_16_7) (XS.iloadN X21.here hx rfl (hb hby djdk_52_16_8) rfl (st22 _ (XS.istore X22.here hx rfl (hb hby djdk_52_16_12) rfl (l' := #[.val (.ref r0), .val (.int (0 : Int32)), .val (.int (3 : Int32)), .val (.ref b21), .val (.int (3 : Int32)), .unset]) rfl (XS.iload X22.here hx rfl (hb hby djdk_52_16_14) rfl (XS.iloadN X22.here hx rfl (hb hby djdk_52_16_16) rfl k)))))) ?_
  obtain ⟨fs, hr, hrun, hended, hW, hsame⟩ := X22.leave (v := some (.ref b21)) (fun h => by rw [Bd.returns] at h; cases h)
  refine own_by (W' := (T22.setTop (mkF m 58 #[.val (.ref r0), .val (.int (0 : Int32)), .val (.int (3 : Int32)), .val (.ref b21), .val (.int (3 : Int32)), .unset] [(.ref b21)]))) (fun t k => XS.icmpYes X22.here hx rfl (pc0 := 17) (pc' := 57) rfl (hb hby djdk_52_16_17) rfl (teq (rfl : (3 : Int32) = (3 : Int32))).1 (by decide) (by decide) (XS.aloadN X22.here hx rfl (hb hby djdk_52_16_57) rfl rfl k)) ?_
  refine ⟨_, _, retOut X22 hx Bd.returns rfl (Or.inr (Or.inr (Or.inr (Or.inr ⟨rfl, rfl, rfl⟩)))) (hb hby djdk_52_16_58) hr, hrun, hended, _, _, rfl, ?_, ⟨_, rfl⟩, hW, hsame.mono (by decide) (by decide)⟩
  show Qca3 Z r0 kC c0 c1 c2 h0 n0 _ T22.heap _
  exact ⟨_, _, rfl, N22, K22, sz_b21, Vq22⟩
theorem efcd3 (m : MethodId) (r0 : Addr) : entryFrame m #[(.ref r0), (.int (3 : Int32))] 2 = mkF m 0 #[.val (.ref r0), .val (.int (3 : Int32))] [] := by first | (simp [entryFrame, mkF, argsToLocals, Value.category]; done) | rfl
def Qcd3 (Z : State) (r0 : Addr) (kB : ClassId) (vl : List Value) (h0 : Heap) (n0 : Nat) (v : Option Value) (h : Heap) (L : List Loc) : Prop := v = some (.int (0 : Int32)) ∧ Fr n0 L ∧ h = h0
abbrev own_Kcd3 (Z : State) (r0 : Addr) (kB : ClassId) (vl : List Value) (h0 : Heap) (n0 : Nat) (s : State) : Outcome → State → Prop := fun o U' => ∃ v L, o = .returned v ∧ Qcd3 Z r0 kB vl h0 n0 v U'.heap L ∧ FrameEnd s o U' L ({ frames := 0, cells := 0, slots := 0, locals := 0 } : Room).cells ({ frames := 0, cells := 0, slots := 0, locals := 0 } : Room).slots
set_option maxRecDepth 65536 in
set_option maxHeartbeats 40000000 in
theorem rmcd3 (l : Launch) (Z : State) (a0 : Array Value) (hw : ∀ d ∈ tables_1, d.before a0 Z = true) (ws : List Jvm.Cond) (r0 : Addr) (kB : ClassId) (vl : List Value) (h0 : Heap) (n0 : Nat) (Z0 : n0 ≤ h0.size) (V0 : Arv Z h0 r0 kB .byte (3 : Int32) vl (.int (0 : Int32))) :
    MetFree l (⟨"java/lang/StringUTF16", "coderFromArrayLen", "([BI)B"⟩ : MethodName) (head1 (Jvm.Cond.code (⟨"java/lang/StringUTF16", "coderFromArrayLen", "([BI)B"⟩ : MethodName) jdk_52_method_15_code 2 (some .byte) :: ws) ({ frames := 0, cells := 0, slots := 0, locals := 0 } : Room)) (fun a U => a = #[(.ref r0), (.int (3 : Int32))] ∧ Z.Warmed39 U.vm ∧ U.heap = h0) (fun _ _ _ _ _ => True) (fun _ U o U' => ∃ v L, o = .returned v ∧ Qcd3 Z r0 kB vl h0 n0 v U'.heap L ∧ FrameEnd U o U' L ({ frames := 0, cells := 0, slots := 0, locals := 0 } : Room).cells ({ frames := 0, cells := 0, slots := 0, locals := 0 } : Room).slots) := by
  refine MetFree.of_bodySF (plainFor_of_name pn_java_lang_StringUTF16) hisR ?_
  intro p e s m args below meth c s₁ Bd hml0 hP hK
  obtain ⟨rfl, hZ, hh⟩ := hP
  have hx := Bd.exec
  have hby := Bd.bytes
  have hml : c.maxLocals = 2 := hml0
  have hown : s.vm.findClass "java/lang/StringUTF16" = some m.cls := findClass_of_methodNamed Bd.named
  have hnm := (name_of_methodNamed Bd.named Bd.method).1
  have X0 : Stand p l e ({ frames := 0, cells := 0, slots := 0, locals := 0 } : Room) s m #[(.ref r0), (.int (3 : Int32))] below meth c s₁ [] 0 0 := Stand.of_body Bd
  have e0 : s₁.heap = h0 := by rw [← hh, Bd.state]; rfl
  have N0 := Fr.nil n0
  refine own_by (p := p) (e := e) (below := below) (K := own_Kcd3 Z r0 kB vl h0 n0 s) (W' := s₁.setTop (mkF m 0 #[.val (.ref r0), .val (.int (3 : Int32))] [])) (fun t k => castTop (efcd3 m r0) k) ?_
  obtain ⟨clu21, Aru21, qu21, Su21, Ngu21, Hau21, Gau21⟩ := id V0
  refine own_by (W' := (s₁.setTop (mkF m 3 #[.val (.ref r0), .val (.int (3 : Int32))] [(.int clu21.slots.size.toInt32), (.int (3 : Int32))]))) (fun t k => XS.iloadN X0.here hx rfl (hb hby djdk_52_15_0) rfl (XS.aloadN X0.here hx rfl (hb hby djdk_52_15_1) rfl rfl ((X0.arraylength hx (by rw [e0]; exact Aru21.1) (State.isArrayOf_alike hZ.alike Aru21.2.1) (g := (mkF m 2 #[.val (.ref r0), .val (.int (3 : Int32))] [(.ref r0), (.int (3 : Int32))])) rfl rfl (hb hby djdk_52_15_2)) _ k))) ?_
  rw [len_of Su21 Ngu21]
  obtain ⟨fs, hr, hrun, hended, hW, hsame⟩ := X0.leave (v := some (.int (((((3 : Int32) - (3 : Int32)).toUInt32 >>> ((31 : Int32) &&& 31).toUInt32).toInt32).toInt8.toInt32))) (fun h => by rw [Bd.returns] at h; cases h)
  refine own_by (W' := (s₁.setTop (mkF m 8 #[.val (.ref r0), .val (.int (3 : Int32))] [(.int (((((3 : Int32) - (3 : Int32)).toUInt32 >>> ((31 : Int32) &&& 31).toUInt32).toInt32).toInt8.toInt32))]))) (fun t k => XS.isub X0.here hx rfl (hb hby djdk_52_15_3) rfl (XS.bipush X0.here hx rfl (hb hby djdk_52_15_4) (XS.iushr X0.here hx rfl (hb hby djdk_52_15_6) rfl (XS.i2b X0.here hx rfl (hb hby djdk_52_15_7) rfl k)))) ?_
  refine ⟨_, _, retOut X0 hx Bd.returns rfl (Or.inl ⟨rfl, Or.inr (Or.inr (Or.inl rfl)), _, rfl⟩) (hb hby djdk_52_15_8) hr, hrun, hended, _, _, rfl, ?_, ⟨_, rfl⟩, hW, hsame.mono (by decide) (by decide)⟩
  exact ⟨by rfl, N0, e0⟩
theorem efsb3 (m : MethodId) (r0 : Addr) (r1 : Addr) : entryFrame m #[(.ref r0), (.ref r1), (.int (0 : Int32)), (.int (3 : Int32)), .null] 6 = mkF m 0 #[.val (.ref r0), .val (.ref r1), .val (.int (0 : Int32)), .val (.int (3 : Int32)), .val .null, .unset] [] := by first | (simp [entryFrame, mkF, argsToLocals, Value.category]; done) | rfl
def Qsb3 (Z : State) (r0 : Addr) (r1 : Addr) (kC : ClassId) (c0 : Int32) (c1 : Int32) (c2 : Int32) (wALLOW : Addr) (wFORBID : Addr) (tALLOW : Addr) (tFORBID : Addr) (wV : Addr) (kwV : ClassId) (cs : Int32) (h0 : Heap) (n0 : Nat) (v : Option Value) (h : Heap) (L : List Loc) : Prop := v = none ∧ Fr n0 L ∧ Keep h0 h [r0] ∧ own_St Z h r0 (3 : Int32) [(.int (nar .byte (c0.toInt8.toInt32))), (.int (nar .byte (c1.toInt8.toInt32))), (.int (nar .byte (c2.toInt8.toInt32)))]
abbrev own_Ksb3 (Z : State) (r0 : Addr) (r1 : Addr) (kC : ClassId) (c0 : Int32) (c1 : Int32) (c2 : Int32) (wALLOW : Addr) (wFORBID : Addr) (tALLOW : Addr) (tFORBID : Addr) (wV : Addr) (kwV : ClassId) (cs : Int32) (h0 : Heap) (n0 : Nat) (s : State) : Outcome → State → Prop := fun o U' => ∃ v L, o = .returned v ∧ Qsb3 Z r0 r1 kC c0 c1 c2 wALLOW wFORBID tALLOW tFORBID wV kwV cs h0 n0 v U'.heap L ∧ FrameEnd s o U' L ({ frames := 2, cells := 1, slots := 3, locals := 35 } : Room).cells ({ frames := 2, cells := 1, slots := 3, locals := 35 } : Room).slots
set_option maxRecDepth 65536 in
set_option maxHeartbeats 40000000 in
theorem rmsb3 (l : Launch) (Z : State) (a0 : Array Value) (hw : ∀ d ∈ tables_1, d.before a0 Z = true) (ws : List Jvm.Cond) (r0 : Addr) (r1 : Addr) (kC : ClassId) (c0 : Int32) (c1 : Int32) (c2 : Int32) (wALLOW : Addr) (wFORBID : Addr) (tALLOW : Addr) (tFORBID : Addr) (wV : Addr) (kwV : ClassId) (cs : Int32) (h0 : Heap) (n0 : Nat) (Z0 : n0 ≤ h0.size) (O0 : Old Z n0 h0) (HW : own_Wd Z wALLOW wFORBID tALLOW tFORBID wV kwV cs) (E0 : Exa Z h0 r0 "java/lang/String") (g_r0 : n0 ≤ r0) (F_value : Fld Z h0 r0 "java/lang/String" "value" "[B" .null) (F_coder : Fld Z h0 r0 "java/lang/String" "coder" "B" (.int (0 : Int32))) (V1 : Arv Z h0 r1 kC .char (3 : Int32) [(.int c0), (.int c1), (.int c2)] (.int (0 : Int32))) (hc_c0 : ¬ (255 : Int32) < c0) (hc_c1 : ¬ (255 : Int32) < c1) (hc_c2 : ¬ (255 : Int32) < c2) :
    MetFree l (⟨"java/lang/String", "<init>", "([CIILjava/lang/Void;)V"⟩ : MethodName) (head1 (Jvm.Cond.code (⟨"java/lang/String", "<init>", "([CIILjava/lang/Void;)V"⟩ : MethodName) jdk_42_method_149_code 6 none :: ws) ({ frames := 2, cells := 1, slots := 3, locals := 35 } : Room)) (fun a U => a = #[(.ref r0), (.ref r1), (.int (0 : Int32)), (.int (3 : Int32)), .null] ∧ Z.Warmed39 U.vm ∧ U.heap = h0) (fun _ _ _ _ _ => True) (fun _ U o U' => ∃ v L, o = .returned v ∧ Qsb3 Z r0 r1 kC c0 c1 c2 wALLOW wFORBID tALLOW tFORBID wV kwV cs h0 n0 v U'.heap L ∧ FrameEnd U o U' L ({ frames := 2, cells := 1, slots := 3, locals := 35 } : Room).cells ({ frames := 2, cells := 1, slots := 3, locals := 35 } : Room).slots) := by
  refine MetFree.of_bodySF (plainFor_of_name pn_java_lang_String) hisR ?_
  intro p e s m args below meth c s₁ Bd hml0 hP hK
  obtain ⟨rfl, hZ, hh⟩ := hP
  have hx := Bd.exec
  have hby := Bd.bytes
  have hml : c.maxLocals = 6 := hml0
  have hown : s.vm.findClass "java/lang/String" = some m.cls := findClass_of_methodNamed Bd.named
  have hnm := (name_of_methodNamed Bd.named Bd.method).1
  have X0 : Stand p l e ({ frames := 2, cells := 1, slots := 3, locals := 35 } : Room) s m #[(.ref r0), (.ref r1), (.int (0 : Int32)), (.int (3 : Int32)), .null] below meth c s₁ [] 0 0 := Stand.of_body Bd
  have e0 : s₁.heap = h0 := by rw [← hh, Bd.state]; rfl
  have N0 := Fr.nil n0
  refine own_by (p := p) (e := e) (below := below) (K := own_Ksb3 Z r0 r1 kC c0 c1 c2 wALLOW wFORBID tALLOW tFORBID wV kwV cs h0 n0 s) (W' := s₁.setTop (mkF m 0 #[.val (.ref r0), .val (.ref r1), .val (.int (0 : Int32)), .val (.int (3 : Int32)), .val .null, .unset] [])) (fun t k => castTop (efsb3 m r0 r1) k) ?_
  obtain ⟨T21, X21, e21, st21⟩ := initO X0 hx hZ hown (own_w hw 17) (own_w hw 18) (own_w hw 19) e0 (g := (mkF m 1 #[.val (.ref r0), .val (.ref r1), .val (.int (0 : Int32)), .val (.int (3 : Int32)), .val .null, .unset] [(.ref r0)])) rfl (by rw [hml]; rfl) rfl (hb hby djdk_42_149_1) (by decide) (W := 0) (by show 2 * 0 + _ ≤ _; exact Nat.le_of_eq rfl) (by decide)
  obtain ⟨T22, X22, e22, st22⟩ := getS (host := "") X21 hx hZ hown (own_w hw 20) Via.refl e21 (HW.2.2.2.2.2.2.2.2.2.2.2.2.2.1.ext O0.2) (g := (mkF m 27 #[.val (.ref r0), .val (.ref r1), .val (.int (0 : Int32)), .val (.int (3 : Int32)), .val .null, .unset] [])) rfl (hb hby djdk_42_149_27)
  refine own_by (W' := (T22.setTop (mkF m 33 #[.val (.ref r0), .val (.ref r1), .val (.int (0 : Int32)), .val (.int (3 : Int32)), .val .null, .unset] []))) (fun t k => XS.aloadN X0.here hx rfl (hb hby djdk_42_149_0) rfl rfl (st21 _ (XS.iloadN X21.here hx rfl (hb hby djdk_42_149_4) rfl (XS.ifYes X21.here hx rfl (pc0 := 5) (pc' := 27) rfl (hb hby djdk_42_149_5) rfl ((if0 _ _).trans (feq (by decide : ¬ ((3 : Int32) = (0 : Int32)))).2) (by decide) (by decide) (st22 _ (XS.ifNo X22.here hx rfl (hb hby djdk_42_149_30) rfl ((if0 _ _).trans (feq HW.2.2.2.2.2.2.2.2.2.2.2.2.2.2).1) k)))))) ?_
  obtain ⟨_, _, ⟨T23, L23, k23, n23⟩, -, X23, ⟨Lc23, hQ23, l23, y23, z23⟩, st23⟩ := Jvm.LawKit.callS X22 hx (y := (⟨"java/lang/StringUTF16", "compress", "([CII)[B"⟩ : MethodName)) hown (mvT hZ (own_w hw 21)) (mvT hZ (own_w hw 22)) (mvT hZ (own_w hw 23)) (mvT hZ (own_w hw 24)) (by decide) (backOf (W := 0) (rmca3 l Z a0 hw [] r1 kC c0 c1 c2 h0 n0 Z0 O0 V1 hc_c0 hc_c1 hc_c2) hZ (own_w hw 24) (own_w hw 23) (by decide) (by decide)) (g := (mkF m 36 #[.val (.ref r0), .val (.ref r1), .val (.int (0 : Int32)), .val (.int (3 : Int32)), .val .null, .unset] [(.int (3 : Int32)), (.int (0 : Int32)), (.ref r1)])) rfl (by rw [hml]; rfl) (argsL := [(.ref r1), (.int (0 : Int32)), (.int (3 : Int32))]) (rest := []) (lenOf pd_4 rfl) rfl (by show 2 * 0 + _ ≤ _; exact Nat.le_of_eq rfl) (hb hby djdk_42_149_36) (fun _ _ => ⟨rfl, e22, (by decide : 0 + 1 ≤ _), (by decide : 0 + 3 ≤ _)⟩)
  dsimp only [Pt.U, Pt.locs, Pt.cells, Pt.slots] at X23 l23 y23 z23 st23 hQ23
  subst l23 y23 z23
  obtain ⟨fb23, kb23, rfl, N23q, Kq23, hsz23, Vq23⟩ := hQ23
  have ne_r0_fb23 : r0 ≠ fb23 := Nat.ne_of_lt (Nat.lt_of_lt_of_le E0.lt hsz23)
  have ne_r1_fb23 : r1 ≠ fb23 := Nat.ne_of_lt (Nat.lt_of_lt_of_le V1.lt hsz23)
  have O23 := Old.keep O0 Kq23 all0
  have K23 := Keep.trans (Keep.refl h0 [r0]) Kq23 all0
  have N23 := Fr.app N0 N23q
  refine own_by (W' := (T23.setTop (mkF m 42 #[.val (.ref r0), .val (.ref r1), .val (.int (0 : Int32)), .val (.int (3 : Int32)), .val .null, .val (.ref fb23)] [(.ref r0)]))) (fun t k => XS.aloadN X22.here hx rfl (hb hby djdk_42_149_33) rfl rfl (XS.iloadN X22.here hx rfl (hb hby djdk_42_149_34) rfl (XS.iloadN X22.here hx rfl (hb hby djdk_42_149_35) rfl (st23 _ (XS.astore X23.here hx rfl (hb hby djdk_42_149_39) rfl rfl (l' := #[.val (.ref r0), .val (.ref r1), .val (.int (0 : Int32)), .val (.int (3 : Int32)), .val .null, .val (.ref fb23)]) rfl (XS.aloadN X23.here hx rfl (hb hby djdk_42_149_41) rfl rfl k)))))) ?_
  obtain ⟨_, _, ⟨T24, L24, k24, n24⟩, -, X24, ⟨Lc24, hQ24, l24, y24, z24⟩, st24⟩ := Jvm.LawKit.callS X23 hx (y := (⟨"java/lang/StringUTF16", "coderFromArrayLen", "([BI)B"⟩ : MethodName)) hown (mvT hZ (own_w hw 29)) (mvT hZ (own_w hw 30)) (mvT hZ (own_w hw 23)) (mvT hZ (own_w hw 31)) (by decide) (backOf (W := 1) (rmcd3 l Z a0 hw [] fb23 kb23 [(.int (nar .byte (c0.toInt8.toInt32))), (.int (nar .byte (c1.toInt8.toInt32))), (.int (nar .byte (c2.toInt8.toInt32)))] T23.heap n0 (own_le O23) Vq23) hZ (own_w hw 31) (own_w hw 23) (by decide) (by decide)) (g := (mkF m 45 #[.val (.ref r0), .val (.ref r1), .val (.int (0 : Int32)), .val (.int (3 : Int32)), .val .null, .val (.ref fb23)] [(.int (3 : Int32)), (.ref fb23), (.ref r0)])) rfl (by rw [hml]; rfl) (argsL := [(.ref fb23), (.int (3 : Int32))]) (rest := [(.ref r0)]) (lenOf pd_5 rfl) rfl (by show 2 * 0 + _ ≤ _; exact Nat.le_of_eq rfl) (hb hby djdk_42_149_45) (fun _ _ => ⟨rfl, rfl, (by decide : 1 + 0 ≤ _), (by decide : 3 + 0 ≤ _)⟩)
  dsimp only [Pt.U, Pt.locs, Pt.cells, Pt.slots] at X24 l24 y24 z24 st24 hQ24
  subst l24 y24 z24
  obtain ⟨rfl, N24q, e24⟩ := hQ24
  have N24 := Fr.app N23 N24q
  obtain ⟨T25, h25, X25, e25, W25, st25⟩ := putFN X24 hx hZ hown (own_w hw 32) Via.refl e24 (F_coder.keep Kq23 nin0) (E0.keep Kq23) (Or.inr ⟨(own_w hw 33), rfl, hnm⟩) (own_w hw 8) (ty := .byte) (v' := .int (0 : Int32)) (by decide) rfl (by decide) (g := (mkF m 48 #[.val (.ref r0), .val (.ref r1), .val (.int (0 : Int32)), .val (.int (3 : Int32)), .val .null, .val (.ref fb23)] [(.int (0 : Int32)), (.ref r0)])) rfl rfl (hb hby djdk_42_149_48)
  have Fw25 := (F_coder.keep Kq23 nin0).same W25
  have O25 := Old.wr O23 W25 g_r0
  have N25 := Fr.snoc X25 N24 g_r0
  have K25 := Keep.wr K23 W25 (Or.inl (List.mem_of_getElem? (i := 0) rfl))
  refine own_by (W' := (T25.setTop (mkF m 54 #[.val (.ref r0), .val (.ref r1), .val (.int (0 : Int32)), .val (.int (3 : Int32)), .val .null, .val (.ref fb23)] [(.ref fb23), (.ref r0)]))) (fun t k => XS.aload X23.here hx rfl (hb hby djdk_42_149_42) rfl rfl (XS.iloadN X23.here hx rfl (hb hby djdk_42_149_44) rfl (st24 _ (st25 _ (XS.aloadN X25.here hx rfl (hb hby djdk_42_149_51) rfl rfl (XS.aload X25.here hx rfl (hb hby djdk_42_149_52) rfl rfl k)))))) ?_
  obtain ⟨T26, h26, X26, e26, W26, st26⟩ := putF X25 hx hZ hown (host := "") (Or.inl (own_w hw 34)) Via.refl e25 ((F_value.keep Kq23 nin0).other W25 (Or.inr (slot_ne (Or.inr (own_w hw 35)) (Or.inr (own_w hw 33)) (by decide) (t := (.array .byte)) (t' := .byte) (by decide) (by decide)))) ((E0.keep Kq23).wr W25) (Or.inr ⟨(own_w hw 35), rfl, hnm⟩) (own_w hw 8) (ty := (.array .byte)) (by decide) rfl rfl (g := (mkF m 54 #[.val (.ref r0), .val (.ref r1), .val (.int (0 : Int32)), .val (.int (3 : Int32)), .val .null, .val (.ref fb23)] [(.ref fb23), (.ref r0)])) rfl rfl (hb hby djdk_42_149_54)
  have Fw26 := ((F_value.keep Kq23 nin0).other W25 (Or.inr (slot_ne (Or.inr (own_w hw 35)) (Or.inr (own_w hw 33)) (by decide) (t := (.array .byte)) (t' := .byte) (by decide) (by decide)))).same W26
  have O26 := Old.wr O25 W26 g_r0
  have N26 := Fr.snoc X26 N25 g_r0
  have K26 := Keep.wr K25 W26 (Or.inl (List.mem_of_getElem? (i := 0) rfl))
  obtain ⟨fs, hr, hrun, hended, hW, hsame⟩ := X26.leave (v := none) (fun _ => rfl)
  refine own_by (W' := (T26.setTop (mkF m 57 #[.val (.ref r0), .val (.ref r1), .val (.int (0 : Int32)), .val (.int (3 : Int32)), .val .null, .val (.ref fb23)] []))) (fun t k => st26 _ k) ?_
  refine ⟨_, _, X26.returnOut hx Bd.returns (hb hby djdk_42_149_57) hr, hrun, hended, _, _, rfl, ?_, ⟨_, rfl⟩, hW, hsame.mono (by decide) (by decide)⟩
  show Qsb3 Z r0 r1 kC c0 c1 c2 wALLOW wFORBID tALLOW tFORBID wV kwV cs h0 n0 _ T26.heap _
  rw [e26]
  exact ⟨rfl, N26, K26, (((E0.keep Kq23).wr W25).wr W26), (Fw25.other W26 (Or.inr (slot_ne (Or.inr (own_w hw 33)) (Or.inr (own_w hw 35)) (by decide) (t := .byte) (t' := (.array .byte)) (by decide) (by decide)))), _, _, Fw26, ((Vq23.other W25 ne_r0_fb23.symm).other W26 ne_r0_fb23.symm)⟩
theorem efsa3 (m : MethodId) (r0 : Addr) (r1 : Addr) : entryFrame m #[(.ref r0), (.ref r1)] 2 = mkF m 0 #[.val (.ref r0), .val (.ref r1)] [] := by first | (simp [entryFrame, mkF, argsToLocals, Value.category]; done) | rfl
def Qsa3 (Z : State) (r0 : Addr) (r1 : Addr) (kC : ClassId) (c0 : Int32) (c1 : Int32) (c2 : Int32) (wALLOW : Addr) (wFORBID : Addr) (tALLOW : Addr) (tFORBID : Addr) (wV : Addr) (kwV : ClassId) (cs : Int32) (h0 : Heap) (n0 : Nat) (v : Option Value) (h : Heap) (L : List Loc) : Prop := v = none ∧ Fr n0 L ∧ Keep h0 h [r0] ∧ own_St Z h r0 (3 : Int32) [(.int (nar .byte (c0.toInt8.toInt32))), (.int (nar .byte (c1.toInt8.toInt32))), (.int (nar .byte (c2.toInt8.toInt32)))]
abbrev own_Ksa3 (Z : State) (r0 : Addr) (r1 : Addr) (kC : ClassId) (c0 : Int32) (c1 : Int32) (c2 : Int32) (wALLOW : Addr) (wFORBID : Addr) (tALLOW : Addr) (tFORBID : Addr) (wV : Addr) (kwV : ClassId) (cs : Int32) (h0 : Heap) (n0 : Nat) (s : State) : Outcome → State → Prop := fun o U' => ∃ v L, o = .returned v ∧ Qsa3 Z r0 r1 kC c0 c1 c2 wALLOW wFORBID tALLOW tFORBID wV kwV cs h0 n0 v U'.heap L ∧ FrameEnd s o U' L ({ frames := 3, cells := 1, slots := 3, locals := 52 } : Room).cells ({ frames := 3, cells := 1, slots := 3, locals := 52 } : Room).slots
set_option maxRecDepth 65536 in
set_option maxHeartbeats 40000000 in
theorem rmsa3 (l : Launch) (Z : State) (a0 : Array Value) (hw : ∀ d ∈ tables_1, d.before a0 Z = true) (ws : List Jvm.Cond) (r0 : Addr) (r1 : Addr) (kC : ClassId) (c0 : Int32) (c1 : Int32) (c2 : Int32) (wALLOW : Addr) (wFORBID : Addr) (tALLOW : Addr) (tFORBID : Addr) (wV : Addr) (kwV : ClassId) (cs : Int32) (h0 : Heap) (n0 : Nat) (Z0 : n0 ≤ h0.size) (O0 : Old Z n0 h0) (HW : own_Wd Z wALLOW wFORBID tALLOW tFORBID wV kwV cs) (E0 : Exa Z h0 r0 "java/lang/String") (g_r0 : n0 ≤ r0) (F_value : Fld Z h0 r0 "java/lang/String" "value" "[B" .null) (F_coder : Fld Z h0 r0 "java/lang/String" "coder" "B" (.int (0 : Int32))) (V1 : Arv Z h0 r1 kC .char (3 : Int32) [(.int c0), (.int c1), (.int c2)] (.int (0 : Int32))) (hc_c0 : ¬ (255 : Int32) < c0) (hc_c1 : ¬ (255 : Int32) < c1) (hc_c2 : ¬ (255 : Int32) < c2) :
    MetFree l (⟨"java/lang/String", "<init>", "([C)V"⟩ : MethodName) (head1 (Jvm.Cond.code (⟨"java/lang/String", "<init>", "([C)V"⟩ : MethodName) jdk_42_method_3_code 2 none :: ws) ({ frames := 3, cells := 1, slots := 3, locals := 52 } : Room)) (fun a U => a = #[(.ref r0), (.ref r1)] ∧ Z.Warmed39 U.vm ∧ U.heap = h0) (fun _ _ _ _ _ => True) (fun _ U o U' => ∃ v L, o = .returned v ∧ Qsa3 Z r0 r1 kC c0 c1 c2 wALLOW wFORBID tALLOW tFORBID wV kwV cs h0 n0 v U'.heap L ∧ FrameEnd U o U' L ({ frames := 3, cells := 1, slots := 3, locals := 52 } : Room).cells ({ frames := 3, cells := 1, slots := 3, locals := 52 } : Room).slots) := by
  refine MetFree.of_bodySF (plainFor_of_name pn_java_lang_String) hisR ?_
  intro p e s m args below meth c s₁ Bd hml0 hP hK
  obtain ⟨rfl, hZ, hh⟩ := hP
  have hx := Bd.exec
  have hby := Bd.bytes
  have hml : c.maxLocals = 2 := hml0
  have hown : s.vm.findClass "java/lang/String" = some m.cls := findClass_of_methodNamed Bd.named
  have hnm := (name_of_methodNamed Bd.named Bd.method).1
  have X0 : Stand p l e ({ frames := 3, cells := 1, slots := 3, locals := 52 } : Room) s m #[(.ref r0), (.ref r1)] below meth c s₁ [] 0 0 := Stand.of_body Bd
  have e0 : s₁.heap = h0 := by rw [← hh, Bd.state]; rfl
  have N0 := Fr.nil n0
  refine own_by (p := p) (e := e) (below := below) (K := own_Ksa3 Z r0 r1 kC c0 c1 c2 wALLOW wFORBID tALLOW tFORBID wV kwV cs h0 n0 s) (W' := s₁.setTop (mkF m 0 #[.val (.ref r0), .val (.ref r1)] [])) (fun t k => castTop (efsa3 m r0 r1) k) ?_
  obtain ⟨clu21, Aru21, qu21, Su21, Ngu21, Hau21, Gau21⟩ := id V1
  refine own_by (W' := (s₁.setTop (mkF m 5 #[.val (.ref r0), .val (.ref r1)] [(.int clu21.slots.size.toInt32), (.int (0 : Int32)), (.ref r1), (.ref r0)]))) (fun t k => XS.aloadN X0.here hx rfl (hb hby djdk_42_3_0) rfl rfl (XS.aloadN X0.here hx rfl (hb hby djdk_42_3_1) rfl rfl (XS.iconst X0.here hx rfl (hb hby djdk_42_3_2) (XS.aloadN X0.here hx rfl (hb hby djdk_42_3_3) rfl rfl ((X0.arraylength hx (by rw [e0]; exact Aru21.1) (State.isArrayOf_alike hZ.alike Aru21.2.1) (g := (mkF m 4 #[.val (.ref r0), .val (.ref r1)] [(.ref r1), (.int (0 : Int32)), (.ref r1), (.ref r0)])) rfl rfl (hb hby djdk_42_3_4)) _ k))))) ?_
  rw [len_of Su21 Ngu21]
  obtain ⟨_, _, ⟨T22, L22, k22, n22⟩, -, X22, ⟨Lc22, hQ22, l22, y22, z22⟩, st22⟩ := X0.specialBack hx (y := (⟨"java/lang/String", "<init>", "([CIILjava/lang/Void;)V"⟩ : MethodName)) rfl hown (mvT hZ (own_w hw 13)) (mvT hZ (own_w hw 14)) (mvT hZ (own_w hw 16)) (by decide) (backOf (W := 0) (rmsb3 l Z a0 hw [] r0 r1 kC c0 c1 c2 wALLOW wFORBID tALLOW tFORBID wV kwV cs h0 n0 Z0 O0 HW E0 g_r0 F_value F_coder V1 hc_c0 hc_c1 hc_c2) hZ (own_w hw 16) (own_w hw 9) (by decide) (by decide)) (g := (mkF m 6 #[.val (.ref r0), .val (.ref r1)] [.null, (.int (3 : Int32)), (.int (0 : Int32)), (.ref r1), (.ref r0)])) rfl (by rw [hml]; rfl) (Steps.refl _) (a := r0) (argsL := [(.ref r1), (.int (0 : Int32)), (.int (3 : Int32)), .null]) (rest := []) (lenOf pd_1 rfl) rfl (by show 2 * 0 + _ ≤ _; exact Nat.le_of_eq rfl) (hb hby djdk_42_3_6) (fun _ _ => ⟨rfl, e0, (by decide : 0 + 1 ≤ _), (by decide : 0 + 3 ≤ _)⟩)
  dsimp only [Pt.U, Pt.locs, Pt.cells, Pt.slots] at X22 l22 y22 z22 st22 hQ22
  subst l22 y22 z22
  obtain ⟨rfl, N22q, Kq22, Tq22⟩ := hQ22
  have O22 := Old.keep O0 Kq22 (allS g_r0 all0)
  have K22 := Keep.trans (Keep.refl h0 [r0]) Kq22 (allS (Or.inl (List.mem_of_getElem? (i := 0) rfl)) all0)
  have N22 := Fr.app N0 N22q
  obtain ⟨fs, hr, hrun, hended, hW, hsame⟩ := X22.leave (v := none) (fun _ => rfl)
  refine own_by (W' := (T22.setTop (mkF m 9 #[.val (.ref r0), .val (.ref r1)] []))) (fun t k => XS.aconstNull X0.here hx rfl (hb hby djdk_42_3_5) (Steps.trans st22 k)) ?_
  refine ⟨_, _, X22.returnOut hx Bd.returns (hb hby djdk_42_3_9) hr, hrun, hended, _, _, rfl, ?_, ⟨_, rfl⟩, hW, hsame.mono (by decide) (by decide)⟩
  show Qsa3 Z r0 r1 kC c0 c1 c2 wALLOW wFORBID tALLOW tFORBID wV kwV cs h0 n0 _ T22.heap _
  exact ⟨rfl, N22, K22, Tq22⟩
theorem dmethod_3_65 : decode method_3_code 65 = .ok (.iload_n 1, 1) := by decide +kernel
theorem dmethod_3_66 : decode method_3_code 66 = .ok (.iconst 3, 1) := by decide +kernel
theorem dmethod_3_67 : decode method_3_code 67 = .ok (.if_icmp .ne 32, 3) := by decide +kernel
theorem dmethod_3_70 : decode method_3_code 70 = .ok (.new 19, 3) := by decide +kernel
theorem dmethod_3_73 : decode method_3_code 73 = .ok (.dup, 1) := by decide +kernel
theorem dmethod_3_74 : decode method_3_code 74 = .ok (.iconst 3, 1) := by decide +kernel
theorem dmethod_3_75 : decode method_3_code 75 = .ok (.newarray .char, 2) := by decide +kernel
theorem dmethod_3_77 : decode method_3_code 77 = .ok (.dup, 1) := by decide +kernel
theorem dmethod_3_78 : decode method_3_code 78 = .ok (.iconst 0, 1) := by decide +kernel
theorem dmethod_3_79 : decode method_3_code 79 = .ok (.aload_n 0, 1) := by decide +kernel
theorem dmethod_3_80 : decode method_3_code 80 = .ok (.iconst 0, 1) := by decide +kernel
theorem dmethod_3_81 : decode method_3_code 81 = .ok (.caload, 1) := by decide +kernel
theorem dmethod_3_82 : decode method_3_code 82 = .ok (.castore, 1) := by decide +kernel
theorem dmethod_3_83 : decode method_3_code 83 = .ok (.dup, 1) := by decide +kernel
theorem dmethod_3_84 : decode method_3_code 84 = .ok (.iconst 1, 1) := by decide +kernel
theorem dmethod_3_85 : decode method_3_code 85 = .ok (.aload_n 0, 1) := by decide +kernel
theorem dmethod_3_86 : decode method_3_code 86 = .ok (.iconst 1, 1) := by decide +kernel
theorem dmethod_3_87 : decode method_3_code 87 = .ok (.caload, 1) := by decide +kernel
theorem dmethod_3_88 : decode method_3_code 88 = .ok (.castore, 1) := by decide +kernel
theorem dmethod_3_89 : decode method_3_code 89 = .ok (.dup, 1) := by decide +kernel
theorem dmethod_3_90 : decode method_3_code 90 = .ok (.iconst 2, 1) := by decide +kernel
theorem dmethod_3_91 : decode method_3_code 91 = .ok (.aload_n 0, 1) := by decide +kernel
theorem dmethod_3_92 : decode method_3_code 92 = .ok (.iconst 2, 1) := by decide +kernel
theorem dmethod_3_93 : decode method_3_code 93 = .ok (.caload, 1) := by decide +kernel
theorem dmethod_3_94 : decode method_3_code 94 = .ok (.castore, 1) := by decide +kernel
theorem dmethod_3_95 : decode method_3_code 95 = .ok (.invokespecial 39, 3) := by decide +kernel
theorem dmethod_3_98 : decode method_3_code 98 = .ok (.areturn, 1) := by decide +kernel
theorem efmk3 (m : MethodId) (r0 : Addr) : entryFrame m #[(.ref r0), (.int (3 : Int32))] 2 = mkF m 0 #[.val (.ref r0), .val (.int (3 : Int32))] [] := by first | (simp [entryFrame, mkF, argsToLocals, Value.category]; done) | rfl
def Qmk3 (Z : State) (r0 : Addr) (kC : ClassId) (c0 : Int32) (c1 : Int32) (c2 : Int32) (c3 : Int32) (c4 : Int32) (c5 : Int32) (wALLOW : Addr) (wFORBID : Addr) (tALLOW : Addr) (tFORBID : Addr) (wV : Addr) (kwV : ClassId) (cs : Int32) (h0 : Heap) (n0 : Nat) (v : Option Value) (h : Heap) (L : List Loc) : Prop := ∃ q : Addr, v = some (.ref q) ∧ Fr n0 L ∧ Keep h0 h [] ∧ h0.size ≤ q ∧ own_St Z h q (3 : Int32) [(.int (nar .byte (c0.toInt8.toInt32))), (.int (nar .byte (c1.toInt8.toInt32))), (.int (nar .byte (c2.toInt8.toInt32)))]
abbrev own_Kmk3 (Z : State) (r0 : Addr) (kC : ClassId) (c0 : Int32) (c1 : Int32) (c2 : Int32) (c3 : Int32) (c4 : Int32) (c5 : Int32) (wALLOW : Addr) (wFORBID : Addr) (tALLOW : Addr) (tFORBID : Addr) (wV : Addr) (kwV : ClassId) (cs : Int32) (h0 : Heap) (n0 : Nat) (s : State) : Outcome → State → Prop := fun o U' => ∃ v L, o = .returned v ∧ Qmk3 Z r0 kC c0 c1 c2 c3 c4 c5 wALLOW wFORBID tALLOW tFORBID wV kwV cs h0 n0 v U'.heap L ∧ FrameEnd s o U' L ({ frames := 4, cells := 3, slots := 10, locals := 66 } : Room).cells ({ frames := 4, cells := 3, slots := 10, locals := 66 } : Room).slots
set_option maxRecDepth 65536 in
set_option maxHeartbeats 40000000 in
theorem rmmk3 (l : Launch) (Z : State) (a0 : Array Value) (hw : ∀ d ∈ tables_1, d.before a0 Z = true) (ws : List Jvm.Cond) (r0 : Addr) (kC : ClassId) (c0 : Int32) (c1 : Int32) (c2 : Int32) (c3 : Int32) (c4 : Int32) (c5 : Int32) (wALLOW : Addr) (wFORBID : Addr) (tALLOW : Addr) (tFORBID : Addr) (wV : Addr) (kwV : ClassId) (cs : Int32) (h0 : Heap) (n0 : Nat) (Z0 : n0 ≤ h0.size) (O0 : Old Z n0 h0) (HW : own_Wd Z wALLOW wFORBID tALLOW tFORBID wV kwV cs) (V0 : Arv Z h0 r0 kC .char (6 : Int32) [(.int c0), (.int c1), (.int c2), (.int c3), (.int c4), (.int c5)] (.int (0 : Int32))) (hl_c0 : own_ch c0) (hl_c1 : own_ch c1) (hl_c2 : own_ch c2) (hl_c3 : own_ch c3) (hl_c4 : own_ch c4) (hl_c5 : own_ch c5) :
    MetFree l (⟨"com/example/claviger/claviger/engine/EffectNamedPinLaw", "make", "([CI)Ljava/lang/String;"⟩ : MethodName) (head1 (Jvm.Cond.code (⟨"com/example/claviger/claviger/engine/EffectNamedPinLaw", "make", "([CI)Ljava/lang/String;"⟩ : MethodName) method_3_code 2 (some (.object "java/lang/String")) :: ws) ({ frames := 4, cells := 3, slots := 10, locals := 66 } : Room)) (fun a U => a = #[(.ref r0), (.int (3 : Int32))] ∧ Z.Warmed39 U.vm ∧ U.heap = h0) (fun _ _ _ _ _ => True) (fun _ U o U' => ∃ v L, o = .returned v ∧ Qmk3 Z r0 kC c0 c1 c2 c3 c4 c5 wALLOW wFORBID tALLOW tFORBID wV kwV cs h0 n0 v U'.heap L ∧ FrameEnd U o U' L ({ frames := 4, cells := 3, slots := 10, locals := 66 } : Room).cells ({ frames := 4, cells := 3, slots := 10, locals := 66 } : Room).slots) := by
  refine MetFree.of_bodySF (plainFor_of_name pn_com_example_claviger_claviger_engine_EffectNamedPinLaw) hisR ?_
  intro p e s m args below meth c s₁ Bd hml0 hP hK
  obtain ⟨rfl, hZ, hh⟩ := hP
  have hx := Bd.exec
  have hby := Bd.bytes
  have hml : c.maxLocals = 2 := hml0
  have hown : s.vm.findClass "com/example/claviger/claviger/engine/EffectNamedPinLaw" = some m.cls := findClass_of_methodNamed Bd.named
  have hnm := (name_of_methodNamed Bd.named Bd.method).1
  have X0 : Stand p l e ({ frames := 4, cells := 3, slots := 10, locals := 66 } : Room) s m #[(.ref r0), (.int (3 : Int32))] below meth c s₁ [] 0 0 := Stand.of_body Bd
  have e0 : s₁.heap = h0 := by rw [← hh, Bd.state]; rfl
  have N0 := Fr.nil n0
  refine own_by (p := p) (e := e) (below := below) (K := own_Kmk3 Z r0 kC c0 c1 c2 c3 c4 c5 wALLOW wFORBID tALLOW tFORBID wV kwV cs h0 n0 s) (W' := s₁.setTop (mkF m 0 #[.val (.ref r0), .val (.int (3 : Int32))] [])) (fun t k => castTop (efmk3 m r0) k) ?_
  refine own_by (W' := (s₁.setTop (mkF m 38 #[.val (.ref r0), .val (.int (3 : Int32))] [(.int (3 : Int32))]))) (fun t k => XS.iloadN X0.here hx rfl (hb hby dmethod_3_0) rfl (XS.ifYes X0.here hx rfl (pc0 := 1) (pc' := 15) rfl (hb hby dmethod_3_1) rfl ((if0 _ _).trans (feq (by decide : ¬ ((3 : Int32) = (0 : Int32)))).2) (by decide) (by decide) (XS.iloadN X0.here hx rfl (hb hby dmethod_3_15) rfl (XS.iconst X0.here hx rfl (hb hby dmethod_3_16) (XS.icmpYes X0.here hx rfl (pc0 := 17) (pc' := 37) rfl (hb hby dmethod_3_17) rfl (feq (by decide : ¬ ((3 : Int32) = (1 : Int32)))).2 (by decide) (by decide) (XS.iloadN X0.here hx rfl (hb hby dmethod_3_37) rfl k)))))) ?_
  obtain ⟨T21, h21, X21, e21, E21, A21, D21, -, st21⟩ := newO X0 hx hZ hown (own_w hw 7) (own_w hw 8) (own_w hw 9) e0 (g := (mkF m 70 #[.val (.ref r0), .val (.int (3 : Int32))] [])) rfl (hb hby dmethod_3_70) (by decide) (by decide)
  obtain ⟨b21, g21⟩ : ∃ z, z = h0.size := ⟨_, rfl⟩
  rw [← g21] at A21 D21 st21
  have g_b21 : n0 ≤ b21 := Nat.le_trans (own_le O0) (Nat.le_of_eq g21.symm)
  have sz_b21 : h0.size ≤ b21 := Nat.le_trans (Keep.refl h0 []).1 (Nat.le_of_eq g21.symm)
  have ne_r0_b21 : r0 ≠ b21 := Nat.ne_of_lt (Nat.lt_of_lt_of_le V0.lt (Nat.le_of_eq g21.symm))
  have O21 := O0.ext E21
  have K21 := Keep.ext (Keep.refl h0 []) E21
  have F_coder_b21 : Fld Z h21 b21 "java/lang/String" "coder" "B" (.int (0 : Int32)) := D21 (Or.inr (own_w hw 33)) (ty := .byte) (by decide)
  have F_value_b21 : Fld Z h21 b21 "java/lang/String" "value" "[B" .null := D21 (Or.inr (own_w hw 35)) (ty := (.array .byte)) (by decide)
  refine own_by (W' := (T21.setTop (mkF m 73 #[.val (.ref r0), .val (.int (3 : Int32))] [(.ref b21)]))) (fun t k => XS.iconst X0.here hx rfl (hb hby dmethod_3_38) (XS.icmpYes X0.here hx rfl (pc0 := 39) (pc' := 65) rfl (hb hby dmethod_3_39) rfl (feq (by decide : ¬ ((3 : Int32) = (2 : Int32)))).2 (by decide) (by decide) (XS.iloadN X0.here hx rfl (hb hby dmethod_3_65) rfl (XS.iconst X0.here hx rfl (hb hby dmethod_3_66) (XS.icmpNo X0.here hx rfl (hb hby dmethod_3_67) rfl (teq (rfl : (3 : Int32) = (3 : Int32))).2 (st21 _ k)))))) ?_
  obtain ⟨T22, h22, k22, X22, e22, E22, A22, st22⟩ := newP X21 hx hZ (own_w hw 1) e21 (g := (mkF m 75 #[.val (.ref r0), .val (.int (3 : Int32))] [(.int (3 : Int32)), (.ref b21), (.ref b21)])) rfl (hb hby dmethod_3_75) rfl (by decide) (cap := 3) (by decide) (by decide) (by decide) (by decide)
  obtain ⟨b22, g22⟩ : ∃ z, z = h21.size := ⟨_, rfl⟩
  rw [← g22] at A22 st22
  have g_b22 : n0 ≤ b22 := Nat.le_trans (own_le O21) (Nat.le_of_eq g22.symm)
  have sz_b22 : h0.size ≤ b22 := Nat.le_trans K21.1 (Nat.le_of_eq g22.symm)
  have ne_r0_b22 : r0 ≠ b22 := Nat.ne_of_lt (Nat.lt_of_lt_of_le (V0.ext E21).lt (Nat.le_of_eq g22.symm))
  have ne_b21_b22 : b21 ≠ b22 := Nat.ne_of_lt (Nat.lt_of_lt_of_le A21.lt (Nat.le_of_eq g22.symm))
  have O22 := O21.ext E22
  have K22 := Keep.ext K21 E22
  have V_b22 : Arv Z h22 b22 k22 .char (3 : Int32) [(.int (0 : Int32)), (.int (0 : Int32)), (.int (0 : Int32))] (.int (0 : Int32)) := (Arv.new A22 (by decide)).pad (pad_rep [] (.int (0 : Int32)) 3)
  refine own_by (W' := (T22.setTop (mkF m 80 #[.val (.ref r0), .val (.int (3 : Int32))] [(.ref r0), (.int (0 : Int32)), (.ref b22), (.ref b22), (.ref b21), (.ref b21)]))) (fun t k => XS.dup X21.here hx rfl (hb hby dmethod_3_73) rfl rfl (XS.iconst X21.here hx rfl (hb hby dmethod_3_74) (st22 _ (XS.dup X22.here hx rfl (hb hby dmethod_3_77) rfl rfl (XS.iconst X22.here hx rfl (hb hby dmethod_3_78) (XS.aloadN X22.here hx rfl (hb hby dmethod_3_79) rfl rfl k)))))) ?_
  obtain ⟨clu23, Aru23, qu23, Su23, Ngu23, Hau23, Gau23⟩ := id ((V0.ext E21).ext E22)
  have hinu23 : ¬ ((0 : Int32) < 0 ∨ clu23.slots.size ≤ ((0 : Int32)).toNatClampNeg) := inb_of Su23 ⟨by decide, by decide⟩
  have hatu23 : clu23.slots[((0 : Int32)).toNatClampNeg]? = some (.int c0) := Has.at Hau23 hinu23 rfl
  obtain ⟨clu24, Aru24, qu24, Su24, Ngu24, Hau24, Gau24⟩ := id V_b22
  have hinu24 : ¬ ((0 : Int32) < 0 ∨ clu24.slots.size ≤ ((0 : Int32)).toNatClampNeg) := inb_of Su24 ⟨by decide, by decide⟩
  obtain ⟨T25, h25, X25, e25, W25, st25⟩ := stC X22 hx hZ e22 Aru24 (j := (0 : Int32)) hinu24 (g := (mkF m 82 #[.val (.ref r0), .val (.int (3 : Int32))] [(.int c0), (.int (0 : Int32)), (.ref b22), (.ref b22), (.ref b21), (.ref b21)])) rfl rfl (hb hby dmethod_3_82)
  have Vu24 : Arv Z h25 b22 k22 .char (3 : Int32) [(.int (nar .char c0)), (.int (0 : Int32)), (.int (0 : Int32))] (.int (0 : Int32)) := Arv.set Aru24 qu24 Su24 Ngu24 Hau24 Gau24 (fits_nar_char _) W25 0 rfl (Nat.le_of_ble_eq_true rfl)
  rw [show nar .char c0 = c0 from hl_c0.1] at Vu24
  have O25 := Old.wr O22 W25 g_b22
  have N25 := Fr.snoc X25 N0 g_b22
  have K25 := Keep.wr K22 W25 (Or.inr sz_b22)
  refine own_by (W' := (T25.setTop (mkF m 86 #[.val (.ref r0), .val (.int (3 : Int32))] [(.ref r0), (.int (1 : Int32)), (.ref b22), (.ref b22), (.ref b21), (.ref b21)]))) (fun t k => XS.iconst X22.here hx rfl (hb hby dmethod_3_80) ((X22.caload hx (j := (0 : Int32)) (v := (.int c0)) (by rw [e22]; exact Aru23.1) (State.isArrayOf_alike hZ.alike Aru23.2.1) Aru23.2.2 hinu23 hatu23 (g := (mkF m 81 #[.val (.ref r0), .val (.int (3 : Int32))] [(.int (0 : Int32)), (.ref r0), (.int (0 : Int32)), (.ref b22), (.ref b22), (.ref b21), (.ref b21)])) rfl rfl (hb hby dmethod_3_81)) _ (st25 _ (XS.dup X25.here hx rfl (hb hby dmethod_3_83) rfl rfl (XS.iconst X25.here hx rfl (hb hby dmethod_3_84) (XS.aloadN X25.here hx rfl (hb hby dmethod_3_85) rfl rfl k)))))) ?_
  obtain ⟨clu26, Aru26, qu26, Su26, Ngu26, Hau26, Gau26⟩ := id (((V0.ext E21).ext E22).other W25 ne_r0_b22)
  have hinu26 : ¬ ((1 : Int32) < 0 ∨ clu26.slots.size ≤ ((1 : Int32)).toNatClampNeg) := inb_of Su26 ⟨by decide, by decide⟩
  have hatu26 : clu26.slots[((1 : Int32)).toNatClampNeg]? = some (.int c1) := Has.at Hau26 hinu26 rfl
  obtain ⟨clu27, Aru27, qu27, Su27, Ngu27, Hau27, Gau27⟩ := id Vu24
  have hinu27 : ¬ ((1 : Int32) < 0 ∨ clu27.slots.size ≤ ((1 : Int32)).toNatClampNeg) := inb_of Su27 ⟨by decide, by decide⟩
  obtain ⟨T28, h28, X28, e28, W28, st28⟩ := stC X25 hx hZ e25 Aru27 (j := (1 : Int32)) hinu27 (g := (mkF m 88 #[.val (.ref r0), .val (.int (3 : Int32))] [(.int c1), (.int (1 : Int32)), (.ref b22), (.ref b22), (.ref b21), (.ref b21)])) rfl rfl (hb hby dmethod_3_88)
  have Vu27 : Arv Z h28 b22 k22 .char (3 : Int32) [(.int c0), (.int (nar .char c1)), (.int (0 : Int32))] (.int (0 : Int32)) := Arv.set Aru27 qu27 Su27 Ngu27 Hau27 Gau27 (fits_nar_char _) W28 1 rfl (Nat.le_of_ble_eq_true rfl)
  rw [show nar .char c1 = c1 from hl_c1.1] at Vu27
  have O28 := Old.wr O25 W28 g_b22
  have N28 := Fr.snoc X28 N25 g_b22
  have K28 := Keep.wr K25 W28 (Or.inr sz_b22)
  refine own_by (W' := (T28.setTop (mkF m 92 #[.val (.ref r0), .val (.int (3 : Int32))] [(.ref r0), (.int (2 : Int32)), (.ref b22), (.ref b22), (.ref b21), (.ref b21)]))) (fun t k => XS.iconst X25.here hx rfl (hb hby dmethod_3_86) ((X25.caload hx (j := (1 : Int32)) (v := (.int c1)) (by rw [e25]; exact Aru26.1) (State.isArrayOf_alike hZ.alike Aru26.2.1) Aru26.2.2 hinu26 hatu26 (g := (mkF m 87 #[.val (.ref r0), .val (.int (3 : Int32))] [(.int (1 : Int32)), (.ref r0), (.int (1 : Int32)), (.ref b22), (.ref b22), (.ref b21), (.ref b21)])) rfl rfl (hb hby dmethod_3_87)) _ (st28 _ (XS.dup X28.here hx rfl (hb hby dmethod_3_89) rfl rfl (XS.iconst X28.here hx rfl (hb hby dmethod_3_90) (XS.aloadN X28.here hx rfl (hb hby dmethod_3_91) rfl rfl k)))))) ?_
  obtain ⟨clu29, Aru29, qu29, Su29, Ngu29, Hau29, Gau29⟩ := id ((((V0.ext E21).ext E22).other W25 ne_r0_b22).other W28 ne_r0_b22)
  have hinu29 : ¬ ((2 : Int32) < 0 ∨ clu29.slots.size ≤ ((2 : Int32)).toNatClampNeg) := inb_of Su29 ⟨by decide, by decide⟩
  have hatu29 : clu29.slots[((2 : Int32)).toNatClampNeg]? = some (.int c2) := Has.at Hau29 hinu29 rfl
  obtain ⟨clu30, Aru30, qu30, Su30, Ngu30, Hau30, Gau30⟩ := id Vu27
  have hinu30 : ¬ ((2 : Int32) < 0 ∨ clu30.slots.size ≤ ((2 : Int32)).toNatClampNeg) := inb_of Su30 ⟨by decide, by decide⟩
  obtain ⟨T31, h31, X31, e31, W31, st31⟩ := stC X28 hx hZ e28 Aru30 (j := (2 : Int32)) hinu30 (g := (mkF m 94 #[.val (.ref r0), .val (.int (3 : Int32))] [(.int c2), (.int (2 : Int32)), (.ref b22), (.ref b22), (.ref b21), (.ref b21)])) rfl rfl (hb hby dmethod_3_94)
  have Vu30 : Arv Z h31 b22 k22 .char (3 : Int32) [(.int c0), (.int c1), (.int (nar .char c2))] (.int (0 : Int32)) := Arv.set Aru30 qu30 Su30 Ngu30 Hau30 Gau30 (fits_nar_char _) W31 2 rfl (Nat.le_of_ble_eq_true rfl)
  rw [show nar .char c2 = c2 from hl_c2.1] at Vu30
  have O31 := Old.wr O28 W31 g_b22
  have N31 := Fr.snoc X31 N28 g_b22
  have K31 := Keep.wr K28 W31 (Or.inr sz_b22)
  obtain ⟨_, _, ⟨T32, L32, k32, n32⟩, -, X32, ⟨Lc32, hQ32, l32, y32, z32⟩, st32⟩ := X31.specialBack hx (y := (⟨"java/lang/String", "<init>", "([C)V"⟩ : MethodName)) rfl hown (mvT hZ (own_w hw 10)) (mvT hZ (own_w hw 11)) (mvT hZ (own_w hw 12)) (by decide) (backOf (W := 1) (rmsa3 l Z a0 hw [] b21 b22 k22 c0 c1 c2 wALLOW wFORBID tALLOW tFORBID wV kwV cs h31 n0 (own_le O31) O31 HW ((((A21.ext E22).wr W25).wr W28).wr W31) g_b21 ((((F_value_b21.ext E22).other W25 (Or.inl ne_b21_b22)).other W28 (Or.inl ne_b21_b22)).other W31 (Or.inl ne_b21_b22)) ((((F_coder_b21.ext E22).other W25 (Or.inl ne_b21_b22)).other W28 (Or.inl ne_b21_b22)).other W31 (Or.inl ne_b21_b22)) Vu30 hl_c0.2 hl_c1.2 hl_c2.2) hZ (own_w hw 12) (own_w hw 9) (by decide) (by decide)) (g := (mkF m 95 #[.val (.ref r0), .val (.int (3 : Int32))] [(.ref b22), (.ref b21), (.ref b21)])) rfl (by rw [hml]; rfl) (Steps.refl _) (a := b21) (argsL := [(.ref b22)]) (rest := [(.ref b21)]) (lenOf pd_2 rfl) rfl (by show 2 * 0 + _ ≤ _; exact Nat.le_of_eq rfl) (hb hby dmethod_3_95) (fun _ _ => ⟨rfl, e31, (by decide : 2 + 1 ≤ _), (by decide : 7 + 3 ≤ _)⟩)
  dsimp only [Pt.U, Pt.locs, Pt.cells, Pt.slots] at X32 l32 y32 z32 st32 hQ32
  subst l32 y32 z32
  obtain ⟨rfl, N32q, Kq32, Tq32⟩ := hQ32
  have O32 := Old.keep O31 Kq32 (allS g_b21 all0)
  have K32 := Keep.trans K31 Kq32 (allS (Or.inr sz_b21) all0)
  have N32 := Fr.app N31 N32q
  obtain ⟨fs, hr, hrun, hended, hW, hsame⟩ := X32.leave (v := some (.ref b21)) (fun h => by rw [Bd.returns] at h; cases h)
  refine own_by (W' := (T32.setTop (mkF m 98 #[.val (.ref r0), .val (.int (3 : Int32))] [(.ref b21)]))) (fun t k => XS.iconst X28.here hx rfl (hb hby dmethod_3_92) ((X28.caload hx (j := (2 : Int32)) (v := (.int c2)) (by rw [e28]; exact Aru29.1) (State.isArrayOf_alike hZ.alike Aru29.2.1) Aru29.2.2 hinu29 hatu29 (g := (mkF m 93 #[.val (.ref r0), .val (.int (3 : Int32))] [(.int (2 : Int32)), (.ref r0), (.int (2 : Int32)), (.ref b22), (.ref b22), (.ref b21), (.ref b21)])) rfl rfl (hb hby dmethod_3_93)) _ (st31 _ (Steps.trans st32 k)))) ?_
  refine ⟨_, _, retOut X32 hx Bd.returns rfl (Or.inr (Or.inr (Or.inr (Or.inr ⟨rfl, rfl, rfl⟩)))) (hb hby dmethod_3_98) hr, hrun, hended, _, _, rfl, ?_, ⟨_, rfl⟩, hW, hsame.mono (by decide) (by decide)⟩
  show Qmk3 Z r0 kC c0 c1 c2 c3 c4 c5 wALLOW wFORBID tALLOW tFORBID wV kwV cs h0 n0 _ T32.heap _
  exact ⟨_, rfl, N32, K32, sz_b21, Tq32⟩
theorem efcb4 (m : MethodId) (r0 : Addr) (r2 : Addr) : entryFrame m #[(.ref r0), (.int (0 : Int32)), (.ref r2), (.int (0 : Int32)), (.int (4 : Int32))] 7 = mkF m 0 #[.val (.ref r0), .val (.int (0 : Int32)), .val (.ref r2), .val (.int (0 : Int32)), .val (.int (4 : Int32)), .unset, .unset] [] := by first | (simp [entryFrame, mkF, argsToLocals, Value.category]; done) | rfl
def Qcb4 (Z : State) (r0 : Addr) (r2 : Addr) (kC : ClassId) (kB : ClassId) (c0 : Int32) (c1 : Int32) (c2 : Int32) (c3 : Int32) (h0 : Heap) (n0 : Nat) (v : Option Value) (h : Heap) (L : List Loc) : Prop := v = some (.int (4 : Int32)) ∧ Fr n0 L ∧ Keep h0 h [r2] ∧ Arv Z h r2 kB .byte (4 : Int32) [(.int (nar .byte (c0.toInt8.toInt32))), (.int (nar .byte (c1.toInt8.toInt32))), (.int (nar .byte (c2.toInt8.toInt32))), (.int (nar .byte (c3.toInt8.toInt32)))] (.int (0 : Int32))
abbrev own_Kcb4 (Z : State) (r0 : Addr) (r2 : Addr) (kC : ClassId) (kB : ClassId) (c0 : Int32) (c1 : Int32) (c2 : Int32) (c3 : Int32) (h0 : Heap) (n0 : Nat) (s : State) : Outcome → State → Prop := fun o U' => ∃ v L, o = .returned v ∧ Qcb4 Z r0 r2 kC kB c0 c1 c2 c3 h0 n0 v U'.heap L ∧ FrameEnd s o U' L ({ frames := 0, cells := 0, slots := 0, locals := 0 } : Room).cells ({ frames := 0, cells := 0, slots := 0, locals := 0 } : Room).slots
set_option maxRecDepth 65536 in
set_option maxHeartbeats 40000000 in
theorem rmcb4 (l : Launch) (Z : State) (a0 : Array Value) (hw : ∀ d ∈ tables_1, d.before a0 Z = true) (ws : List Jvm.Cond) (r0 : Addr) (r2 : Addr) (kC : ClassId) (kB : ClassId) (c0 : Int32) (c1 : Int32) (c2 : Int32) (c3 : Int32) (h0 : Heap) (n0 : Nat) (Z0 : n0 ≤ h0.size) (O0 : Old Z n0 h0) (V0 : Arv Z h0 r0 kC .char (4 : Int32) [(.int c0), (.int c1), (.int c2), (.int c3)] (.int (0 : Int32))) (V2 : Arv Z h0 r2 kB .byte (4 : Int32) [(.int (0 : Int32)), (.int (0 : Int32)), (.int (0 : Int32)), (.int (0 : Int32))] (.int (0 : Int32))) (g_r2 : n0 ≤ r2) (hne : r0 ≠ r2) (hc_c0 : ¬ (255 : Int32) < c0) (hc_c1 : ¬ (255 : Int32) < c1) (hc_c2 : ¬ (255 : Int32) < c2) (hc_c3 : ¬ (255 : Int32) < c3) :
    MetFree l (⟨"java/lang/StringUTF16", "compress", "([CI[BII)I"⟩ : MethodName) (head1 (Jvm.Cond.code (⟨"java/lang/StringUTF16", "compress", "([CI[BII)I"⟩ : MethodName) jdk_52_method_21_code 7 (some .int) :: ws) ({ frames := 0, cells := 0, slots := 0, locals := 0 } : Room)) (fun a U => a = #[(.ref r0), (.int (0 : Int32)), (.ref r2), (.int (0 : Int32)), (.int (4 : Int32))] ∧ Z.Warmed39 U.vm ∧ U.heap = h0) (fun _ _ _ _ _ => True) (fun _ U o U' => ∃ v L, o = .returned v ∧ Qcb4 Z r0 r2 kC kB c0 c1 c2 c3 h0 n0 v U'.heap L ∧ FrameEnd U o U' L ({ frames := 0, cells := 0, slots := 0, locals := 0 } : Room).cells ({ frames := 0, cells := 0, slots := 0, locals := 0 } : Room).slots) := by
  refine MetFree.of_bodySF (plainFor_of_name pn_java_lang_StringUTF16) hisR ?_
  intro p e s m args below meth c s₁ Bd hml0 hP hK
  obtain ⟨rfl, hZ, hh⟩ := hP
  have hx := Bd.exec
  have hby := Bd.bytes
  have hml : c.maxLocals = 7 := hml0
  have hown : s.vm.findClass "java/lang/StringUTF16" = some m.cls := findClass_of_methodNamed Bd.named
  have hnm := (name_of_methodNamed Bd.named Bd.method).1
  have X0 : Stand p l e ({ frames := 0, cells := 0, slots := 0, locals := 0 } : Room) s m #[(.ref r0), (.int (0 : Int32)), (.ref r2), (.int (0 : Int32)), (.int (4 : Int32))] below meth c s₁ [] 0 0 := Stand.of_body Bd
  have e0 : s₁.heap = h0 := by rw [← hh, Bd.state]; rfl
  have N0 := Fr.nil n0
  refine own_by (p := p) (e := e) (below := below) (K := own_Kcb4 Z r0 r2 kC kB c0 c1 c2 c3 h0 n0 s) (W' := s₁.setTop (mkF m 0 #[.val (.ref r0), .val (.int (0 : Int32)), .val (.ref r2), .val (.int (0 : Int32)), .val (.int (4 : Int32)), .unset, .unset] [])) (fun t k => castTop (efcb4 m r0 r2) k) ?_
  refine own_by (W' := (s₁.setTop (mkF m 11 #[.val (.ref r0), .val (.int (0 : Int32)), .val (.ref r2), .val (.int (0 : Int32)), .val (.int (4 : Int32)), .val (.int (0 : Int32)), .unset] [(.ref r0)]))) (fun t k => XS.iconst X0.here hx rfl (hb hby djdk_52_21_0) (XS.istore X0.here hx rfl (hb hby djdk_52_21_1) rfl (l' := #[.val (.ref r0), .val (.int (0 : Int32)), .val (.ref r2), .val (.int (0 : Int32)), .val (.int (4 : Int32)), .val (.int (0 : Int32)), .unset]) rfl (XS.iload X0.here hx rfl (hb hby djdk_52_21_3) rfl (XS.iload X0.here hx rfl (hb hby djdk_52_21_5) rfl (XS.icmpNo X0.here hx rfl (hb hby djdk_52_21_7) rfl (tlt (by decide : (0 : Int32) < (4 : Int32))).2.1 (XS.aloadN X0.here hx rfl (hb hby djdk_52_21_10) rfl rfl k)))))) ?_
  obtain ⟨clu21, Aru21, qu21, Su21, Ngu21, Hau21, Gau21⟩ := id V0
  have hinu21 : ¬ ((0 : Int32) < 0 ∨ clu21.slots.size ≤ ((0 : Int32)).toNatClampNeg) := inb_of Su21 ⟨by decide, by decide⟩
  have hatu21 : clu21.slots[((0 : Int32)).toNatClampNeg]? = some (.int c0) := Has.at Hau21 hinu21 rfl
  refine own_by (W' := (s₁.setTop (mkF m 26 #[.val (.ref r0), .val (.int (0 : Int32)), .val (.ref r2), .val (.int (0 : Int32)), .val (.int (4 : Int32)), .val (.int (0 : Int32)), .val (.int c0)] []))) (fun t k => XS.iloadN X0.here hx rfl (hb hby djdk_52_21_11) rfl ((X0.caload hx (j := (0 : Int32)) (v := (.int c0)) (by rw [e0]; exact Aru21.1) (State.isArrayOf_alike hZ.alike Aru21.2.1) Aru21.2.2 hinu21 hatu21 (g := (mkF m 12 #[.val (.ref r0), .val (.int (0 : Int32)), .val (.ref r2), .val (.int (0 : Int32)), .val (.int (4 : Int32)), .val (.int (0 : Int32)), .unset] [(.int (0 : Int32)), (.ref r0)])) rfl rfl (hb hby djdk_52_21_12)) _ (XS.istore X0.here hx rfl (hb hby djdk_52_21_13) rfl (l' := #[.val (.ref r0), .val (.int (0 : Int32)), .val (.ref r2), .val (.int (0 : Int32)), .val (.int (4 : Int32)), .val (.int (0 : Int32)), .val (.int c0)]) rfl (XS.iload X0.here hx rfl (hb hby djdk_52_21_15) rfl (XS.sipush X0.here hx rfl (hb hby djdk_52_21_17) (XS.icmpYes X0.here hx rfl (pc0 := 20) (pc' := 26) rfl (hb hby djdk_52_21_20) rfl (flt hc_c0).2.2.2 (by decide) (by decide) k)))))) ?_
  obtain ⟨clu22, Aru22, qu22, Su22, Ngu22, Hau22, Gau22⟩ := id V2
  have hinu22 : ¬ ((0 : Int32) < 0 ∨ clu22.slots.size ≤ ((0 : Int32)).toNatClampNeg) := inb_of Su22 ⟨by decide, by decide⟩
  obtain ⟨T23, h23, X23, e23, W23, st23⟩ := stB X0 hx hZ e0 Aru22 (j := (0 : Int32)) hinu22 (g := (mkF m 31 #[.val (.ref r0), .val (.int (0 : Int32)), .val (.ref r2), .val (.int (0 : Int32)), .val (.int (4 : Int32)), .val (.int (0 : Int32)), .val (.int c0)] [(.int (c0.toInt8.toInt32)), (.int (0 : Int32)), (.ref r2)])) rfl rfl (hb hby djdk_52_21_31)
  have Vu22 : Arv Z h23 r2 kB .byte (4 : Int32) [(.int (nar .byte (c0.toInt8.toInt32))), (.int (0 : Int32)), (.int (0 : Int32)), (.int (0 : Int32))] (.int (0 : Int32)) := Arv.set Aru22 qu22 Su22 Ngu22 Hau22 Gau22 (fits_nar_byte _) W23 0 rfl (Nat.le_of_ble_eq_true rfl)
  have O23 := Old.wr O0 W23 g_r2
  have N23 := Fr.snoc X23 N0 g_r2
  have K23 := Keep.wr (Keep.refl h0 [r2]) W23 (Or.inl (List.mem_of_getElem? (i := 0) rfl))
  refine own_by (W' := (T23.setTop (mkF m 35 #[.val (.ref r0), .val (.int (1 : Int32)), .val (.ref r2), .val (.int (0 : Int32)), .val (.int (4 : Int32)), .val (.int (0 : Int32)), .val (.int c0)] []))) (fun t k => XS.aloadN X0.here hx rfl (hb hby djdk_52_21_26) rfl rfl (XS.iloadN X0.here hx rfl (hb hby djdk_52_21_27) rfl (XS.iload X0.here hx rfl (hb hby djdk_52_21_28) rfl (XS.i2b X0.here hx rfl (hb hby djdk_52_21_30) rfl (st23 _ (XS.iinc X23.here hx rfl (hb hby djdk_52_21_32) rfl (l' := #[.val (.ref r0), .val (.int (1 : Int32)), .val (.ref r2), .val (.int (0 : Int32)), .val (.int (4 : Int32)), .val (.int (0 : Int32)), .val (.int c0)]) rfl k)))))) ?_
  refine own_by (W' := (T23.setTop (mkF m 10 #[.val (.ref r0), .val (.int (1 : Int32)), .val (.ref r2), .val (.int (1 : Int32)), .val (.int (4 : Int32)), .val (.int (1 : Int32)), .val (.int c0)] []))) (fun t k => XS.iinc X23.here hx rfl (hb hby djdk_52_21_35) rfl (l' := #[.val (.ref r0), .val (.int (1 : Int32)), .val (.ref r2), .val (.int (1 : Int32)), .val (.int (4 : Int32)), .val (.int (0 : Int32)), .val (.int c0)]) rfl (XS.iinc X23.here hx rfl (hb hby djdk_52_21_38) rfl (l' := #[.val (.ref r0), .val (.int (1 : Int32)), .val (.ref r2), .val (.int (1 : Int32)), .val (.int (4 : Int32)), .val (.int (1 : Int32)), .val (.int c0)]) rfl (XS.goto X23.here hx rfl (pc0 := 41) (pc' := 3) rfl (hb hby djdk_52_21_41) (by decide) (by decide) (XS.iload X23.here hx rfl (hb hby djdk_52_21_3) rfl (XS.iload X23.here hx rfl (hb hby djdk_52_21_5) rfl (XS.icmpNo X23.here hx rfl (hb hby djdk_52_21_7) rfl (tlt (by decide : (1 : Int32) < (4 : Int32))).2.1 k)))))) ?_
  obtain ⟨clu24, Aru24, qu24, Su24, Ngu24, Hau24, Gau24⟩ := id (V0.other W23 hne)
  have hinu24 : ¬ ((1 : Int32) < 0 ∨ clu24.slots.size ≤ ((1 : Int32)).toNatClampNeg) := inb_of Su24 ⟨by decide, by decide⟩
  have hatu24 : clu24.slots[((1 : Int32)).toNatClampNeg]? = some (.int c1) := Has.at Hau24 hinu24 rfl
  refine own_by (W' := (T23.setTop (mkF m 20 #[.val (.ref r0), .val (.int (1 : Int32)), .val (.ref r2), .val (.int (1 : Int32)), .val (.int (4 : Int32)), .val (.int (1 : Int32)), .val (.int c1)] [(.int (255 : Int32)), (.int c1)]))) (fun t k => XS.aloadN X23.here hx rfl (hb hby djdk_52_21_10) rfl rfl (XS.iloadN X23.here hx rfl (hb hby djdk_52_21_11) rfl ((X23.caload hx (j := (1 : Int32)) (v := (.int c1)) (by rw [e23]; exact Aru24.1) (State.isArrayOf_alike hZ.alike Aru24.2.1) Aru24.2.2 hinu24 hatu24 (g := (mkF m 12 #[.val (.ref r0), .val (.int (1 : Int32)), .val (.ref r2), .val (.int (1 : Int32)), .val (.int (4 : Int32)), .val (.int (1 : Int32)), .val (.int c0)] [(.int (1 : Int32)), (.ref r0)])) rfl rfl (hb hby djdk_52_21_12)) _ (XS.istore X23.here hx rfl (hb hby djdk_52_21_13) rfl (l' := #[.val (.ref r0), .val (.int (1 : Int32)), .val (.ref r2), .val (.int (1 : Int32)), .val (.int (4 : Int32)), .val (.int (1 : Int32)), .val (.int c1)]) rfl (XS.iload X23.here hx rfl (hb hby djdk_52_21_15) rfl (XS.sipush X23.here hx rfl (hb hby djdk_52_21_17) k)))))) ?_
  obtain ⟨clu25, Aru25, qu25, Su25, Ngu25, Hau25, Gau25⟩ := id Vu22
  have hinu25 : ¬ ((1 : Int32) < 0 ∨ clu25.slots.size ≤ ((1 : Int32)).toNatClampNeg) := inb_of Su25 ⟨by decide, by decide⟩
  obtain ⟨T26, h26, X26, e26, W26, st26⟩ := stB X23 hx hZ e23 Aru25 (j := (1 : Int32)) hinu25 (g := (mkF m 31 #[.val (.ref r0), .val (.int (1 : Int32)), .val (.ref r2), .val (.int (1 : Int32)), .val (.int (4 : Int32)), .val (.int (1 : Int32)), .val (.int c1)] [(.int (c1.toInt8.toInt32)), (.int (1 : Int32)), (.ref r2)])) rfl rfl (hb hby djdk_52_21_31)
  have Vu25 : Arv Z h26 r2 kB .byte (4 : Int32) [(.int (nar .byte (c0.toInt8.toInt32))), (.int (nar .byte (c1.toInt8.toInt32))), (.int (0 : Int32)), (.int (0 : Int32))] (.int (0 : Int32)) := Arv.set Aru25 qu25 Su25 Ngu25 Hau25 Gau25 (fits_nar_byte _) W26 1 rfl (Nat.le_of_ble_eq_true rfl)
  have O26 := Old.wr O23 W26 g_r2
  have N26 := Fr.snoc X26 N23 g_r2
  have K26 := Keep.wr K23 W26 (Or.inl (List.mem_of_getElem? (i := 0) rfl))
  refine own_by (W' := (T26.setTop (mkF m 32 #[.val (.ref r0), .val (.int (1 : Int32)), .val (.ref r2), .val (.int (1 : Int32)), .val (.int (4 : Int32)), .val (.int (1 : Int32)), .val (.int c1)] []))) (fun t k => XS.icmpYes X23.here hx rfl (pc0 := 20) (pc' := 26) rfl (hb hby djdk_52_21_20) rfl (flt hc_c1).2.2.2 (by decide) (by decide) (XS.aloadN X23.here hx rfl (hb hby djdk_52_21_26) rfl rfl (XS.iloadN X23.here hx rfl (hb hby djdk_52_21_27) rfl (XS.iload X23.here hx rfl (hb hby djdk_52_21_28) rfl (XS.i2b X23.here hx rfl (hb hby djdk_52_21_30) rfl (st26 _ k)))))) ?_
  refine own_by (W' := (T26.setTop (mkF m 7 #[.val (.ref r0), .val (.int (2 : Int32)), .val (.ref r2), .val (.int (2 : Int32)), .val (.int (4 : Int32)), .val (.int (2 : Int32)), .val (.int c1)] [(.int (4 : Int32)), (.int (2 : Int32))]))) (fun t k => XS.iinc X26.here hx rfl (hb hby djdk_52_21_32) rfl (l' := #[.val (.ref r0), .val (.int (2 : Int32)), .val (.ref r2), .val (.int (1 : Int32)), .val (.int (4 : Int32)), .val (.int (1 : Int32)), .val (.int c1)]) rfl (XS.iinc X26.here hx rfl (hb hby djdk_52_21_35) rfl (l' := #[.val (.ref r0), .val (.int (2 : Int32)), .val (.ref r2), .val (.int (2 : Int32)), .val (.int (4 : Int32)), .val (.int (1 : Int32)), .val (.int c1)]) rfl (XS.iinc X26.here hx rfl (hb hby djdk_52_21_38) rfl (l' := #[.val (.ref r0), .val (.int (2 : Int32)), .val (.ref r2), .val (.int (2 : Int32)), .val (.int (4 : Int32)), .val (.int (2 : Int32)), .val (.int c1)]) rfl (XS.goto X26.here hx rfl (pc0 := 41) (pc' := 3) rfl (hb hby djdk_52_21_41) (by decide) (by decide) (XS.iload X26.here hx rfl (hb hby djdk_52_21_3) rfl (XS.iload X26.here hx rfl (hb hby djdk_52_21_5) rfl k)))))) ?_
  obtain ⟨clu27, Aru27, qu27, Su27, Ngu27, Hau27, Gau27⟩ := id ((V0.other W23 hne).other W26 hne)
  have hinu27 : ¬ ((2 : Int32) < 0 ∨ clu27.slots.size ≤ ((2 : Int32)).toNatClampNeg) := inb_of Su27 ⟨by decide, by decide⟩
  have hatu27 : clu27.slots[((2 : Int32)).toNatClampNeg]? = some (.int c2) := Has.at Hau27 hinu27 rfl
  refine own_by (W' := (T26.setTop (mkF m 17 #[.val (.ref r0), .val (.int (2 : Int32)), .val (.ref r2), .val (.int (2 : Int32)), .val (.int (4 : Int32)), .val (.int (2 : Int32)), .val (.int c2)] [(.int c2)]))) (fun t k => XS.icmpNo X26.here hx rfl (hb hby djdk_52_21_7) rfl (tlt (by decide : (2 : Int32) < (4 : Int32))).2.1 (XS.aloadN X26.here hx rfl (hb hby djdk_52_21_10) rfl rfl (XS.iloadN X26.here hx rfl (hb hby djdk_52_21_11) rfl ((X26.caload hx (j := (2 : Int32)) (v := (.int c2)) (by rw [e26]; exact Aru27.1) (State.isArrayOf_alike hZ.alike Aru27.2.1) Aru27.2.2 hinu27 hatu27 (g := (mkF m 12 #[.val (.ref r0), .val (.int (2 : Int32)), .val (.ref r2), .val (.int (2 : Int32)), .val (.int (4 : Int32)), .val (.int (2 : Int32)), .val (.int c1)] [(.int (2 : Int32)), (.ref r0)])) rfl rfl (hb hby djdk_52_21_12)) _ (XS.istore X26.here hx rfl (hb hby djdk_52_21_13) rfl (l' := #[.val (.ref r0), .val (.int (2 : Int32)), .val (.ref r2), .val (.int (2 : Int32)), .val (.int (4 : Int32)), .val (.int (2 : Int32)), .val (.int c2)]) rfl (XS.iload X26.here hx rfl (hb hby djdk_52_21_15) rfl k)))))) ?_
  refine own_by (W' := (T26.setTop (mkF m 31 #[.val (.ref r0), .val (.int (2 : Int32)), .val (.ref r2), .val (.int (2 : Int32)), .val (.int (4 : Int32)), .val (.int (2 : Int32)), .val (.int c2)] [(.int (c2.toInt8.toInt32)), (.int (2 : Int32)), (.ref r2)]))) (fun t k => XS.sipush X26.here hx rfl (hb hby djdk_52_21_17) (XS.icmpYes X26.here hx rfl (pc0 := 20) (pc' := 26) rfl (hb hby djdk_52_21_20) rfl (flt hc_c2).2.2.2 (by decide) (by decide) (XS.aloadN X26.here hx rfl (hb hby djdk_52_21_26) rfl rfl (XS.iloadN X26.here hx rfl (hb hby djdk_52_21_27) rfl (XS.iload X26.here hx rfl (hb hby djdk_52_21_28) rfl (XS.i2b X26.here hx rfl (hb hby djdk_52_21_30) rfl k)))))) ?_
  obtain ⟨clu28, Aru28, qu28, Su28, Ngu28, Hau28, Gau28⟩ := id Vu25
  have hinu28 : ¬ ((2 : Int32) < 0 ∨ clu28.slots.size ≤ ((2 : Int32)).toNatClampNeg) := inb_of Su28 ⟨by decide, by decide⟩
  obtain ⟨T29, h29, X29, e29, W29, st29⟩ := stB X26 hx hZ e26 Aru28 (j := (2 : Int32)) hinu28 (g := (mkF m 31 #[.val (.ref r0), .val (.int (2 : Int32)), .val (.ref r2), .val (.int (2 : Int32)), .val (.int (4 : Int32)), .val (.int (2 : Int32)), .val (.int c2)] [(.int (c2.toInt8.toInt32)), (.int (2 : Int32)), (.ref r2)])) rfl rfl (hb hby djdk_52_21_31)
  have Vu28 : Arv Z h29 r2 kB .byte (4 : Int32) [(.int (nar .byte (c0.toInt8.toInt32))), (.int (nar .byte (c1.toInt8.toInt32))), (.int (nar .byte (c2.toInt8.toInt32))), (.int (0 : Int32))] (.int (0 : Int32)) := Arv.set Aru28 qu28 Su28 Ngu28 Hau28 Gau28 (fits_nar_byte _) W29 2 rfl (Nat.le_of_ble_eq_true rfl)
  have O29 := Old.wr O26 W29 g_r2
  have N29 := Fr.snoc X29 N26 g_r2
  have K29 := Keep.wr K26 W29 (Or.inl (List.mem_of_getElem? (i := 0) rfl))
  refine own_by (W' := (T29.setTop (mkF m 5 #[.val (.ref r0), .val (.int (3 : Int32)), .val (.ref r2), .val (.int (3 : Int32)), .val (.int (4 : Int32)), .val (.int (3 : Int32)), .val (.int c2)] [(.int (3 : Int32))]))) (fun t k => st29 _ (XS.iinc X29.here hx rfl (hb hby djdk_52_21_32) rfl (l' := #[.val (.ref r0), .val (.int (3 : Int32)), .val (.ref r2), .val (.int (2 : Int32)), .val (.int (4 : Int32)), .val (.int (2 : Int32)), .val (.int c2)]) rfl (XS.iinc X29.here hx rfl (hb hby djdk_52_21_35) rfl (l' := #[.val (.ref r0), .val (.int (3 : Int32)), .val (.ref r2), .val (.int (3 : Int32)), .val (.int (4 : Int32)), .val (.int (2 : Int32)), .val (.int c2)]) rfl (XS.iinc X29.here hx rfl (hb hby djdk_52_21_38) rfl (l' := #[.val (.ref r0), .val (.int (3 : Int32)), .val (.ref r2), .val (.int (3 : Int32)), .val (.int (4 : Int32)), .val (.int (3 : Int32)), .val (.int c2)]) rfl (XS.goto X29.here hx rfl (pc0 := 41) (pc' := 3) rfl (hb hby djdk_52_21_41) (by decide) (by decide) (XS.iload X29.here hx rfl (hb hby djdk_52_21_3) rfl k)))))) ?_
  obtain ⟨clu30, Aru30, qu30, Su30, Ngu30, Hau30, Gau30⟩ := id (((V0.other W23 hne).other W26 hne).other W29 hne)
  have hinu30 : ¬ ((3 : Int32) < 0 ∨ clu30.slots.size ≤ ((3 : Int32)).toNatClampNeg) := inb_of Su30 ⟨by decide, by decide⟩
  have hatu30 : clu30.slots[((3 : Int32)).toNatClampNeg]? = some (.int c3) := Has.at Hau30 hinu30 rfl
  refine own_by (W' := (T29.setTop (mkF m 15 #[.val (.ref r0), .val (.int (3 : Int32)), .val (.ref r2), .val (.int (3 : Int32)), .val (.int (4 : Int32)), .val (.int (3 : Int32)), .val (.int c3)] []))) (fun t k => XS.iload X29.here hx rfl (hb hby djdk_52_21_5) rfl (XS.icmpNo X29.here hx rfl (hb hby djdk_52_21_7) rfl (tlt (by decide : (3 : Int32) < (4 : Int32))).2.1 (XS.aloadN X29.here hx rfl (hb hby djdk_52_21_10) rfl rfl (XS.iloadN X29.here hx rfl (hb hby djdk_52_21_11) rfl ((X29.caload hx (j := (3 : Int32)) (v := (.int c3)) (by rw [e29]; exact Aru30.1) (State.isArrayOf_alike hZ.alike Aru30.2.1) Aru30.2.2 hinu30 hatu30 (g := (mkF m 12 #[.val (.ref r0), .val (.int (3 : Int32)), .val (.ref r2), .val (.int (3 : Int32)), .val (.int (4 : Int32)), .val (.int (3 : Int32)), .val (.int c2)] [(.int (3 : Int32)), (.ref r0)])) rfl rfl (hb hby djdk_52_21_12)) _ (XS.istore X29.here hx rfl (hb hby djdk_52_21_13) rfl (l' := #[.val (.ref r0), .val (.int (3 : Int32)), .val (.ref r2), .val (.int (3 : Int32)), .val (.int (4 : Int32)), .val (.int (3 : Int32)), .val (.int c3)]) rfl k)))))) ?_
  refine own_by (W' := (T29.setTop (mkF m 30 #[.val (.ref r0), .val (.int (3 : Int32)), .val (.ref r2), .val (.int (3 : Int32)), .val (.int (4 : Int32)), .val (.int (3 : Int32)), .val (.int c3)] [(.int c3), (.int (3 : Int32)), (.ref r2)]))) (fun t k => XS.iload X29.here hx rfl (hb hby djdk_52_21_15) rfl (XS.sipush X29.here hx rfl (hb hby djdk_52_21_17) (XS.icmpYes X29.here hx rfl (pc0 := 20) (pc' := 26) rfl (hb hby djdk_52_21_20) rfl (flt hc_c3).2.2.2 (by decide) (by decide) (XS.aloadN X29.here hx rfl (hb hby djdk_52_21_26) rfl rfl (XS.iloadN X29.here hx rfl (hb hby djdk_52_21_27) rfl (XS.iload X29.here hx rfl (hb hby djdk_52_21_28) rfl k)))))) ?_
  obtain ⟨clu31, Aru31, qu31, Su31, Ngu31, Hau31, Gau31⟩ := id Vu28
  have hinu31 : ¬ ((3 : Int32) < 0 ∨ clu31.slots.size ≤ ((3 : Int32)).toNatClampNeg) := inb_of Su31 ⟨by decide, by decide⟩
  obtain ⟨T32, h32, X32, e32, W32, st32⟩ := stB X29 hx hZ e29 Aru31 (j := (3 : Int32)) hinu31 (g := (mkF m 31 #[.val (.ref r0), .val (.int (3 : Int32)), .val (.ref r2), .val (.int (3 : Int32)), .val (.int (4 : Int32)), .val (.int (3 : Int32)), .val (.int c3)] [(.int (c3.toInt8.toInt32)), (.int (3 : Int32)), (.ref r2)])) rfl rfl (hb hby djdk_52_21_31)
  have Vu31 : Arv Z h32 r2 kB .byte (4 : Int32) [(.int (nar .byte (c0.toInt8.toInt32))), (.int (nar .byte (c1.toInt8.toInt32))), (.int (nar .byte (c2.toInt8.toInt32))), (.int (nar .byte (c3.toInt8.toInt32)))] (.int (0 : Int32)) := Arv.set Aru31 qu31 Su31 Ngu31 Hau31 Gau31 (fits_nar_byte _) W32 3 rfl (Nat.le_of_ble_eq_true rfl)
  have O32 := Old.wr O29 W32 g_r2
  have N32 := Fr.snoc X32 N29 g_r2
  have K32 := Keep.wr K29 W32 (Or.inl (List.mem_of_getElem? (i := 0) rfl))
  refine own_by (W' := (T32.setTop (mkF m 3 #[.val (.ref r0), .val (.int (4 : Int32)), .val (.ref r2), .val (.int (4 : Int32)), .val (.int (4 : Int32)), .val (.int (4 : Int32)), .val (.int c3)] []))) (fun t k => XS.i2b X29.here hx rfl (hb hby djdk_52_21_30) rfl (st32 _ (XS.iinc X32.here hx rfl (hb hby djdk_52_21_32) rfl (l' := #[.val (.ref r0), .val (.int (4 : Int32)), .val (.ref r2), .val (.int (3 : Int32)), .val (.int (4 : Int32)), .val (.int (3 : Int32)), .val (.int c3)]) rfl (XS.iinc X32.here hx rfl (hb hby djdk_52_21_35) rfl (l' := #[.val (.ref r0), .val (.int (4 : Int32)), .val (.ref r2), .val (.int (4 : Int32)), .val (.int (4 : Int32)), .val (.int (3 : Int32)), .val (.int c3)]) rfl (XS.iinc X32.here hx rfl (hb hby djdk_52_21_38) rfl (l' := #[.val (.ref r0), .val (.int (4 : Int32)), .val (.ref r2), .val (.int (4 : Int32)), .val (.int (4 : Int32)), .val (.int (4 : Int32)), .val (.int c3)]) rfl (XS.goto X32.here hx rfl (pc0 := 41) (pc' := 3) rfl (hb hby djdk_52_21_41) (by decide) (by decide) k)))))) ?_
  obtain ⟨fs, hr, hrun, hended, hW, hsame⟩ := X32.leave (v := some (.int (4 : Int32))) (fun h => by rw [Bd.returns] at h; cases h)
  refine own_by (W' := (T32.setTop (mkF m 46 #[.val (.ref r0), .val (.int (4 : Int32)), .val (.ref r2), .val (.int (4 : Int32)), .val (.int (4 : Int32)), .val (.int (4 : Int32)), .val (.int c3)] [(.int (4 : Int32))]))) (fun t k => XS.iload X32.here hx rfl (hb hby djdk_52_21_3) rfl (XS.iload X32.here hx rfl (hb hby djdk_52_21_5) rfl (XS.icmpYes X32.here hx rfl (pc0 := 7) (pc' := 44) rfl (hb hby djdk_52_21_7) rfl (flt (by decide : ¬ ((4 : Int32) < (4 : Int32)))).2.1 (by decide) (by decide) (XS.iload X32.here hx rfl (hb hby djdk_52_21_44) rfl k)))) ?_
  refine ⟨_, _, retOut X32 hx Bd.returns rfl (Or.inl ⟨rfl, Or.inl rfl, _, rfl⟩) (hb hby djdk_52_21_46) hr, hrun, hended, _, _, rfl, ?_, ⟨_, rfl⟩, hW, hsame.mono (by decide) (by decide)⟩
  show Qcb4 Z r0 r2 kC kB c0 c1 c2 c3 h0 n0 _ T32.heap _
  rw [e32]
  exact ⟨rfl, N32, K32, Vu31⟩
theorem efca4 (m : MethodId) (r0 : Addr) : entryFrame m #[(.ref r0), (.int (0 : Int32)), (.int (4 : Int32))] 6 = mkF m 0 #[.val (.ref r0), .val (.int (0 : Int32)), .val (.int (4 : Int32)), .unset, .unset, .unset] [] := by first | (simp [entryFrame, mkF, argsToLocals, Value.category]; done) | rfl
def Qca4 (Z : State) (r0 : Addr) (kC : ClassId) (c0 : Int32) (c1 : Int32) (c2 : Int32) (c3 : Int32) (h0 : Heap) (n0 : Nat) (v : Option Value) (h : Heap) (L : List Loc) : Prop := ∃ (q : Addr) (kq : ClassId), v = some (.ref q) ∧ Fr n0 L ∧ Keep h0 h [] ∧ h0.size ≤ q ∧ Arv Z h q kq .byte (4 : Int32) [(.int (nar .byte (c0.toInt8.toInt32))), (.int (nar .byte (c1.toInt8.toInt32))), (.int (nar .byte (c2.toInt8.toInt32))), (.int (nar .byte (c3.toInt8.toInt32)))] (.int (0 : Int32))
abbrev own_Kca4 (Z : State) (r0 : Addr) (kC : ClassId) (c0 : Int32) (c1 : Int32) (c2 : Int32) (c3 : Int32) (h0 : Heap) (n0 : Nat) (s : State) : Outcome → State → Prop := fun o U' => ∃ v L, o = .returned v ∧ Qca4 Z r0 kC c0 c1 c2 c3 h0 n0 v U'.heap L ∧ FrameEnd s o U' L ({ frames := 1, cells := 1, slots := 4, locals := 18 } : Room).cells ({ frames := 1, cells := 1, slots := 4, locals := 18 } : Room).slots
set_option maxRecDepth 65536 in
set_option maxHeartbeats 40000000 in
theorem rmca4 (l : Launch) (Z : State) (a0 : Array Value) (hw : ∀ d ∈ tables_1, d.before a0 Z = true) (ws : List Jvm.Cond) (r0 : Addr) (kC : ClassId) (c0 : Int32) (c1 : Int32) (c2 : Int32) (c3 : Int32) (h0 : Heap) (n0 : Nat) (Z0 : n0 ≤ h0.size) (O0 : Old Z n0 h0) (V0 : Arv Z h0 r0 kC .char (4 : Int32) [(.int c0), (.int c1), (.int c2), (.int c3)] (.int (0 : Int32))) (hc_c0 : ¬ (255 : Int32) < c0) (hc_c1 : ¬ (255 : Int32) < c1) (hc_c2 : ¬ (255 : Int32) < c2) (hc_c3 : ¬ (255 : Int32) < c3) :
    MetFree l (⟨"java/lang/StringUTF16", "compress", "([CII)[B"⟩ : MethodName) (head1 (Jvm.Cond.code (⟨"java/lang/StringUTF16", "compress", "([CII)[B"⟩ : MethodName) jdk_52_method_16_code 6 (some (.array .byte)) :: ws) ({ frames := 1, cells := 1, slots := 4, locals := 18 } : Room)) (fun a U => a = #[(.ref r0), (.int (0 : Int32)), (.int (4 : Int32))] ∧ Z.Warmed39 U.vm ∧ U.heap = h0) (fun _ _ _ _ _ => True) (fun _ U o U' => ∃ v L, o = .returned v ∧ Qca4 Z r0 kC c0 c1 c2 c3 h0 n0 v U'.heap L ∧ FrameEnd U o U' L ({ frames := 1, cells := 1, slots := 4, locals := 18 } : Room).cells ({ frames := 1, cells := 1, slots := 4, locals := 18 } : Room).slots) := by
  refine MetFree.of_bodySF (plainFor_of_name pn_java_lang_StringUTF16) hisR ?_
  intro p e s m args below meth c s₁ Bd hml0 hP hK
  obtain ⟨rfl, hZ, hh⟩ := hP
  have hx := Bd.exec
  have hby := Bd.bytes
  have hml : c.maxLocals = 6 := hml0
  have hown : s.vm.findClass "java/lang/StringUTF16" = some m.cls := findClass_of_methodNamed Bd.named
  have hnm := (name_of_methodNamed Bd.named Bd.method).1
  have X0 : Stand p l e ({ frames := 1, cells := 1, slots := 4, locals := 18 } : Room) s m #[(.ref r0), (.int (0 : Int32)), (.int (4 : Int32))] below meth c s₁ [] 0 0 := Stand.of_body Bd
  have e0 : s₁.heap = h0 := by rw [← hh, Bd.state]; rfl
  have N0 := Fr.nil n0
  refine own_by (p := p) (e := e) (below := below) (K := own_Kca4 Z r0 kC c0 c1 c2 c3 h0 n0 s) (W' := s₁.setTop (mkF m 0 #[.val (.ref r0), .val (.int (0 : Int32)), .val (.int (4 : Int32)), .unset, .unset, .unset] [])) (fun t k => castTop (efca4 m r0) k) ?_
  obtain ⟨T21, h21, k21, X21, e21, E21, A21, st21⟩ := newP X0 hx hZ (own_w hw 25) e0 (g := (mkF m 1 #[.val (.ref r0), .val (.int (0 : Int32)), .val (.int (4 : Int32)), .unset, .unset, .unset] [(.int (4 : Int32))])) rfl (hb hby djdk_52_16_1) rfl (by decide) (cap := 4) (by decide) (by decide) (by decide) (by decide)
  obtain ⟨b21, g21⟩ : ∃ z, z = h0.size := ⟨_, rfl⟩
  rw [← g21] at A21 st21
  have g_b21 : n0 ≤ b21 := Nat.le_trans (own_le O0) (Nat.le_of_eq g21.symm)
  have sz_b21 : h0.size ≤ b21 := Nat.le_trans (Keep.refl h0 []).1 (Nat.le_of_eq g21.symm)
  have ne_r0_b21 : r0 ≠ b21 := Nat.ne_of_lt (Nat.lt_of_lt_of_le V0.lt (Nat.le_of_eq g21.symm))
  have O21 := O0.ext E21
  have K21 := Keep.ext (Keep.refl h0 []) E21
  have V_b21 : Arv Z h21 b21 k21 .byte (4 : Int32) [(.int (0 : Int32)), (.int (0 : Int32)), (.int (0 : Int32)), (.int (0 : Int32))] (.int (0 : Int32)) := (Arv.new A21 (by decide)).pad (pad_rep [] (.int (0 : Int32)) 4)
  refine own_by (W' := (T21.setTop (mkF m 7 #[.val (.ref r0), .val (.int (0 : Int32)), .val (.int (4 : Int32)), .val (.ref b21), .unset, .unset] [(.ref b21), (.int (0 : Int32)), (.ref r0)]))) (fun t k => XS.iloadN X0.here hx rfl (hb hby djdk_52_16_0) rfl (st21 _ (XS.astoreN X21.here hx rfl (hb hby djdk_52_16_3) rfl rfl (l' := #[.val (.ref r0), .val (.int (0 : Int32)), .val (.int (4 : Int32)), .val (.ref b21), .unset, .unset]) rfl (XS.aloadN X21.here hx rfl (hb hby djdk_52_16_4) rfl rfl (XS.iloadN X21.here hx rfl (hb hby djdk_52_16_5) rfl (XS.aloadN X21.here hx rfl (hb hby djdk_52_16_6) rfl rfl k)))))) ?_
  obtain ⟨_, _, ⟨T22, L22, k22, n22⟩, -, X22, ⟨Lc22, hQ22, l22, y22, z22⟩, st22⟩ := Jvm.LawKit.callS X21 hx (y := (⟨"java/lang/StringUTF16", "compress", "([CI[BII)I"⟩ : MethodName)) hown (mvT hZ (own_w hw 26)) (mvT hZ (own_w hw 27)) (mvT hZ (own_w hw 23)) (mvT hZ (own_w hw 28)) (by decide) (backOf (W := 0) (rmcb4 l Z a0 hw [] r0 b21 kC k21 c0 c1 c2 c3 h21 n0 (own_le O21) O21 (V0.ext E21) V_b21 g_b21 ne_r0_b21 hc_c0 hc_c1 hc_c2 hc_c3) hZ (own_w hw 28) (own_w hw 23) (by decide) (by decide)) (g := (mkF m 9 #[.val (.ref r0), .val (.int (0 : Int32)), .val (.int (4 : Int32)), .val (.ref b21), .unset, .unset] [(.int (4 : Int32)), (.int (0 : Int32)), (.ref b21), (.int (0 : Int32)), (.ref r0)])) rfl (by rw [hml]; rfl) (argsL := [(.ref r0), (.int (0 : Int32)), (.ref b21), (.int (0 : Int32)), (.int (4 : Int32))]) (rest := []) (lenOf pd_3 rfl) rfl (by show 2 * 0 + _ ≤ _; exact Nat.le_of_eq rfl) (hb hby djdk_52_16_9) (fun _ _ => ⟨rfl, e21, (by decide : 1 + 0 ≤ _), (by decide : 4 + 0 ≤ _)⟩)
  dsimp only [Pt.U, Pt.locs, Pt.cells, Pt.slots] at X22 l22 y22 z22 st22 hQ22
  subst l22 y22 z22
  obtain ⟨rfl, N22q, Kq22, Vq22⟩ := hQ22
  have O22 := Old.keep O21 Kq22 (allS g_b21 all0)
  have K22 := Keep.trans K21 Kq22 (allS (Or.inr sz_b21) all0)
  have N22 := Fr.app N0 N22q
  refine own_by (W' := (T22.setTop (mkF m 17 #[.val (.ref r0), .val (.int (0 : Int32)), .val (.int (4 : Int32)), .val (.ref b21), .val (.int (4 : Int32)), .unset] [(.int (4 : Int32)), (.int (4 : Int32))]))) (fun t k => XS.iconst X21.here hx rfl (hb hby djdk_52_16_7) (XS.iloadN X21.here hx rfl (hb hby djdk_52_16_8) rfl (st22 _ (XS.istore X22.here hx rfl (hb hby djdk_52_16_12) rfl (l' := #[.val (.ref r0), .val (.int (0 : Int32)), .val (.int (4 : Int32)), .val (.ref b21), .val (.int (4 : Int32)), .unset]) rfl (XS.iload X22.here hx rfl (hb hby djdk_52_16_14) rfl (XS.iloadN X22.here hx rfl (hb hby djdk_52_16_16) rfl k)))))) ?_
  obtain ⟨fs, hr, hrun, hended, hW, hsame⟩ := X22.leave (v := some (.ref b21)) (fun h => by rw [Bd.returns] at h; cases h)
  refine own_by (W' := (T22.setTop (mkF m 58 #[.val (.ref r0), .val (.int (0 : Int32)), .val (.int (4 : Int32)), .val (.ref b21), .val (.int (4 : Int32)), .unset] [(.ref b21)]))) (fun t k => XS.icmpYes X22.here hx rfl (pc0 := 17) (pc' := 57) rfl (hb hby djdk_52_16_17) rfl (teq (rfl : (4 : Int32) = (4 : Int32))).1 (by decide) (by decide) (XS.aloadN X22.here hx rfl (hb hby djdk_52_16_57) rfl rfl k)) ?_
  refine ⟨_, _, retOut X22 hx Bd.returns rfl (Or.inr (Or.inr (Or.inr (Or.inr ⟨rfl, rfl, rfl⟩)))) (hb hby djdk_52_16_58) hr, hrun, hended, _, _, rfl, ?_, ⟨_, rfl⟩, hW, hsame.mono (by decide) (by decide)⟩
  show Qca4 Z r0 kC c0 c1 c2 c3 h0 n0 _ T22.heap _
  exact ⟨_, _, rfl, N22, K22, sz_b21, Vq22⟩
theorem efcd4 (m : MethodId) (r0 : Addr) : entryFrame m #[(.ref r0), (.int (4 : Int32))] 2 = mkF m 0 #[.val (.ref r0), .val (.int (4 : Int32))] [] := by first | (simp [entryFrame, mkF, argsToLocals, Value.category]; done) | rfl
def Qcd4 (Z : State) (r0 : Addr) (kB : ClassId) (vl : List Value) (h0 : Heap) (n0 : Nat) (v : Option Value) (h : Heap) (L : List Loc) : Prop := v = some (.int (0 : Int32)) ∧ Fr n0 L ∧ h = h0
abbrev own_Kcd4 (Z : State) (r0 : Addr) (kB : ClassId) (vl : List Value) (h0 : Heap) (n0 : Nat) (s : State) : Outcome → State → Prop := fun o U' => ∃ v L, o = .returned v ∧ Qcd4 Z r0 kB vl h0 n0 v U'.heap L ∧ FrameEnd s o U' L ({ frames := 0, cells := 0, slots := 0, locals := 0 } : Room).cells ({ frames := 0, cells := 0, slots := 0, locals := 0 } : Room).slots
set_option maxRecDepth 65536 in
set_option maxHeartbeats 40000000 in
theorem rmcd4 (l : Launch) (Z : State) (a0 : Array Value) (hw : ∀ d ∈ tables_1, d.before a0 Z = true) (ws : List Jvm.Cond) (r0 : Addr) (kB : ClassId) (vl : List Value) (h0 : Heap) (n0 : Nat) (Z0 : n0 ≤ h0.size) (V0 : Arv Z h0 r0 kB .byte (4 : Int32) vl (.int (0 : Int32))) :
    MetFree l (⟨"java/lang/StringUTF16", "coderFromArrayLen", "([BI)B"⟩ : MethodName) (head1 (Jvm.Cond.code (⟨"java/lang/StringUTF16", "coderFromArrayLen", "([BI)B"⟩ : MethodName) jdk_52_method_15_code 2 (some .byte) :: ws) ({ frames := 0, cells := 0, slots := 0, locals := 0 } : Room)) (fun a U => a = #[(.ref r0), (.int (4 : Int32))] ∧ Z.Warmed39 U.vm ∧ U.heap = h0) (fun _ _ _ _ _ => True) (fun _ U o U' => ∃ v L, o = .returned v ∧ Qcd4 Z r0 kB vl h0 n0 v U'.heap L ∧ FrameEnd U o U' L ({ frames := 0, cells := 0, slots := 0, locals := 0 } : Room).cells ({ frames := 0, cells := 0, slots := 0, locals := 0 } : Room).slots) := by
  refine MetFree.of_bodySF (plainFor_of_name pn_java_lang_StringUTF16) hisR ?_
  intro p e s m args below meth c s₁ Bd hml0 hP hK
  obtain ⟨rfl, hZ, hh⟩ := hP
  have hx := Bd.exec
  have hby := Bd.bytes
  have hml : c.maxLocals = 2 := hml0
  have hown : s.vm.findClass "java/lang/StringUTF16" = some m.cls := findClass_of_methodNamed Bd.named
  have hnm := (name_of_methodNamed Bd.named Bd.method).1
  have X0 : Stand p l e ({ frames := 0, cells := 0, slots := 0, locals := 0 } : Room) s m #[(.ref r0), (.int (4 : Int32))] below meth c s₁ [] 0 0 := Stand.of_body Bd
  have e0 : s₁.heap = h0 := by rw [← hh, Bd.state]; rfl
  have N0 := Fr.nil n0
  refine own_by (p := p) (e := e) (below := below) (K := own_Kcd4 Z r0 kB vl h0 n0 s) (W' := s₁.setTop (mkF m 0 #[.val (.ref r0), .val (.int (4 : Int32))] [])) (fun t k => castTop (efcd4 m r0) k) ?_
  obtain ⟨clu21, Aru21, qu21, Su21, Ngu21, Hau21, Gau21⟩ := id V0
  refine own_by (W' := (s₁.setTop (mkF m 3 #[.val (.ref r0), .val (.int (4 : Int32))] [(.int clu21.slots.size.toInt32), (.int (4 : Int32))]))) (fun t k => XS.iloadN X0.here hx rfl (hb hby djdk_52_15_0) rfl (XS.aloadN X0.here hx rfl (hb hby djdk_52_15_1) rfl rfl ((X0.arraylength hx (by rw [e0]; exact Aru21.1) (State.isArrayOf_alike hZ.alike Aru21.2.1) (g := (mkF m 2 #[.val (.ref r0), .val (.int (4 : Int32))] [(.ref r0), (.int (4 : Int32))])) rfl rfl (hb hby djdk_52_15_2)) _ k))) ?_
  rw [len_of Su21 Ngu21]
  obtain ⟨fs, hr, hrun, hended, hW, hsame⟩ := X0.leave (v := some (.int (((((4 : Int32) - (4 : Int32)).toUInt32 >>> ((31 : Int32) &&& 31).toUInt32).toInt32).toInt8.toInt32))) (fun h => by rw [Bd.returns] at h; cases h)
  refine own_by (W' := (s₁.setTop (mkF m 8 #[.val (.ref r0), .val (.int (4 : Int32))] [(.int (((((4 : Int32) - (4 : Int32)).toUInt32 >>> ((31 : Int32) &&& 31).toUInt32).toInt32).toInt8.toInt32))]))) (fun t k => XS.isub X0.here hx rfl (hb hby djdk_52_15_3) rfl (XS.bipush X0.here hx rfl (hb hby djdk_52_15_4) (XS.iushr X0.here hx rfl (hb hby djdk_52_15_6) rfl (XS.i2b X0.here hx rfl (hb hby djdk_52_15_7) rfl k)))) ?_
  refine ⟨_, _, retOut X0 hx Bd.returns rfl (Or.inl ⟨rfl, Or.inr (Or.inr (Or.inl rfl)), _, rfl⟩) (hb hby djdk_52_15_8) hr, hrun, hended, _, _, rfl, ?_, ⟨_, rfl⟩, hW, hsame.mono (by decide) (by decide)⟩
  exact ⟨by rfl, N0, e0⟩
theorem efsb4 (m : MethodId) (r0 : Addr) (r1 : Addr) : entryFrame m #[(.ref r0), (.ref r1), (.int (0 : Int32)), (.int (4 : Int32)), .null] 6 = mkF m 0 #[.val (.ref r0), .val (.ref r1), .val (.int (0 : Int32)), .val (.int (4 : Int32)), .val .null, .unset] [] := by first | (simp [entryFrame, mkF, argsToLocals, Value.category]; done) | rfl
def Qsb4 (Z : State) (r0 : Addr) (r1 : Addr) (kC : ClassId) (c0 : Int32) (c1 : Int32) (c2 : Int32) (c3 : Int32) (wALLOW : Addr) (wFORBID : Addr) (tALLOW : Addr) (tFORBID : Addr) (wV : Addr) (kwV : ClassId) (cs : Int32) (h0 : Heap) (n0 : Nat) (v : Option Value) (h : Heap) (L : List Loc) : Prop := v = none ∧ Fr n0 L ∧ Keep h0 h [r0] ∧ own_St Z h r0 (4 : Int32) [(.int (nar .byte (c0.toInt8.toInt32))), (.int (nar .byte (c1.toInt8.toInt32))), (.int (nar .byte (c2.toInt8.toInt32))), (.int (nar .byte (c3.toInt8.toInt32)))]
abbrev own_Ksb4 (Z : State) (r0 : Addr) (r1 : Addr) (kC : ClassId) (c0 : Int32) (c1 : Int32) (c2 : Int32) (c3 : Int32) (wALLOW : Addr) (wFORBID : Addr) (tALLOW : Addr) (tFORBID : Addr) (wV : Addr) (kwV : ClassId) (cs : Int32) (h0 : Heap) (n0 : Nat) (s : State) : Outcome → State → Prop := fun o U' => ∃ v L, o = .returned v ∧ Qsb4 Z r0 r1 kC c0 c1 c2 c3 wALLOW wFORBID tALLOW tFORBID wV kwV cs h0 n0 v U'.heap L ∧ FrameEnd s o U' L ({ frames := 2, cells := 1, slots := 4, locals := 35 } : Room).cells ({ frames := 2, cells := 1, slots := 4, locals := 35 } : Room).slots
set_option maxRecDepth 65536 in
set_option maxHeartbeats 40000000 in
theorem rmsb4 (l : Launch) (Z : State) (a0 : Array Value) (hw : ∀ d ∈ tables_1, d.before a0 Z = true) (ws : List Jvm.Cond) (r0 : Addr) (r1 : Addr) (kC : ClassId) (c0 : Int32) (c1 : Int32) (c2 : Int32) (c3 : Int32) (wALLOW : Addr) (wFORBID : Addr) (tALLOW : Addr) (tFORBID : Addr) (wV : Addr) (kwV : ClassId) (cs : Int32) (h0 : Heap) (n0 : Nat) (Z0 : n0 ≤ h0.size) (O0 : Old Z n0 h0) (HW : own_Wd Z wALLOW wFORBID tALLOW tFORBID wV kwV cs) (E0 : Exa Z h0 r0 "java/lang/String") (g_r0 : n0 ≤ r0) (F_value : Fld Z h0 r0 "java/lang/String" "value" "[B" .null) (F_coder : Fld Z h0 r0 "java/lang/String" "coder" "B" (.int (0 : Int32))) (V1 : Arv Z h0 r1 kC .char (4 : Int32) [(.int c0), (.int c1), (.int c2), (.int c3)] (.int (0 : Int32))) (hc_c0 : ¬ (255 : Int32) < c0) (hc_c1 : ¬ (255 : Int32) < c1) (hc_c2 : ¬ (255 : Int32) < c2) (hc_c3 : ¬ (255 : Int32) < c3) :
    MetFree l (⟨"java/lang/String", "<init>", "([CIILjava/lang/Void;)V"⟩ : MethodName) (head1 (Jvm.Cond.code (⟨"java/lang/String", "<init>", "([CIILjava/lang/Void;)V"⟩ : MethodName) jdk_42_method_149_code 6 none :: ws) ({ frames := 2, cells := 1, slots := 4, locals := 35 } : Room)) (fun a U => a = #[(.ref r0), (.ref r1), (.int (0 : Int32)), (.int (4 : Int32)), .null] ∧ Z.Warmed39 U.vm ∧ U.heap = h0) (fun _ _ _ _ _ => True) (fun _ U o U' => ∃ v L, o = .returned v ∧ Qsb4 Z r0 r1 kC c0 c1 c2 c3 wALLOW wFORBID tALLOW tFORBID wV kwV cs h0 n0 v U'.heap L ∧ FrameEnd U o U' L ({ frames := 2, cells := 1, slots := 4, locals := 35 } : Room).cells ({ frames := 2, cells := 1, slots := 4, locals := 35 } : Room).slots) := by
  refine MetFree.of_bodySF (plainFor_of_name pn_java_lang_String) hisR ?_
  intro p e s m args below meth c s₁ Bd hml0 hP hK
  obtain ⟨rfl, hZ, hh⟩ := hP
  have hx := Bd.exec
  have hby := Bd.bytes
  have hml : c.maxLocals = 6 := hml0
  have hown : s.vm.findClass "java/lang/String" = some m.cls := findClass_of_methodNamed Bd.named
  have hnm := (name_of_methodNamed Bd.named Bd.method).1
  have X0 : Stand p l e ({ frames := 2, cells := 1, slots := 4, locals := 35 } : Room) s m #[(.ref r0), (.ref r1), (.int (0 : Int32)), (.int (4 : Int32)), .null] below meth c s₁ [] 0 0 := Stand.of_body Bd
  have e0 : s₁.heap = h0 := by rw [← hh, Bd.state]; rfl
  have N0 := Fr.nil n0
  refine own_by (p := p) (e := e) (below := below) (K := own_Ksb4 Z r0 r1 kC c0 c1 c2 c3 wALLOW wFORBID tALLOW tFORBID wV kwV cs h0 n0 s) (W' := s₁.setTop (mkF m 0 #[.val (.ref r0), .val (.ref r1), .val (.int (0 : Int32)), .val (.int (4 : Int32)), .val .null, .unset] [])) (fun t k => castTop (efsb4 m r0 r1) k) ?_
  obtain ⟨T21, X21, e21, st21⟩ := initO X0 hx hZ hown (own_w hw 17) (own_w hw 18) (own_w hw 19) e0 (g := (mkF m 1 #[.val (.ref r0), .val (.ref r1), .val (.int (0 : Int32)), .val (.int (4 : Int32)), .val .null, .unset] [(.ref r0)])) rfl (by rw [hml]; rfl) rfl (hb hby djdk_42_149_1) (by decide) (W := 0) (by show 2 * 0 + _ ≤ _; exact Nat.le_of_eq rfl) (by decide)
  obtain ⟨T22, X22, e22, st22⟩ := getS (host := "") X21 hx hZ hown (own_w hw 20) Via.refl e21 (HW.2.2.2.2.2.2.2.2.2.2.2.2.2.1.ext O0.2) (g := (mkF m 27 #[.val (.ref r0), .val (.ref r1), .val (.int (0 : Int32)), .val (.int (4 : Int32)), .val .null, .unset] [])) rfl (hb hby djdk_42_149_27)
  refine own_by (W' := (T22.setTop (mkF m 33 #[.val (.ref r0), .val (.ref r1), .val (.int (0 : Int32)), .val (.int (4 : Int32)), .val .null, .unset] []))) (fun t k => XS.aloadN X0.here hx rfl (hb hby djdk_42_149_0) rfl rfl (st21 _ (XS.iloadN X21.here hx rfl (hb hby djdk_42_149_4) rfl (XS.ifYes X21.here hx rfl (pc0 := 5) (pc' := 27) rfl (hb hby djdk_42_149_5) rfl ((if0 _ _).trans (feq (by decide : ¬ ((4 : Int32) = (0 : Int32)))).2) (by decide) (by decide) (st22 _ (XS.ifNo X22.here hx rfl (hb hby djdk_42_149_30) rfl ((if0 _ _).trans (feq HW.2.2.2.2.2.2.2.2.2.2.2.2.2.2).1) k)))))) ?_
  obtain ⟨_, _, ⟨T23, L23, k23, n23⟩, -, X23, ⟨Lc23, hQ23, l23, y23, z23⟩, st23⟩ := Jvm.LawKit.callS X22 hx (y := (⟨"java/lang/StringUTF16", "compress", "([CII)[B"⟩ : MethodName)) hown (mvT hZ (own_w hw 21)) (mvT hZ (own_w hw 22)) (mvT hZ (own_w hw 23)) (mvT hZ (own_w hw 24)) (by decide) (backOf (W := 0) (rmca4 l Z a0 hw [] r1 kC c0 c1 c2 c3 h0 n0 Z0 O0 V1 hc_c0 hc_c1 hc_c2 hc_c3) hZ (own_w hw 24) (own_w hw 23) (by decide) (by decide)) (g := (mkF m 36 #[.val (.ref r0), .val (.ref r1), .val (.int (0 : Int32)), .val (.int (4 : Int32)), .val .null, .unset] [(.int (4 : Int32)), (.int (0 : Int32)), (.ref r1)])) rfl (by rw [hml]; rfl) (argsL := [(.ref r1), (.int (0 : Int32)), (.int (4 : Int32))]) (rest := []) (lenOf pd_4 rfl) rfl (by show 2 * 0 + _ ≤ _; exact Nat.le_of_eq rfl) (hb hby djdk_42_149_36) (fun _ _ => ⟨rfl, e22, (by decide : 0 + 1 ≤ _), (by decide : 0 + 4 ≤ _)⟩)
  dsimp only [Pt.U, Pt.locs, Pt.cells, Pt.slots] at X23 l23 y23 z23 st23 hQ23
  subst l23 y23 z23
  obtain ⟨fb23, kb23, rfl, N23q, Kq23, hsz23, Vq23⟩ := hQ23
  have ne_r0_fb23 : r0 ≠ fb23 := Nat.ne_of_lt (Nat.lt_of_lt_of_le E0.lt hsz23)
  have ne_r1_fb23 : r1 ≠ fb23 := Nat.ne_of_lt (Nat.lt_of_lt_of_le V1.lt hsz23)
  have O23 := Old.keep O0 Kq23 all0
  have K23 := Keep.trans (Keep.refl h0 [r0]) Kq23 all0
  have N23 := Fr.app N0 N23q
  refine own_by (W' := (T23.setTop (mkF m 42 #[.val (.ref r0), .val (.ref r1), .val (.int (0 : Int32)), .val (.int (4 : Int32)), .val .null, .val (.ref fb23)] [(.ref r0)]))) (fun t k => XS.aloadN X22.here hx rfl (hb hby djdk_42_149_33) rfl rfl (XS.iloadN X22.here hx rfl (hb hby djdk_42_149_34) rfl (XS.iloadN X22.here hx rfl (hb hby djdk_42_149_35) rfl (st23 _ (XS.astore X23.here hx rfl (hb hby djdk_42_149_39) rfl rfl (l' := #[.val (.ref r0), .val (.ref r1), .val (.int (0 : Int32)), .val (.int (4 : Int32)), .val .null, .val (.ref fb23)]) rfl (XS.aloadN X23.here hx rfl (hb hby djdk_42_149_41) rfl rfl k)))))) ?_
  obtain ⟨_, _, ⟨T24, L24, k24, n24⟩, -, X24, ⟨Lc24, hQ24, l24, y24, z24⟩, st24⟩ := Jvm.LawKit.callS X23 hx (y := (⟨"java/lang/StringUTF16", "coderFromArrayLen", "([BI)B"⟩ : MethodName)) hown (mvT hZ (own_w hw 29)) (mvT hZ (own_w hw 30)) (mvT hZ (own_w hw 23)) (mvT hZ (own_w hw 31)) (by decide) (backOf (W := 1) (rmcd4 l Z a0 hw [] fb23 kb23 [(.int (nar .byte (c0.toInt8.toInt32))), (.int (nar .byte (c1.toInt8.toInt32))), (.int (nar .byte (c2.toInt8.toInt32))), (.int (nar .byte (c3.toInt8.toInt32)))] T23.heap n0 (own_le O23) Vq23) hZ (own_w hw 31) (own_w hw 23) (by decide) (by decide)) (g := (mkF m 45 #[.val (.ref r0), .val (.ref r1), .val (.int (0 : Int32)), .val (.int (4 : Int32)), .val .null, .val (.ref fb23)] [(.int (4 : Int32)), (.ref fb23), (.ref r0)])) rfl (by rw [hml]; rfl) (argsL := [(.ref fb23), (.int (4 : Int32))]) (rest := [(.ref r0)]) (lenOf pd_5 rfl) rfl (by show 2 * 0 + _ ≤ _; exact Nat.le_of_eq rfl) (hb hby djdk_42_149_45) (fun _ _ => ⟨rfl, rfl, (by decide : 1 + 0 ≤ _), (by decide : 4 + 0 ≤ _)⟩)
  dsimp only [Pt.U, Pt.locs, Pt.cells, Pt.slots] at X24 l24 y24 z24 st24 hQ24
  subst l24 y24 z24
  obtain ⟨rfl, N24q, e24⟩ := hQ24
  have N24 := Fr.app N23 N24q
  obtain ⟨T25, h25, X25, e25, W25, st25⟩ := putFN X24 hx hZ hown (own_w hw 32) Via.refl e24 (F_coder.keep Kq23 nin0) (E0.keep Kq23) (Or.inr ⟨(own_w hw 33), rfl, hnm⟩) (own_w hw 8) (ty := .byte) (v' := .int (0 : Int32)) (by decide) rfl (by decide) (g := (mkF m 48 #[.val (.ref r0), .val (.ref r1), .val (.int (0 : Int32)), .val (.int (4 : Int32)), .val .null, .val (.ref fb23)] [(.int (0 : Int32)), (.ref r0)])) rfl rfl (hb hby djdk_42_149_48)
  have Fw25 := (F_coder.keep Kq23 nin0).same W25
  have O25 := Old.wr O23 W25 g_r0
  have N25 := Fr.snoc X25 N24 g_r0
  have K25 := Keep.wr K23 W25 (Or.inl (List.mem_of_getElem? (i := 0) rfl))
  refine own_by (W' := (T25.setTop (mkF m 54 #[.val (.ref r0), .val (.ref r1), .val (.int (0 : Int32)), .val (.int (4 : Int32)), .val .null, .val (.ref fb23)] [(.ref fb23), (.ref r0)]))) (fun t k => XS.aload X23.here hx rfl (hb hby djdk_42_149_42) rfl rfl (XS.iloadN X23.here hx rfl (hb hby djdk_42_149_44) rfl (st24 _ (st25 _ (XS.aloadN X25.here hx rfl (hb hby djdk_42_149_51) rfl rfl (XS.aload X25.here hx rfl (hb hby djdk_42_149_52) rfl rfl k)))))) ?_
  obtain ⟨T26, h26, X26, e26, W26, st26⟩ := putF X25 hx hZ hown (host := "") (Or.inl (own_w hw 34)) Via.refl e25 ((F_value.keep Kq23 nin0).other W25 (Or.inr (slot_ne (Or.inr (own_w hw 35)) (Or.inr (own_w hw 33)) (by decide) (t := (.array .byte)) (t' := .byte) (by decide) (by decide)))) ((E0.keep Kq23).wr W25) (Or.inr ⟨(own_w hw 35), rfl, hnm⟩) (own_w hw 8) (ty := (.array .byte)) (by decide) rfl rfl (g := (mkF m 54 #[.val (.ref r0), .val (.ref r1), .val (.int (0 : Int32)), .val (.int (4 : Int32)), .val .null, .val (.ref fb23)] [(.ref fb23), (.ref r0)])) rfl rfl (hb hby djdk_42_149_54)
  have Fw26 := ((F_value.keep Kq23 nin0).other W25 (Or.inr (slot_ne (Or.inr (own_w hw 35)) (Or.inr (own_w hw 33)) (by decide) (t := (.array .byte)) (t' := .byte) (by decide) (by decide)))).same W26
  have O26 := Old.wr O25 W26 g_r0
  have N26 := Fr.snoc X26 N25 g_r0
  have K26 := Keep.wr K25 W26 (Or.inl (List.mem_of_getElem? (i := 0) rfl))
  obtain ⟨fs, hr, hrun, hended, hW, hsame⟩ := X26.leave (v := none) (fun _ => rfl)
  refine own_by (W' := (T26.setTop (mkF m 57 #[.val (.ref r0), .val (.ref r1), .val (.int (0 : Int32)), .val (.int (4 : Int32)), .val .null, .val (.ref fb23)] []))) (fun t k => st26 _ k) ?_
  refine ⟨_, _, X26.returnOut hx Bd.returns (hb hby djdk_42_149_57) hr, hrun, hended, _, _, rfl, ?_, ⟨_, rfl⟩, hW, hsame.mono (by decide) (by decide)⟩
  show Qsb4 Z r0 r1 kC c0 c1 c2 c3 wALLOW wFORBID tALLOW tFORBID wV kwV cs h0 n0 _ T26.heap _
  rw [e26]
  exact ⟨rfl, N26, K26, (((E0.keep Kq23).wr W25).wr W26), (Fw25.other W26 (Or.inr (slot_ne (Or.inr (own_w hw 33)) (Or.inr (own_w hw 35)) (by decide) (t := .byte) (t' := (.array .byte)) (by decide) (by decide)))), _, _, Fw26, ((Vq23.other W25 ne_r0_fb23.symm).other W26 ne_r0_fb23.symm)⟩
theorem efsa4 (m : MethodId) (r0 : Addr) (r1 : Addr) : entryFrame m #[(.ref r0), (.ref r1)] 2 = mkF m 0 #[.val (.ref r0), .val (.ref r1)] [] := by first | (simp [entryFrame, mkF, argsToLocals, Value.category]; done) | rfl
def Qsa4 (Z : State) (r0 : Addr) (r1 : Addr) (kC : ClassId) (c0 : Int32) (c1 : Int32) (c2 : Int32) (c3 : Int32) (wALLOW : Addr) (wFORBID : Addr) (tALLOW : Addr) (tFORBID : Addr) (wV : Addr) (kwV : ClassId) (cs : Int32) (h0 : Heap) (n0 : Nat) (v : Option Value) (h : Heap) (L : List Loc) : Prop := v = none ∧ Fr n0 L ∧ Keep h0 h [r0] ∧ own_St Z h r0 (4 : Int32) [(.int (nar .byte (c0.toInt8.toInt32))), (.int (nar .byte (c1.toInt8.toInt32))), (.int (nar .byte (c2.toInt8.toInt32))), (.int (nar .byte (c3.toInt8.toInt32)))]
abbrev own_Ksa4 (Z : State) (r0 : Addr) (r1 : Addr) (kC : ClassId) (c0 : Int32) (c1 : Int32) (c2 : Int32) (c3 : Int32) (wALLOW : Addr) (wFORBID : Addr) (tALLOW : Addr) (tFORBID : Addr) (wV : Addr) (kwV : ClassId) (cs : Int32) (h0 : Heap) (n0 : Nat) (s : State) : Outcome → State → Prop := fun o U' => ∃ v L, o = .returned v ∧ Qsa4 Z r0 r1 kC c0 c1 c2 c3 wALLOW wFORBID tALLOW tFORBID wV kwV cs h0 n0 v U'.heap L ∧ FrameEnd s o U' L ({ frames := 3, cells := 1, slots := 4, locals := 52 } : Room).cells ({ frames := 3, cells := 1, slots := 4, locals := 52 } : Room).slots
set_option maxRecDepth 65536 in
set_option maxHeartbeats 40000000 in
theorem rmsa4 (l : Launch) (Z : State) (a0 : Array Value) (hw : ∀ d ∈ tables_1, d.before a0 Z = true) (ws : List Jvm.Cond) (r0 : Addr) (r1 : Addr) (kC : ClassId) (c0 : Int32) (c1 : Int32) (c2 : Int32) (c3 : Int32) (wALLOW : Addr) (wFORBID : Addr) (tALLOW : Addr) (tFORBID : Addr) (wV : Addr) (kwV : ClassId) (cs : Int32) (h0 : Heap) (n0 : Nat) (Z0 : n0 ≤ h0.size) (O0 : Old Z n0 h0) (HW : own_Wd Z wALLOW wFORBID tALLOW tFORBID wV kwV cs) (E0 : Exa Z h0 r0 "java/lang/String") (g_r0 : n0 ≤ r0) (F_value : Fld Z h0 r0 "java/lang/String" "value" "[B" .null) (F_coder : Fld Z h0 r0 "java/lang/String" "coder" "B" (.int (0 : Int32))) (V1 : Arv Z h0 r1 kC .char (4 : Int32) [(.int c0), (.int c1), (.int c2), (.int c3)] (.int (0 : Int32))) (hc_c0 : ¬ (255 : Int32) < c0) (hc_c1 : ¬ (255 : Int32) < c1) (hc_c2 : ¬ (255 : Int32) < c2) (hc_c3 : ¬ (255 : Int32) < c3) :
    MetFree l (⟨"java/lang/String", "<init>", "([C)V"⟩ : MethodName) (head1 (Jvm.Cond.code (⟨"java/lang/String", "<init>", "([C)V"⟩ : MethodName) jdk_42_method_3_code 2 none :: ws) ({ frames := 3, cells := 1, slots := 4, locals := 52 } : Room)) (fun a U => a = #[(.ref r0), (.ref r1)] ∧ Z.Warmed39 U.vm ∧ U.heap = h0) (fun _ _ _ _ _ => True) (fun _ U o U' => ∃ v L, o = .returned v ∧ Qsa4 Z r0 r1 kC c0 c1 c2 c3 wALLOW wFORBID tALLOW tFORBID wV kwV cs h0 n0 v U'.heap L ∧ FrameEnd U o U' L ({ frames := 3, cells := 1, slots := 4, locals := 52 } : Room).cells ({ frames := 3, cells := 1, slots := 4, locals := 52 } : Room).slots) := by
  refine MetFree.of_bodySF (plainFor_of_name pn_java_lang_String) hisR ?_
  intro p e s m args below meth c s₁ Bd hml0 hP hK
  obtain ⟨rfl, hZ, hh⟩ := hP
  have hx := Bd.exec
  have hby := Bd.bytes
  have hml : c.maxLocals = 2 := hml0
  have hown : s.vm.findClass "java/lang/String" = some m.cls := findClass_of_methodNamed Bd.named
  have hnm := (name_of_methodNamed Bd.named Bd.method).1
  have X0 : Stand p l e ({ frames := 3, cells := 1, slots := 4, locals := 52 } : Room) s m #[(.ref r0), (.ref r1)] below meth c s₁ [] 0 0 := Stand.of_body Bd
  have e0 : s₁.heap = h0 := by rw [← hh, Bd.state]; rfl
  have N0 := Fr.nil n0
  refine own_by (p := p) (e := e) (below := below) (K := own_Ksa4 Z r0 r1 kC c0 c1 c2 c3 wALLOW wFORBID tALLOW tFORBID wV kwV cs h0 n0 s) (W' := s₁.setTop (mkF m 0 #[.val (.ref r0), .val (.ref r1)] [])) (fun t k => castTop (efsa4 m r0 r1) k) ?_
  obtain ⟨clu21, Aru21, qu21, Su21, Ngu21, Hau21, Gau21⟩ := id V1
  refine own_by (W' := (s₁.setTop (mkF m 5 #[.val (.ref r0), .val (.ref r1)] [(.int clu21.slots.size.toInt32), (.int (0 : Int32)), (.ref r1), (.ref r0)]))) (fun t k => XS.aloadN X0.here hx rfl (hb hby djdk_42_3_0) rfl rfl (XS.aloadN X0.here hx rfl (hb hby djdk_42_3_1) rfl rfl (XS.iconst X0.here hx rfl (hb hby djdk_42_3_2) (XS.aloadN X0.here hx rfl (hb hby djdk_42_3_3) rfl rfl ((X0.arraylength hx (by rw [e0]; exact Aru21.1) (State.isArrayOf_alike hZ.alike Aru21.2.1) (g := (mkF m 4 #[.val (.ref r0), .val (.ref r1)] [(.ref r1), (.int (0 : Int32)), (.ref r1), (.ref r0)])) rfl rfl (hb hby djdk_42_3_4)) _ k))))) ?_
  rw [len_of Su21 Ngu21]
  obtain ⟨_, _, ⟨T22, L22, k22, n22⟩, -, X22, ⟨Lc22, hQ22, l22, y22, z22⟩, st22⟩ := X0.specialBack hx (y := (⟨"java/lang/String", "<init>", "([CIILjava/lang/Void;)V"⟩ : MethodName)) rfl hown (mvT hZ (own_w hw 13)) (mvT hZ (own_w hw 14)) (mvT hZ (own_w hw 16)) (by decide) (backOf (W := 0) (rmsb4 l Z a0 hw [] r0 r1 kC c0 c1 c2 c3 wALLOW wFORBID tALLOW tFORBID wV kwV cs h0 n0 Z0 O0 HW E0 g_r0 F_value F_coder V1 hc_c0 hc_c1 hc_c2 hc_c3) hZ (own_w hw 16) (own_w hw 9) (by decide) (by decide)) (g := (mkF m 6 #[.val (.ref r0), .val (.ref r1)] [.null, (.int (4 : Int32)), (.int (0 : Int32)), (.ref r1), (.ref r0)])) rfl (by rw [hml]; rfl) (Steps.refl _) (a := r0) (argsL := [(.ref r1), (.int (0 : Int32)), (.int (4 : Int32)), .null]) (rest := []) (lenOf pd_1 rfl) rfl (by show 2 * 0 + _ ≤ _; exact Nat.le_of_eq rfl) (hb hby djdk_42_3_6) (fun _ _ => ⟨rfl, e0, (by decide : 0 + 1 ≤ _), (by decide : 0 + 4 ≤ _)⟩)
  dsimp only [Pt.U, Pt.locs, Pt.cells, Pt.slots] at X22 l22 y22 z22 st22 hQ22
  subst l22 y22 z22
  obtain ⟨rfl, N22q, Kq22, Tq22⟩ := hQ22
  have O22 := Old.keep O0 Kq22 (allS g_r0 all0)
  have K22 := Keep.trans (Keep.refl h0 [r0]) Kq22 (allS (Or.inl (List.mem_of_getElem? (i := 0) rfl)) all0)
  have N22 := Fr.app N0 N22q
  obtain ⟨fs, hr, hrun, hended, hW, hsame⟩ := X22.leave (v := none) (fun _ => rfl)
  refine own_by (W' := (T22.setTop (mkF m 9 #[.val (.ref r0), .val (.ref r1)] []))) (fun t k => XS.aconstNull X0.here hx rfl (hb hby djdk_42_3_5) (Steps.trans st22 k)) ?_
  refine ⟨_, _, X22.returnOut hx Bd.returns (hb hby djdk_42_3_9) hr, hrun, hended, _, _, rfl, ?_, ⟨_, rfl⟩, hW, hsame.mono (by decide) (by decide)⟩
  show Qsa4 Z r0 r1 kC c0 c1 c2 c3 wALLOW wFORBID tALLOW tFORBID wV kwV cs h0 n0 _ T22.heap _
  exact ⟨rfl, N22, K22, Tq22⟩
theorem dmethod_3_99 : decode method_3_code 99 = .ok (.iload_n 1, 1) := by decide +kernel
theorem dmethod_3_100 : decode method_3_code 100 = .ok (.iconst 4, 1) := by decide +kernel
theorem dmethod_3_101 : decode method_3_code 101 = .ok (.if_icmp .ne 38, 3) := by decide +kernel
theorem dmethod_3_104 : decode method_3_code 104 = .ok (.new 19, 3) := by decide +kernel
theorem dmethod_3_107 : decode method_3_code 107 = .ok (.dup, 1) := by decide +kernel
theorem dmethod_3_108 : decode method_3_code 108 = .ok (.iconst 4, 1) := by decide +kernel
theorem dmethod_3_109 : decode method_3_code 109 = .ok (.newarray .char, 2) := by decide +kernel
theorem dmethod_3_111 : decode method_3_code 111 = .ok (.dup, 1) := by decide +kernel
theorem dmethod_3_112 : decode method_3_code 112 = .ok (.iconst 0, 1) := by decide +kernel
theorem dmethod_3_113 : decode method_3_code 113 = .ok (.aload_n 0, 1) := by decide +kernel
theorem dmethod_3_114 : decode method_3_code 114 = .ok (.iconst 0, 1) := by decide +kernel
theorem dmethod_3_115 : decode method_3_code 115 = .ok (.caload, 1) := by decide +kernel
theorem dmethod_3_116 : decode method_3_code 116 = .ok (.castore, 1) := by decide +kernel
theorem dmethod_3_117 : decode method_3_code 117 = .ok (.dup, 1) := by decide +kernel
theorem dmethod_3_118 : decode method_3_code 118 = .ok (.iconst 1, 1) := by decide +kernel
theorem dmethod_3_119 : decode method_3_code 119 = .ok (.aload_n 0, 1) := by decide +kernel
theorem dmethod_3_120 : decode method_3_code 120 = .ok (.iconst 1, 1) := by decide +kernel
theorem dmethod_3_121 : decode method_3_code 121 = .ok (.caload, 1) := by decide +kernel
theorem dmethod_3_122 : decode method_3_code 122 = .ok (.castore, 1) := by decide +kernel
theorem dmethod_3_123 : decode method_3_code 123 = .ok (.dup, 1) := by decide +kernel
theorem dmethod_3_124 : decode method_3_code 124 = .ok (.iconst 2, 1) := by decide +kernel
theorem dmethod_3_125 : decode method_3_code 125 = .ok (.aload_n 0, 1) := by decide +kernel
theorem dmethod_3_126 : decode method_3_code 126 = .ok (.iconst 2, 1) := by decide +kernel
theorem dmethod_3_127 : decode method_3_code 127 = .ok (.caload, 1) := by decide +kernel
theorem dmethod_3_128 : decode method_3_code 128 = .ok (.castore, 1) := by decide +kernel
theorem dmethod_3_129 : decode method_3_code 129 = .ok (.dup, 1) := by decide +kernel
theorem dmethod_3_130 : decode method_3_code 130 = .ok (.iconst 3, 1) := by decide +kernel
theorem dmethod_3_131 : decode method_3_code 131 = .ok (.aload_n 0, 1) := by decide +kernel
theorem dmethod_3_132 : decode method_3_code 132 = .ok (.iconst 3, 1) := by decide +kernel
theorem dmethod_3_133 : decode method_3_code 133 = .ok (.caload, 1) := by decide +kernel
theorem dmethod_3_134 : decode method_3_code 134 = .ok (.castore, 1) := by decide +kernel
theorem dmethod_3_135 : decode method_3_code 135 = .ok (.invokespecial 39, 3) := by decide +kernel
theorem dmethod_3_138 : decode method_3_code 138 = .ok (.areturn, 1) := by decide +kernel
theorem efmk4 (m : MethodId) (r0 : Addr) : entryFrame m #[(.ref r0), (.int (4 : Int32))] 2 = mkF m 0 #[.val (.ref r0), .val (.int (4 : Int32))] [] := by first | (simp [entryFrame, mkF, argsToLocals, Value.category]; done) | rfl
def Qmk4 (Z : State) (r0 : Addr) (kC : ClassId) (c0 : Int32) (c1 : Int32) (c2 : Int32) (c3 : Int32) (c4 : Int32) (c5 : Int32) (wALLOW : Addr) (wFORBID : Addr) (tALLOW : Addr) (tFORBID : Addr) (wV : Addr) (kwV : ClassId) (cs : Int32) (h0 : Heap) (n0 : Nat) (v : Option Value) (h : Heap) (L : List Loc) : Prop := ∃ q : Addr, v = some (.ref q) ∧ Fr n0 L ∧ Keep h0 h [] ∧ h0.size ≤ q ∧ own_St Z h q (4 : Int32) [(.int (nar .byte (c0.toInt8.toInt32))), (.int (nar .byte (c1.toInt8.toInt32))), (.int (nar .byte (c2.toInt8.toInt32))), (.int (nar .byte (c3.toInt8.toInt32)))]
abbrev own_Kmk4 (Z : State) (r0 : Addr) (kC : ClassId) (c0 : Int32) (c1 : Int32) (c2 : Int32) (c3 : Int32) (c4 : Int32) (c5 : Int32) (wALLOW : Addr) (wFORBID : Addr) (tALLOW : Addr) (tFORBID : Addr) (wV : Addr) (kwV : ClassId) (cs : Int32) (h0 : Heap) (n0 : Nat) (s : State) : Outcome → State → Prop := fun o U' => ∃ v L, o = .returned v ∧ Qmk4 Z r0 kC c0 c1 c2 c3 c4 c5 wALLOW wFORBID tALLOW tFORBID wV kwV cs h0 n0 v U'.heap L ∧ FrameEnd s o U' L ({ frames := 4, cells := 3, slots := 12, locals := 66 } : Room).cells ({ frames := 4, cells := 3, slots := 12, locals := 66 } : Room).slots
set_option maxRecDepth 65536 in
set_option maxHeartbeats 40000000 in
theorem rmmk4 (l : Launch) (Z : State) (a0 : Array Value) (hw : ∀ d ∈ tables_1, d.before a0 Z = true) (ws : List Jvm.Cond) (r0 : Addr) (kC : ClassId) (c0 : Int32) (c1 : Int32) (c2 : Int32) (c3 : Int32) (c4 : Int32) (c5 : Int32) (wALLOW : Addr) (wFORBID : Addr) (tALLOW : Addr) (tFORBID : Addr) (wV : Addr) (kwV : ClassId) (cs : Int32) (h0 : Heap) (n0 : Nat) (Z0 : n0 ≤ h0.size) (O0 : Old Z n0 h0) (HW : own_Wd Z wALLOW wFORBID tALLOW tFORBID wV kwV cs) (V0 : Arv Z h0 r0 kC .char (6 : Int32) [(.int c0), (.int c1), (.int c2), (.int c3), (.int c4), (.int c5)] (.int (0 : Int32))) (hl_c0 : own_ch c0) (hl_c1 : own_ch c1) (hl_c2 : own_ch c2) (hl_c3 : own_ch c3) (hl_c4 : own_ch c4) (hl_c5 : own_ch c5) :
    MetFree l (⟨"com/example/claviger/claviger/engine/EffectNamedPinLaw", "make", "([CI)Ljava/lang/String;"⟩ : MethodName) (head1 (Jvm.Cond.code (⟨"com/example/claviger/claviger/engine/EffectNamedPinLaw", "make", "([CI)Ljava/lang/String;"⟩ : MethodName) method_3_code 2 (some (.object "java/lang/String")) :: ws) ({ frames := 4, cells := 3, slots := 12, locals := 66 } : Room)) (fun a U => a = #[(.ref r0), (.int (4 : Int32))] ∧ Z.Warmed39 U.vm ∧ U.heap = h0) (fun _ _ _ _ _ => True) (fun _ U o U' => ∃ v L, o = .returned v ∧ Qmk4 Z r0 kC c0 c1 c2 c3 c4 c5 wALLOW wFORBID tALLOW tFORBID wV kwV cs h0 n0 v U'.heap L ∧ FrameEnd U o U' L ({ frames := 4, cells := 3, slots := 12, locals := 66 } : Room).cells ({ frames := 4, cells := 3, slots := 12, locals := 66 } : Room).slots) := by
  refine MetFree.of_bodySF (plainFor_of_name pn_com_example_claviger_claviger_engine_EffectNamedPinLaw) hisR ?_
  intro p e s m args below meth c s₁ Bd hml0 hP hK
  obtain ⟨rfl, hZ, hh⟩ := hP
  have hx := Bd.exec
  have hby := Bd.bytes
  have hml : c.maxLocals = 2 := hml0
  have hown : s.vm.findClass "com/example/claviger/claviger/engine/EffectNamedPinLaw" = some m.cls := findClass_of_methodNamed Bd.named
  have hnm := (name_of_methodNamed Bd.named Bd.method).1
  have X0 : Stand p l e ({ frames := 4, cells := 3, slots := 12, locals := 66 } : Room) s m #[(.ref r0), (.int (4 : Int32))] below meth c s₁ [] 0 0 := Stand.of_body Bd
  have e0 : s₁.heap = h0 := by rw [← hh, Bd.state]; rfl
  have N0 := Fr.nil n0
  refine own_by (p := p) (e := e) (below := below) (K := own_Kmk4 Z r0 kC c0 c1 c2 c3 c4 c5 wALLOW wFORBID tALLOW tFORBID wV kwV cs h0 n0 s) (W' := s₁.setTop (mkF m 0 #[.val (.ref r0), .val (.int (4 : Int32))] [])) (fun t k => castTop (efmk4 m r0) k) ?_
  refine own_by (W' := (s₁.setTop (mkF m 38 #[.val (.ref r0), .val (.int (4 : Int32))] [(.int (4 : Int32))]))) (fun t k => XS.iloadN X0.here hx rfl (hb hby dmethod_3_0) rfl (XS.ifYes X0.here hx rfl (pc0 := 1) (pc' := 15) rfl (hb hby dmethod_3_1) rfl ((if0 _ _).trans (feq (by decide : ¬ ((4 : Int32) = (0 : Int32)))).2) (by decide) (by decide) (XS.iloadN X0.here hx rfl (hb hby dmethod_3_15) rfl (XS.iconst X0.here hx rfl (hb hby dmethod_3_16) (XS.icmpYes X0.here hx rfl (pc0 := 17) (pc' := 37) rfl (hb hby dmethod_3_17) rfl (feq (by decide : ¬ ((4 : Int32) = (1 : Int32)))).2 (by decide) (by decide) (XS.iloadN X0.here hx rfl (hb hby dmethod_3_37) rfl k)))))) ?_
  refine own_by (W' := (s₁.setTop (mkF m 100 #[.val (.ref r0), .val (.int (4 : Int32))] [(.int (4 : Int32))]))) (fun t k => XS.iconst X0.here hx rfl (hb hby dmethod_3_38) (XS.icmpYes X0.here hx rfl (pc0 := 39) (pc' := 65) rfl (hb hby dmethod_3_39) rfl (feq (by decide : ¬ ((4 : Int32) = (2 : Int32)))).2 (by decide) (by decide) (XS.iloadN X0.here hx rfl (hb hby dmethod_3_65) rfl (XS.iconst X0.here hx rfl (hb hby dmethod_3_66) (XS.icmpYes X0.here hx rfl (pc0 := 67) (pc' := 99) rfl (hb hby dmethod_3_67) rfl (feq (by decide : ¬ ((4 : Int32) = (3 : Int32)))).2 (by decide) (by decide) (XS.iloadN X0.here hx rfl (hb hby dmethod_3_99) rfl k)))))) ?_
  obtain ⟨T21, h21, X21, e21, E21, A21, D21, -, st21⟩ := newO X0 hx hZ hown (own_w hw 7) (own_w hw 8) (own_w hw 9) e0 (g := (mkF m 104 #[.val (.ref r0), .val (.int (4 : Int32))] [])) rfl (hb hby dmethod_3_104) (by decide) (by decide)
  obtain ⟨b21, g21⟩ : ∃ z, z = h0.size := ⟨_, rfl⟩
  rw [← g21] at A21 D21 st21
  have g_b21 : n0 ≤ b21 := Nat.le_trans (own_le O0) (Nat.le_of_eq g21.symm)
  have sz_b21 : h0.size ≤ b21 := Nat.le_trans (Keep.refl h0 []).1 (Nat.le_of_eq g21.symm)
  have ne_r0_b21 : r0 ≠ b21 := Nat.ne_of_lt (Nat.lt_of_lt_of_le V0.lt (Nat.le_of_eq g21.symm))
  have O21 := O0.ext E21
  have K21 := Keep.ext (Keep.refl h0 []) E21
  have F_coder_b21 : Fld Z h21 b21 "java/lang/String" "coder" "B" (.int (0 : Int32)) := D21 (Or.inr (own_w hw 33)) (ty := .byte) (by decide)
  have F_value_b21 : Fld Z h21 b21 "java/lang/String" "value" "[B" .null := D21 (Or.inr (own_w hw 35)) (ty := (.array .byte)) (by decide)
  obtain ⟨T22, h22, k22, X22, e22, E22, A22, st22⟩ := newP X21 hx hZ (own_w hw 1) e21 (g := (mkF m 109 #[.val (.ref r0), .val (.int (4 : Int32))] [(.int (4 : Int32)), (.ref b21), (.ref b21)])) rfl (hb hby dmethod_3_109) rfl (by decide) (cap := 4) (by decide) (by decide) (by decide) (by decide)
  obtain ⟨b22, g22⟩ : ∃ z, z = h21.size := ⟨_, rfl⟩
  rw [← g22] at A22 st22
  have g_b22 : n0 ≤ b22 := Nat.le_trans (own_le O21) (Nat.le_of_eq g22.symm)
  have sz_b22 : h0.size ≤ b22 := Nat.le_trans K21.1 (Nat.le_of_eq g22.symm)
  have ne_r0_b22 : r0 ≠ b22 := Nat.ne_of_lt (Nat.lt_of_lt_of_le (V0.ext E21).lt (Nat.le_of_eq g22.symm))
  have ne_b21_b22 : b21 ≠ b22 := Nat.ne_of_lt (Nat.lt_of_lt_of_le A21.lt (Nat.le_of_eq g22.symm))
  have O22 := O21.ext E22
  have K22 := Keep.ext K21 E22
  have V_b22 : Arv Z h22 b22 k22 .char (4 : Int32) [(.int (0 : Int32)), (.int (0 : Int32)), (.int (0 : Int32)), (.int (0 : Int32))] (.int (0 : Int32)) := (Arv.new A22 (by decide)).pad (pad_rep [] (.int (0 : Int32)) 4)
  refine own_by (W' := (T22.setTop (mkF m 111 #[.val (.ref r0), .val (.int (4 : Int32))] [(.ref b22), (.ref b21), (.ref b21)]))) (fun t k => XS.iconst X0.here hx rfl (hb hby dmethod_3_100) (XS.icmpNo X0.here hx rfl (hb hby dmethod_3_101) rfl (teq (rfl : (4 : Int32) = (4 : Int32))).2 (st21 _ (XS.dup X21.here hx rfl (hb hby dmethod_3_107) rfl rfl (XS.iconst X21.here hx rfl (hb hby dmethod_3_108) (st22 _ k)))))) ?_
  obtain ⟨clu23, Aru23, qu23, Su23, Ngu23, Hau23, Gau23⟩ := id ((V0.ext E21).ext E22)
  have hinu23 : ¬ ((0 : Int32) < 0 ∨ clu23.slots.size ≤ ((0 : Int32)).toNatClampNeg) := inb_of Su23 ⟨by decide, by decide⟩
  have hatu23 : clu23.slots[((0 : Int32)).toNatClampNeg]? = some (.int c0) := Has.at Hau23 hinu23 rfl
  obtain ⟨clu24, Aru24, qu24, Su24, Ngu24, Hau24, Gau24⟩ := id V_b22
  have hinu24 : ¬ ((0 : Int32) < 0 ∨ clu24.slots.size ≤ ((0 : Int32)).toNatClampNeg) := inb_of Su24 ⟨by decide, by decide⟩
  obtain ⟨T25, h25, X25, e25, W25, st25⟩ := stC X22 hx hZ e22 Aru24 (j := (0 : Int32)) hinu24 (g := (mkF m 116 #[.val (.ref r0), .val (.int (4 : Int32))] [(.int c0), (.int (0 : Int32)), (.ref b22), (.ref b22), (.ref b21), (.ref b21)])) rfl rfl (hb hby dmethod_3_116)
  have Vu24 : Arv Z h25 b22 k22 .char (4 : Int32) [(.int (nar .char c0)), (.int (0 : Int32)), (.int (0 : Int32)), (.int (0 : Int32))] (.int (0 : Int32)) := Arv.set Aru24 qu24 Su24 Ngu24 Hau24 Gau24 (fits_nar_char _) W25 0 rfl (Nat.le_of_ble_eq_true rfl)
  rw [show nar .char c0 = c0 from hl_c0.1] at Vu24
  have O25 := Old.wr O22 W25 g_b22
  have N25 := Fr.snoc X25 N0 g_b22
  have K25 := Keep.wr K22 W25 (Or.inr sz_b22)
  refine own_by (W' := (T25.setTop (mkF m 117 #[.val (.ref r0), .val (.int (4 : Int32))] [(.ref b22), (.ref b21), (.ref b21)]))) (fun t k => XS.dup X22.here hx rfl (hb hby dmethod_3_111) rfl rfl (XS.iconst X22.here hx rfl (hb hby dmethod_3_112) (XS.aloadN X22.here hx rfl (hb hby dmethod_3_113) rfl rfl (XS.iconst X22.here hx rfl (hb hby dmethod_3_114) ((X22.caload hx (j := (0 : Int32)) (v := (.int c0)) (by rw [e22]; exact Aru23.1) (State.isArrayOf_alike hZ.alike Aru23.2.1) Aru23.2.2 hinu23 hatu23 (g := (mkF m 115 #[.val (.ref r0), .val (.int (4 : Int32))] [(.int (0 : Int32)), (.ref r0), (.int (0 : Int32)), (.ref b22), (.ref b22), (.ref b21), (.ref b21)])) rfl rfl (hb hby dmethod_3_115)) _ (st25 _ k)))))) ?_
  obtain ⟨clu26, Aru26, qu26, Su26, Ngu26, Hau26, Gau26⟩ := id (((V0.ext E21).ext E22).other W25 ne_r0_b22)
  have hinu26 : ¬ ((1 : Int32) < 0 ∨ clu26.slots.size ≤ ((1 : Int32)).toNatClampNeg) := inb_of Su26 ⟨by decide, by decide⟩
  have hatu26 : clu26.slots[((1 : Int32)).toNatClampNeg]? = some (.int c1) := Has.at Hau26 hinu26 rfl
  obtain ⟨clu27, Aru27, qu27, Su27, Ngu27, Hau27, Gau27⟩ := id Vu24
  have hinu27 : ¬ ((1 : Int32) < 0 ∨ clu27.slots.size ≤ ((1 : Int32)).toNatClampNeg) := inb_of Su27 ⟨by decide, by decide⟩
  obtain ⟨T28, h28, X28, e28, W28, st28⟩ := stC X25 hx hZ e25 Aru27 (j := (1 : Int32)) hinu27 (g := (mkF m 122 #[.val (.ref r0), .val (.int (4 : Int32))] [(.int c1), (.int (1 : Int32)), (.ref b22), (.ref b22), (.ref b21), (.ref b21)])) rfl rfl (hb hby dmethod_3_122)
  have Vu27 : Arv Z h28 b22 k22 .char (4 : Int32) [(.int c0), (.int (nar .char c1)), (.int (0 : Int32)), (.int (0 : Int32))] (.int (0 : Int32)) := Arv.set Aru27 qu27 Su27 Ngu27 Hau27 Gau27 (fits_nar_char _) W28 1 rfl (Nat.le_of_ble_eq_true rfl)
  rw [show nar .char c1 = c1 from hl_c1.1] at Vu27
  have O28 := Old.wr O25 W28 g_b22
  have N28 := Fr.snoc X28 N25 g_b22
  have K28 := Keep.wr K25 W28 (Or.inr sz_b22)
  refine own_by (W' := (T28.setTop (mkF m 123 #[.val (.ref r0), .val (.int (4 : Int32))] [(.ref b22), (.ref b21), (.ref b21)]))) (fun t k => XS.dup X25.here hx rfl (hb hby dmethod_3_117) rfl rfl (XS.iconst X25.here hx rfl (hb hby dmethod_3_118) (XS.aloadN X25.here hx rfl (hb hby dmethod_3_119) rfl rfl (XS.iconst X25.here hx rfl (hb hby dmethod_3_120) ((X25.caload hx (j := (1 : Int32)) (v := (.int c1)) (by rw [e25]; exact Aru26.1) (State.isArrayOf_alike hZ.alike Aru26.2.1) Aru26.2.2 hinu26 hatu26 (g := (mkF m 121 #[.val (.ref r0), .val (.int (4 : Int32))] [(.int (1 : Int32)), (.ref r0), (.int (1 : Int32)), (.ref b22), (.ref b22), (.ref b21), (.ref b21)])) rfl rfl (hb hby dmethod_3_121)) _ (st28 _ k)))))) ?_
  obtain ⟨clu29, Aru29, qu29, Su29, Ngu29, Hau29, Gau29⟩ := id ((((V0.ext E21).ext E22).other W25 ne_r0_b22).other W28 ne_r0_b22)
  have hinu29 : ¬ ((2 : Int32) < 0 ∨ clu29.slots.size ≤ ((2 : Int32)).toNatClampNeg) := inb_of Su29 ⟨by decide, by decide⟩
  have hatu29 : clu29.slots[((2 : Int32)).toNatClampNeg]? = some (.int c2) := Has.at Hau29 hinu29 rfl
  obtain ⟨clu30, Aru30, qu30, Su30, Ngu30, Hau30, Gau30⟩ := id Vu27
  have hinu30 : ¬ ((2 : Int32) < 0 ∨ clu30.slots.size ≤ ((2 : Int32)).toNatClampNeg) := inb_of Su30 ⟨by decide, by decide⟩
  obtain ⟨T31, h31, X31, e31, W31, st31⟩ := stC X28 hx hZ e28 Aru30 (j := (2 : Int32)) hinu30 (g := (mkF m 128 #[.val (.ref r0), .val (.int (4 : Int32))] [(.int c2), (.int (2 : Int32)), (.ref b22), (.ref b22), (.ref b21), (.ref b21)])) rfl rfl (hb hby dmethod_3_128)
  have Vu30 : Arv Z h31 b22 k22 .char (4 : Int32) [(.int c0), (.int c1), (.int (nar .char c2)), (.int (0 : Int32))] (.int (0 : Int32)) := Arv.set Aru30 qu30 Su30 Ngu30 Hau30 Gau30 (fits_nar_char _) W31 2 rfl (Nat.le_of_ble_eq_true rfl)
  rw [show nar .char c2 = c2 from hl_c2.1] at Vu30
  have O31 := Old.wr O28 W31 g_b22
  have N31 := Fr.snoc X31 N28 g_b22
  have K31 := Keep.wr K28 W31 (Or.inr sz_b22)
  refine own_by (W' := (T31.setTop (mkF m 129 #[.val (.ref r0), .val (.int (4 : Int32))] [(.ref b22), (.ref b21), (.ref b21)]))) (fun t k => XS.dup X28.here hx rfl (hb hby dmethod_3_123) rfl rfl (XS.iconst X28.here hx rfl (hb hby dmethod_3_124) (XS.aloadN X28.here hx rfl (hb hby dmethod_3_125) rfl rfl (XS.iconst X28.here hx rfl (hb hby dmethod_3_126) ((X28.caload hx (j := (2 : Int32)) (v := (.int c2)) (by rw [e28]; exact Aru29.1) (State.isArrayOf_alike hZ.alike Aru29.2.1) Aru29.2.2 hinu29 hatu29 (g := (mkF m 127 #[.val (.ref r0), .val (.int (4 : Int32))] [(.int (2 : Int32)), (.ref r0), (.int (2 : Int32)), (.ref b22), (.ref b22), (.ref b21), (.ref b21)])) rfl rfl (hb hby dmethod_3_127)) _ (st31 _ k)))))) ?_
  obtain ⟨clu32, Aru32, qu32, Su32, Ngu32, Hau32, Gau32⟩ := id (((((V0.ext E21).ext E22).other W25 ne_r0_b22).other W28 ne_r0_b22).other W31 ne_r0_b22)
  have hinu32 : ¬ ((3 : Int32) < 0 ∨ clu32.slots.size ≤ ((3 : Int32)).toNatClampNeg) := inb_of Su32 ⟨by decide, by decide⟩
  have hatu32 : clu32.slots[((3 : Int32)).toNatClampNeg]? = some (.int c3) := Has.at Hau32 hinu32 rfl
  obtain ⟨clu33, Aru33, qu33, Su33, Ngu33, Hau33, Gau33⟩ := id Vu30
  have hinu33 : ¬ ((3 : Int32) < 0 ∨ clu33.slots.size ≤ ((3 : Int32)).toNatClampNeg) := inb_of Su33 ⟨by decide, by decide⟩
  obtain ⟨T34, h34, X34, e34, W34, st34⟩ := stC X31 hx hZ e31 Aru33 (j := (3 : Int32)) hinu33 (g := (mkF m 134 #[.val (.ref r0), .val (.int (4 : Int32))] [(.int c3), (.int (3 : Int32)), (.ref b22), (.ref b22), (.ref b21), (.ref b21)])) rfl rfl (hb hby dmethod_3_134)
  have Vu33 : Arv Z h34 b22 k22 .char (4 : Int32) [(.int c0), (.int c1), (.int c2), (.int (nar .char c3))] (.int (0 : Int32)) := Arv.set Aru33 qu33 Su33 Ngu33 Hau33 Gau33 (fits_nar_char _) W34 3 rfl (Nat.le_of_ble_eq_true rfl)
  rw [show nar .char c3 = c3 from hl_c3.1] at Vu33
  have O34 := Old.wr O31 W34 g_b22
  have N34 := Fr.snoc X34 N31 g_b22
  have K34 := Keep.wr K31 W34 (Or.inr sz_b22)
  refine own_by (W' := (T34.setTop (mkF m 135 #[.val (.ref r0), .val (.int (4 : Int32))] [(.ref b22), (.ref b21), (.ref b21)]))) (fun t k => XS.dup X31.here hx rfl (hb hby dmethod_3_129) rfl rfl (XS.iconst X31.here hx rfl (hb hby dmethod_3_130) (XS.aloadN X31.here hx rfl (hb hby dmethod_3_131) rfl rfl (XS.iconst X31.here hx rfl (hb hby dmethod_3_132) ((X31.caload hx (j := (3 : Int32)) (v := (.int c3)) (by rw [e31]; exact Aru32.1) (State.isArrayOf_alike hZ.alike Aru32.2.1) Aru32.2.2 hinu32 hatu32 (g := (mkF m 133 #[.val (.ref r0), .val (.int (4 : Int32))] [(.int (3 : Int32)), (.ref r0), (.int (3 : Int32)), (.ref b22), (.ref b22), (.ref b21), (.ref b21)])) rfl rfl (hb hby dmethod_3_133)) _ (st34 _ k)))))) ?_
  obtain ⟨_, _, ⟨T35, L35, k35, n35⟩, -, X35, ⟨Lc35, hQ35, l35, y35, z35⟩, st35⟩ := X34.specialBack hx (y := (⟨"java/lang/String", "<init>", "([C)V"⟩ : MethodName)) rfl hown (mvT hZ (own_w hw 10)) (mvT hZ (own_w hw 11)) (mvT hZ (own_w hw 12)) (by decide) (backOf (W := 1) (rmsa4 l Z a0 hw [] b21 b22 k22 c0 c1 c2 c3 wALLOW wFORBID tALLOW tFORBID wV kwV cs h34 n0 (own_le O34) O34 HW (((((A21.ext E22).wr W25).wr W28).wr W31).wr W34) g_b21 (((((F_value_b21.ext E22).other W25 (Or.inl ne_b21_b22)).other W28 (Or.inl ne_b21_b22)).other W31 (Or.inl ne_b21_b22)).other W34 (Or.inl ne_b21_b22)) (((((F_coder_b21.ext E22).other W25 (Or.inl ne_b21_b22)).other W28 (Or.inl ne_b21_b22)).other W31 (Or.inl ne_b21_b22)).other W34 (Or.inl ne_b21_b22)) Vu33 hl_c0.2 hl_c1.2 hl_c2.2 hl_c3.2) hZ (own_w hw 12) (own_w hw 9) (by decide) (by decide)) (g := (mkF m 135 #[.val (.ref r0), .val (.int (4 : Int32))] [(.ref b22), (.ref b21), (.ref b21)])) rfl (by rw [hml]; rfl) (Steps.refl _) (a := b21) (argsL := [(.ref b22)]) (rest := [(.ref b21)]) (lenOf pd_2 rfl) rfl (by show 2 * 0 + _ ≤ _; exact Nat.le_of_eq rfl) (hb hby dmethod_3_135) (fun _ _ => ⟨rfl, e34, (by decide : 2 + 1 ≤ _), (by decide : 8 + 4 ≤ _)⟩)
  dsimp only [Pt.U, Pt.locs, Pt.cells, Pt.slots] at X35 l35 y35 z35 st35 hQ35
  subst l35 y35 z35
  obtain ⟨rfl, N35q, Kq35, Tq35⟩ := hQ35
  have O35 := Old.keep O34 Kq35 (allS g_b21 all0)
  have K35 := Keep.trans K34 Kq35 (allS (Or.inr sz_b21) all0)
  have N35 := Fr.app N34 N35q
  obtain ⟨fs, hr, hrun, hended, hW, hsame⟩ := X35.leave (v := some (.ref b21)) (fun h => by rw [Bd.returns] at h; cases h)
  refine own_by (W' := (T35.setTop (mkF m 138 #[.val (.ref r0), .val (.int (4 : Int32))] [(.ref b21)]))) (fun t k => Steps.trans st35 k) ?_
  refine ⟨_, _, retOut X35 hx Bd.returns rfl (Or.inr (Or.inr (Or.inr (Or.inr ⟨rfl, rfl, rfl⟩)))) (hb hby dmethod_3_138) hr, hrun, hended, _, _, rfl, ?_, ⟨_, rfl⟩, hW, hsame.mono (by decide) (by decide)⟩
  show Qmk4 Z r0 kC c0 c1 c2 c3 c4 c5 wALLOW wFORBID tALLOW tFORBID wV kwV cs h0 n0 _ T35.heap _
  exact ⟨_, rfl, N35, K35, sz_b21, Tq35⟩
theorem efcb5 (m : MethodId) (r0 : Addr) (r2 : Addr) : entryFrame m #[(.ref r0), (.int (0 : Int32)), (.ref r2), (.int (0 : Int32)), (.int (5 : Int32))] 7 = mkF m 0 #[.val (.ref r0), .val (.int (0 : Int32)), .val (.ref r2), .val (.int (0 : Int32)), .val (.int (5 : Int32)), .unset, .unset] [] := by first | (simp [entryFrame, mkF, argsToLocals, Value.category]; done) | rfl
def Qcb5 (Z : State) (r0 : Addr) (r2 : Addr) (kC : ClassId) (kB : ClassId) (c0 : Int32) (c1 : Int32) (c2 : Int32) (c3 : Int32) (c4 : Int32) (h0 : Heap) (n0 : Nat) (v : Option Value) (h : Heap) (L : List Loc) : Prop := v = some (.int (5 : Int32)) ∧ Fr n0 L ∧ Keep h0 h [r2] ∧ Arv Z h r2 kB .byte (5 : Int32) [(.int (nar .byte (c0.toInt8.toInt32))), (.int (nar .byte (c1.toInt8.toInt32))), (.int (nar .byte (c2.toInt8.toInt32))), (.int (nar .byte (c3.toInt8.toInt32))), (.int (nar .byte (c4.toInt8.toInt32)))] (.int (0 : Int32))
abbrev own_Kcb5 (Z : State) (r0 : Addr) (r2 : Addr) (kC : ClassId) (kB : ClassId) (c0 : Int32) (c1 : Int32) (c2 : Int32) (c3 : Int32) (c4 : Int32) (h0 : Heap) (n0 : Nat) (s : State) : Outcome → State → Prop := fun o U' => ∃ v L, o = .returned v ∧ Qcb5 Z r0 r2 kC kB c0 c1 c2 c3 c4 h0 n0 v U'.heap L ∧ FrameEnd s o U' L ({ frames := 0, cells := 0, slots := 0, locals := 0 } : Room).cells ({ frames := 0, cells := 0, slots := 0, locals := 0 } : Room).slots
set_option maxRecDepth 65536 in
set_option maxHeartbeats 40000000 in
theorem rmcb5 (l : Launch) (Z : State) (a0 : Array Value) (hw : ∀ d ∈ tables_1, d.before a0 Z = true) (ws : List Jvm.Cond) (r0 : Addr) (r2 : Addr) (kC : ClassId) (kB : ClassId) (c0 : Int32) (c1 : Int32) (c2 : Int32) (c3 : Int32) (c4 : Int32) (h0 : Heap) (n0 : Nat) (Z0 : n0 ≤ h0.size) (O0 : Old Z n0 h0) (V0 : Arv Z h0 r0 kC .char (5 : Int32) [(.int c0), (.int c1), (.int c2), (.int c3), (.int c4)] (.int (0 : Int32))) (V2 : Arv Z h0 r2 kB .byte (5 : Int32) [(.int (0 : Int32)), (.int (0 : Int32)), (.int (0 : Int32)), (.int (0 : Int32)), (.int (0 : Int32))] (.int (0 : Int32))) (g_r2 : n0 ≤ r2) (hne : r0 ≠ r2) (hc_c0 : ¬ (255 : Int32) < c0) (hc_c1 : ¬ (255 : Int32) < c1) (hc_c2 : ¬ (255 : Int32) < c2) (hc_c3 : ¬ (255 : Int32) < c3) (hc_c4 : ¬ (255 : Int32) < c4) :
    MetFree l (⟨"java/lang/StringUTF16", "compress", "([CI[BII)I"⟩ : MethodName) (head1 (Jvm.Cond.code (⟨"java/lang/StringUTF16", "compress", "([CI[BII)I"⟩ : MethodName) jdk_52_method_21_code 7 (some .int) :: ws) ({ frames := 0, cells := 0, slots := 0, locals := 0 } : Room)) (fun a U => a = #[(.ref r0), (.int (0 : Int32)), (.ref r2), (.int (0 : Int32)), (.int (5 : Int32))] ∧ Z.Warmed39 U.vm ∧ U.heap = h0) (fun _ _ _ _ _ => True) (fun _ U o U' => ∃ v L, o = .returned v ∧ Qcb5 Z r0 r2 kC kB c0 c1 c2 c3 c4 h0 n0 v U'.heap L ∧ FrameEnd U o U' L ({ frames := 0, cells := 0, slots := 0, locals := 0 } : Room).cells ({ frames := 0, cells := 0, slots := 0, locals := 0 } : Room).slots) := by
  refine MetFree.of_bodySF (plainFor_of_name pn_java_lang_StringUTF16) hisR ?_
  intro p e s m args below meth c s₁ Bd hml0 hP hK
  obtain ⟨rfl, hZ, hh⟩ := hP
  have hx := Bd.exec
  have hby := Bd.bytes
  have hml : c.maxLocals = 7 := hml0
  have hown : s.vm.findClass "java/lang/StringUTF16" = some m.cls := findClass_of_methodNamed Bd.named
  have hnm := (name_of_methodNamed Bd.named Bd.method).1
  have X0 : Stand p l e ({ frames := 0, cells := 0, slots := 0, locals := 0 } : Room) s m #[(.ref r0), (.int (0 : Int32)), (.ref r2), (.int (0 : Int32)), (.int (5 : Int32))] below meth c s₁ [] 0 0 := Stand.of_body Bd
  have e0 : s₁.heap = h0 := by rw [← hh, Bd.state]; rfl
  have N0 := Fr.nil n0
  refine own_by (p := p) (e := e) (below := below) (K := own_Kcb5 Z r0 r2 kC kB c0 c1 c2 c3 c4 h0 n0 s) (W' := s₁.setTop (mkF m 0 #[.val (.ref r0), .val (.int (0 : Int32)), .val (.ref r2), .val (.int (0 : Int32)), .val (.int (5 : Int32)), .unset, .unset] [])) (fun t k => castTop (efcb5 m r0 r2) k) ?_
  refine own_by (W' := (s₁.setTop (mkF m 11 #[.val (.ref r0), .val (.int (0 : Int32)), .val (.ref r2), .val (.int (0 : Int32)), .val (.int (5 : Int32)), .val (.int (0 : Int32)), .unset] [(.ref r0)]))) (fun t k => XS.iconst X0.here hx rfl (hb hby djdk_52_21_0) (XS.istore X0.here hx rfl (hb hby djdk_52_21_1) rfl (l' := #[.val (.ref r0), .val (.int (0 : Int32)), .val (.ref r2), .val (.int (0 : Int32)), .val (.int (5 : Int32)), .val (.int (0 : Int32)), .unset]) rfl (XS.iload X0.here hx rfl (hb hby djdk_52_21_3) rfl (XS.iload X0.here hx rfl (hb hby djdk_52_21_5) rfl (XS.icmpNo X0.here hx rfl (hb hby djdk_52_21_7) rfl (tlt (by decide : (0 : Int32) < (5 : Int32))).2.1 (XS.aloadN X0.here hx rfl (hb hby djdk_52_21_10) rfl rfl k)))))) ?_
  obtain ⟨clu21, Aru21, qu21, Su21, Ngu21, Hau21, Gau21⟩ := id V0
  have hinu21 : ¬ ((0 : Int32) < 0 ∨ clu21.slots.size ≤ ((0 : Int32)).toNatClampNeg) := inb_of Su21 ⟨by decide, by decide⟩
  have hatu21 : clu21.slots[((0 : Int32)).toNatClampNeg]? = some (.int c0) := Has.at Hau21 hinu21 rfl
  refine own_by (W' := (s₁.setTop (mkF m 26 #[.val (.ref r0), .val (.int (0 : Int32)), .val (.ref r2), .val (.int (0 : Int32)), .val (.int (5 : Int32)), .val (.int (0 : Int32)), .val (.int c0)] []))) (fun t k => XS.iloadN X0.here hx rfl (hb hby djdk_52_21_11) rfl ((X0.caload hx (j := (0 : Int32)) (v := (.int c0)) (by rw [e0]; exact Aru21.1) (State.isArrayOf_alike hZ.alike Aru21.2.1) Aru21.2.2 hinu21 hatu21 (g := (mkF m 12 #[.val (.ref r0), .val (.int (0 : Int32)), .val (.ref r2), .val (.int (0 : Int32)), .val (.int (5 : Int32)), .val (.int (0 : Int32)), .unset] [(.int (0 : Int32)), (.ref r0)])) rfl rfl (hb hby djdk_52_21_12)) _ (XS.istore X0.here hx rfl (hb hby djdk_52_21_13) rfl (l' := #[.val (.ref r0), .val (.int (0 : Int32)), .val (.ref r2), .val (.int (0 : Int32)), .val (.int (5 : Int32)), .val (.int (0 : Int32)), .val (.int c0)]) rfl (XS.iload X0.here hx rfl (hb hby djdk_52_21_15) rfl (XS.sipush X0.here hx rfl (hb hby djdk_52_21_17) (XS.icmpYes X0.here hx rfl (pc0 := 20) (pc' := 26) rfl (hb hby djdk_52_21_20) rfl (flt hc_c0).2.2.2 (by decide) (by decide) k)))))) ?_
  obtain ⟨clu22, Aru22, qu22, Su22, Ngu22, Hau22, Gau22⟩ := id V2
  have hinu22 : ¬ ((0 : Int32) < 0 ∨ clu22.slots.size ≤ ((0 : Int32)).toNatClampNeg) := inb_of Su22 ⟨by decide, by decide⟩
  obtain ⟨T23, h23, X23, e23, W23, st23⟩ := stB X0 hx hZ e0 Aru22 (j := (0 : Int32)) hinu22 (g := (mkF m 31 #[.val (.ref r0), .val (.int (0 : Int32)), .val (.ref r2), .val (.int (0 : Int32)), .val (.int (5 : Int32)), .val (.int (0 : Int32)), .val (.int c0)] [(.int (c0.toInt8.toInt32)), (.int (0 : Int32)), (.ref r2)])) rfl rfl (hb hby djdk_52_21_31)
  have Vu22 : Arv Z h23 r2 kB .byte (5 : Int32) [(.int (nar .byte (c0.toInt8.toInt32))), (.int (0 : Int32)), (.int (0 : Int32)), (.int (0 : Int32)), (.int (0 : Int32))] (.int (0 : Int32)) := Arv.set Aru22 qu22 Su22 Ngu22 Hau22 Gau22 (fits_nar_byte _) W23 0 rfl (Nat.le_of_ble_eq_true rfl)
  have O23 := Old.wr O0 W23 g_r2
  have N23 := Fr.snoc X23 N0 g_r2
  have K23 := Keep.wr (Keep.refl h0 [r2]) W23 (Or.inl (List.mem_of_getElem? (i := 0) rfl))
  refine own_by (W' := (T23.setTop (mkF m 35 #[.val (.ref r0), .val (.int (1 : Int32)), .val (.ref r2), .val (.int (0 : Int32)), .val (.int (5 : Int32)), .val (.int (0 : Int32)), .val (.int c0)] []))) (fun t k => XS.aloadN X0.here hx rfl (hb hby djdk_52_21_26) rfl rfl (XS.iloadN X0.here hx rfl (hb hby djdk_52_21_27) rfl (XS.iload X0.here hx rfl (hb hby djdk_52_21_28) rfl (XS.i2b X0.here hx rfl (hb hby djdk_52_21_30) rfl (st23 _ (XS.iinc X23.here hx rfl (hb hby djdk_52_21_32) rfl (l' := #[.val (.ref r0), .val (.int (1 : Int32)), .val (.ref r2), .val (.int (0 : Int32)), .val (.int (5 : Int32)), .val (.int (0 : Int32)), .val (.int c0)]) rfl k)))))) ?_
  refine own_by (W' := (T23.setTop (mkF m 10 #[.val (.ref r0), .val (.int (1 : Int32)), .val (.ref r2), .val (.int (1 : Int32)), .val (.int (5 : Int32)), .val (.int (1 : Int32)), .val (.int c0)] []))) (fun t k => XS.iinc X23.here hx rfl (hb hby djdk_52_21_35) rfl (l' := #[.val (.ref r0), .val (.int (1 : Int32)), .val (.ref r2), .val (.int (1 : Int32)), .val (.int (5 : Int32)), .val (.int (0 : Int32)), .val (.int c0)]) rfl (XS.iinc X23.here hx rfl (hb hby djdk_52_21_38) rfl (l' := #[.val (.ref r0), .val (.int (1 : Int32)), .val (.ref r2), .val (.int (1 : Int32)), .val (.int (5 : Int32)), .val (.int (1 : Int32)), .val (.int c0)]) rfl (XS.goto X23.here hx rfl (pc0 := 41) (pc' := 3) rfl (hb hby djdk_52_21_41) (by decide) (by decide) (XS.iload X23.here hx rfl (hb hby djdk_52_21_3) rfl (XS.iload X23.here hx rfl (hb hby djdk_52_21_5) rfl (XS.icmpNo X23.here hx rfl (hb hby djdk_52_21_7) rfl (tlt (by decide : (1 : Int32) < (5 : Int32))).2.1 k)))))) ?_
  obtain ⟨clu24, Aru24, qu24, Su24, Ngu24, Hau24, Gau24⟩ := id (V0.other W23 hne)
  have hinu24 : ¬ ((1 : Int32) < 0 ∨ clu24.slots.size ≤ ((1 : Int32)).toNatClampNeg) := inb_of Su24 ⟨by decide, by decide⟩
  have hatu24 : clu24.slots[((1 : Int32)).toNatClampNeg]? = some (.int c1) := Has.at Hau24 hinu24 rfl
  refine own_by (W' := (T23.setTop (mkF m 20 #[.val (.ref r0), .val (.int (1 : Int32)), .val (.ref r2), .val (.int (1 : Int32)), .val (.int (5 : Int32)), .val (.int (1 : Int32)), .val (.int c1)] [(.int (255 : Int32)), (.int c1)]))) (fun t k => XS.aloadN X23.here hx rfl (hb hby djdk_52_21_10) rfl rfl (XS.iloadN X23.here hx rfl (hb hby djdk_52_21_11) rfl ((X23.caload hx (j := (1 : Int32)) (v := (.int c1)) (by rw [e23]; exact Aru24.1) (State.isArrayOf_alike hZ.alike Aru24.2.1) Aru24.2.2 hinu24 hatu24 (g := (mkF m 12 #[.val (.ref r0), .val (.int (1 : Int32)), .val (.ref r2), .val (.int (1 : Int32)), .val (.int (5 : Int32)), .val (.int (1 : Int32)), .val (.int c0)] [(.int (1 : Int32)), (.ref r0)])) rfl rfl (hb hby djdk_52_21_12)) _ (XS.istore X23.here hx rfl (hb hby djdk_52_21_13) rfl (l' := #[.val (.ref r0), .val (.int (1 : Int32)), .val (.ref r2), .val (.int (1 : Int32)), .val (.int (5 : Int32)), .val (.int (1 : Int32)), .val (.int c1)]) rfl (XS.iload X23.here hx rfl (hb hby djdk_52_21_15) rfl (XS.sipush X23.here hx rfl (hb hby djdk_52_21_17) k)))))) ?_
  obtain ⟨clu25, Aru25, qu25, Su25, Ngu25, Hau25, Gau25⟩ := id Vu22
  have hinu25 : ¬ ((1 : Int32) < 0 ∨ clu25.slots.size ≤ ((1 : Int32)).toNatClampNeg) := inb_of Su25 ⟨by decide, by decide⟩
  obtain ⟨T26, h26, X26, e26, W26, st26⟩ := stB X23 hx hZ e23 Aru25 (j := (1 : Int32)) hinu25 (g := (mkF m 31 #[.val (.ref r0), .val (.int (1 : Int32)), .val (.ref r2), .val (.int (1 : Int32)), .val (.int (5 : Int32)), .val (.int (1 : Int32)), .val (.int c1)] [(.int (c1.toInt8.toInt32)), (.int (1 : Int32)), (.ref r2)])) rfl rfl (hb hby djdk_52_21_31)
  have Vu25 : Arv Z h26 r2 kB .byte (5 : Int32) [(.int (nar .byte (c0.toInt8.toInt32))), (.int (nar .byte (c1.toInt8.toInt32))), (.int (0 : Int32)), (.int (0 : Int32)), (.int (0 : Int32))] (.int (0 : Int32)) := Arv.set Aru25 qu25 Su25 Ngu25 Hau25 Gau25 (fits_nar_byte _) W26 1 rfl (Nat.le_of_ble_eq_true rfl)
  have O26 := Old.wr O23 W26 g_r2
  have N26 := Fr.snoc X26 N23 g_r2
  have K26 := Keep.wr K23 W26 (Or.inl (List.mem_of_getElem? (i := 0) rfl))
  refine own_by (W' := (T26.setTop (mkF m 32 #[.val (.ref r0), .val (.int (1 : Int32)), .val (.ref r2), .val (.int (1 : Int32)), .val (.int (5 : Int32)), .val (.int (1 : Int32)), .val (.int c1)] []))) (fun t k => XS.icmpYes X23.here hx rfl (pc0 := 20) (pc' := 26) rfl (hb hby djdk_52_21_20) rfl (flt hc_c1).2.2.2 (by decide) (by decide) (XS.aloadN X23.here hx rfl (hb hby djdk_52_21_26) rfl rfl (XS.iloadN X23.here hx rfl (hb hby djdk_52_21_27) rfl (XS.iload X23.here hx rfl (hb hby djdk_52_21_28) rfl (XS.i2b X23.here hx rfl (hb hby djdk_52_21_30) rfl (st26 _ k)))))) ?_
  refine own_by (W' := (T26.setTop (mkF m 7 #[.val (.ref r0), .val (.int (2 : Int32)), .val (.ref r2), .val (.int (2 : Int32)), .val (.int (5 : Int32)), .val (.int (2 : Int32)), .val (.int c1)] [(.int (5 : Int32)), (.int (2 : Int32))]))) (fun t k => XS.iinc X26.here hx rfl (hb hby djdk_52_21_32) rfl (l' := #[.val (.ref r0), .val (.int (2 : Int32)), .val (.ref r2), .val (.int (1 : Int32)), .val (.int (5 : Int32)), .val (.int (1 : Int32)), .val (.int c1)]) rfl (XS.iinc X26.here hx rfl (hb hby djdk_52_21_35) rfl (l' := #[.val (.ref r0), .val (.int (2 : Int32)), .val (.ref r2), .val (.int (2 : Int32)), .val (.int (5 : Int32)), .val (.int (1 : Int32)), .val (.int c1)]) rfl (XS.iinc X26.here hx rfl (hb hby djdk_52_21_38) rfl (l' := #[.val (.ref r0), .val (.int (2 : Int32)), .val (.ref r2), .val (.int (2 : Int32)), .val (.int (5 : Int32)), .val (.int (2 : Int32)), .val (.int c1)]) rfl (XS.goto X26.here hx rfl (pc0 := 41) (pc' := 3) rfl (hb hby djdk_52_21_41) (by decide) (by decide) (XS.iload X26.here hx rfl (hb hby djdk_52_21_3) rfl (XS.iload X26.here hx rfl (hb hby djdk_52_21_5) rfl k)))))) ?_
  obtain ⟨clu27, Aru27, qu27, Su27, Ngu27, Hau27, Gau27⟩ := id ((V0.other W23 hne).other W26 hne)
  have hinu27 : ¬ ((2 : Int32) < 0 ∨ clu27.slots.size ≤ ((2 : Int32)).toNatClampNeg) := inb_of Su27 ⟨by decide, by decide⟩
  have hatu27 : clu27.slots[((2 : Int32)).toNatClampNeg]? = some (.int c2) := Has.at Hau27 hinu27 rfl
  refine own_by (W' := (T26.setTop (mkF m 17 #[.val (.ref r0), .val (.int (2 : Int32)), .val (.ref r2), .val (.int (2 : Int32)), .val (.int (5 : Int32)), .val (.int (2 : Int32)), .val (.int c2)] [(.int c2)]))) (fun t k => XS.icmpNo X26.here hx rfl (hb hby djdk_52_21_7) rfl (tlt (by decide : (2 : Int32) < (5 : Int32))).2.1 (XS.aloadN X26.here hx rfl (hb hby djdk_52_21_10) rfl rfl (XS.iloadN X26.here hx rfl (hb hby djdk_52_21_11) rfl ((X26.caload hx (j := (2 : Int32)) (v := (.int c2)) (by rw [e26]; exact Aru27.1) (State.isArrayOf_alike hZ.alike Aru27.2.1) Aru27.2.2 hinu27 hatu27 (g := (mkF m 12 #[.val (.ref r0), .val (.int (2 : Int32)), .val (.ref r2), .val (.int (2 : Int32)), .val (.int (5 : Int32)), .val (.int (2 : Int32)), .val (.int c1)] [(.int (2 : Int32)), (.ref r0)])) rfl rfl (hb hby djdk_52_21_12)) _ (XS.istore X26.here hx rfl (hb hby djdk_52_21_13) rfl (l' := #[.val (.ref r0), .val (.int (2 : Int32)), .val (.ref r2), .val (.int (2 : Int32)), .val (.int (5 : Int32)), .val (.int (2 : Int32)), .val (.int c2)]) rfl (XS.iload X26.here hx rfl (hb hby djdk_52_21_15) rfl k)))))) ?_
  refine own_by (W' := (T26.setTop (mkF m 31 #[.val (.ref r0), .val (.int (2 : Int32)), .val (.ref r2), .val (.int (2 : Int32)), .val (.int (5 : Int32)), .val (.int (2 : Int32)), .val (.int c2)] [(.int (c2.toInt8.toInt32)), (.int (2 : Int32)), (.ref r2)]))) (fun t k => XS.sipush X26.here hx rfl (hb hby djdk_52_21_17) (XS.icmpYes X26.here hx rfl (pc0 := 20) (pc' := 26) rfl (hb hby djdk_52_21_20) rfl (flt hc_c2).2.2.2 (by decide) (by decide) (XS.aloadN X26.here hx rfl (hb hby djdk_52_21_26) rfl rfl (XS.iloadN X26.here hx rfl (hb hby djdk_52_21_27) rfl (XS.iload X26.here hx rfl (hb hby djdk_52_21_28) rfl (XS.i2b X26.here hx rfl (hb hby djdk_52_21_30) rfl k)))))) ?_
  obtain ⟨clu28, Aru28, qu28, Su28, Ngu28, Hau28, Gau28⟩ := id Vu25
  have hinu28 : ¬ ((2 : Int32) < 0 ∨ clu28.slots.size ≤ ((2 : Int32)).toNatClampNeg) := inb_of Su28 ⟨by decide, by decide⟩
  obtain ⟨T29, h29, X29, e29, W29, st29⟩ := stB X26 hx hZ e26 Aru28 (j := (2 : Int32)) hinu28 (g := (mkF m 31 #[.val (.ref r0), .val (.int (2 : Int32)), .val (.ref r2), .val (.int (2 : Int32)), .val (.int (5 : Int32)), .val (.int (2 : Int32)), .val (.int c2)] [(.int (c2.toInt8.toInt32)), (.int (2 : Int32)), (.ref r2)])) rfl rfl (hb hby djdk_52_21_31)
  have Vu28 : Arv Z h29 r2 kB .byte (5 : Int32) [(.int (nar .byte (c0.toInt8.toInt32))), (.int (nar .byte (c1.toInt8.toInt32))), (.int (nar .byte (c2.toInt8.toInt32))), (.int (0 : Int32)), (.int (0 : Int32))] (.int (0 : Int32)) := Arv.set Aru28 qu28 Su28 Ngu28 Hau28 Gau28 (fits_nar_byte _) W29 2 rfl (Nat.le_of_ble_eq_true rfl)
  have O29 := Old.wr O26 W29 g_r2
  have N29 := Fr.snoc X29 N26 g_r2
  have K29 := Keep.wr K26 W29 (Or.inl (List.mem_of_getElem? (i := 0) rfl))
  refine own_by (W' := (T29.setTop (mkF m 5 #[.val (.ref r0), .val (.int (3 : Int32)), .val (.ref r2), .val (.int (3 : Int32)), .val (.int (5 : Int32)), .val (.int (3 : Int32)), .val (.int c2)] [(.int (3 : Int32))]))) (fun t k => st29 _ (XS.iinc X29.here hx rfl (hb hby djdk_52_21_32) rfl (l' := #[.val (.ref r0), .val (.int (3 : Int32)), .val (.ref r2), .val (.int (2 : Int32)), .val (.int (5 : Int32)), .val (.int (2 : Int32)), .val (.int c2)]) rfl (XS.iinc X29.here hx rfl (hb hby djdk_52_21_35) rfl (l' := #[.val (.ref r0), .val (.int (3 : Int32)), .val (.ref r2), .val (.int (3 : Int32)), .val (.int (5 : Int32)), .val (.int (2 : Int32)), .val (.int c2)]) rfl (XS.iinc X29.here hx rfl (hb hby djdk_52_21_38) rfl (l' := #[.val (.ref r0), .val (.int (3 : Int32)), .val (.ref r2), .val (.int (3 : Int32)), .val (.int (5 : Int32)), .val (.int (3 : Int32)), .val (.int c2)]) rfl (XS.goto X29.here hx rfl (pc0 := 41) (pc' := 3) rfl (hb hby djdk_52_21_41) (by decide) (by decide) (XS.iload X29.here hx rfl (hb hby djdk_52_21_3) rfl k)))))) ?_
  obtain ⟨clu30, Aru30, qu30, Su30, Ngu30, Hau30, Gau30⟩ := id (((V0.other W23 hne).other W26 hne).other W29 hne)
  have hinu30 : ¬ ((3 : Int32) < 0 ∨ clu30.slots.size ≤ ((3 : Int32)).toNatClampNeg) := inb_of Su30 ⟨by decide, by decide⟩
  have hatu30 : clu30.slots[((3 : Int32)).toNatClampNeg]? = some (.int c3) := Has.at Hau30 hinu30 rfl
  refine own_by (W' := (T29.setTop (mkF m 15 #[.val (.ref r0), .val (.int (3 : Int32)), .val (.ref r2), .val (.int (3 : Int32)), .val (.int (5 : Int32)), .val (.int (3 : Int32)), .val (.int c3)] []))) (fun t k => XS.iload X29.here hx rfl (hb hby djdk_52_21_5) rfl (XS.icmpNo X29.here hx rfl (hb hby djdk_52_21_7) rfl (tlt (by decide : (3 : Int32) < (5 : Int32))).2.1 (XS.aloadN X29.here hx rfl (hb hby djdk_52_21_10) rfl rfl (XS.iloadN X29.here hx rfl (hb hby djdk_52_21_11) rfl ((X29.caload hx (j := (3 : Int32)) (v := (.int c3)) (by rw [e29]; exact Aru30.1) (State.isArrayOf_alike hZ.alike Aru30.2.1) Aru30.2.2 hinu30 hatu30 (g := (mkF m 12 #[.val (.ref r0), .val (.int (3 : Int32)), .val (.ref r2), .val (.int (3 : Int32)), .val (.int (5 : Int32)), .val (.int (3 : Int32)), .val (.int c2)] [(.int (3 : Int32)), (.ref r0)])) rfl rfl (hb hby djdk_52_21_12)) _ (XS.istore X29.here hx rfl (hb hby djdk_52_21_13) rfl (l' := #[.val (.ref r0), .val (.int (3 : Int32)), .val (.ref r2), .val (.int (3 : Int32)), .val (.int (5 : Int32)), .val (.int (3 : Int32)), .val (.int c3)]) rfl k)))))) ?_
  refine own_by (W' := (T29.setTop (mkF m 30 #[.val (.ref r0), .val (.int (3 : Int32)), .val (.ref r2), .val (.int (3 : Int32)), .val (.int (5 : Int32)), .val (.int (3 : Int32)), .val (.int c3)] [(.int c3), (.int (3 : Int32)), (.ref r2)]))) (fun t k => XS.iload X29.here hx rfl (hb hby djdk_52_21_15) rfl (XS.sipush X29.here hx rfl (hb hby djdk_52_21_17) (XS.icmpYes X29.here hx rfl (pc0 := 20) (pc' := 26) rfl (hb hby djdk_52_21_20) rfl (flt hc_c3).2.2.2 (by decide) (by decide) (XS.aloadN X29.here hx rfl (hb hby djdk_52_21_26) rfl rfl (XS.iloadN X29.here hx rfl (hb hby djdk_52_21_27) rfl (XS.iload X29.here hx rfl (hb hby djdk_52_21_28) rfl k)))))) ?_
  obtain ⟨clu31, Aru31, qu31, Su31, Ngu31, Hau31, Gau31⟩ := id Vu28
  have hinu31 : ¬ ((3 : Int32) < 0 ∨ clu31.slots.size ≤ ((3 : Int32)).toNatClampNeg) := inb_of Su31 ⟨by decide, by decide⟩
  obtain ⟨T32, h32, X32, e32, W32, st32⟩ := stB X29 hx hZ e29 Aru31 (j := (3 : Int32)) hinu31 (g := (mkF m 31 #[.val (.ref r0), .val (.int (3 : Int32)), .val (.ref r2), .val (.int (3 : Int32)), .val (.int (5 : Int32)), .val (.int (3 : Int32)), .val (.int c3)] [(.int (c3.toInt8.toInt32)), (.int (3 : Int32)), (.ref r2)])) rfl rfl (hb hby djdk_52_21_31)
  have Vu31 : Arv Z h32 r2 kB .byte (5 : Int32) [(.int (nar .byte (c0.toInt8.toInt32))), (.int (nar .byte (c1.toInt8.toInt32))), (.int (nar .byte (c2.toInt8.toInt32))), (.int (nar .byte (c3.toInt8.toInt32))), (.int (0 : Int32))] (.int (0 : Int32)) := Arv.set Aru31 qu31 Su31 Ngu31 Hau31 Gau31 (fits_nar_byte _) W32 3 rfl (Nat.le_of_ble_eq_true rfl)
  have O32 := Old.wr O29 W32 g_r2
  have N32 := Fr.snoc X32 N29 g_r2
  have K32 := Keep.wr K29 W32 (Or.inl (List.mem_of_getElem? (i := 0) rfl))
  refine own_by (W' := (T32.setTop (mkF m 3 #[.val (.ref r0), .val (.int (4 : Int32)), .val (.ref r2), .val (.int (4 : Int32)), .val (.int (5 : Int32)), .val (.int (4 : Int32)), .val (.int c3)] []))) (fun t k => XS.i2b X29.here hx rfl (hb hby djdk_52_21_30) rfl (st32 _ (XS.iinc X32.here hx rfl (hb hby djdk_52_21_32) rfl (l' := #[.val (.ref r0), .val (.int (4 : Int32)), .val (.ref r2), .val (.int (3 : Int32)), .val (.int (5 : Int32)), .val (.int (3 : Int32)), .val (.int c3)]) rfl (XS.iinc X32.here hx rfl (hb hby djdk_52_21_35) rfl (l' := #[.val (.ref r0), .val (.int (4 : Int32)), .val (.ref r2), .val (.int (4 : Int32)), .val (.int (5 : Int32)), .val (.int (3 : Int32)), .val (.int c3)]) rfl (XS.iinc X32.here hx rfl (hb hby djdk_52_21_38) rfl (l' := #[.val (.ref r0), .val (.int (4 : Int32)), .val (.ref r2), .val (.int (4 : Int32)), .val (.int (5 : Int32)), .val (.int (4 : Int32)), .val (.int c3)]) rfl (XS.goto X32.here hx rfl (pc0 := 41) (pc' := 3) rfl (hb hby djdk_52_21_41) (by decide) (by decide) k)))))) ?_
  obtain ⟨clu33, Aru33, qu33, Su33, Ngu33, Hau33, Gau33⟩ := id ((((V0.other W23 hne).other W26 hne).other W29 hne).other W32 hne)
  have hinu33 : ¬ ((4 : Int32) < 0 ∨ clu33.slots.size ≤ ((4 : Int32)).toNatClampNeg) := inb_of Su33 ⟨by decide, by decide⟩
  have hatu33 : clu33.slots[((4 : Int32)).toNatClampNeg]? = some (.int c4) := Has.at Hau33 hinu33 rfl
  refine own_by (W' := (T32.setTop (mkF m 13 #[.val (.ref r0), .val (.int (4 : Int32)), .val (.ref r2), .val (.int (4 : Int32)), .val (.int (5 : Int32)), .val (.int (4 : Int32)), .val (.int c3)] [(.int c4)]))) (fun t k => XS.iload X32.here hx rfl (hb hby djdk_52_21_3) rfl (XS.iload X32.here hx rfl (hb hby djdk_52_21_5) rfl (XS.icmpNo X32.here hx rfl (hb hby djdk_52_21_7) rfl (tlt (by decide : (4 : Int32) < (5 : Int32))).2.1 (XS.aloadN X32.here hx rfl (hb hby djdk_52_21_10) rfl rfl (XS.iloadN X32.here hx rfl (hb hby djdk_52_21_11) rfl ((X32.caload hx (j := (4 : Int32)) (v := (.int c4)) (by rw [e32]; exact Aru33.1) (State.isArrayOf_alike hZ.alike Aru33.2.1) Aru33.2.2 hinu33 hatu33 (g := (mkF m 12 #[.val (.ref r0), .val (.int (4 : Int32)), .val (.ref r2), .val (.int (4 : Int32)), .val (.int (5 : Int32)), .val (.int (4 : Int32)), .val (.int c3)] [(.int (4 : Int32)), (.ref r0)])) rfl rfl (hb hby djdk_52_21_12)) _ k)))))) ?_
  refine own_by (W' := (T32.setTop (mkF m 28 #[.val (.ref r0), .val (.int (4 : Int32)), .val (.ref r2), .val (.int (4 : Int32)), .val (.int (5 : Int32)), .val (.int (4 : Int32)), .val (.int c4)] [(.int (4 : Int32)), (.ref r2)]))) (fun t k => XS.istore X32.here hx rfl (hb hby djdk_52_21_13) rfl (l' := #[.val (.ref r0), .val (.int (4 : Int32)), .val (.ref r2), .val (.int (4 : Int32)), .val (.int (5 : Int32)), .val (.int (4 : Int32)), .val (.int c4)]) rfl (XS.iload X32.here hx rfl (hb hby djdk_52_21_15) rfl (XS.sipush X32.here hx rfl (hb hby djdk_52_21_17) (XS.icmpYes X32.here hx rfl (pc0 := 20) (pc' := 26) rfl (hb hby djdk_52_21_20) rfl (flt hc_c4).2.2.2 (by decide) (by decide) (XS.aloadN X32.here hx rfl (hb hby djdk_52_21_26) rfl rfl (XS.iloadN X32.here hx rfl (hb hby djdk_52_21_27) rfl k)))))) ?_
  obtain ⟨clu34, Aru34, qu34, Su34, Ngu34, Hau34, Gau34⟩ := id Vu31
  have hinu34 : ¬ ((4 : Int32) < 0 ∨ clu34.slots.size ≤ ((4 : Int32)).toNatClampNeg) := inb_of Su34 ⟨by decide, by decide⟩
  obtain ⟨T35, h35, X35, e35, W35, st35⟩ := stB X32 hx hZ e32 Aru34 (j := (4 : Int32)) hinu34 (g := (mkF m 31 #[.val (.ref r0), .val (.int (4 : Int32)), .val (.ref r2), .val (.int (4 : Int32)), .val (.int (5 : Int32)), .val (.int (4 : Int32)), .val (.int c4)] [(.int (c4.toInt8.toInt32)), (.int (4 : Int32)), (.ref r2)])) rfl rfl (hb hby djdk_52_21_31)
  have Vu34 : Arv Z h35 r2 kB .byte (5 : Int32) [(.int (nar .byte (c0.toInt8.toInt32))), (.int (nar .byte (c1.toInt8.toInt32))), (.int (nar .byte (c2.toInt8.toInt32))), (.int (nar .byte (c3.toInt8.toInt32))), (.int (nar .byte (c4.toInt8.toInt32)))] (.int (0 : Int32)) := Arv.set Aru34 qu34 Su34 Ngu34 Hau34 Gau34 (fits_nar_byte _) W35 4 rfl (Nat.le_of_ble_eq_true rfl)
  have O35 := Old.wr O32 W35 g_r2
  have N35 := Fr.snoc X35 N32 g_r2
  have K35 := Keep.wr K32 W35 (Or.inl (List.mem_of_getElem? (i := 0) rfl))
  refine own_by (W' := (T35.setTop (mkF m 41 #[.val (.ref r0), .val (.int (5 : Int32)), .val (.ref r2), .val (.int (5 : Int32)), .val (.int (5 : Int32)), .val (.int (5 : Int32)), .val (.int c4)] []))) (fun t k => XS.iload X32.here hx rfl (hb hby djdk_52_21_28) rfl (XS.i2b X32.here hx rfl (hb hby djdk_52_21_30) rfl (st35 _ (XS.iinc X35.here hx rfl (hb hby djdk_52_21_32) rfl (l' := #[.val (.ref r0), .val (.int (5 : Int32)), .val (.ref r2), .val (.int (4 : Int32)), .val (.int (5 : Int32)), .val (.int (4 : Int32)), .val (.int c4)]) rfl (XS.iinc X35.here hx rfl (hb hby djdk_52_21_35) rfl (l' := #[.val (.ref r0), .val (.int (5 : Int32)), .val (.ref r2), .val (.int (5 : Int32)), .val (.int (5 : Int32)), .val (.int (4 : Int32)), .val (.int c4)]) rfl (XS.iinc X35.here hx rfl (hb hby djdk_52_21_38) rfl (l' := #[.val (.ref r0), .val (.int (5 : Int32)), .val (.ref r2), .val (.int (5 : Int32)), .val (.int (5 : Int32)), .val (.int (5 : Int32)), .val (.int c4)]) rfl k)))))) ?_
  obtain ⟨fs, hr, hrun, hended, hW, hsame⟩ := X35.leave (v := some (.int (5 : Int32))) (fun h => by rw [Bd.returns] at h; cases h)
  refine own_by (W' := (T35.setTop (mkF m 46 #[.val (.ref r0), .val (.int (5 : Int32)), .val (.ref r2), .val (.int (5 : Int32)), .val (.int (5 : Int32)), .val (.int (5 : Int32)), .val (.int c4)] [(.int (5 : Int32))]))) (fun t k => XS.goto X35.here hx rfl (pc0 := 41) (pc' := 3) rfl (hb hby djdk_52_21_41) (by decide) (by decide) (XS.iload X35.here hx rfl (hb hby djdk_52_21_3) rfl (XS.iload X35.here hx rfl (hb hby djdk_52_21_5) rfl (XS.icmpYes X35.here hx rfl (pc0 := 7) (pc' := 44) rfl (hb hby djdk_52_21_7) rfl (flt (by decide : ¬ ((5 : Int32) < (5 : Int32)))).2.1 (by decide) (by decide) (XS.iload X35.here hx rfl (hb hby djdk_52_21_44) rfl k))))) ?_
  refine ⟨_, _, retOut X35 hx Bd.returns rfl (Or.inl ⟨rfl, Or.inl rfl, _, rfl⟩) (hb hby djdk_52_21_46) hr, hrun, hended, _, _, rfl, ?_, ⟨_, rfl⟩, hW, hsame.mono (by decide) (by decide)⟩
  show Qcb5 Z r0 r2 kC kB c0 c1 c2 c3 c4 h0 n0 _ T35.heap _
  rw [e35]
  exact ⟨rfl, N35, K35, Vu34⟩
theorem efca5 (m : MethodId) (r0 : Addr) : entryFrame m #[(.ref r0), (.int (0 : Int32)), (.int (5 : Int32))] 6 = mkF m 0 #[.val (.ref r0), .val (.int (0 : Int32)), .val (.int (5 : Int32)), .unset, .unset, .unset] [] := by first | (simp [entryFrame, mkF, argsToLocals, Value.category]; done) | rfl
def Qca5 (Z : State) (r0 : Addr) (kC : ClassId) (c0 : Int32) (c1 : Int32) (c2 : Int32) (c3 : Int32) (c4 : Int32) (h0 : Heap) (n0 : Nat) (v : Option Value) (h : Heap) (L : List Loc) : Prop := ∃ (q : Addr) (kq : ClassId), v = some (.ref q) ∧ Fr n0 L ∧ Keep h0 h [] ∧ h0.size ≤ q ∧ Arv Z h q kq .byte (5 : Int32) [(.int (nar .byte (c0.toInt8.toInt32))), (.int (nar .byte (c1.toInt8.toInt32))), (.int (nar .byte (c2.toInt8.toInt32))), (.int (nar .byte (c3.toInt8.toInt32))), (.int (nar .byte (c4.toInt8.toInt32)))] (.int (0 : Int32))
abbrev own_Kca5 (Z : State) (r0 : Addr) (kC : ClassId) (c0 : Int32) (c1 : Int32) (c2 : Int32) (c3 : Int32) (c4 : Int32) (h0 : Heap) (n0 : Nat) (s : State) : Outcome → State → Prop := fun o U' => ∃ v L, o = .returned v ∧ Qca5 Z r0 kC c0 c1 c2 c3 c4 h0 n0 v U'.heap L ∧ FrameEnd s o U' L ({ frames := 1, cells := 1, slots := 5, locals := 18 } : Room).cells ({ frames := 1, cells := 1, slots := 5, locals := 18 } : Room).slots
set_option maxRecDepth 65536 in
set_option maxHeartbeats 40000000 in
theorem rmca5 (l : Launch) (Z : State) (a0 : Array Value) (hw : ∀ d ∈ tables_1, d.before a0 Z = true) (ws : List Jvm.Cond) (r0 : Addr) (kC : ClassId) (c0 : Int32) (c1 : Int32) (c2 : Int32) (c3 : Int32) (c4 : Int32) (h0 : Heap) (n0 : Nat) (Z0 : n0 ≤ h0.size) (O0 : Old Z n0 h0) (V0 : Arv Z h0 r0 kC .char (5 : Int32) [(.int c0), (.int c1), (.int c2), (.int c3), (.int c4)] (.int (0 : Int32))) (hc_c0 : ¬ (255 : Int32) < c0) (hc_c1 : ¬ (255 : Int32) < c1) (hc_c2 : ¬ (255 : Int32) < c2) (hc_c3 : ¬ (255 : Int32) < c3) (hc_c4 : ¬ (255 : Int32) < c4) :
    MetFree l (⟨"java/lang/StringUTF16", "compress", "([CII)[B"⟩ : MethodName) (head1 (Jvm.Cond.code (⟨"java/lang/StringUTF16", "compress", "([CII)[B"⟩ : MethodName) jdk_52_method_16_code 6 (some (.array .byte)) :: ws) ({ frames := 1, cells := 1, slots := 5, locals := 18 } : Room)) (fun a U => a = #[(.ref r0), (.int (0 : Int32)), (.int (5 : Int32))] ∧ Z.Warmed39 U.vm ∧ U.heap = h0) (fun _ _ _ _ _ => True) (fun _ U o U' => ∃ v L, o = .returned v ∧ Qca5 Z r0 kC c0 c1 c2 c3 c4 h0 n0 v U'.heap L ∧ FrameEnd U o U' L ({ frames := 1, cells := 1, slots := 5, locals := 18 } : Room).cells ({ frames := 1, cells := 1, slots := 5, locals := 18 } : Room).slots) := by
  refine MetFree.of_bodySF (plainFor_of_name pn_java_lang_StringUTF16) hisR ?_
  intro p e s m args below meth c s₁ Bd hml0 hP hK
  obtain ⟨rfl, hZ, hh⟩ := hP
  have hx := Bd.exec
  have hby := Bd.bytes
  have hml : c.maxLocals = 6 := hml0
  have hown : s.vm.findClass "java/lang/StringUTF16" = some m.cls := findClass_of_methodNamed Bd.named
  have hnm := (name_of_methodNamed Bd.named Bd.method).1
  have X0 : Stand p l e ({ frames := 1, cells := 1, slots := 5, locals := 18 } : Room) s m #[(.ref r0), (.int (0 : Int32)), (.int (5 : Int32))] below meth c s₁ [] 0 0 := Stand.of_body Bd
  have e0 : s₁.heap = h0 := by rw [← hh, Bd.state]; rfl
  have N0 := Fr.nil n0
  refine own_by (p := p) (e := e) (below := below) (K := own_Kca5 Z r0 kC c0 c1 c2 c3 c4 h0 n0 s) (W' := s₁.setTop (mkF m 0 #[.val (.ref r0), .val (.int (0 : Int32)), .val (.int (5 : Int32)), .unset, .unset, .unset] [])) (fun t k => castTop (efca5 m r0) k) ?_
  obtain ⟨T21, h21, k21, X21, e21, E21, A21, st21⟩ := newP X0 hx hZ (own_w hw 25) e0 (g := (mkF m 1 #[.val (.ref r0), .val (.int (0 : Int32)), .val (.int (5 : Int32)), .unset, .unset, .unset] [(.int (5 : Int32))])) rfl (hb hby djdk_52_16_1) rfl (by decide) (cap := 5) (by decide) (by decide) (by decide) (by decide)
  obtain ⟨b21, g21⟩ : ∃ z, z = h0.size := ⟨_, rfl⟩
  rw [← g21] at A21 st21
  have g_b21 : n0 ≤ b21 := Nat.le_trans (own_le O0) (Nat.le_of_eq g21.symm)
  have sz_b21 : h0.size ≤ b21 := Nat.le_trans (Keep.refl h0 []).1 (Nat.le_of_eq g21.symm)
  have ne_r0_b21 : r0 ≠ b21 := Nat.ne_of_lt (Nat.lt_of_lt_of_le V0.lt (Nat.le_of_eq g21.symm))
  have O21 := O0.ext E21
  have K21 := Keep.ext (Keep.refl h0 []) E21
  have V_b21 : Arv Z h21 b21 k21 .byte (5 : Int32) [(.int (0 : Int32)), (.int (0 : Int32)), (.int (0 : Int32)), (.int (0 : Int32)), (.int (0 : Int32))] (.int (0 : Int32)) := (Arv.new A21 (by decide)).pad (pad_rep [] (.int (0 : Int32)) 5)
  refine own_by (W' := (T21.setTop (mkF m 7 #[.val (.ref r0), .val (.int (0 : Int32)), .val (.int (5 : Int32)), .val (.ref b21), .unset, .unset] [(.ref b21), (.int (0 : Int32)), (.ref r0)]))) (fun t k => XS.iloadN X0.here hx rfl (hb hby djdk_52_16_0) rfl (st21 _ (XS.astoreN X21.here hx rfl (hb hby djdk_52_16_3) rfl rfl (l' := #[.val (.ref r0), .val (.int (0 : Int32)), .val (.int (5 : Int32)), .val (.ref b21), .unset, .unset]) rfl (XS.aloadN X21.here hx rfl (hb hby djdk_52_16_4) rfl rfl (XS.iloadN X21.here hx rfl (hb hby djdk_52_16_5) rfl (XS.aloadN X21.here hx rfl (hb hby djdk_52_16_6) rfl rfl k)))))) ?_
  obtain ⟨_, _, ⟨T22, L22, k22, n22⟩, -, X22, ⟨Lc22, hQ22, l22, y22, z22⟩, st22⟩ := Jvm.LawKit.callS X21 hx (y := (⟨"java/lang/StringUTF16", "compress", "([CI[BII)I"⟩ : MethodName)) hown (mvT hZ (own_w hw 26)) (mvT hZ (own_w hw 27)) (mvT hZ (own_w hw 23)) (mvT hZ (own_w hw 28)) (by decide) (backOf (W := 0) (rmcb5 l Z a0 hw [] r0 b21 kC k21 c0 c1 c2 c3 c4 h21 n0 (own_le O21) O21 (V0.ext E21) V_b21 g_b21 ne_r0_b21 hc_c0 hc_c1 hc_c2 hc_c3 hc_c4) hZ (own_w hw 28) (own_w hw 23) (by decide) (by decide)) (g := (mkF m 9 #[.val (.ref r0), .val (.int (0 : Int32)), .val (.int (5 : Int32)), .val (.ref b21), .unset, .unset] [(.int (5 : Int32)), (.int (0 : Int32)), (.ref b21), (.int (0 : Int32)), (.ref r0)])) rfl (by rw [hml]; rfl) (argsL := [(.ref r0), (.int (0 : Int32)), (.ref b21), (.int (0 : Int32)), (.int (5 : Int32))]) (rest := []) (lenOf pd_3 rfl) rfl (by show 2 * 0 + _ ≤ _; exact Nat.le_of_eq rfl) (hb hby djdk_52_16_9) (fun _ _ => ⟨rfl, e21, (by decide : 1 + 0 ≤ _), (by decide : 5 + 0 ≤ _)⟩)
  dsimp only [Pt.U, Pt.locs, Pt.cells, Pt.slots] at X22 l22 y22 z22 st22 hQ22
  subst l22 y22 z22
  obtain ⟨rfl, N22q, Kq22, Vq22⟩ := hQ22
  have O22 := Old.keep O21 Kq22 (allS g_b21 all0)
  have K22 := Keep.trans K21 Kq22 (allS (Or.inr sz_b21) all0)
  have N22 := Fr.app N0 N22q
  refine own_by (W' := (T22.setTop (mkF m 17 #[.val (.ref r0), .val (.int (0 : Int32)), .val (.int (5 : Int32)), .val (.ref b21), .val (.int (5 : Int32)), .unset] [(.int (5 : Int32)), (.int (5 : Int32))]))) (fun t k => XS.iconst X21.here hx rfl (hb hby djdk_52_16_7) (XS.iloadN X21.here hx rfl (hb hby djdk_52_16_8) rfl (st22 _ (XS.istore X22.here hx rfl (hb hby djdk_52_16_12) rfl (l' := #[.val (.ref r0), .val (.int (0 : Int32)), .val (.int (5 : Int32)), .val (.ref b21), .val (.int (5 : Int32)), .unset]) rfl (XS.iload X22.here hx rfl (hb hby djdk_52_16_14) rfl (XS.iloadN X22.here hx rfl (hb hby djdk_52_16_16) rfl k)))))) ?_
  obtain ⟨fs, hr, hrun, hended, hW, hsame⟩ := X22.leave (v := some (.ref b21)) (fun h => by rw [Bd.returns] at h; cases h)
  refine own_by (W' := (T22.setTop (mkF m 58 #[.val (.ref r0), .val (.int (0 : Int32)), .val (.int (5 : Int32)), .val (.ref b21), .val (.int (5 : Int32)), .unset] [(.ref b21)]))) (fun t k => XS.icmpYes X22.here hx rfl (pc0 := 17) (pc' := 57) rfl (hb hby djdk_52_16_17) rfl (teq (rfl : (5 : Int32) = (5 : Int32))).1 (by decide) (by decide) (XS.aloadN X22.here hx rfl (hb hby djdk_52_16_57) rfl rfl k)) ?_
  refine ⟨_, _, retOut X22 hx Bd.returns rfl (Or.inr (Or.inr (Or.inr (Or.inr ⟨rfl, rfl, rfl⟩)))) (hb hby djdk_52_16_58) hr, hrun, hended, _, _, rfl, ?_, ⟨_, rfl⟩, hW, hsame.mono (by decide) (by decide)⟩
  show Qca5 Z r0 kC c0 c1 c2 c3 c4 h0 n0 _ T22.heap _
  exact ⟨_, _, rfl, N22, K22, sz_b21, Vq22⟩
theorem efcd5 (m : MethodId) (r0 : Addr) : entryFrame m #[(.ref r0), (.int (5 : Int32))] 2 = mkF m 0 #[.val (.ref r0), .val (.int (5 : Int32))] [] := by first | (simp [entryFrame, mkF, argsToLocals, Value.category]; done) | rfl
def Qcd5 (Z : State) (r0 : Addr) (kB : ClassId) (vl : List Value) (h0 : Heap) (n0 : Nat) (v : Option Value) (h : Heap) (L : List Loc) : Prop := v = some (.int (0 : Int32)) ∧ Fr n0 L ∧ h = h0
abbrev own_Kcd5 (Z : State) (r0 : Addr) (kB : ClassId) (vl : List Value) (h0 : Heap) (n0 : Nat) (s : State) : Outcome → State → Prop := fun o U' => ∃ v L, o = .returned v ∧ Qcd5 Z r0 kB vl h0 n0 v U'.heap L ∧ FrameEnd s o U' L ({ frames := 0, cells := 0, slots := 0, locals := 0 } : Room).cells ({ frames := 0, cells := 0, slots := 0, locals := 0 } : Room).slots
set_option maxRecDepth 65536 in
set_option maxHeartbeats 40000000 in
theorem rmcd5 (l : Launch) (Z : State) (a0 : Array Value) (hw : ∀ d ∈ tables_1, d.before a0 Z = true) (ws : List Jvm.Cond) (r0 : Addr) (kB : ClassId) (vl : List Value) (h0 : Heap) (n0 : Nat) (Z0 : n0 ≤ h0.size) (V0 : Arv Z h0 r0 kB .byte (5 : Int32) vl (.int (0 : Int32))) :
    MetFree l (⟨"java/lang/StringUTF16", "coderFromArrayLen", "([BI)B"⟩ : MethodName) (head1 (Jvm.Cond.code (⟨"java/lang/StringUTF16", "coderFromArrayLen", "([BI)B"⟩ : MethodName) jdk_52_method_15_code 2 (some .byte) :: ws) ({ frames := 0, cells := 0, slots := 0, locals := 0 } : Room)) (fun a U => a = #[(.ref r0), (.int (5 : Int32))] ∧ Z.Warmed39 U.vm ∧ U.heap = h0) (fun _ _ _ _ _ => True) (fun _ U o U' => ∃ v L, o = .returned v ∧ Qcd5 Z r0 kB vl h0 n0 v U'.heap L ∧ FrameEnd U o U' L ({ frames := 0, cells := 0, slots := 0, locals := 0 } : Room).cells ({ frames := 0, cells := 0, slots := 0, locals := 0 } : Room).slots) := by
  refine MetFree.of_bodySF (plainFor_of_name pn_java_lang_StringUTF16) hisR ?_
  intro p e s m args below meth c s₁ Bd hml0 hP hK
  obtain ⟨rfl, hZ, hh⟩ := hP
  have hx := Bd.exec
  have hby := Bd.bytes
  have hml : c.maxLocals = 2 := hml0
  have hown : s.vm.findClass "java/lang/StringUTF16" = some m.cls := findClass_of_methodNamed Bd.named
  have hnm := (name_of_methodNamed Bd.named Bd.method).1
  have X0 : Stand p l e ({ frames := 0, cells := 0, slots := 0, locals := 0 } : Room) s m #[(.ref r0), (.int (5 : Int32))] below meth c s₁ [] 0 0 := Stand.of_body Bd
  have e0 : s₁.heap = h0 := by rw [← hh, Bd.state]; rfl
  have N0 := Fr.nil n0
  refine own_by (p := p) (e := e) (below := below) (K := own_Kcd5 Z r0 kB vl h0 n0 s) (W' := s₁.setTop (mkF m 0 #[.val (.ref r0), .val (.int (5 : Int32))] [])) (fun t k => castTop (efcd5 m r0) k) ?_
  obtain ⟨clu21, Aru21, qu21, Su21, Ngu21, Hau21, Gau21⟩ := id V0
  refine own_by (W' := (s₁.setTop (mkF m 3 #[.val (.ref r0), .val (.int (5 : Int32))] [(.int clu21.slots.size.toInt32), (.int (5 : Int32))]))) (fun t k => XS.iloadN X0.here hx rfl (hb hby djdk_52_15_0) rfl (XS.aloadN X0.here hx rfl (hb hby djdk_52_15_1) rfl rfl ((X0.arraylength hx (by rw [e0]; exact Aru21.1) (State.isArrayOf_alike hZ.alike Aru21.2.1) (g := (mkF m 2 #[.val (.ref r0), .val (.int (5 : Int32))] [(.ref r0), (.int (5 : Int32))])) rfl rfl (hb hby djdk_52_15_2)) _ k))) ?_
  rw [len_of Su21 Ngu21]
  obtain ⟨fs, hr, hrun, hended, hW, hsame⟩ := X0.leave (v := some (.int (((((5 : Int32) - (5 : Int32)).toUInt32 >>> ((31 : Int32) &&& 31).toUInt32).toInt32).toInt8.toInt32))) (fun h => by rw [Bd.returns] at h; cases h)
  refine own_by (W' := (s₁.setTop (mkF m 8 #[.val (.ref r0), .val (.int (5 : Int32))] [(.int (((((5 : Int32) - (5 : Int32)).toUInt32 >>> ((31 : Int32) &&& 31).toUInt32).toInt32).toInt8.toInt32))]))) (fun t k => XS.isub X0.here hx rfl (hb hby djdk_52_15_3) rfl (XS.bipush X0.here hx rfl (hb hby djdk_52_15_4) (XS.iushr X0.here hx rfl (hb hby djdk_52_15_6) rfl (XS.i2b X0.here hx rfl (hb hby djdk_52_15_7) rfl k)))) ?_
  refine ⟨_, _, retOut X0 hx Bd.returns rfl (Or.inl ⟨rfl, Or.inr (Or.inr (Or.inl rfl)), _, rfl⟩) (hb hby djdk_52_15_8) hr, hrun, hended, _, _, rfl, ?_, ⟨_, rfl⟩, hW, hsame.mono (by decide) (by decide)⟩
  exact ⟨by rfl, N0, e0⟩
theorem efsb5 (m : MethodId) (r0 : Addr) (r1 : Addr) : entryFrame m #[(.ref r0), (.ref r1), (.int (0 : Int32)), (.int (5 : Int32)), .null] 6 = mkF m 0 #[.val (.ref r0), .val (.ref r1), .val (.int (0 : Int32)), .val (.int (5 : Int32)), .val .null, .unset] [] := by first | (simp [entryFrame, mkF, argsToLocals, Value.category]; done) | rfl
def Qsb5 (Z : State) (r0 : Addr) (r1 : Addr) (kC : ClassId) (c0 : Int32) (c1 : Int32) (c2 : Int32) (c3 : Int32) (c4 : Int32) (wALLOW : Addr) (wFORBID : Addr) (tALLOW : Addr) (tFORBID : Addr) (wV : Addr) (kwV : ClassId) (cs : Int32) (h0 : Heap) (n0 : Nat) (v : Option Value) (h : Heap) (L : List Loc) : Prop := v = none ∧ Fr n0 L ∧ Keep h0 h [r0] ∧ own_St Z h r0 (5 : Int32) [(.int (nar .byte (c0.toInt8.toInt32))), (.int (nar .byte (c1.toInt8.toInt32))), (.int (nar .byte (c2.toInt8.toInt32))), (.int (nar .byte (c3.toInt8.toInt32))), (.int (nar .byte (c4.toInt8.toInt32)))]
abbrev own_Ksb5 (Z : State) (r0 : Addr) (r1 : Addr) (kC : ClassId) (c0 : Int32) (c1 : Int32) (c2 : Int32) (c3 : Int32) (c4 : Int32) (wALLOW : Addr) (wFORBID : Addr) (tALLOW : Addr) (tFORBID : Addr) (wV : Addr) (kwV : ClassId) (cs : Int32) (h0 : Heap) (n0 : Nat) (s : State) : Outcome → State → Prop := fun o U' => ∃ v L, o = .returned v ∧ Qsb5 Z r0 r1 kC c0 c1 c2 c3 c4 wALLOW wFORBID tALLOW tFORBID wV kwV cs h0 n0 v U'.heap L ∧ FrameEnd s o U' L ({ frames := 2, cells := 1, slots := 5, locals := 35 } : Room).cells ({ frames := 2, cells := 1, slots := 5, locals := 35 } : Room).slots
set_option maxRecDepth 65536 in
set_option maxHeartbeats 40000000 in
theorem rmsb5 (l : Launch) (Z : State) (a0 : Array Value) (hw : ∀ d ∈ tables_1, d.before a0 Z = true) (ws : List Jvm.Cond) (r0 : Addr) (r1 : Addr) (kC : ClassId) (c0 : Int32) (c1 : Int32) (c2 : Int32) (c3 : Int32) (c4 : Int32) (wALLOW : Addr) (wFORBID : Addr) (tALLOW : Addr) (tFORBID : Addr) (wV : Addr) (kwV : ClassId) (cs : Int32) (h0 : Heap) (n0 : Nat) (Z0 : n0 ≤ h0.size) (O0 : Old Z n0 h0) (HW : own_Wd Z wALLOW wFORBID tALLOW tFORBID wV kwV cs) (E0 : Exa Z h0 r0 "java/lang/String") (g_r0 : n0 ≤ r0) (F_value : Fld Z h0 r0 "java/lang/String" "value" "[B" .null) (F_coder : Fld Z h0 r0 "java/lang/String" "coder" "B" (.int (0 : Int32))) (V1 : Arv Z h0 r1 kC .char (5 : Int32) [(.int c0), (.int c1), (.int c2), (.int c3), (.int c4)] (.int (0 : Int32))) (hc_c0 : ¬ (255 : Int32) < c0) (hc_c1 : ¬ (255 : Int32) < c1) (hc_c2 : ¬ (255 : Int32) < c2) (hc_c3 : ¬ (255 : Int32) < c3) (hc_c4 : ¬ (255 : Int32) < c4) :
    MetFree l (⟨"java/lang/String", "<init>", "([CIILjava/lang/Void;)V"⟩ : MethodName) (head1 (Jvm.Cond.code (⟨"java/lang/String", "<init>", "([CIILjava/lang/Void;)V"⟩ : MethodName) jdk_42_method_149_code 6 none :: ws) ({ frames := 2, cells := 1, slots := 5, locals := 35 } : Room)) (fun a U => a = #[(.ref r0), (.ref r1), (.int (0 : Int32)), (.int (5 : Int32)), .null] ∧ Z.Warmed39 U.vm ∧ U.heap = h0) (fun _ _ _ _ _ => True) (fun _ U o U' => ∃ v L, o = .returned v ∧ Qsb5 Z r0 r1 kC c0 c1 c2 c3 c4 wALLOW wFORBID tALLOW tFORBID wV kwV cs h0 n0 v U'.heap L ∧ FrameEnd U o U' L ({ frames := 2, cells := 1, slots := 5, locals := 35 } : Room).cells ({ frames := 2, cells := 1, slots := 5, locals := 35 } : Room).slots) := by
  refine MetFree.of_bodySF (plainFor_of_name pn_java_lang_String) hisR ?_
  intro p e s m args below meth c s₁ Bd hml0 hP hK
  obtain ⟨rfl, hZ, hh⟩ := hP
  have hx := Bd.exec
  have hby := Bd.bytes
  have hml : c.maxLocals = 6 := hml0
  have hown : s.vm.findClass "java/lang/String" = some m.cls := findClass_of_methodNamed Bd.named
  have hnm := (name_of_methodNamed Bd.named Bd.method).1
  have X0 : Stand p l e ({ frames := 2, cells := 1, slots := 5, locals := 35 } : Room) s m #[(.ref r0), (.ref r1), (.int (0 : Int32)), (.int (5 : Int32)), .null] below meth c s₁ [] 0 0 := Stand.of_body Bd
  have e0 : s₁.heap = h0 := by rw [← hh, Bd.state]; rfl
  have N0 := Fr.nil n0
  refine own_by (p := p) (e := e) (below := below) (K := own_Ksb5 Z r0 r1 kC c0 c1 c2 c3 c4 wALLOW wFORBID tALLOW tFORBID wV kwV cs h0 n0 s) (W' := s₁.setTop (mkF m 0 #[.val (.ref r0), .val (.ref r1), .val (.int (0 : Int32)), .val (.int (5 : Int32)), .val .null, .unset] [])) (fun t k => castTop (efsb5 m r0 r1) k) ?_
  obtain ⟨T21, X21, e21, st21⟩ := initO X0 hx hZ hown (own_w hw 17) (own_w hw 18) (own_w hw 19) e0 (g := (mkF m 1 #[.val (.ref r0), .val (.ref r1), .val (.int (0 : Int32)), .val (.int (5 : Int32)), .val .null, .unset] [(.ref r0)])) rfl (by rw [hml]; rfl) rfl (hb hby djdk_42_149_1) (by decide) (W := 0) (by show 2 * 0 + _ ≤ _; exact Nat.le_of_eq rfl) (by decide)
  obtain ⟨T22, X22, e22, st22⟩ := getS (host := "") X21 hx hZ hown (own_w hw 20) Via.refl e21 (HW.2.2.2.2.2.2.2.2.2.2.2.2.2.1.ext O0.2) (g := (mkF m 27 #[.val (.ref r0), .val (.ref r1), .val (.int (0 : Int32)), .val (.int (5 : Int32)), .val .null, .unset] [])) rfl (hb hby djdk_42_149_27)
  refine own_by (W' := (T22.setTop (mkF m 33 #[.val (.ref r0), .val (.ref r1), .val (.int (0 : Int32)), .val (.int (5 : Int32)), .val .null, .unset] []))) (fun t k => XS.aloadN X0.here hx rfl (hb hby djdk_42_149_0) rfl rfl (st21 _ (XS.iloadN X21.here hx rfl (hb hby djdk_42_149_4) rfl (XS.ifYes X21.here hx rfl (pc0 := 5) (pc' := 27) rfl (hb hby djdk_42_149_5) rfl ((if0 _ _).trans (feq (by decide : ¬ ((5 : Int32) = (0 : Int32)))).2) (by decide) (by decide) (st22 _ (XS.ifNo X22.here hx rfl (hb hby djdk_42_149_30) rfl ((if0 _ _).trans (feq HW.2.2.2.2.2.2.2.2.2.2.2.2.2.2).1) k)))))) ?_
  obtain ⟨_, _, ⟨T23, L23, k23, n23⟩, -, X23, ⟨Lc23, hQ23, l23, y23, z23⟩, st23⟩ := Jvm.LawKit.callS X22 hx (y := (⟨"java/lang/StringUTF16", "compress", "([CII)[B"⟩ : MethodName)) hown (mvT hZ (own_w hw 21)) (mvT hZ (own_w hw 22)) (mvT hZ (own_w hw 23)) (mvT hZ (own_w hw 24)) (by decide) (backOf (W := 0) (rmca5 l Z a0 hw [] r1 kC c0 c1 c2 c3 c4 h0 n0 Z0 O0 V1 hc_c0 hc_c1 hc_c2 hc_c3 hc_c4) hZ (own_w hw 24) (own_w hw 23) (by decide) (by decide)) (g := (mkF m 36 #[.val (.ref r0), .val (.ref r1), .val (.int (0 : Int32)), .val (.int (5 : Int32)), .val .null, .unset] [(.int (5 : Int32)), (.int (0 : Int32)), (.ref r1)])) rfl (by rw [hml]; rfl) (argsL := [(.ref r1), (.int (0 : Int32)), (.int (5 : Int32))]) (rest := []) (lenOf pd_4 rfl) rfl (by show 2 * 0 + _ ≤ _; exact Nat.le_of_eq rfl) (hb hby djdk_42_149_36) (fun _ _ => ⟨rfl, e22, (by decide : 0 + 1 ≤ _), (by decide : 0 + 5 ≤ _)⟩)
  dsimp only [Pt.U, Pt.locs, Pt.cells, Pt.slots] at X23 l23 y23 z23 st23 hQ23
  subst l23 y23 z23
  obtain ⟨fb23, kb23, rfl, N23q, Kq23, hsz23, Vq23⟩ := hQ23
  have ne_r0_fb23 : r0 ≠ fb23 := Nat.ne_of_lt (Nat.lt_of_lt_of_le E0.lt hsz23)
  have ne_r1_fb23 : r1 ≠ fb23 := Nat.ne_of_lt (Nat.lt_of_lt_of_le V1.lt hsz23)
  have O23 := Old.keep O0 Kq23 all0
  have K23 := Keep.trans (Keep.refl h0 [r0]) Kq23 all0
  have N23 := Fr.app N0 N23q
  refine own_by (W' := (T23.setTop (mkF m 42 #[.val (.ref r0), .val (.ref r1), .val (.int (0 : Int32)), .val (.int (5 : Int32)), .val .null, .val (.ref fb23)] [(.ref r0)]))) (fun t k => XS.aloadN X22.here hx rfl (hb hby djdk_42_149_33) rfl rfl (XS.iloadN X22.here hx rfl (hb hby djdk_42_149_34) rfl (XS.iloadN X22.here hx rfl (hb hby djdk_42_149_35) rfl (st23 _ (XS.astore X23.here hx rfl (hb hby djdk_42_149_39) rfl rfl (l' := #[.val (.ref r0), .val (.ref r1), .val (.int (0 : Int32)), .val (.int (5 : Int32)), .val .null, .val (.ref fb23)]) rfl (XS.aloadN X23.here hx rfl (hb hby djdk_42_149_41) rfl rfl k)))))) ?_
  obtain ⟨_, _, ⟨T24, L24, k24, n24⟩, -, X24, ⟨Lc24, hQ24, l24, y24, z24⟩, st24⟩ := Jvm.LawKit.callS X23 hx (y := (⟨"java/lang/StringUTF16", "coderFromArrayLen", "([BI)B"⟩ : MethodName)) hown (mvT hZ (own_w hw 29)) (mvT hZ (own_w hw 30)) (mvT hZ (own_w hw 23)) (mvT hZ (own_w hw 31)) (by decide) (backOf (W := 1) (rmcd5 l Z a0 hw [] fb23 kb23 [(.int (nar .byte (c0.toInt8.toInt32))), (.int (nar .byte (c1.toInt8.toInt32))), (.int (nar .byte (c2.toInt8.toInt32))), (.int (nar .byte (c3.toInt8.toInt32))), (.int (nar .byte (c4.toInt8.toInt32)))] T23.heap n0 (own_le O23) Vq23) hZ (own_w hw 31) (own_w hw 23) (by decide) (by decide)) (g := (mkF m 45 #[.val (.ref r0), .val (.ref r1), .val (.int (0 : Int32)), .val (.int (5 : Int32)), .val .null, .val (.ref fb23)] [(.int (5 : Int32)), (.ref fb23), (.ref r0)])) rfl (by rw [hml]; rfl) (argsL := [(.ref fb23), (.int (5 : Int32))]) (rest := [(.ref r0)]) (lenOf pd_5 rfl) rfl (by show 2 * 0 + _ ≤ _; exact Nat.le_of_eq rfl) (hb hby djdk_42_149_45) (fun _ _ => ⟨rfl, rfl, (by decide : 1 + 0 ≤ _), (by decide : 5 + 0 ≤ _)⟩)
  dsimp only [Pt.U, Pt.locs, Pt.cells, Pt.slots] at X24 l24 y24 z24 st24 hQ24
  subst l24 y24 z24
  obtain ⟨rfl, N24q, e24⟩ := hQ24
  have N24 := Fr.app N23 N24q
  obtain ⟨T25, h25, X25, e25, W25, st25⟩ := putFN X24 hx hZ hown (own_w hw 32) Via.refl e24 (F_coder.keep Kq23 nin0) (E0.keep Kq23) (Or.inr ⟨(own_w hw 33), rfl, hnm⟩) (own_w hw 8) (ty := .byte) (v' := .int (0 : Int32)) (by decide) rfl (by decide) (g := (mkF m 48 #[.val (.ref r0), .val (.ref r1), .val (.int (0 : Int32)), .val (.int (5 : Int32)), .val .null, .val (.ref fb23)] [(.int (0 : Int32)), (.ref r0)])) rfl rfl (hb hby djdk_42_149_48)
  have Fw25 := (F_coder.keep Kq23 nin0).same W25
  have O25 := Old.wr O23 W25 g_r0
  have N25 := Fr.snoc X25 N24 g_r0
  have K25 := Keep.wr K23 W25 (Or.inl (List.mem_of_getElem? (i := 0) rfl))
  refine own_by (W' := (T25.setTop (mkF m 54 #[.val (.ref r0), .val (.ref r1), .val (.int (0 : Int32)), .val (.int (5 : Int32)), .val .null, .val (.ref fb23)] [(.ref fb23), (.ref r0)]))) (fun t k => XS.aload X23.here hx rfl (hb hby djdk_42_149_42) rfl rfl (XS.iloadN X23.here hx rfl (hb hby djdk_42_149_44) rfl (st24 _ (st25 _ (XS.aloadN X25.here hx rfl (hb hby djdk_42_149_51) rfl rfl (XS.aload X25.here hx rfl (hb hby djdk_42_149_52) rfl rfl k)))))) ?_
  obtain ⟨T26, h26, X26, e26, W26, st26⟩ := putF X25 hx hZ hown (host := "") (Or.inl (own_w hw 34)) Via.refl e25 ((F_value.keep Kq23 nin0).other W25 (Or.inr (slot_ne (Or.inr (own_w hw 35)) (Or.inr (own_w hw 33)) (by decide) (t := (.array .byte)) (t' := .byte) (by decide) (by decide)))) ((E0.keep Kq23).wr W25) (Or.inr ⟨(own_w hw 35), rfl, hnm⟩) (own_w hw 8) (ty := (.array .byte)) (by decide) rfl rfl (g := (mkF m 54 #[.val (.ref r0), .val (.ref r1), .val (.int (0 : Int32)), .val (.int (5 : Int32)), .val .null, .val (.ref fb23)] [(.ref fb23), (.ref r0)])) rfl rfl (hb hby djdk_42_149_54)
  have Fw26 := ((F_value.keep Kq23 nin0).other W25 (Or.inr (slot_ne (Or.inr (own_w hw 35)) (Or.inr (own_w hw 33)) (by decide) (t := (.array .byte)) (t' := .byte) (by decide) (by decide)))).same W26
  have O26 := Old.wr O25 W26 g_r0
  have N26 := Fr.snoc X26 N25 g_r0
  have K26 := Keep.wr K25 W26 (Or.inl (List.mem_of_getElem? (i := 0) rfl))
  obtain ⟨fs, hr, hrun, hended, hW, hsame⟩ := X26.leave (v := none) (fun _ => rfl)
  refine own_by (W' := (T26.setTop (mkF m 57 #[.val (.ref r0), .val (.ref r1), .val (.int (0 : Int32)), .val (.int (5 : Int32)), .val .null, .val (.ref fb23)] []))) (fun t k => st26 _ k) ?_
  refine ⟨_, _, X26.returnOut hx Bd.returns (hb hby djdk_42_149_57) hr, hrun, hended, _, _, rfl, ?_, ⟨_, rfl⟩, hW, hsame.mono (by decide) (by decide)⟩
  show Qsb5 Z r0 r1 kC c0 c1 c2 c3 c4 wALLOW wFORBID tALLOW tFORBID wV kwV cs h0 n0 _ T26.heap _
  rw [e26]
  exact ⟨rfl, N26, K26, (((E0.keep Kq23).wr W25).wr W26), (Fw25.other W26 (Or.inr (slot_ne (Or.inr (own_w hw 33)) (Or.inr (own_w hw 35)) (by decide) (t := .byte) (t' := (.array .byte)) (by decide) (by decide)))), _, _, Fw26, ((Vq23.other W25 ne_r0_fb23.symm).other W26 ne_r0_fb23.symm)⟩
theorem efsa5 (m : MethodId) (r0 : Addr) (r1 : Addr) : entryFrame m #[(.ref r0), (.ref r1)] 2 = mkF m 0 #[.val (.ref r0), .val (.ref r1)] [] := by first | (simp [entryFrame, mkF, argsToLocals, Value.category]; done) | rfl
def Qsa5 (Z : State) (r0 : Addr) (r1 : Addr) (kC : ClassId) (c0 : Int32) (c1 : Int32) (c2 : Int32) (c3 : Int32) (c4 : Int32) (wALLOW : Addr) (wFORBID : Addr) (tALLOW : Addr) (tFORBID : Addr) (wV : Addr) (kwV : ClassId) (cs : Int32) (h0 : Heap) (n0 : Nat) (v : Option Value) (h : Heap) (L : List Loc) : Prop := v = none ∧ Fr n0 L ∧ Keep h0 h [r0] ∧ own_St Z h r0 (5 : Int32) [(.int (nar .byte (c0.toInt8.toInt32))), (.int (nar .byte (c1.toInt8.toInt32))), (.int (nar .byte (c2.toInt8.toInt32))), (.int (nar .byte (c3.toInt8.toInt32))), (.int (nar .byte (c4.toInt8.toInt32)))]
abbrev own_Ksa5 (Z : State) (r0 : Addr) (r1 : Addr) (kC : ClassId) (c0 : Int32) (c1 : Int32) (c2 : Int32) (c3 : Int32) (c4 : Int32) (wALLOW : Addr) (wFORBID : Addr) (tALLOW : Addr) (tFORBID : Addr) (wV : Addr) (kwV : ClassId) (cs : Int32) (h0 : Heap) (n0 : Nat) (s : State) : Outcome → State → Prop := fun o U' => ∃ v L, o = .returned v ∧ Qsa5 Z r0 r1 kC c0 c1 c2 c3 c4 wALLOW wFORBID tALLOW tFORBID wV kwV cs h0 n0 v U'.heap L ∧ FrameEnd s o U' L ({ frames := 3, cells := 1, slots := 5, locals := 52 } : Room).cells ({ frames := 3, cells := 1, slots := 5, locals := 52 } : Room).slots
set_option maxRecDepth 65536 in
set_option maxHeartbeats 40000000 in
theorem rmsa5 (l : Launch) (Z : State) (a0 : Array Value) (hw : ∀ d ∈ tables_1, d.before a0 Z = true) (ws : List Jvm.Cond) (r0 : Addr) (r1 : Addr) (kC : ClassId) (c0 : Int32) (c1 : Int32) (c2 : Int32) (c3 : Int32) (c4 : Int32) (wALLOW : Addr) (wFORBID : Addr) (tALLOW : Addr) (tFORBID : Addr) (wV : Addr) (kwV : ClassId) (cs : Int32) (h0 : Heap) (n0 : Nat) (Z0 : n0 ≤ h0.size) (O0 : Old Z n0 h0) (HW : own_Wd Z wALLOW wFORBID tALLOW tFORBID wV kwV cs) (E0 : Exa Z h0 r0 "java/lang/String") (g_r0 : n0 ≤ r0) (F_value : Fld Z h0 r0 "java/lang/String" "value" "[B" .null) (F_coder : Fld Z h0 r0 "java/lang/String" "coder" "B" (.int (0 : Int32))) (V1 : Arv Z h0 r1 kC .char (5 : Int32) [(.int c0), (.int c1), (.int c2), (.int c3), (.int c4)] (.int (0 : Int32))) (hc_c0 : ¬ (255 : Int32) < c0) (hc_c1 : ¬ (255 : Int32) < c1) (hc_c2 : ¬ (255 : Int32) < c2) (hc_c3 : ¬ (255 : Int32) < c3) (hc_c4 : ¬ (255 : Int32) < c4) :
    MetFree l (⟨"java/lang/String", "<init>", "([C)V"⟩ : MethodName) (head1 (Jvm.Cond.code (⟨"java/lang/String", "<init>", "([C)V"⟩ : MethodName) jdk_42_method_3_code 2 none :: ws) ({ frames := 3, cells := 1, slots := 5, locals := 52 } : Room)) (fun a U => a = #[(.ref r0), (.ref r1)] ∧ Z.Warmed39 U.vm ∧ U.heap = h0) (fun _ _ _ _ _ => True) (fun _ U o U' => ∃ v L, o = .returned v ∧ Qsa5 Z r0 r1 kC c0 c1 c2 c3 c4 wALLOW wFORBID tALLOW tFORBID wV kwV cs h0 n0 v U'.heap L ∧ FrameEnd U o U' L ({ frames := 3, cells := 1, slots := 5, locals := 52 } : Room).cells ({ frames := 3, cells := 1, slots := 5, locals := 52 } : Room).slots) := by
  refine MetFree.of_bodySF (plainFor_of_name pn_java_lang_String) hisR ?_
  intro p e s m args below meth c s₁ Bd hml0 hP hK
  obtain ⟨rfl, hZ, hh⟩ := hP
  have hx := Bd.exec
  have hby := Bd.bytes
  have hml : c.maxLocals = 2 := hml0
  have hown : s.vm.findClass "java/lang/String" = some m.cls := findClass_of_methodNamed Bd.named
  have hnm := (name_of_methodNamed Bd.named Bd.method).1
  have X0 : Stand p l e ({ frames := 3, cells := 1, slots := 5, locals := 52 } : Room) s m #[(.ref r0), (.ref r1)] below meth c s₁ [] 0 0 := Stand.of_body Bd
  have e0 : s₁.heap = h0 := by rw [← hh, Bd.state]; rfl
  have N0 := Fr.nil n0
  refine own_by (p := p) (e := e) (below := below) (K := own_Ksa5 Z r0 r1 kC c0 c1 c2 c3 c4 wALLOW wFORBID tALLOW tFORBID wV kwV cs h0 n0 s) (W' := s₁.setTop (mkF m 0 #[.val (.ref r0), .val (.ref r1)] [])) (fun t k => castTop (efsa5 m r0 r1) k) ?_
  obtain ⟨clu21, Aru21, qu21, Su21, Ngu21, Hau21, Gau21⟩ := id V1
  refine own_by (W' := (s₁.setTop (mkF m 5 #[.val (.ref r0), .val (.ref r1)] [(.int clu21.slots.size.toInt32), (.int (0 : Int32)), (.ref r1), (.ref r0)]))) (fun t k => XS.aloadN X0.here hx rfl (hb hby djdk_42_3_0) rfl rfl (XS.aloadN X0.here hx rfl (hb hby djdk_42_3_1) rfl rfl (XS.iconst X0.here hx rfl (hb hby djdk_42_3_2) (XS.aloadN X0.here hx rfl (hb hby djdk_42_3_3) rfl rfl ((X0.arraylength hx (by rw [e0]; exact Aru21.1) (State.isArrayOf_alike hZ.alike Aru21.2.1) (g := (mkF m 4 #[.val (.ref r0), .val (.ref r1)] [(.ref r1), (.int (0 : Int32)), (.ref r1), (.ref r0)])) rfl rfl (hb hby djdk_42_3_4)) _ k))))) ?_
  rw [len_of Su21 Ngu21]
  obtain ⟨_, _, ⟨T22, L22, k22, n22⟩, -, X22, ⟨Lc22, hQ22, l22, y22, z22⟩, st22⟩ := X0.specialBack hx (y := (⟨"java/lang/String", "<init>", "([CIILjava/lang/Void;)V"⟩ : MethodName)) rfl hown (mvT hZ (own_w hw 13)) (mvT hZ (own_w hw 14)) (mvT hZ (own_w hw 16)) (by decide) (backOf (W := 0) (rmsb5 l Z a0 hw [] r0 r1 kC c0 c1 c2 c3 c4 wALLOW wFORBID tALLOW tFORBID wV kwV cs h0 n0 Z0 O0 HW E0 g_r0 F_value F_coder V1 hc_c0 hc_c1 hc_c2 hc_c3 hc_c4) hZ (own_w hw 16) (own_w hw 9) (by decide) (by decide)) (g := (mkF m 6 #[.val (.ref r0), .val (.ref r1)] [.null, (.int (5 : Int32)), (.int (0 : Int32)), (.ref r1), (.ref r0)])) rfl (by rw [hml]; rfl) (Steps.refl _) (a := r0) (argsL := [(.ref r1), (.int (0 : Int32)), (.int (5 : Int32)), .null]) (rest := []) (lenOf pd_1 rfl) rfl (by show 2 * 0 + _ ≤ _; exact Nat.le_of_eq rfl) (hb hby djdk_42_3_6) (fun _ _ => ⟨rfl, e0, (by decide : 0 + 1 ≤ _), (by decide : 0 + 5 ≤ _)⟩)
  dsimp only [Pt.U, Pt.locs, Pt.cells, Pt.slots] at X22 l22 y22 z22 st22 hQ22
  subst l22 y22 z22
  obtain ⟨rfl, N22q, Kq22, Tq22⟩ := hQ22
  have O22 := Old.keep O0 Kq22 (allS g_r0 all0)
  have K22 := Keep.trans (Keep.refl h0 [r0]) Kq22 (allS (Or.inl (List.mem_of_getElem? (i := 0) rfl)) all0)
  have N22 := Fr.app N0 N22q
  obtain ⟨fs, hr, hrun, hended, hW, hsame⟩ := X22.leave (v := none) (fun _ => rfl)
  refine own_by (W' := (T22.setTop (mkF m 9 #[.val (.ref r0), .val (.ref r1)] []))) (fun t k => XS.aconstNull X0.here hx rfl (hb hby djdk_42_3_5) (Steps.trans st22 k)) ?_
  refine ⟨_, _, X22.returnOut hx Bd.returns (hb hby djdk_42_3_9) hr, hrun, hended, _, _, rfl, ?_, ⟨_, rfl⟩, hW, hsame.mono (by decide) (by decide)⟩
  show Qsa5 Z r0 r1 kC c0 c1 c2 c3 c4 wALLOW wFORBID tALLOW tFORBID wV kwV cs h0 n0 _ T22.heap _
  exact ⟨rfl, N22, K22, Tq22⟩
theorem dmethod_3_139 : decode method_3_code 139 = .ok (.iload_n 1, 1) := by decide +kernel
theorem dmethod_3_140 : decode method_3_code 140 = .ok (.iconst 5, 1) := by decide +kernel
theorem dmethod_3_141 : decode method_3_code 141 = .ok (.if_icmp .ne 44, 3) := by decide +kernel
theorem dmethod_3_144 : decode method_3_code 144 = .ok (.new 19, 3) := by decide +kernel
theorem dmethod_3_147 : decode method_3_code 147 = .ok (.dup, 1) := by decide +kernel
theorem dmethod_3_148 : decode method_3_code 148 = .ok (.iconst 5, 1) := by decide +kernel
theorem dmethod_3_149 : decode method_3_code 149 = .ok (.newarray .char, 2) := by decide +kernel
theorem dmethod_3_151 : decode method_3_code 151 = .ok (.dup, 1) := by decide +kernel
theorem dmethod_3_152 : decode method_3_code 152 = .ok (.iconst 0, 1) := by decide +kernel
theorem dmethod_3_153 : decode method_3_code 153 = .ok (.aload_n 0, 1) := by decide +kernel
theorem dmethod_3_154 : decode method_3_code 154 = .ok (.iconst 0, 1) := by decide +kernel
theorem dmethod_3_155 : decode method_3_code 155 = .ok (.caload, 1) := by decide +kernel
theorem dmethod_3_156 : decode method_3_code 156 = .ok (.castore, 1) := by decide +kernel
theorem dmethod_3_157 : decode method_3_code 157 = .ok (.dup, 1) := by decide +kernel
theorem dmethod_3_158 : decode method_3_code 158 = .ok (.iconst 1, 1) := by decide +kernel
theorem dmethod_3_159 : decode method_3_code 159 = .ok (.aload_n 0, 1) := by decide +kernel
theorem dmethod_3_160 : decode method_3_code 160 = .ok (.iconst 1, 1) := by decide +kernel
theorem dmethod_3_161 : decode method_3_code 161 = .ok (.caload, 1) := by decide +kernel
theorem dmethod_3_162 : decode method_3_code 162 = .ok (.castore, 1) := by decide +kernel
theorem dmethod_3_163 : decode method_3_code 163 = .ok (.dup, 1) := by decide +kernel
theorem dmethod_3_164 : decode method_3_code 164 = .ok (.iconst 2, 1) := by decide +kernel
theorem dmethod_3_165 : decode method_3_code 165 = .ok (.aload_n 0, 1) := by decide +kernel
theorem dmethod_3_166 : decode method_3_code 166 = .ok (.iconst 2, 1) := by decide +kernel
theorem dmethod_3_167 : decode method_3_code 167 = .ok (.caload, 1) := by decide +kernel
theorem dmethod_3_168 : decode method_3_code 168 = .ok (.castore, 1) := by decide +kernel
theorem dmethod_3_169 : decode method_3_code 169 = .ok (.dup, 1) := by decide +kernel
theorem dmethod_3_170 : decode method_3_code 170 = .ok (.iconst 3, 1) := by decide +kernel
theorem dmethod_3_171 : decode method_3_code 171 = .ok (.aload_n 0, 1) := by decide +kernel
theorem dmethod_3_172 : decode method_3_code 172 = .ok (.iconst 3, 1) := by decide +kernel
theorem dmethod_3_173 : decode method_3_code 173 = .ok (.caload, 1) := by decide +kernel
theorem dmethod_3_174 : decode method_3_code 174 = .ok (.castore, 1) := by decide +kernel
theorem dmethod_3_175 : decode method_3_code 175 = .ok (.dup, 1) := by decide +kernel
theorem dmethod_3_176 : decode method_3_code 176 = .ok (.iconst 4, 1) := by decide +kernel
theorem dmethod_3_177 : decode method_3_code 177 = .ok (.aload_n 0, 1) := by decide +kernel
theorem dmethod_3_178 : decode method_3_code 178 = .ok (.iconst 4, 1) := by decide +kernel
theorem dmethod_3_179 : decode method_3_code 179 = .ok (.caload, 1) := by decide +kernel
theorem dmethod_3_180 : decode method_3_code 180 = .ok (.castore, 1) := by decide +kernel
theorem dmethod_3_181 : decode method_3_code 181 = .ok (.invokespecial 39, 3) := by decide +kernel
theorem dmethod_3_184 : decode method_3_code 184 = .ok (.areturn, 1) := by decide +kernel
theorem efmk5 (m : MethodId) (r0 : Addr) : entryFrame m #[(.ref r0), (.int (5 : Int32))] 2 = mkF m 0 #[.val (.ref r0), .val (.int (5 : Int32))] [] := by first | (simp [entryFrame, mkF, argsToLocals, Value.category]; done) | rfl
def Qmk5 (Z : State) (r0 : Addr) (kC : ClassId) (c0 : Int32) (c1 : Int32) (c2 : Int32) (c3 : Int32) (c4 : Int32) (c5 : Int32) (wALLOW : Addr) (wFORBID : Addr) (tALLOW : Addr) (tFORBID : Addr) (wV : Addr) (kwV : ClassId) (cs : Int32) (h0 : Heap) (n0 : Nat) (v : Option Value) (h : Heap) (L : List Loc) : Prop := ∃ q : Addr, v = some (.ref q) ∧ Fr n0 L ∧ Keep h0 h [] ∧ h0.size ≤ q ∧ own_St Z h q (5 : Int32) [(.int (nar .byte (c0.toInt8.toInt32))), (.int (nar .byte (c1.toInt8.toInt32))), (.int (nar .byte (c2.toInt8.toInt32))), (.int (nar .byte (c3.toInt8.toInt32))), (.int (nar .byte (c4.toInt8.toInt32)))]
abbrev own_Kmk5 (Z : State) (r0 : Addr) (kC : ClassId) (c0 : Int32) (c1 : Int32) (c2 : Int32) (c3 : Int32) (c4 : Int32) (c5 : Int32) (wALLOW : Addr) (wFORBID : Addr) (tALLOW : Addr) (tFORBID : Addr) (wV : Addr) (kwV : ClassId) (cs : Int32) (h0 : Heap) (n0 : Nat) (s : State) : Outcome → State → Prop := fun o U' => ∃ v L, o = .returned v ∧ Qmk5 Z r0 kC c0 c1 c2 c3 c4 c5 wALLOW wFORBID tALLOW tFORBID wV kwV cs h0 n0 v U'.heap L ∧ FrameEnd s o U' L ({ frames := 4, cells := 3, slots := 14, locals := 66 } : Room).cells ({ frames := 4, cells := 3, slots := 14, locals := 66 } : Room).slots
set_option maxRecDepth 65536 in
set_option maxHeartbeats 40000000 in
theorem rmmk5 (l : Launch) (Z : State) (a0 : Array Value) (hw : ∀ d ∈ tables_1, d.before a0 Z = true) (ws : List Jvm.Cond) (r0 : Addr) (kC : ClassId) (c0 : Int32) (c1 : Int32) (c2 : Int32) (c3 : Int32) (c4 : Int32) (c5 : Int32) (wALLOW : Addr) (wFORBID : Addr) (tALLOW : Addr) (tFORBID : Addr) (wV : Addr) (kwV : ClassId) (cs : Int32) (h0 : Heap) (n0 : Nat) (Z0 : n0 ≤ h0.size) (O0 : Old Z n0 h0) (HW : own_Wd Z wALLOW wFORBID tALLOW tFORBID wV kwV cs) (V0 : Arv Z h0 r0 kC .char (6 : Int32) [(.int c0), (.int c1), (.int c2), (.int c3), (.int c4), (.int c5)] (.int (0 : Int32))) (hl_c0 : own_ch c0) (hl_c1 : own_ch c1) (hl_c2 : own_ch c2) (hl_c3 : own_ch c3) (hl_c4 : own_ch c4) (hl_c5 : own_ch c5) :
    MetFree l (⟨"com/example/claviger/claviger/engine/EffectNamedPinLaw", "make", "([CI)Ljava/lang/String;"⟩ : MethodName) (head1 (Jvm.Cond.code (⟨"com/example/claviger/claviger/engine/EffectNamedPinLaw", "make", "([CI)Ljava/lang/String;"⟩ : MethodName) method_3_code 2 (some (.object "java/lang/String")) :: ws) ({ frames := 4, cells := 3, slots := 14, locals := 66 } : Room)) (fun a U => a = #[(.ref r0), (.int (5 : Int32))] ∧ Z.Warmed39 U.vm ∧ U.heap = h0) (fun _ _ _ _ _ => True) (fun _ U o U' => ∃ v L, o = .returned v ∧ Qmk5 Z r0 kC c0 c1 c2 c3 c4 c5 wALLOW wFORBID tALLOW tFORBID wV kwV cs h0 n0 v U'.heap L ∧ FrameEnd U o U' L ({ frames := 4, cells := 3, slots := 14, locals := 66 } : Room).cells ({ frames := 4, cells := 3, slots := 14, locals := 66 } : Room).slots) := by
  refine MetFree.of_bodySF (plainFor_of_name pn_com_example_claviger_claviger_engine_EffectNamedPinLaw) hisR ?_
  intro p e s m args below meth c s₁ Bd hml0 hP hK
  obtain ⟨rfl, hZ, hh⟩ := hP
  have hx := Bd.exec
  have hby := Bd.bytes
  have hml : c.maxLocals = 2 := hml0
  have hown : s.vm.findClass "com/example/claviger/claviger/engine/EffectNamedPinLaw" = some m.cls := findClass_of_methodNamed Bd.named
  have hnm := (name_of_methodNamed Bd.named Bd.method).1
  have X0 : Stand p l e ({ frames := 4, cells := 3, slots := 14, locals := 66 } : Room) s m #[(.ref r0), (.int (5 : Int32))] below meth c s₁ [] 0 0 := Stand.of_body Bd
  have e0 : s₁.heap = h0 := by rw [← hh, Bd.state]; rfl
  have N0 := Fr.nil n0
  refine own_by (p := p) (e := e) (below := below) (K := own_Kmk5 Z r0 kC c0 c1 c2 c3 c4 c5 wALLOW wFORBID tALLOW tFORBID wV kwV cs h0 n0 s) (W' := s₁.setTop (mkF m 0 #[.val (.ref r0), .val (.int (5 : Int32))] [])) (fun t k => castTop (efmk5 m r0) k) ?_
  refine own_by (W' := (s₁.setTop (mkF m 38 #[.val (.ref r0), .val (.int (5 : Int32))] [(.int (5 : Int32))]))) (fun t k => XS.iloadN X0.here hx rfl (hb hby dmethod_3_0) rfl (XS.ifYes X0.here hx rfl (pc0 := 1) (pc' := 15) rfl (hb hby dmethod_3_1) rfl ((if0 _ _).trans (feq (by decide : ¬ ((5 : Int32) = (0 : Int32)))).2) (by decide) (by decide) (XS.iloadN X0.here hx rfl (hb hby dmethod_3_15) rfl (XS.iconst X0.here hx rfl (hb hby dmethod_3_16) (XS.icmpYes X0.here hx rfl (pc0 := 17) (pc' := 37) rfl (hb hby dmethod_3_17) rfl (feq (by decide : ¬ ((5 : Int32) = (1 : Int32)))).2 (by decide) (by decide) (XS.iloadN X0.here hx rfl (hb hby dmethod_3_37) rfl k)))))) ?_
  refine own_by (W' := (s₁.setTop (mkF m 100 #[.val (.ref r0), .val (.int (5 : Int32))] [(.int (5 : Int32))]))) (fun t k => XS.iconst X0.here hx rfl (hb hby dmethod_3_38) (XS.icmpYes X0.here hx rfl (pc0 := 39) (pc' := 65) rfl (hb hby dmethod_3_39) rfl (feq (by decide : ¬ ((5 : Int32) = (2 : Int32)))).2 (by decide) (by decide) (XS.iloadN X0.here hx rfl (hb hby dmethod_3_65) rfl (XS.iconst X0.here hx rfl (hb hby dmethod_3_66) (XS.icmpYes X0.here hx rfl (pc0 := 67) (pc' := 99) rfl (hb hby dmethod_3_67) rfl (feq (by decide : ¬ ((5 : Int32) = (3 : Int32)))).2 (by decide) (by decide) (XS.iloadN X0.here hx rfl (hb hby dmethod_3_99) rfl k)))))) ?_
  obtain ⟨T21, h21, X21, e21, E21, A21, D21, -, st21⟩ := newO X0 hx hZ hown (own_w hw 7) (own_w hw 8) (own_w hw 9) e0 (g := (mkF m 144 #[.val (.ref r0), .val (.int (5 : Int32))] [])) rfl (hb hby dmethod_3_144) (by decide) (by decide)
  obtain ⟨b21, g21⟩ : ∃ z, z = h0.size := ⟨_, rfl⟩
  rw [← g21] at A21 D21 st21
  have g_b21 : n0 ≤ b21 := Nat.le_trans (own_le O0) (Nat.le_of_eq g21.symm)
  have sz_b21 : h0.size ≤ b21 := Nat.le_trans (Keep.refl h0 []).1 (Nat.le_of_eq g21.symm)
  have ne_r0_b21 : r0 ≠ b21 := Nat.ne_of_lt (Nat.lt_of_lt_of_le V0.lt (Nat.le_of_eq g21.symm))
  have O21 := O0.ext E21
  have K21 := Keep.ext (Keep.refl h0 []) E21
  have F_coder_b21 : Fld Z h21 b21 "java/lang/String" "coder" "B" (.int (0 : Int32)) := D21 (Or.inr (own_w hw 33)) (ty := .byte) (by decide)
  have F_value_b21 : Fld Z h21 b21 "java/lang/String" "value" "[B" .null := D21 (Or.inr (own_w hw 35)) (ty := (.array .byte)) (by decide)
  refine own_by (W' := (T21.setTop (mkF m 147 #[.val (.ref r0), .val (.int (5 : Int32))] [(.ref b21)]))) (fun t k => XS.iconst X0.here hx rfl (hb hby dmethod_3_100) (XS.icmpYes X0.here hx rfl (pc0 := 101) (pc' := 139) rfl (hb hby dmethod_3_101) rfl (feq (by decide : ¬ ((5 : Int32) = (4 : Int32)))).2 (by decide) (by decide) (XS.iloadN X0.here hx rfl (hb hby dmethod_3_139) rfl (XS.iconst X0.here hx rfl (hb hby dmethod_3_140) (XS.icmpNo X0.here hx rfl (hb hby dmethod_3_141) rfl (teq (rfl : (5 : Int32) = (5 : Int32))).2 (st21 _ k)))))) ?_
  obtain ⟨T22, h22, k22, X22, e22, E22, A22, st22⟩ := newP X21 hx hZ (own_w hw 1) e21 (g := (mkF m 149 #[.val (.ref r0), .val (.int (5 : Int32))] [(.int (5 : Int32)), (.ref b21), (.ref b21)])) rfl (hb hby dmethod_3_149) rfl (by decide) (cap := 5) (by decide) (by decide) (by decide) (by decide)
  obtain ⟨b22, g22⟩ : ∃ z, z = h21.size := ⟨_, rfl⟩
  rw [← g22] at A22 st22
  have g_b22 : n0 ≤ b22 := Nat.le_trans (own_le O21) (Nat.le_of_eq g22.symm)
  have sz_b22 : h0.size ≤ b22 := Nat.le_trans K21.1 (Nat.le_of_eq g22.symm)
  have ne_r0_b22 : r0 ≠ b22 := Nat.ne_of_lt (Nat.lt_of_lt_of_le (V0.ext E21).lt (Nat.le_of_eq g22.symm))
  have ne_b21_b22 : b21 ≠ b22 := Nat.ne_of_lt (Nat.lt_of_lt_of_le A21.lt (Nat.le_of_eq g22.symm))
  have O22 := O21.ext E22
  have K22 := Keep.ext K21 E22
  have V_b22 : Arv Z h22 b22 k22 .char (5 : Int32) [(.int (0 : Int32)), (.int (0 : Int32)), (.int (0 : Int32)), (.int (0 : Int32)), (.int (0 : Int32))] (.int (0 : Int32)) := (Arv.new A22 (by decide)).pad (pad_rep [] (.int (0 : Int32)) 5)
  refine own_by (W' := (T22.setTop (mkF m 154 #[.val (.ref r0), .val (.int (5 : Int32))] [(.ref r0), (.int (0 : Int32)), (.ref b22), (.ref b22), (.ref b21), (.ref b21)]))) (fun t k => XS.dup X21.here hx rfl (hb hby dmethod_3_147) rfl rfl (XS.iconst X21.here hx rfl (hb hby dmethod_3_148) (st22 _ (XS.dup X22.here hx rfl (hb hby dmethod_3_151) rfl rfl (XS.iconst X22.here hx rfl (hb hby dmethod_3_152) (XS.aloadN X22.here hx rfl (hb hby dmethod_3_153) rfl rfl k)))))) ?_
  obtain ⟨clu23, Aru23, qu23, Su23, Ngu23, Hau23, Gau23⟩ := id ((V0.ext E21).ext E22)
  have hinu23 : ¬ ((0 : Int32) < 0 ∨ clu23.slots.size ≤ ((0 : Int32)).toNatClampNeg) := inb_of Su23 ⟨by decide, by decide⟩
  have hatu23 : clu23.slots[((0 : Int32)).toNatClampNeg]? = some (.int c0) := Has.at Hau23 hinu23 rfl
  obtain ⟨clu24, Aru24, qu24, Su24, Ngu24, Hau24, Gau24⟩ := id V_b22
  have hinu24 : ¬ ((0 : Int32) < 0 ∨ clu24.slots.size ≤ ((0 : Int32)).toNatClampNeg) := inb_of Su24 ⟨by decide, by decide⟩
  obtain ⟨T25, h25, X25, e25, W25, st25⟩ := stC X22 hx hZ e22 Aru24 (j := (0 : Int32)) hinu24 (g := (mkF m 156 #[.val (.ref r0), .val (.int (5 : Int32))] [(.int c0), (.int (0 : Int32)), (.ref b22), (.ref b22), (.ref b21), (.ref b21)])) rfl rfl (hb hby dmethod_3_156)
  have Vu24 : Arv Z h25 b22 k22 .char (5 : Int32) [(.int (nar .char c0)), (.int (0 : Int32)), (.int (0 : Int32)), (.int (0 : Int32)), (.int (0 : Int32))] (.int (0 : Int32)) := Arv.set Aru24 qu24 Su24 Ngu24 Hau24 Gau24 (fits_nar_char _) W25 0 rfl (Nat.le_of_ble_eq_true rfl)
  rw [show nar .char c0 = c0 from hl_c0.1] at Vu24
  have O25 := Old.wr O22 W25 g_b22
  have N25 := Fr.snoc X25 N0 g_b22
  have K25 := Keep.wr K22 W25 (Or.inr sz_b22)
  refine own_by (W' := (T25.setTop (mkF m 160 #[.val (.ref r0), .val (.int (5 : Int32))] [(.ref r0), (.int (1 : Int32)), (.ref b22), (.ref b22), (.ref b21), (.ref b21)]))) (fun t k => XS.iconst X22.here hx rfl (hb hby dmethod_3_154) ((X22.caload hx (j := (0 : Int32)) (v := (.int c0)) (by rw [e22]; exact Aru23.1) (State.isArrayOf_alike hZ.alike Aru23.2.1) Aru23.2.2 hinu23 hatu23 (g := (mkF m 155 #[.val (.ref r0), .val (.int (5 : Int32))] [(.int (0 : Int32)), (.ref r0), (.int (0 : Int32)), (.ref b22), (.ref b22), (.ref b21), (.ref b21)])) rfl rfl (hb hby dmethod_3_155)) _ (st25 _ (XS.dup X25.here hx rfl (hb hby dmethod_3_157) rfl rfl (XS.iconst X25.here hx rfl (hb hby dmethod_3_158) (XS.aloadN X25.here hx rfl (hb hby dmethod_3_159) rfl rfl k)))))) ?_
  obtain ⟨clu26, Aru26, qu26, Su26, Ngu26, Hau26, Gau26⟩ := id (((V0.ext E21).ext E22).other W25 ne_r0_b22)
  have hinu26 : ¬ ((1 : Int32) < 0 ∨ clu26.slots.size ≤ ((1 : Int32)).toNatClampNeg) := inb_of Su26 ⟨by decide, by decide⟩
  have hatu26 : clu26.slots[((1 : Int32)).toNatClampNeg]? = some (.int c1) := Has.at Hau26 hinu26 rfl
  obtain ⟨clu27, Aru27, qu27, Su27, Ngu27, Hau27, Gau27⟩ := id Vu24
  have hinu27 : ¬ ((1 : Int32) < 0 ∨ clu27.slots.size ≤ ((1 : Int32)).toNatClampNeg) := inb_of Su27 ⟨by decide, by decide⟩
  obtain ⟨T28, h28, X28, e28, W28, st28⟩ := stC X25 hx hZ e25 Aru27 (j := (1 : Int32)) hinu27 (g := (mkF m 162 #[.val (.ref r0), .val (.int (5 : Int32))] [(.int c1), (.int (1 : Int32)), (.ref b22), (.ref b22), (.ref b21), (.ref b21)])) rfl rfl (hb hby dmethod_3_162)
  have Vu27 : Arv Z h28 b22 k22 .char (5 : Int32) [(.int c0), (.int (nar .char c1)), (.int (0 : Int32)), (.int (0 : Int32)), (.int (0 : Int32))] (.int (0 : Int32)) := Arv.set Aru27 qu27 Su27 Ngu27 Hau27 Gau27 (fits_nar_char _) W28 1 rfl (Nat.le_of_ble_eq_true rfl)
  rw [show nar .char c1 = c1 from hl_c1.1] at Vu27
  have O28 := Old.wr O25 W28 g_b22
  have N28 := Fr.snoc X28 N25 g_b22
  have K28 := Keep.wr K25 W28 (Or.inr sz_b22)
  refine own_by (W' := (T28.setTop (mkF m 166 #[.val (.ref r0), .val (.int (5 : Int32))] [(.ref r0), (.int (2 : Int32)), (.ref b22), (.ref b22), (.ref b21), (.ref b21)]))) (fun t k => XS.iconst X25.here hx rfl (hb hby dmethod_3_160) ((X25.caload hx (j := (1 : Int32)) (v := (.int c1)) (by rw [e25]; exact Aru26.1) (State.isArrayOf_alike hZ.alike Aru26.2.1) Aru26.2.2 hinu26 hatu26 (g := (mkF m 161 #[.val (.ref r0), .val (.int (5 : Int32))] [(.int (1 : Int32)), (.ref r0), (.int (1 : Int32)), (.ref b22), (.ref b22), (.ref b21), (.ref b21)])) rfl rfl (hb hby dmethod_3_161)) _ (st28 _ (XS.dup X28.here hx rfl (hb hby dmethod_3_163) rfl rfl (XS.iconst X28.here hx rfl (hb hby dmethod_3_164) (XS.aloadN X28.here hx rfl (hb hby dmethod_3_165) rfl rfl k)))))) ?_
  obtain ⟨clu29, Aru29, qu29, Su29, Ngu29, Hau29, Gau29⟩ := id ((((V0.ext E21).ext E22).other W25 ne_r0_b22).other W28 ne_r0_b22)
  have hinu29 : ¬ ((2 : Int32) < 0 ∨ clu29.slots.size ≤ ((2 : Int32)).toNatClampNeg) := inb_of Su29 ⟨by decide, by decide⟩
  have hatu29 : clu29.slots[((2 : Int32)).toNatClampNeg]? = some (.int c2) := Has.at Hau29 hinu29 rfl
  obtain ⟨clu30, Aru30, qu30, Su30, Ngu30, Hau30, Gau30⟩ := id Vu27
  have hinu30 : ¬ ((2 : Int32) < 0 ∨ clu30.slots.size ≤ ((2 : Int32)).toNatClampNeg) := inb_of Su30 ⟨by decide, by decide⟩
  obtain ⟨T31, h31, X31, e31, W31, st31⟩ := stC X28 hx hZ e28 Aru30 (j := (2 : Int32)) hinu30 (g := (mkF m 168 #[.val (.ref r0), .val (.int (5 : Int32))] [(.int c2), (.int (2 : Int32)), (.ref b22), (.ref b22), (.ref b21), (.ref b21)])) rfl rfl (hb hby dmethod_3_168)
  have Vu30 : Arv Z h31 b22 k22 .char (5 : Int32) [(.int c0), (.int c1), (.int (nar .char c2)), (.int (0 : Int32)), (.int (0 : Int32))] (.int (0 : Int32)) := Arv.set Aru30 qu30 Su30 Ngu30 Hau30 Gau30 (fits_nar_char _) W31 2 rfl (Nat.le_of_ble_eq_true rfl)
  rw [show nar .char c2 = c2 from hl_c2.1] at Vu30
  have O31 := Old.wr O28 W31 g_b22
  have N31 := Fr.snoc X31 N28 g_b22
  have K31 := Keep.wr K28 W31 (Or.inr sz_b22)
  refine own_by (W' := (T31.setTop (mkF m 172 #[.val (.ref r0), .val (.int (5 : Int32))] [(.ref r0), (.int (3 : Int32)), (.ref b22), (.ref b22), (.ref b21), (.ref b21)]))) (fun t k => XS.iconst X28.here hx rfl (hb hby dmethod_3_166) ((X28.caload hx (j := (2 : Int32)) (v := (.int c2)) (by rw [e28]; exact Aru29.1) (State.isArrayOf_alike hZ.alike Aru29.2.1) Aru29.2.2 hinu29 hatu29 (g := (mkF m 167 #[.val (.ref r0), .val (.int (5 : Int32))] [(.int (2 : Int32)), (.ref r0), (.int (2 : Int32)), (.ref b22), (.ref b22), (.ref b21), (.ref b21)])) rfl rfl (hb hby dmethod_3_167)) _ (st31 _ (XS.dup X31.here hx rfl (hb hby dmethod_3_169) rfl rfl (XS.iconst X31.here hx rfl (hb hby dmethod_3_170) (XS.aloadN X31.here hx rfl (hb hby dmethod_3_171) rfl rfl k)))))) ?_
  obtain ⟨clu32, Aru32, qu32, Su32, Ngu32, Hau32, Gau32⟩ := id (((((V0.ext E21).ext E22).other W25 ne_r0_b22).other W28 ne_r0_b22).other W31 ne_r0_b22)
  have hinu32 : ¬ ((3 : Int32) < 0 ∨ clu32.slots.size ≤ ((3 : Int32)).toNatClampNeg) := inb_of Su32 ⟨by decide, by decide⟩
  have hatu32 : clu32.slots[((3 : Int32)).toNatClampNeg]? = some (.int c3) := Has.at Hau32 hinu32 rfl
  obtain ⟨clu33, Aru33, qu33, Su33, Ngu33, Hau33, Gau33⟩ := id Vu30
  have hinu33 : ¬ ((3 : Int32) < 0 ∨ clu33.slots.size ≤ ((3 : Int32)).toNatClampNeg) := inb_of Su33 ⟨by decide, by decide⟩
  obtain ⟨T34, h34, X34, e34, W34, st34⟩ := stC X31 hx hZ e31 Aru33 (j := (3 : Int32)) hinu33 (g := (mkF m 174 #[.val (.ref r0), .val (.int (5 : Int32))] [(.int c3), (.int (3 : Int32)), (.ref b22), (.ref b22), (.ref b21), (.ref b21)])) rfl rfl (hb hby dmethod_3_174)
  have Vu33 : Arv Z h34 b22 k22 .char (5 : Int32) [(.int c0), (.int c1), (.int c2), (.int (nar .char c3)), (.int (0 : Int32))] (.int (0 : Int32)) := Arv.set Aru33 qu33 Su33 Ngu33 Hau33 Gau33 (fits_nar_char _) W34 3 rfl (Nat.le_of_ble_eq_true rfl)
  rw [show nar .char c3 = c3 from hl_c3.1] at Vu33
  have O34 := Old.wr O31 W34 g_b22
  have N34 := Fr.snoc X34 N31 g_b22
  have K34 := Keep.wr K31 W34 (Or.inr sz_b22)
  refine own_by (W' := (T34.setTop (mkF m 178 #[.val (.ref r0), .val (.int (5 : Int32))] [(.ref r0), (.int (4 : Int32)), (.ref b22), (.ref b22), (.ref b21), (.ref b21)]))) (fun t k => XS.iconst X31.here hx rfl (hb hby dmethod_3_172) ((X31.caload hx (j := (3 : Int32)) (v := (.int c3)) (by rw [e31]; exact Aru32.1) (State.isArrayOf_alike hZ.alike Aru32.2.1) Aru32.2.2 hinu32 hatu32 (g := (mkF m 173 #[.val (.ref r0), .val (.int (5 : Int32))] [(.int (3 : Int32)), (.ref r0), (.int (3 : Int32)), (.ref b22), (.ref b22), (.ref b21), (.ref b21)])) rfl rfl (hb hby dmethod_3_173)) _ (st34 _ (XS.dup X34.here hx rfl (hb hby dmethod_3_175) rfl rfl (XS.iconst X34.here hx rfl (hb hby dmethod_3_176) (XS.aloadN X34.here hx rfl (hb hby dmethod_3_177) rfl rfl k)))))) ?_
  obtain ⟨clu35, Aru35, qu35, Su35, Ngu35, Hau35, Gau35⟩ := id ((((((V0.ext E21).ext E22).other W25 ne_r0_b22).other W28 ne_r0_b22).other W31 ne_r0_b22).other W34 ne_r0_b22)
  have hinu35 : ¬ ((4 : Int32) < 0 ∨ clu35.slots.size ≤ ((4 : Int32)).toNatClampNeg) := inb_of Su35 ⟨by decide, by decide⟩
  have hatu35 : clu35.slots[((4 : Int32)).toNatClampNeg]? = some (.int c4) := Has.at Hau35 hinu35 rfl
  obtain ⟨clu36, Aru36, qu36, Su36, Ngu36, Hau36, Gau36⟩ := id Vu33
  have hinu36 : ¬ ((4 : Int32) < 0 ∨ clu36.slots.size ≤ ((4 : Int32)).toNatClampNeg) := inb_of Su36 ⟨by decide, by decide⟩
  obtain ⟨T37, h37, X37, e37, W37, st37⟩ := stC X34 hx hZ e34 Aru36 (j := (4 : Int32)) hinu36 (g := (mkF m 180 #[.val (.ref r0), .val (.int (5 : Int32))] [(.int c4), (.int (4 : Int32)), (.ref b22), (.ref b22), (.ref b21), (.ref b21)])) rfl rfl (hb hby dmethod_3_180)
  have Vu36 : Arv Z h37 b22 k22 .char (5 : Int32) [(.int c0), (.int c1), (.int c2), (.int c3), (.int (nar .char c4))] (.int (0 : Int32)) := Arv.set Aru36 qu36 Su36 Ngu36 Hau36 Gau36 (fits_nar_char _) W37 4 rfl (Nat.le_of_ble_eq_true rfl)
  rw [show nar .char c4 = c4 from hl_c4.1] at Vu36
  have O37 := Old.wr O34 W37 g_b22
  have N37 := Fr.snoc X37 N34 g_b22
  have K37 := Keep.wr K34 W37 (Or.inr sz_b22)
  obtain ⟨_, _, ⟨T38, L38, k38, n38⟩, -, X38, ⟨Lc38, hQ38, l38, y38, z38⟩, st38⟩ := X37.specialBack hx (y := (⟨"java/lang/String", "<init>", "([C)V"⟩ : MethodName)) rfl hown (mvT hZ (own_w hw 10)) (mvT hZ (own_w hw 11)) (mvT hZ (own_w hw 12)) (by decide) (backOf (W := 1) (rmsa5 l Z a0 hw [] b21 b22 k22 c0 c1 c2 c3 c4 wALLOW wFORBID tALLOW tFORBID wV kwV cs h37 n0 (own_le O37) O37 HW ((((((A21.ext E22).wr W25).wr W28).wr W31).wr W34).wr W37) g_b21 ((((((F_value_b21.ext E22).other W25 (Or.inl ne_b21_b22)).other W28 (Or.inl ne_b21_b22)).other W31 (Or.inl ne_b21_b22)).other W34 (Or.inl ne_b21_b22)).other W37 (Or.inl ne_b21_b22)) ((((((F_coder_b21.ext E22).other W25 (Or.inl ne_b21_b22)).other W28 (Or.inl ne_b21_b22)).other W31 (Or.inl ne_b21_b22)).other W34 (Or.inl ne_b21_b22)).other W37 (Or.inl ne_b21_b22)) Vu36 hl_c0.2 hl_c1.2 hl_c2.2 hl_c3.2 hl_c4.2) hZ (own_w hw 12) (own_w hw 9) (by decide) (by decide)) (g := (mkF m 181 #[.val (.ref r0), .val (.int (5 : Int32))] [(.ref b22), (.ref b21), (.ref b21)])) rfl (by rw [hml]; rfl) (Steps.refl _) (a := b21) (argsL := [(.ref b22)]) (rest := [(.ref b21)]) (lenOf pd_2 rfl) rfl (by show 2 * 0 + _ ≤ _; exact Nat.le_of_eq rfl) (hb hby dmethod_3_181) (fun _ _ => ⟨rfl, e37, (by decide : 2 + 1 ≤ _), (by decide : 9 + 5 ≤ _)⟩)
  dsimp only [Pt.U, Pt.locs, Pt.cells, Pt.slots] at X38 l38 y38 z38 st38 hQ38
  subst l38 y38 z38
  obtain ⟨rfl, N38q, Kq38, Tq38⟩ := hQ38
  have O38 := Old.keep O37 Kq38 (allS g_b21 all0)
  have K38 := Keep.trans K37 Kq38 (allS (Or.inr sz_b21) all0)
  have N38 := Fr.app N37 N38q
  obtain ⟨fs, hr, hrun, hended, hW, hsame⟩ := X38.leave (v := some (.ref b21)) (fun h => by rw [Bd.returns] at h; cases h)
  refine own_by (W' := (T38.setTop (mkF m 184 #[.val (.ref r0), .val (.int (5 : Int32))] [(.ref b21)]))) (fun t k => XS.iconst X34.here hx rfl (hb hby dmethod_3_178) ((X34.caload hx (j := (4 : Int32)) (v := (.int c4)) (by rw [e34]; exact Aru35.1) (State.isArrayOf_alike hZ.alike Aru35.2.1) Aru35.2.2 hinu35 hatu35 (g := (mkF m 179 #[.val (.ref r0), .val (.int (5 : Int32))] [(.int (4 : Int32)), (.ref r0), (.int (4 : Int32)), (.ref b22), (.ref b22), (.ref b21), (.ref b21)])) rfl rfl (hb hby dmethod_3_179)) _ (st37 _ (Steps.trans st38 k)))) ?_
  refine ⟨_, _, retOut X38 hx Bd.returns rfl (Or.inr (Or.inr (Or.inr (Or.inr ⟨rfl, rfl, rfl⟩)))) (hb hby dmethod_3_184) hr, hrun, hended, _, _, rfl, ?_, ⟨_, rfl⟩, hW, hsame.mono (by decide) (by decide)⟩
  show Qmk5 Z r0 kC c0 c1 c2 c3 c4 c5 wALLOW wFORBID tALLOW tFORBID wV kwV cs h0 n0 _ T38.heap _
  exact ⟨_, rfl, N38, K38, sz_b21, Tq38⟩
theorem efcb6 (m : MethodId) (r0 : Addr) (r2 : Addr) : entryFrame m #[(.ref r0), (.int (0 : Int32)), (.ref r2), (.int (0 : Int32)), (.int (6 : Int32))] 7 = mkF m 0 #[.val (.ref r0), .val (.int (0 : Int32)), .val (.ref r2), .val (.int (0 : Int32)), .val (.int (6 : Int32)), .unset, .unset] [] := by first | (simp [entryFrame, mkF, argsToLocals, Value.category]; done) | rfl
def Qcb6 (Z : State) (r0 : Addr) (r2 : Addr) (kC : ClassId) (kB : ClassId) (c0 : Int32) (c1 : Int32) (c2 : Int32) (c3 : Int32) (c4 : Int32) (c5 : Int32) (h0 : Heap) (n0 : Nat) (v : Option Value) (h : Heap) (L : List Loc) : Prop := v = some (.int (6 : Int32)) ∧ Fr n0 L ∧ Keep h0 h [r2] ∧ Arv Z h r2 kB .byte (6 : Int32) [(.int (nar .byte (c0.toInt8.toInt32))), (.int (nar .byte (c1.toInt8.toInt32))), (.int (nar .byte (c2.toInt8.toInt32))), (.int (nar .byte (c3.toInt8.toInt32))), (.int (nar .byte (c4.toInt8.toInt32))), (.int (nar .byte (c5.toInt8.toInt32)))] (.int (0 : Int32))
abbrev own_Kcb6 (Z : State) (r0 : Addr) (r2 : Addr) (kC : ClassId) (kB : ClassId) (c0 : Int32) (c1 : Int32) (c2 : Int32) (c3 : Int32) (c4 : Int32) (c5 : Int32) (h0 : Heap) (n0 : Nat) (s : State) : Outcome → State → Prop := fun o U' => ∃ v L, o = .returned v ∧ Qcb6 Z r0 r2 kC kB c0 c1 c2 c3 c4 c5 h0 n0 v U'.heap L ∧ FrameEnd s o U' L ({ frames := 0, cells := 0, slots := 0, locals := 0 } : Room).cells ({ frames := 0, cells := 0, slots := 0, locals := 0 } : Room).slots
set_option maxRecDepth 65536 in
set_option maxHeartbeats 40000000 in
theorem rmcb6 (l : Launch) (Z : State) (a0 : Array Value) (hw : ∀ d ∈ tables_1, d.before a0 Z = true) (ws : List Jvm.Cond) (r0 : Addr) (r2 : Addr) (kC : ClassId) (kB : ClassId) (c0 : Int32) (c1 : Int32) (c2 : Int32) (c3 : Int32) (c4 : Int32) (c5 : Int32) (h0 : Heap) (n0 : Nat) (Z0 : n0 ≤ h0.size) (O0 : Old Z n0 h0) (V0 : Arv Z h0 r0 kC .char (6 : Int32) [(.int c0), (.int c1), (.int c2), (.int c3), (.int c4), (.int c5)] (.int (0 : Int32))) (V2 : Arv Z h0 r2 kB .byte (6 : Int32) [(.int (0 : Int32)), (.int (0 : Int32)), (.int (0 : Int32)), (.int (0 : Int32)), (.int (0 : Int32)), (.int (0 : Int32))] (.int (0 : Int32))) (g_r2 : n0 ≤ r2) (hne : r0 ≠ r2) (hc_c0 : ¬ (255 : Int32) < c0) (hc_c1 : ¬ (255 : Int32) < c1) (hc_c2 : ¬ (255 : Int32) < c2) (hc_c3 : ¬ (255 : Int32) < c3) (hc_c4 : ¬ (255 : Int32) < c4) (hc_c5 : ¬ (255 : Int32) < c5) :
    MetFree l (⟨"java/lang/StringUTF16", "compress", "([CI[BII)I"⟩ : MethodName) (head1 (Jvm.Cond.code (⟨"java/lang/StringUTF16", "compress", "([CI[BII)I"⟩ : MethodName) jdk_52_method_21_code 7 (some .int) :: ws) ({ frames := 0, cells := 0, slots := 0, locals := 0 } : Room)) (fun a U => a = #[(.ref r0), (.int (0 : Int32)), (.ref r2), (.int (0 : Int32)), (.int (6 : Int32))] ∧ Z.Warmed39 U.vm ∧ U.heap = h0) (fun _ _ _ _ _ => True) (fun _ U o U' => ∃ v L, o = .returned v ∧ Qcb6 Z r0 r2 kC kB c0 c1 c2 c3 c4 c5 h0 n0 v U'.heap L ∧ FrameEnd U o U' L ({ frames := 0, cells := 0, slots := 0, locals := 0 } : Room).cells ({ frames := 0, cells := 0, slots := 0, locals := 0 } : Room).slots) := by
  refine MetFree.of_bodySF (plainFor_of_name pn_java_lang_StringUTF16) hisR ?_
  intro p e s m args below meth c s₁ Bd hml0 hP hK
  obtain ⟨rfl, hZ, hh⟩ := hP
  have hx := Bd.exec
  have hby := Bd.bytes
  have hml : c.maxLocals = 7 := hml0
  have hown : s.vm.findClass "java/lang/StringUTF16" = some m.cls := findClass_of_methodNamed Bd.named
  have hnm := (name_of_methodNamed Bd.named Bd.method).1
  have X0 : Stand p l e ({ frames := 0, cells := 0, slots := 0, locals := 0 } : Room) s m #[(.ref r0), (.int (0 : Int32)), (.ref r2), (.int (0 : Int32)), (.int (6 : Int32))] below meth c s₁ [] 0 0 := Stand.of_body Bd
  have e0 : s₁.heap = h0 := by rw [← hh, Bd.state]; rfl
  have N0 := Fr.nil n0
  refine own_by (p := p) (e := e) (below := below) (K := own_Kcb6 Z r0 r2 kC kB c0 c1 c2 c3 c4 c5 h0 n0 s) (W' := s₁.setTop (mkF m 0 #[.val (.ref r0), .val (.int (0 : Int32)), .val (.ref r2), .val (.int (0 : Int32)), .val (.int (6 : Int32)), .unset, .unset] [])) (fun t k => castTop (efcb6 m r0 r2) k) ?_
  refine own_by (W' := (s₁.setTop (mkF m 11 #[.val (.ref r0), .val (.int (0 : Int32)), .val (.ref r2), .val (.int (0 : Int32)), .val (.int (6 : Int32)), .val (.int (0 : Int32)), .unset] [(.ref r0)]))) (fun t k => XS.iconst X0.here hx rfl (hb hby djdk_52_21_0) (XS.istore X0.here hx rfl (hb hby djdk_52_21_1) rfl (l' := #[.val (.ref r0), .val (.int (0 : Int32)), .val (.ref r2), .val (.int (0 : Int32)), .val (.int (6 : Int32)), .val (.int (0 : Int32)), .unset]) rfl (XS.iload X0.here hx rfl (hb hby djdk_52_21_3) rfl (XS.iload X0.here hx rfl (hb hby djdk_52_21_5) rfl (XS.icmpNo X0.here hx rfl (hb hby djdk_52_21_7) rfl (tlt (by decide : (0 : Int32) < (6 : Int32))).2.1 (XS.aloadN X0.here hx rfl (hb hby djdk_52_21_10) rfl rfl k)))))) ?_
  obtain ⟨clu21, Aru21, qu21, Su21, Ngu21, Hau21, Gau21⟩ := id V0
  have hinu21 : ¬ ((0 : Int32) < 0 ∨ clu21.slots.size ≤ ((0 : Int32)).toNatClampNeg) := inb_of Su21 ⟨by decide, by decide⟩
  have hatu21 : clu21.slots[((0 : Int32)).toNatClampNeg]? = some (.int c0) := Has.at Hau21 hinu21 rfl
  refine own_by (W' := (s₁.setTop (mkF m 26 #[.val (.ref r0), .val (.int (0 : Int32)), .val (.ref r2), .val (.int (0 : Int32)), .val (.int (6 : Int32)), .val (.int (0 : Int32)), .val (.int c0)] []))) (fun t k => XS.iloadN X0.here hx rfl (hb hby djdk_52_21_11) rfl ((X0.caload hx (j := (0 : Int32)) (v := (.int c0)) (by rw [e0]; exact Aru21.1) (State.isArrayOf_alike hZ.alike Aru21.2.1) Aru21.2.2 hinu21 hatu21 (g := (mkF m 12 #[.val (.ref r0), .val (.int (0 : Int32)), .val (.ref r2), .val (.int (0 : Int32)), .val (.int (6 : Int32)), .val (.int (0 : Int32)), .unset] [(.int (0 : Int32)), (.ref r0)])) rfl rfl (hb hby djdk_52_21_12)) _ (XS.istore X0.here hx rfl (hb hby djdk_52_21_13) rfl (l' := #[.val (.ref r0), .val (.int (0 : Int32)), .val (.ref r2), .val (.int (0 : Int32)), .val (.int (6 : Int32)), .val (.int (0 : Int32)), .val (.int c0)]) rfl (XS.iload X0.here hx rfl (hb hby djdk_52_21_15) rfl (XS.sipush X0.here hx rfl (hb hby djdk_52_21_17) (XS.icmpYes X0.here hx rfl (pc0 := 20) (pc' := 26) rfl (hb hby djdk_52_21_20) rfl (flt hc_c0).2.2.2 (by decide) (by decide) k)))))) ?_
  obtain ⟨clu22, Aru22, qu22, Su22, Ngu22, Hau22, Gau22⟩ := id V2
  have hinu22 : ¬ ((0 : Int32) < 0 ∨ clu22.slots.size ≤ ((0 : Int32)).toNatClampNeg) := inb_of Su22 ⟨by decide, by decide⟩
  obtain ⟨T23, h23, X23, e23, W23, st23⟩ := stB X0 hx hZ e0 Aru22 (j := (0 : Int32)) hinu22 (g := (mkF m 31 #[.val (.ref r0), .val (.int (0 : Int32)), .val (.ref r2), .val (.int (0 : Int32)), .val (.int (6 : Int32)), .val (.int (0 : Int32)), .val (.int c0)] [(.int (c0.toInt8.toInt32)), (.int (0 : Int32)), (.ref r2)])) rfl rfl (hb hby djdk_52_21_31)
  have Vu22 : Arv Z h23 r2 kB .byte (6 : Int32) [(.int (nar .byte (c0.toInt8.toInt32))), (.int (0 : Int32)), (.int (0 : Int32)), (.int (0 : Int32)), (.int (0 : Int32)), (.int (0 : Int32))] (.int (0 : Int32)) := Arv.set Aru22 qu22 Su22 Ngu22 Hau22 Gau22 (fits_nar_byte _) W23 0 rfl (Nat.le_of_ble_eq_true rfl)
  have O23 := Old.wr O0 W23 g_r2
  have N23 := Fr.snoc X23 N0 g_r2
  have K23 := Keep.wr (Keep.refl h0 [r2]) W23 (Or.inl (List.mem_of_getElem? (i := 0) rfl))
  refine own_by (W' := (T23.setTop (mkF m 35 #[.val (.ref r0), .val (.int (1 : Int32)), .val (.ref r2), .val (.int (0 : Int32)), .val (.int (6 : Int32)), .val (.int (0 : Int32)), .val (.int c0)] []))) (fun t k => XS.aloadN X0.here hx rfl (hb hby djdk_52_21_26) rfl rfl (XS.iloadN X0.here hx rfl (hb hby djdk_52_21_27) rfl (XS.iload X0.here hx rfl (hb hby djdk_52_21_28) rfl (XS.i2b X0.here hx rfl (hb hby djdk_52_21_30) rfl (st23 _ (XS.iinc X23.here hx rfl (hb hby djdk_52_21_32) rfl (l' := #[.val (.ref r0), .val (.int (1 : Int32)), .val (.ref r2), .val (.int (0 : Int32)), .val (.int (6 : Int32)), .val (.int (0 : Int32)), .val (.int c0)]) rfl k)))))) ?_
  refine own_by (W' := (T23.setTop (mkF m 10 #[.val (.ref r0), .val (.int (1 : Int32)), .val (.ref r2), .val (.int (1 : Int32)), .val (.int (6 : Int32)), .val (.int (1 : Int32)), .val (.int c0)] []))) (fun t k => XS.iinc X23.here hx rfl (hb hby djdk_52_21_35) rfl (l' := #[.val (.ref r0), .val (.int (1 : Int32)), .val (.ref r2), .val (.int (1 : Int32)), .val (.int (6 : Int32)), .val (.int (0 : Int32)), .val (.int c0)]) rfl (XS.iinc X23.here hx rfl (hb hby djdk_52_21_38) rfl (l' := #[.val (.ref r0), .val (.int (1 : Int32)), .val (.ref r2), .val (.int (1 : Int32)), .val (.int (6 : Int32)), .val (.int (1 : Int32)), .val (.int c0)]) rfl (XS.goto X23.here hx rfl (pc0 := 41) (pc' := 3) rfl (hb hby djdk_52_21_41) (by decide) (by decide) (XS.iload X23.here hx rfl (hb hby djdk_52_21_3) rfl (XS.iload X23.here hx rfl (hb hby djdk_52_21_5) rfl (XS.icmpNo X23.here hx rfl (hb hby djdk_52_21_7) rfl (tlt (by decide : (1 : Int32) < (6 : Int32))).2.1 k)))))) ?_
  obtain ⟨clu24, Aru24, qu24, Su24, Ngu24, Hau24, Gau24⟩ := id (V0.other W23 hne)
  have hinu24 : ¬ ((1 : Int32) < 0 ∨ clu24.slots.size ≤ ((1 : Int32)).toNatClampNeg) := inb_of Su24 ⟨by decide, by decide⟩
  have hatu24 : clu24.slots[((1 : Int32)).toNatClampNeg]? = some (.int c1) := Has.at Hau24 hinu24 rfl
  refine own_by (W' := (T23.setTop (mkF m 20 #[.val (.ref r0), .val (.int (1 : Int32)), .val (.ref r2), .val (.int (1 : Int32)), .val (.int (6 : Int32)), .val (.int (1 : Int32)), .val (.int c1)] [(.int (255 : Int32)), (.int c1)]))) (fun t k => XS.aloadN X23.here hx rfl (hb hby djdk_52_21_10) rfl rfl (XS.iloadN X23.here hx rfl (hb hby djdk_52_21_11) rfl ((X23.caload hx (j := (1 : Int32)) (v := (.int c1)) (by rw [e23]; exact Aru24.1) (State.isArrayOf_alike hZ.alike Aru24.2.1) Aru24.2.2 hinu24 hatu24 (g := (mkF m 12 #[.val (.ref r0), .val (.int (1 : Int32)), .val (.ref r2), .val (.int (1 : Int32)), .val (.int (6 : Int32)), .val (.int (1 : Int32)), .val (.int c0)] [(.int (1 : Int32)), (.ref r0)])) rfl rfl (hb hby djdk_52_21_12)) _ (XS.istore X23.here hx rfl (hb hby djdk_52_21_13) rfl (l' := #[.val (.ref r0), .val (.int (1 : Int32)), .val (.ref r2), .val (.int (1 : Int32)), .val (.int (6 : Int32)), .val (.int (1 : Int32)), .val (.int c1)]) rfl (XS.iload X23.here hx rfl (hb hby djdk_52_21_15) rfl (XS.sipush X23.here hx rfl (hb hby djdk_52_21_17) k)))))) ?_
  obtain ⟨clu25, Aru25, qu25, Su25, Ngu25, Hau25, Gau25⟩ := id Vu22
  have hinu25 : ¬ ((1 : Int32) < 0 ∨ clu25.slots.size ≤ ((1 : Int32)).toNatClampNeg) := inb_of Su25 ⟨by decide, by decide⟩
  obtain ⟨T26, h26, X26, e26, W26, st26⟩ := stB X23 hx hZ e23 Aru25 (j := (1 : Int32)) hinu25 (g := (mkF m 31 #[.val (.ref r0), .val (.int (1 : Int32)), .val (.ref r2), .val (.int (1 : Int32)), .val (.int (6 : Int32)), .val (.int (1 : Int32)), .val (.int c1)] [(.int (c1.toInt8.toInt32)), (.int (1 : Int32)), (.ref r2)])) rfl rfl (hb hby djdk_52_21_31)
  have Vu25 : Arv Z h26 r2 kB .byte (6 : Int32) [(.int (nar .byte (c0.toInt8.toInt32))), (.int (nar .byte (c1.toInt8.toInt32))), (.int (0 : Int32)), (.int (0 : Int32)), (.int (0 : Int32)), (.int (0 : Int32))] (.int (0 : Int32)) := Arv.set Aru25 qu25 Su25 Ngu25 Hau25 Gau25 (fits_nar_byte _) W26 1 rfl (Nat.le_of_ble_eq_true rfl)
  have O26 := Old.wr O23 W26 g_r2
  have N26 := Fr.snoc X26 N23 g_r2
  have K26 := Keep.wr K23 W26 (Or.inl (List.mem_of_getElem? (i := 0) rfl))
  refine own_by (W' := (T26.setTop (mkF m 32 #[.val (.ref r0), .val (.int (1 : Int32)), .val (.ref r2), .val (.int (1 : Int32)), .val (.int (6 : Int32)), .val (.int (1 : Int32)), .val (.int c1)] []))) (fun t k => XS.icmpYes X23.here hx rfl (pc0 := 20) (pc' := 26) rfl (hb hby djdk_52_21_20) rfl (flt hc_c1).2.2.2 (by decide) (by decide) (XS.aloadN X23.here hx rfl (hb hby djdk_52_21_26) rfl rfl (XS.iloadN X23.here hx rfl (hb hby djdk_52_21_27) rfl (XS.iload X23.here hx rfl (hb hby djdk_52_21_28) rfl (XS.i2b X23.here hx rfl (hb hby djdk_52_21_30) rfl (st26 _ k)))))) ?_
  refine own_by (W' := (T26.setTop (mkF m 7 #[.val (.ref r0), .val (.int (2 : Int32)), .val (.ref r2), .val (.int (2 : Int32)), .val (.int (6 : Int32)), .val (.int (2 : Int32)), .val (.int c1)] [(.int (6 : Int32)), (.int (2 : Int32))]))) (fun t k => XS.iinc X26.here hx rfl (hb hby djdk_52_21_32) rfl (l' := #[.val (.ref r0), .val (.int (2 : Int32)), .val (.ref r2), .val (.int (1 : Int32)), .val (.int (6 : Int32)), .val (.int (1 : Int32)), .val (.int c1)]) rfl (XS.iinc X26.here hx rfl (hb hby djdk_52_21_35) rfl (l' := #[.val (.ref r0), .val (.int (2 : Int32)), .val (.ref r2), .val (.int (2 : Int32)), .val (.int (6 : Int32)), .val (.int (1 : Int32)), .val (.int c1)]) rfl (XS.iinc X26.here hx rfl (hb hby djdk_52_21_38) rfl (l' := #[.val (.ref r0), .val (.int (2 : Int32)), .val (.ref r2), .val (.int (2 : Int32)), .val (.int (6 : Int32)), .val (.int (2 : Int32)), .val (.int c1)]) rfl (XS.goto X26.here hx rfl (pc0 := 41) (pc' := 3) rfl (hb hby djdk_52_21_41) (by decide) (by decide) (XS.iload X26.here hx rfl (hb hby djdk_52_21_3) rfl (XS.iload X26.here hx rfl (hb hby djdk_52_21_5) rfl k)))))) ?_
  obtain ⟨clu27, Aru27, qu27, Su27, Ngu27, Hau27, Gau27⟩ := id ((V0.other W23 hne).other W26 hne)
  have hinu27 : ¬ ((2 : Int32) < 0 ∨ clu27.slots.size ≤ ((2 : Int32)).toNatClampNeg) := inb_of Su27 ⟨by decide, by decide⟩
  have hatu27 : clu27.slots[((2 : Int32)).toNatClampNeg]? = some (.int c2) := Has.at Hau27 hinu27 rfl
  refine own_by (W' := (T26.setTop (mkF m 17 #[.val (.ref r0), .val (.int (2 : Int32)), .val (.ref r2), .val (.int (2 : Int32)), .val (.int (6 : Int32)), .val (.int (2 : Int32)), .val (.int c2)] [(.int c2)]))) (fun t k => XS.icmpNo X26.here hx rfl (hb hby djdk_52_21_7) rfl (tlt (by decide : (2 : Int32) < (6 : Int32))).2.1 (XS.aloadN X26.here hx rfl (hb hby djdk_52_21_10) rfl rfl (XS.iloadN X26.here hx rfl (hb hby djdk_52_21_11) rfl ((X26.caload hx (j := (2 : Int32)) (v := (.int c2)) (by rw [e26]; exact Aru27.1) (State.isArrayOf_alike hZ.alike Aru27.2.1) Aru27.2.2 hinu27 hatu27 (g := (mkF m 12 #[.val (.ref r0), .val (.int (2 : Int32)), .val (.ref r2), .val (.int (2 : Int32)), .val (.int (6 : Int32)), .val (.int (2 : Int32)), .val (.int c1)] [(.int (2 : Int32)), (.ref r0)])) rfl rfl (hb hby djdk_52_21_12)) _ (XS.istore X26.here hx rfl (hb hby djdk_52_21_13) rfl (l' := #[.val (.ref r0), .val (.int (2 : Int32)), .val (.ref r2), .val (.int (2 : Int32)), .val (.int (6 : Int32)), .val (.int (2 : Int32)), .val (.int c2)]) rfl (XS.iload X26.here hx rfl (hb hby djdk_52_21_15) rfl k)))))) ?_
  refine own_by (W' := (T26.setTop (mkF m 31 #[.val (.ref r0), .val (.int (2 : Int32)), .val (.ref r2), .val (.int (2 : Int32)), .val (.int (6 : Int32)), .val (.int (2 : Int32)), .val (.int c2)] [(.int (c2.toInt8.toInt32)), (.int (2 : Int32)), (.ref r2)]))) (fun t k => XS.sipush X26.here hx rfl (hb hby djdk_52_21_17) (XS.icmpYes X26.here hx rfl (pc0 := 20) (pc' := 26) rfl (hb hby djdk_52_21_20) rfl (flt hc_c2).2.2.2 (by decide) (by decide) (XS.aloadN X26.here hx rfl (hb hby djdk_52_21_26) rfl rfl (XS.iloadN X26.here hx rfl (hb hby djdk_52_21_27) rfl (XS.iload X26.here hx rfl (hb hby djdk_52_21_28) rfl (XS.i2b X26.here hx rfl (hb hby djdk_52_21_30) rfl k)))))) ?_
  obtain ⟨clu28, Aru28, qu28, Su28, Ngu28, Hau28, Gau28⟩ := id Vu25
  have hinu28 : ¬ ((2 : Int32) < 0 ∨ clu28.slots.size ≤ ((2 : Int32)).toNatClampNeg) := inb_of Su28 ⟨by decide, by decide⟩
  obtain ⟨T29, h29, X29, e29, W29, st29⟩ := stB X26 hx hZ e26 Aru28 (j := (2 : Int32)) hinu28 (g := (mkF m 31 #[.val (.ref r0), .val (.int (2 : Int32)), .val (.ref r2), .val (.int (2 : Int32)), .val (.int (6 : Int32)), .val (.int (2 : Int32)), .val (.int c2)] [(.int (c2.toInt8.toInt32)), (.int (2 : Int32)), (.ref r2)])) rfl rfl (hb hby djdk_52_21_31)
  have Vu28 : Arv Z h29 r2 kB .byte (6 : Int32) [(.int (nar .byte (c0.toInt8.toInt32))), (.int (nar .byte (c1.toInt8.toInt32))), (.int (nar .byte (c2.toInt8.toInt32))), (.int (0 : Int32)), (.int (0 : Int32)), (.int (0 : Int32))] (.int (0 : Int32)) := Arv.set Aru28 qu28 Su28 Ngu28 Hau28 Gau28 (fits_nar_byte _) W29 2 rfl (Nat.le_of_ble_eq_true rfl)
  have O29 := Old.wr O26 W29 g_r2
  have N29 := Fr.snoc X29 N26 g_r2
  have K29 := Keep.wr K26 W29 (Or.inl (List.mem_of_getElem? (i := 0) rfl))
  refine own_by (W' := (T29.setTop (mkF m 5 #[.val (.ref r0), .val (.int (3 : Int32)), .val (.ref r2), .val (.int (3 : Int32)), .val (.int (6 : Int32)), .val (.int (3 : Int32)), .val (.int c2)] [(.int (3 : Int32))]))) (fun t k => st29 _ (XS.iinc X29.here hx rfl (hb hby djdk_52_21_32) rfl (l' := #[.val (.ref r0), .val (.int (3 : Int32)), .val (.ref r2), .val (.int (2 : Int32)), .val (.int (6 : Int32)), .val (.int (2 : Int32)), .val (.int c2)]) rfl (XS.iinc X29.here hx rfl (hb hby djdk_52_21_35) rfl (l' := #[.val (.ref r0), .val (.int (3 : Int32)), .val (.ref r2), .val (.int (3 : Int32)), .val (.int (6 : Int32)), .val (.int (2 : Int32)), .val (.int c2)]) rfl (XS.iinc X29.here hx rfl (hb hby djdk_52_21_38) rfl (l' := #[.val (.ref r0), .val (.int (3 : Int32)), .val (.ref r2), .val (.int (3 : Int32)), .val (.int (6 : Int32)), .val (.int (3 : Int32)), .val (.int c2)]) rfl (XS.goto X29.here hx rfl (pc0 := 41) (pc' := 3) rfl (hb hby djdk_52_21_41) (by decide) (by decide) (XS.iload X29.here hx rfl (hb hby djdk_52_21_3) rfl k)))))) ?_
  obtain ⟨clu30, Aru30, qu30, Su30, Ngu30, Hau30, Gau30⟩ := id (((V0.other W23 hne).other W26 hne).other W29 hne)
  have hinu30 : ¬ ((3 : Int32) < 0 ∨ clu30.slots.size ≤ ((3 : Int32)).toNatClampNeg) := inb_of Su30 ⟨by decide, by decide⟩
  have hatu30 : clu30.slots[((3 : Int32)).toNatClampNeg]? = some (.int c3) := Has.at Hau30 hinu30 rfl
  refine own_by (W' := (T29.setTop (mkF m 15 #[.val (.ref r0), .val (.int (3 : Int32)), .val (.ref r2), .val (.int (3 : Int32)), .val (.int (6 : Int32)), .val (.int (3 : Int32)), .val (.int c3)] []))) (fun t k => XS.iload X29.here hx rfl (hb hby djdk_52_21_5) rfl (XS.icmpNo X29.here hx rfl (hb hby djdk_52_21_7) rfl (tlt (by decide : (3 : Int32) < (6 : Int32))).2.1 (XS.aloadN X29.here hx rfl (hb hby djdk_52_21_10) rfl rfl (XS.iloadN X29.here hx rfl (hb hby djdk_52_21_11) rfl ((X29.caload hx (j := (3 : Int32)) (v := (.int c3)) (by rw [e29]; exact Aru30.1) (State.isArrayOf_alike hZ.alike Aru30.2.1) Aru30.2.2 hinu30 hatu30 (g := (mkF m 12 #[.val (.ref r0), .val (.int (3 : Int32)), .val (.ref r2), .val (.int (3 : Int32)), .val (.int (6 : Int32)), .val (.int (3 : Int32)), .val (.int c2)] [(.int (3 : Int32)), (.ref r0)])) rfl rfl (hb hby djdk_52_21_12)) _ (XS.istore X29.here hx rfl (hb hby djdk_52_21_13) rfl (l' := #[.val (.ref r0), .val (.int (3 : Int32)), .val (.ref r2), .val (.int (3 : Int32)), .val (.int (6 : Int32)), .val (.int (3 : Int32)), .val (.int c3)]) rfl k)))))) ?_
  refine own_by (W' := (T29.setTop (mkF m 30 #[.val (.ref r0), .val (.int (3 : Int32)), .val (.ref r2), .val (.int (3 : Int32)), .val (.int (6 : Int32)), .val (.int (3 : Int32)), .val (.int c3)] [(.int c3), (.int (3 : Int32)), (.ref r2)]))) (fun t k => XS.iload X29.here hx rfl (hb hby djdk_52_21_15) rfl (XS.sipush X29.here hx rfl (hb hby djdk_52_21_17) (XS.icmpYes X29.here hx rfl (pc0 := 20) (pc' := 26) rfl (hb hby djdk_52_21_20) rfl (flt hc_c3).2.2.2 (by decide) (by decide) (XS.aloadN X29.here hx rfl (hb hby djdk_52_21_26) rfl rfl (XS.iloadN X29.here hx rfl (hb hby djdk_52_21_27) rfl (XS.iload X29.here hx rfl (hb hby djdk_52_21_28) rfl k)))))) ?_
  obtain ⟨clu31, Aru31, qu31, Su31, Ngu31, Hau31, Gau31⟩ := id Vu28
  have hinu31 : ¬ ((3 : Int32) < 0 ∨ clu31.slots.size ≤ ((3 : Int32)).toNatClampNeg) := inb_of Su31 ⟨by decide, by decide⟩
  obtain ⟨T32, h32, X32, e32, W32, st32⟩ := stB X29 hx hZ e29 Aru31 (j := (3 : Int32)) hinu31 (g := (mkF m 31 #[.val (.ref r0), .val (.int (3 : Int32)), .val (.ref r2), .val (.int (3 : Int32)), .val (.int (6 : Int32)), .val (.int (3 : Int32)), .val (.int c3)] [(.int (c3.toInt8.toInt32)), (.int (3 : Int32)), (.ref r2)])) rfl rfl (hb hby djdk_52_21_31)
  have Vu31 : Arv Z h32 r2 kB .byte (6 : Int32) [(.int (nar .byte (c0.toInt8.toInt32))), (.int (nar .byte (c1.toInt8.toInt32))), (.int (nar .byte (c2.toInt8.toInt32))), (.int (nar .byte (c3.toInt8.toInt32))), (.int (0 : Int32)), (.int (0 : Int32))] (.int (0 : Int32)) := Arv.set Aru31 qu31 Su31 Ngu31 Hau31 Gau31 (fits_nar_byte _) W32 3 rfl (Nat.le_of_ble_eq_true rfl)
  have O32 := Old.wr O29 W32 g_r2
  have N32 := Fr.snoc X32 N29 g_r2
  have K32 := Keep.wr K29 W32 (Or.inl (List.mem_of_getElem? (i := 0) rfl))
  refine own_by (W' := (T32.setTop (mkF m 3 #[.val (.ref r0), .val (.int (4 : Int32)), .val (.ref r2), .val (.int (4 : Int32)), .val (.int (6 : Int32)), .val (.int (4 : Int32)), .val (.int c3)] []))) (fun t k => XS.i2b X29.here hx rfl (hb hby djdk_52_21_30) rfl (st32 _ (XS.iinc X32.here hx rfl (hb hby djdk_52_21_32) rfl (l' := #[.val (.ref r0), .val (.int (4 : Int32)), .val (.ref r2), .val (.int (3 : Int32)), .val (.int (6 : Int32)), .val (.int (3 : Int32)), .val (.int c3)]) rfl (XS.iinc X32.here hx rfl (hb hby djdk_52_21_35) rfl (l' := #[.val (.ref r0), .val (.int (4 : Int32)), .val (.ref r2), .val (.int (4 : Int32)), .val (.int (6 : Int32)), .val (.int (3 : Int32)), .val (.int c3)]) rfl (XS.iinc X32.here hx rfl (hb hby djdk_52_21_38) rfl (l' := #[.val (.ref r0), .val (.int (4 : Int32)), .val (.ref r2), .val (.int (4 : Int32)), .val (.int (6 : Int32)), .val (.int (4 : Int32)), .val (.int c3)]) rfl (XS.goto X32.here hx rfl (pc0 := 41) (pc' := 3) rfl (hb hby djdk_52_21_41) (by decide) (by decide) k)))))) ?_
  obtain ⟨clu33, Aru33, qu33, Su33, Ngu33, Hau33, Gau33⟩ := id ((((V0.other W23 hne).other W26 hne).other W29 hne).other W32 hne)
  have hinu33 : ¬ ((4 : Int32) < 0 ∨ clu33.slots.size ≤ ((4 : Int32)).toNatClampNeg) := inb_of Su33 ⟨by decide, by decide⟩
  have hatu33 : clu33.slots[((4 : Int32)).toNatClampNeg]? = some (.int c4) := Has.at Hau33 hinu33 rfl
  refine own_by (W' := (T32.setTop (mkF m 13 #[.val (.ref r0), .val (.int (4 : Int32)), .val (.ref r2), .val (.int (4 : Int32)), .val (.int (6 : Int32)), .val (.int (4 : Int32)), .val (.int c3)] [(.int c4)]))) (fun t k => XS.iload X32.here hx rfl (hb hby djdk_52_21_3) rfl (XS.iload X32.here hx rfl (hb hby djdk_52_21_5) rfl (XS.icmpNo X32.here hx rfl (hb hby djdk_52_21_7) rfl (tlt (by decide : (4 : Int32) < (6 : Int32))).2.1 (XS.aloadN X32.here hx rfl (hb hby djdk_52_21_10) rfl rfl (XS.iloadN X32.here hx rfl (hb hby djdk_52_21_11) rfl ((X32.caload hx (j := (4 : Int32)) (v := (.int c4)) (by rw [e32]; exact Aru33.1) (State.isArrayOf_alike hZ.alike Aru33.2.1) Aru33.2.2 hinu33 hatu33 (g := (mkF m 12 #[.val (.ref r0), .val (.int (4 : Int32)), .val (.ref r2), .val (.int (4 : Int32)), .val (.int (6 : Int32)), .val (.int (4 : Int32)), .val (.int c3)] [(.int (4 : Int32)), (.ref r0)])) rfl rfl (hb hby djdk_52_21_12)) _ k)))))) ?_
  refine own_by (W' := (T32.setTop (mkF m 28 #[.val (.ref r0), .val (.int (4 : Int32)), .val (.ref r2), .val (.int (4 : Int32)), .val (.int (6 : Int32)), .val (.int (4 : Int32)), .val (.int c4)] [(.int (4 : Int32)), (.ref r2)]))) (fun t k => XS.istore X32.here hx rfl (hb hby djdk_52_21_13) rfl (l' := #[.val (.ref r0), .val (.int (4 : Int32)), .val (.ref r2), .val (.int (4 : Int32)), .val (.int (6 : Int32)), .val (.int (4 : Int32)), .val (.int c4)]) rfl (XS.iload X32.here hx rfl (hb hby djdk_52_21_15) rfl (XS.sipush X32.here hx rfl (hb hby djdk_52_21_17) (XS.icmpYes X32.here hx rfl (pc0 := 20) (pc' := 26) rfl (hb hby djdk_52_21_20) rfl (flt hc_c4).2.2.2 (by decide) (by decide) (XS.aloadN X32.here hx rfl (hb hby djdk_52_21_26) rfl rfl (XS.iloadN X32.here hx rfl (hb hby djdk_52_21_27) rfl k)))))) ?_
  obtain ⟨clu34, Aru34, qu34, Su34, Ngu34, Hau34, Gau34⟩ := id Vu31
  have hinu34 : ¬ ((4 : Int32) < 0 ∨ clu34.slots.size ≤ ((4 : Int32)).toNatClampNeg) := inb_of Su34 ⟨by decide, by decide⟩
  obtain ⟨T35, h35, X35, e35, W35, st35⟩ := stB X32 hx hZ e32 Aru34 (j := (4 : Int32)) hinu34 (g := (mkF m 31 #[.val (.ref r0), .val (.int (4 : Int32)), .val (.ref r2), .val (.int (4 : Int32)), .val (.int (6 : Int32)), .val (.int (4 : Int32)), .val (.int c4)] [(.int (c4.toInt8.toInt32)), (.int (4 : Int32)), (.ref r2)])) rfl rfl (hb hby djdk_52_21_31)
  have Vu34 : Arv Z h35 r2 kB .byte (6 : Int32) [(.int (nar .byte (c0.toInt8.toInt32))), (.int (nar .byte (c1.toInt8.toInt32))), (.int (nar .byte (c2.toInt8.toInt32))), (.int (nar .byte (c3.toInt8.toInt32))), (.int (nar .byte (c4.toInt8.toInt32))), (.int (0 : Int32))] (.int (0 : Int32)) := Arv.set Aru34 qu34 Su34 Ngu34 Hau34 Gau34 (fits_nar_byte _) W35 4 rfl (Nat.le_of_ble_eq_true rfl)
  have O35 := Old.wr O32 W35 g_r2
  have N35 := Fr.snoc X35 N32 g_r2
  have K35 := Keep.wr K32 W35 (Or.inl (List.mem_of_getElem? (i := 0) rfl))
  refine own_by (W' := (T35.setTop (mkF m 41 #[.val (.ref r0), .val (.int (5 : Int32)), .val (.ref r2), .val (.int (5 : Int32)), .val (.int (6 : Int32)), .val (.int (5 : Int32)), .val (.int c4)] []))) (fun t k => XS.iload X32.here hx rfl (hb hby djdk_52_21_28) rfl (XS.i2b X32.here hx rfl (hb hby djdk_52_21_30) rfl (st35 _ (XS.iinc X35.here hx rfl (hb hby djdk_52_21_32) rfl (l' := #[.val (.ref r0), .val (.int (5 : Int32)), .val (.ref r2), .val (.int (4 : Int32)), .val (.int (6 : Int32)), .val (.int (4 : Int32)), .val (.int c4)]) rfl (XS.iinc X35.here hx rfl (hb hby djdk_52_21_35) rfl (l' := #[.val (.ref r0), .val (.int (5 : Int32)), .val (.ref r2), .val (.int (5 : Int32)), .val (.int (6 : Int32)), .val (.int (4 : Int32)), .val (.int c4)]) rfl (XS.iinc X35.here hx rfl (hb hby djdk_52_21_38) rfl (l' := #[.val (.ref r0), .val (.int (5 : Int32)), .val (.ref r2), .val (.int (5 : Int32)), .val (.int (6 : Int32)), .val (.int (5 : Int32)), .val (.int c4)]) rfl k)))))) ?_
  refine own_by (W' := (T35.setTop (mkF m 12 #[.val (.ref r0), .val (.int (5 : Int32)), .val (.ref r2), .val (.int (5 : Int32)), .val (.int (6 : Int32)), .val (.int (5 : Int32)), .val (.int c4)] [(.int (5 : Int32)), (.ref r0)]))) (fun t k => XS.goto X35.here hx rfl (pc0 := 41) (pc' := 3) rfl (hb hby djdk_52_21_41) (by decide) (by decide) (XS.iload X35.here hx rfl (hb hby djdk_52_21_3) rfl (XS.iload X35.here hx rfl (hb hby djdk_52_21_5) rfl (XS.icmpNo X35.here hx rfl (hb hby djdk_52_21_7) rfl (tlt (by decide : (5 : Int32) < (6 : Int32))).2.1 (XS.aloadN X35.here hx rfl (hb hby djdk_52_21_10) rfl rfl (XS.iloadN X35.here hx rfl (hb hby djdk_52_21_11) rfl k)))))) ?_
  obtain ⟨clu36, Aru36, qu36, Su36, Ngu36, Hau36, Gau36⟩ := id (((((V0.other W23 hne).other W26 hne).other W29 hne).other W32 hne).other W35 hne)
  have hinu36 : ¬ ((5 : Int32) < 0 ∨ clu36.slots.size ≤ ((5 : Int32)).toNatClampNeg) := inb_of Su36 ⟨by decide, by decide⟩
  have hatu36 : clu36.slots[((5 : Int32)).toNatClampNeg]? = some (.int c5) := Has.at Hau36 hinu36 rfl
  refine own_by (W' := (T35.setTop (mkF m 27 #[.val (.ref r0), .val (.int (5 : Int32)), .val (.ref r2), .val (.int (5 : Int32)), .val (.int (6 : Int32)), .val (.int (5 : Int32)), .val (.int c5)] [(.ref r2)]))) (fun t k => (X35.caload hx (j := (5 : Int32)) (v := (.int c5)) (by rw [e35]; exact Aru36.1) (State.isArrayOf_alike hZ.alike Aru36.2.1) Aru36.2.2 hinu36 hatu36 (g := (mkF m 12 #[.val (.ref r0), .val (.int (5 : Int32)), .val (.ref r2), .val (.int (5 : Int32)), .val (.int (6 : Int32)), .val (.int (5 : Int32)), .val (.int c4)] [(.int (5 : Int32)), (.ref r0)])) rfl rfl (hb hby djdk_52_21_12)) _ (XS.istore X35.here hx rfl (hb hby djdk_52_21_13) rfl (l' := #[.val (.ref r0), .val (.int (5 : Int32)), .val (.ref r2), .val (.int (5 : Int32)), .val (.int (6 : Int32)), .val (.int (5 : Int32)), .val (.int c5)]) rfl (XS.iload X35.here hx rfl (hb hby djdk_52_21_15) rfl (XS.sipush X35.here hx rfl (hb hby djdk_52_21_17) (XS.icmpYes X35.here hx rfl (pc0 := 20) (pc' := 26) rfl (hb hby djdk_52_21_20) rfl (flt hc_c5).2.2.2 (by decide) (by decide) (XS.aloadN X35.here hx rfl (hb hby djdk_52_21_26) rfl rfl k)))))) ?_
  obtain ⟨clu37, Aru37, qu37, Su37, Ngu37, Hau37, Gau37⟩ := id Vu34
  have hinu37 : ¬ ((5 : Int32) < 0 ∨ clu37.slots.size ≤ ((5 : Int32)).toNatClampNeg) := inb_of Su37 ⟨by decide, by decide⟩
  obtain ⟨T38, h38, X38, e38, W38, st38⟩ := stB X35 hx hZ e35 Aru37 (j := (5 : Int32)) hinu37 (g := (mkF m 31 #[.val (.ref r0), .val (.int (5 : Int32)), .val (.ref r2), .val (.int (5 : Int32)), .val (.int (6 : Int32)), .val (.int (5 : Int32)), .val (.int c5)] [(.int (c5.toInt8.toInt32)), (.int (5 : Int32)), (.ref r2)])) rfl rfl (hb hby djdk_52_21_31)
  have Vu37 : Arv Z h38 r2 kB .byte (6 : Int32) [(.int (nar .byte (c0.toInt8.toInt32))), (.int (nar .byte (c1.toInt8.toInt32))), (.int (nar .byte (c2.toInt8.toInt32))), (.int (nar .byte (c3.toInt8.toInt32))), (.int (nar .byte (c4.toInt8.toInt32))), (.int (nar .byte (c5.toInt8.toInt32)))] (.int (0 : Int32)) := Arv.set Aru37 qu37 Su37 Ngu37 Hau37 Gau37 (fits_nar_byte _) W38 5 rfl (Nat.le_of_ble_eq_true rfl)
  have O38 := Old.wr O35 W38 g_r2
  have N38 := Fr.snoc X38 N35 g_r2
  have K38 := Keep.wr K35 W38 (Or.inl (List.mem_of_getElem? (i := 0) rfl))
  refine own_by (W' := (T38.setTop (mkF m 38 #[.val (.ref r0), .val (.int (6 : Int32)), .val (.ref r2), .val (.int (6 : Int32)), .val (.int (6 : Int32)), .val (.int (5 : Int32)), .val (.int c5)] []))) (fun t k => XS.iloadN X35.here hx rfl (hb hby djdk_52_21_27) rfl (XS.iload X35.here hx rfl (hb hby djdk_52_21_28) rfl (XS.i2b X35.here hx rfl (hb hby djdk_52_21_30) rfl (st38 _ (XS.iinc X38.here hx rfl (hb hby djdk_52_21_32) rfl (l' := #[.val (.ref r0), .val (.int (6 : Int32)), .val (.ref r2), .val (.int (5 : Int32)), .val (.int (6 : Int32)), .val (.int (5 : Int32)), .val (.int c5)]) rfl (XS.iinc X38.here hx rfl (hb hby djdk_52_21_35) rfl (l' := #[.val (.ref r0), .val (.int (6 : Int32)), .val (.ref r2), .val (.int (6 : Int32)), .val (.int (6 : Int32)), .val (.int (5 : Int32)), .val (.int c5)]) rfl k)))))) ?_
  refine own_by (W' := (T38.setTop (mkF m 46 #[.val (.ref r0), .val (.int (6 : Int32)), .val (.ref r2), .val (.int (6 : Int32)), .val (.int (6 : Int32)), .val (.int (6 : Int32)), .val (.int c5)] [(.int (6 : Int32))]))) (fun t k => XS.iinc X38.here hx rfl (hb hby djdk_52_21_38) rfl (l' := #[.val (.ref r0), .val (.int (6 : Int32)), .val (.ref r2), .val (.int (6 : Int32)), .val (.int (6 : Int32)), .val (.int (6 : Int32)), .val (.int c5)]) rfl (XS.goto X38.here hx rfl (pc0 := 41) (pc' := 3) rfl (hb hby djdk_52_21_41) (by decide) (by decide) (XS.iload X38.here hx rfl (hb hby djdk_52_21_3) rfl (XS.iload X38.here hx rfl (hb hby djdk_52_21_5) rfl (XS.icmpYes X38.here hx rfl (pc0 := 7) (pc' := 44) rfl (hb hby djdk_52_21_7) rfl (flt (by decide : ¬ ((6 : Int32) < (6 : Int32)))).2.1 (by decide) (by decide) (XS.iload X38.here hx rfl (hb hby djdk_52_21_44) rfl k)))))) ?_
  obtain ⟨fs, hr, hrun, hended, hW, hsame⟩ := X38.leave (v := some (.int (6 : Int32))) (fun h => by rw [Bd.returns] at h; cases h)
  refine ⟨_, _, retOut X38 hx Bd.returns rfl (Or.inl ⟨rfl, Or.inl rfl, _, rfl⟩) (hb hby djdk_52_21_46) hr, hrun, hended, _, _, rfl, ?_, ⟨_, rfl⟩, hW, hsame.mono (by decide) (by decide)⟩
  show Qcb6 Z r0 r2 kC kB c0 c1 c2 c3 c4 c5 h0 n0 _ T38.heap _
  rw [e38]
  exact ⟨rfl, N38, K38, Vu37⟩
theorem efca6 (m : MethodId) (r0 : Addr) : entryFrame m #[(.ref r0), (.int (0 : Int32)), (.int (6 : Int32))] 6 = mkF m 0 #[.val (.ref r0), .val (.int (0 : Int32)), .val (.int (6 : Int32)), .unset, .unset, .unset] [] := by first | (simp [entryFrame, mkF, argsToLocals, Value.category]; done) | rfl
def Qca6 (Z : State) (r0 : Addr) (kC : ClassId) (c0 : Int32) (c1 : Int32) (c2 : Int32) (c3 : Int32) (c4 : Int32) (c5 : Int32) (h0 : Heap) (n0 : Nat) (v : Option Value) (h : Heap) (L : List Loc) : Prop := ∃ (q : Addr) (kq : ClassId), v = some (.ref q) ∧ Fr n0 L ∧ Keep h0 h [] ∧ h0.size ≤ q ∧ Arv Z h q kq .byte (6 : Int32) [(.int (nar .byte (c0.toInt8.toInt32))), (.int (nar .byte (c1.toInt8.toInt32))), (.int (nar .byte (c2.toInt8.toInt32))), (.int (nar .byte (c3.toInt8.toInt32))), (.int (nar .byte (c4.toInt8.toInt32))), (.int (nar .byte (c5.toInt8.toInt32)))] (.int (0 : Int32))
abbrev own_Kca6 (Z : State) (r0 : Addr) (kC : ClassId) (c0 : Int32) (c1 : Int32) (c2 : Int32) (c3 : Int32) (c4 : Int32) (c5 : Int32) (h0 : Heap) (n0 : Nat) (s : State) : Outcome → State → Prop := fun o U' => ∃ v L, o = .returned v ∧ Qca6 Z r0 kC c0 c1 c2 c3 c4 c5 h0 n0 v U'.heap L ∧ FrameEnd s o U' L ({ frames := 1, cells := 1, slots := 6, locals := 18 } : Room).cells ({ frames := 1, cells := 1, slots := 6, locals := 18 } : Room).slots
set_option maxRecDepth 65536 in
set_option maxHeartbeats 40000000 in
theorem rmca6 (l : Launch) (Z : State) (a0 : Array Value) (hw : ∀ d ∈ tables_1, d.before a0 Z = true) (ws : List Jvm.Cond) (r0 : Addr) (kC : ClassId) (c0 : Int32) (c1 : Int32) (c2 : Int32) (c3 : Int32) (c4 : Int32) (c5 : Int32) (h0 : Heap) (n0 : Nat) (Z0 : n0 ≤ h0.size) (O0 : Old Z n0 h0) (V0 : Arv Z h0 r0 kC .char (6 : Int32) [(.int c0), (.int c1), (.int c2), (.int c3), (.int c4), (.int c5)] (.int (0 : Int32))) (hc_c0 : ¬ (255 : Int32) < c0) (hc_c1 : ¬ (255 : Int32) < c1) (hc_c2 : ¬ (255 : Int32) < c2) (hc_c3 : ¬ (255 : Int32) < c3) (hc_c4 : ¬ (255 : Int32) < c4) (hc_c5 : ¬ (255 : Int32) < c5) :
    MetFree l (⟨"java/lang/StringUTF16", "compress", "([CII)[B"⟩ : MethodName) (head1 (Jvm.Cond.code (⟨"java/lang/StringUTF16", "compress", "([CII)[B"⟩ : MethodName) jdk_52_method_16_code 6 (some (.array .byte)) :: ws) ({ frames := 1, cells := 1, slots := 6, locals := 18 } : Room)) (fun a U => a = #[(.ref r0), (.int (0 : Int32)), (.int (6 : Int32))] ∧ Z.Warmed39 U.vm ∧ U.heap = h0) (fun _ _ _ _ _ => True) (fun _ U o U' => ∃ v L, o = .returned v ∧ Qca6 Z r0 kC c0 c1 c2 c3 c4 c5 h0 n0 v U'.heap L ∧ FrameEnd U o U' L ({ frames := 1, cells := 1, slots := 6, locals := 18 } : Room).cells ({ frames := 1, cells := 1, slots := 6, locals := 18 } : Room).slots) := by
  refine MetFree.of_bodySF (plainFor_of_name pn_java_lang_StringUTF16) hisR ?_
  intro p e s m args below meth c s₁ Bd hml0 hP hK
  obtain ⟨rfl, hZ, hh⟩ := hP
  have hx := Bd.exec
  have hby := Bd.bytes
  have hml : c.maxLocals = 6 := hml0
  have hown : s.vm.findClass "java/lang/StringUTF16" = some m.cls := findClass_of_methodNamed Bd.named
  have hnm := (name_of_methodNamed Bd.named Bd.method).1
  have X0 : Stand p l e ({ frames := 1, cells := 1, slots := 6, locals := 18 } : Room) s m #[(.ref r0), (.int (0 : Int32)), (.int (6 : Int32))] below meth c s₁ [] 0 0 := Stand.of_body Bd
  have e0 : s₁.heap = h0 := by rw [← hh, Bd.state]; rfl
  have N0 := Fr.nil n0
  refine own_by (p := p) (e := e) (below := below) (K := own_Kca6 Z r0 kC c0 c1 c2 c3 c4 c5 h0 n0 s) (W' := s₁.setTop (mkF m 0 #[.val (.ref r0), .val (.int (0 : Int32)), .val (.int (6 : Int32)), .unset, .unset, .unset] [])) (fun t k => castTop (efca6 m r0) k) ?_
  obtain ⟨T21, h21, k21, X21, e21, E21, A21, st21⟩ := newP X0 hx hZ (own_w hw 25) e0 (g := (mkF m 1 #[.val (.ref r0), .val (.int (0 : Int32)), .val (.int (6 : Int32)), .unset, .unset, .unset] [(.int (6 : Int32))])) rfl (hb hby djdk_52_16_1) rfl (by decide) (cap := 6) (by decide) (by decide) (by decide) (by decide)
  obtain ⟨b21, g21⟩ : ∃ z, z = h0.size := ⟨_, rfl⟩
  rw [← g21] at A21 st21
  have g_b21 : n0 ≤ b21 := Nat.le_trans (own_le O0) (Nat.le_of_eq g21.symm)
  have sz_b21 : h0.size ≤ b21 := Nat.le_trans (Keep.refl h0 []).1 (Nat.le_of_eq g21.symm)
  have ne_r0_b21 : r0 ≠ b21 := Nat.ne_of_lt (Nat.lt_of_lt_of_le V0.lt (Nat.le_of_eq g21.symm))
  have O21 := O0.ext E21
  have K21 := Keep.ext (Keep.refl h0 []) E21
  have V_b21 : Arv Z h21 b21 k21 .byte (6 : Int32) [(.int (0 : Int32)), (.int (0 : Int32)), (.int (0 : Int32)), (.int (0 : Int32)), (.int (0 : Int32)), (.int (0 : Int32))] (.int (0 : Int32)) := (Arv.new A21 (by decide)).pad (pad_rep [] (.int (0 : Int32)) 6)
  refine own_by (W' := (T21.setTop (mkF m 7 #[.val (.ref r0), .val (.int (0 : Int32)), .val (.int (6 : Int32)), .val (.ref b21), .unset, .unset] [(.ref b21), (.int (0 : Int32)), (.ref r0)]))) (fun t k => XS.iloadN X0.here hx rfl (hb hby djdk_52_16_0) rfl (st21 _ (XS.astoreN X21.here hx rfl (hb hby djdk_52_16_3) rfl rfl (l' := #[.val (.ref r0), .val (.int (0 : Int32)), .val (.int (6 : Int32)), .val (.ref b21), .unset, .unset]) rfl (XS.aloadN X21.here hx rfl (hb hby djdk_52_16_4) rfl rfl (XS.iloadN X21.here hx rfl (hb hby djdk_52_16_5) rfl (XS.aloadN X21.here hx rfl (hb hby djdk_52_16_6) rfl rfl k)))))) ?_
  obtain ⟨_, _, ⟨T22, L22, k22, n22⟩, -, X22, ⟨Lc22, hQ22, l22, y22, z22⟩, st22⟩ := Jvm.LawKit.callS X21 hx (y := (⟨"java/lang/StringUTF16", "compress", "([CI[BII)I"⟩ : MethodName)) hown (mvT hZ (own_w hw 26)) (mvT hZ (own_w hw 27)) (mvT hZ (own_w hw 23)) (mvT hZ (own_w hw 28)) (by decide) (backOf (W := 0) (rmcb6 l Z a0 hw [] r0 b21 kC k21 c0 c1 c2 c3 c4 c5 h21 n0 (own_le O21) O21 (V0.ext E21) V_b21 g_b21 ne_r0_b21 hc_c0 hc_c1 hc_c2 hc_c3 hc_c4 hc_c5) hZ (own_w hw 28) (own_w hw 23) (by decide) (by decide)) (g := (mkF m 9 #[.val (.ref r0), .val (.int (0 : Int32)), .val (.int (6 : Int32)), .val (.ref b21), .unset, .unset] [(.int (6 : Int32)), (.int (0 : Int32)), (.ref b21), (.int (0 : Int32)), (.ref r0)])) rfl (by rw [hml]; rfl) (argsL := [(.ref r0), (.int (0 : Int32)), (.ref b21), (.int (0 : Int32)), (.int (6 : Int32))]) (rest := []) (lenOf pd_3 rfl) rfl (by show 2 * 0 + _ ≤ _; exact Nat.le_of_eq rfl) (hb hby djdk_52_16_9) (fun _ _ => ⟨rfl, e21, (by decide : 1 + 0 ≤ _), (by decide : 6 + 0 ≤ _)⟩)
  dsimp only [Pt.U, Pt.locs, Pt.cells, Pt.slots] at X22 l22 y22 z22 st22 hQ22
  subst l22 y22 z22
  obtain ⟨rfl, N22q, Kq22, Vq22⟩ := hQ22
  have O22 := Old.keep O21 Kq22 (allS g_b21 all0)
  have K22 := Keep.trans K21 Kq22 (allS (Or.inr sz_b21) all0)
  have N22 := Fr.app N0 N22q
  refine own_by (W' := (T22.setTop (mkF m 17 #[.val (.ref r0), .val (.int (0 : Int32)), .val (.int (6 : Int32)), .val (.ref b21), .val (.int (6 : Int32)), .unset] [(.int (6 : Int32)), (.int (6 : Int32))]))) (fun t k => XS.iconst X21.here hx rfl (hb hby djdk_52_16_7) (XS.iloadN X21.here hx rfl (hb hby djdk_52_16_8) rfl (st22 _ (XS.istore X22.here hx rfl (hb hby djdk_52_16_12) rfl (l' := #[.val (.ref r0), .val (.int (0 : Int32)), .val (.int (6 : Int32)), .val (.ref b21), .val (.int (6 : Int32)), .unset]) rfl (XS.iload X22.here hx rfl (hb hby djdk_52_16_14) rfl (XS.iloadN X22.here hx rfl (hb hby djdk_52_16_16) rfl k)))))) ?_
  obtain ⟨fs, hr, hrun, hended, hW, hsame⟩ := X22.leave (v := some (.ref b21)) (fun h => by rw [Bd.returns] at h; cases h)
  refine own_by (W' := (T22.setTop (mkF m 58 #[.val (.ref r0), .val (.int (0 : Int32)), .val (.int (6 : Int32)), .val (.ref b21), .val (.int (6 : Int32)), .unset] [(.ref b21)]))) (fun t k => XS.icmpYes X22.here hx rfl (pc0 := 17) (pc' := 57) rfl (hb hby djdk_52_16_17) rfl (teq (rfl : (6 : Int32) = (6 : Int32))).1 (by decide) (by decide) (XS.aloadN X22.here hx rfl (hb hby djdk_52_16_57) rfl rfl k)) ?_
  refine ⟨_, _, retOut X22 hx Bd.returns rfl (Or.inr (Or.inr (Or.inr (Or.inr ⟨rfl, rfl, rfl⟩)))) (hb hby djdk_52_16_58) hr, hrun, hended, _, _, rfl, ?_, ⟨_, rfl⟩, hW, hsame.mono (by decide) (by decide)⟩
  show Qca6 Z r0 kC c0 c1 c2 c3 c4 c5 h0 n0 _ T22.heap _
  exact ⟨_, _, rfl, N22, K22, sz_b21, Vq22⟩
theorem efcd6 (m : MethodId) (r0 : Addr) : entryFrame m #[(.ref r0), (.int (6 : Int32))] 2 = mkF m 0 #[.val (.ref r0), .val (.int (6 : Int32))] [] := by first | (simp [entryFrame, mkF, argsToLocals, Value.category]; done) | rfl
def Qcd6 (Z : State) (r0 : Addr) (kB : ClassId) (vl : List Value) (h0 : Heap) (n0 : Nat) (v : Option Value) (h : Heap) (L : List Loc) : Prop := v = some (.int (0 : Int32)) ∧ Fr n0 L ∧ h = h0
abbrev own_Kcd6 (Z : State) (r0 : Addr) (kB : ClassId) (vl : List Value) (h0 : Heap) (n0 : Nat) (s : State) : Outcome → State → Prop := fun o U' => ∃ v L, o = .returned v ∧ Qcd6 Z r0 kB vl h0 n0 v U'.heap L ∧ FrameEnd s o U' L ({ frames := 0, cells := 0, slots := 0, locals := 0 } : Room).cells ({ frames := 0, cells := 0, slots := 0, locals := 0 } : Room).slots
set_option maxRecDepth 65536 in
set_option maxHeartbeats 40000000 in
theorem rmcd6 (l : Launch) (Z : State) (a0 : Array Value) (hw : ∀ d ∈ tables_1, d.before a0 Z = true) (ws : List Jvm.Cond) (r0 : Addr) (kB : ClassId) (vl : List Value) (h0 : Heap) (n0 : Nat) (Z0 : n0 ≤ h0.size) (V0 : Arv Z h0 r0 kB .byte (6 : Int32) vl (.int (0 : Int32))) :
    MetFree l (⟨"java/lang/StringUTF16", "coderFromArrayLen", "([BI)B"⟩ : MethodName) (head1 (Jvm.Cond.code (⟨"java/lang/StringUTF16", "coderFromArrayLen", "([BI)B"⟩ : MethodName) jdk_52_method_15_code 2 (some .byte) :: ws) ({ frames := 0, cells := 0, slots := 0, locals := 0 } : Room)) (fun a U => a = #[(.ref r0), (.int (6 : Int32))] ∧ Z.Warmed39 U.vm ∧ U.heap = h0) (fun _ _ _ _ _ => True) (fun _ U o U' => ∃ v L, o = .returned v ∧ Qcd6 Z r0 kB vl h0 n0 v U'.heap L ∧ FrameEnd U o U' L ({ frames := 0, cells := 0, slots := 0, locals := 0 } : Room).cells ({ frames := 0, cells := 0, slots := 0, locals := 0 } : Room).slots) := by
  refine MetFree.of_bodySF (plainFor_of_name pn_java_lang_StringUTF16) hisR ?_
  intro p e s m args below meth c s₁ Bd hml0 hP hK
  obtain ⟨rfl, hZ, hh⟩ := hP
  have hx := Bd.exec
  have hby := Bd.bytes
  have hml : c.maxLocals = 2 := hml0
  have hown : s.vm.findClass "java/lang/StringUTF16" = some m.cls := findClass_of_methodNamed Bd.named
  have hnm := (name_of_methodNamed Bd.named Bd.method).1
  have X0 : Stand p l e ({ frames := 0, cells := 0, slots := 0, locals := 0 } : Room) s m #[(.ref r0), (.int (6 : Int32))] below meth c s₁ [] 0 0 := Stand.of_body Bd
  have e0 : s₁.heap = h0 := by rw [← hh, Bd.state]; rfl
  have N0 := Fr.nil n0
  refine own_by (p := p) (e := e) (below := below) (K := own_Kcd6 Z r0 kB vl h0 n0 s) (W' := s₁.setTop (mkF m 0 #[.val (.ref r0), .val (.int (6 : Int32))] [])) (fun t k => castTop (efcd6 m r0) k) ?_
  obtain ⟨clu21, Aru21, qu21, Su21, Ngu21, Hau21, Gau21⟩ := id V0
  refine own_by (W' := (s₁.setTop (mkF m 3 #[.val (.ref r0), .val (.int (6 : Int32))] [(.int clu21.slots.size.toInt32), (.int (6 : Int32))]))) (fun t k => XS.iloadN X0.here hx rfl (hb hby djdk_52_15_0) rfl (XS.aloadN X0.here hx rfl (hb hby djdk_52_15_1) rfl rfl ((X0.arraylength hx (by rw [e0]; exact Aru21.1) (State.isArrayOf_alike hZ.alike Aru21.2.1) (g := (mkF m 2 #[.val (.ref r0), .val (.int (6 : Int32))] [(.ref r0), (.int (6 : Int32))])) rfl rfl (hb hby djdk_52_15_2)) _ k))) ?_
  rw [len_of Su21 Ngu21]
  obtain ⟨fs, hr, hrun, hended, hW, hsame⟩ := X0.leave (v := some (.int (((((6 : Int32) - (6 : Int32)).toUInt32 >>> ((31 : Int32) &&& 31).toUInt32).toInt32).toInt8.toInt32))) (fun h => by rw [Bd.returns] at h; cases h)
  refine own_by (W' := (s₁.setTop (mkF m 8 #[.val (.ref r0), .val (.int (6 : Int32))] [(.int (((((6 : Int32) - (6 : Int32)).toUInt32 >>> ((31 : Int32) &&& 31).toUInt32).toInt32).toInt8.toInt32))]))) (fun t k => XS.isub X0.here hx rfl (hb hby djdk_52_15_3) rfl (XS.bipush X0.here hx rfl (hb hby djdk_52_15_4) (XS.iushr X0.here hx rfl (hb hby djdk_52_15_6) rfl (XS.i2b X0.here hx rfl (hb hby djdk_52_15_7) rfl k)))) ?_
  refine ⟨_, _, retOut X0 hx Bd.returns rfl (Or.inl ⟨rfl, Or.inr (Or.inr (Or.inl rfl)), _, rfl⟩) (hb hby djdk_52_15_8) hr, hrun, hended, _, _, rfl, ?_, ⟨_, rfl⟩, hW, hsame.mono (by decide) (by decide)⟩
  exact ⟨by rfl, N0, e0⟩
theorem efsb6 (m : MethodId) (r0 : Addr) (r1 : Addr) : entryFrame m #[(.ref r0), (.ref r1), (.int (0 : Int32)), (.int (6 : Int32)), .null] 6 = mkF m 0 #[.val (.ref r0), .val (.ref r1), .val (.int (0 : Int32)), .val (.int (6 : Int32)), .val .null, .unset] [] := by first | (simp [entryFrame, mkF, argsToLocals, Value.category]; done) | rfl
def Qsb6 (Z : State) (r0 : Addr) (r1 : Addr) (kC : ClassId) (c0 : Int32) (c1 : Int32) (c2 : Int32) (c3 : Int32) (c4 : Int32) (c5 : Int32) (wALLOW : Addr) (wFORBID : Addr) (tALLOW : Addr) (tFORBID : Addr) (wV : Addr) (kwV : ClassId) (cs : Int32) (h0 : Heap) (n0 : Nat) (v : Option Value) (h : Heap) (L : List Loc) : Prop := v = none ∧ Fr n0 L ∧ Keep h0 h [r0] ∧ own_St Z h r0 (6 : Int32) [(.int (nar .byte (c0.toInt8.toInt32))), (.int (nar .byte (c1.toInt8.toInt32))), (.int (nar .byte (c2.toInt8.toInt32))), (.int (nar .byte (c3.toInt8.toInt32))), (.int (nar .byte (c4.toInt8.toInt32))), (.int (nar .byte (c5.toInt8.toInt32)))]
abbrev own_Ksb6 (Z : State) (r0 : Addr) (r1 : Addr) (kC : ClassId) (c0 : Int32) (c1 : Int32) (c2 : Int32) (c3 : Int32) (c4 : Int32) (c5 : Int32) (wALLOW : Addr) (wFORBID : Addr) (tALLOW : Addr) (tFORBID : Addr) (wV : Addr) (kwV : ClassId) (cs : Int32) (h0 : Heap) (n0 : Nat) (s : State) : Outcome → State → Prop := fun o U' => ∃ v L, o = .returned v ∧ Qsb6 Z r0 r1 kC c0 c1 c2 c3 c4 c5 wALLOW wFORBID tALLOW tFORBID wV kwV cs h0 n0 v U'.heap L ∧ FrameEnd s o U' L ({ frames := 2, cells := 1, slots := 6, locals := 35 } : Room).cells ({ frames := 2, cells := 1, slots := 6, locals := 35 } : Room).slots
set_option maxRecDepth 65536 in
set_option maxHeartbeats 40000000 in
theorem rmsb6 (l : Launch) (Z : State) (a0 : Array Value) (hw : ∀ d ∈ tables_1, d.before a0 Z = true) (ws : List Jvm.Cond) (r0 : Addr) (r1 : Addr) (kC : ClassId) (c0 : Int32) (c1 : Int32) (c2 : Int32) (c3 : Int32) (c4 : Int32) (c5 : Int32) (wALLOW : Addr) (wFORBID : Addr) (tALLOW : Addr) (tFORBID : Addr) (wV : Addr) (kwV : ClassId) (cs : Int32) (h0 : Heap) (n0 : Nat) (Z0 : n0 ≤ h0.size) (O0 : Old Z n0 h0) (HW : own_Wd Z wALLOW wFORBID tALLOW tFORBID wV kwV cs) (E0 : Exa Z h0 r0 "java/lang/String") (g_r0 : n0 ≤ r0) (F_value : Fld Z h0 r0 "java/lang/String" "value" "[B" .null) (F_coder : Fld Z h0 r0 "java/lang/String" "coder" "B" (.int (0 : Int32))) (V1 : Arv Z h0 r1 kC .char (6 : Int32) [(.int c0), (.int c1), (.int c2), (.int c3), (.int c4), (.int c5)] (.int (0 : Int32))) (hc_c0 : ¬ (255 : Int32) < c0) (hc_c1 : ¬ (255 : Int32) < c1) (hc_c2 : ¬ (255 : Int32) < c2) (hc_c3 : ¬ (255 : Int32) < c3) (hc_c4 : ¬ (255 : Int32) < c4) (hc_c5 : ¬ (255 : Int32) < c5) :
    MetFree l (⟨"java/lang/String", "<init>", "([CIILjava/lang/Void;)V"⟩ : MethodName) (head1 (Jvm.Cond.code (⟨"java/lang/String", "<init>", "([CIILjava/lang/Void;)V"⟩ : MethodName) jdk_42_method_149_code 6 none :: ws) ({ frames := 2, cells := 1, slots := 6, locals := 35 } : Room)) (fun a U => a = #[(.ref r0), (.ref r1), (.int (0 : Int32)), (.int (6 : Int32)), .null] ∧ Z.Warmed39 U.vm ∧ U.heap = h0) (fun _ _ _ _ _ => True) (fun _ U o U' => ∃ v L, o = .returned v ∧ Qsb6 Z r0 r1 kC c0 c1 c2 c3 c4 c5 wALLOW wFORBID tALLOW tFORBID wV kwV cs h0 n0 v U'.heap L ∧ FrameEnd U o U' L ({ frames := 2, cells := 1, slots := 6, locals := 35 } : Room).cells ({ frames := 2, cells := 1, slots := 6, locals := 35 } : Room).slots) := by
  refine MetFree.of_bodySF (plainFor_of_name pn_java_lang_String) hisR ?_
  intro p e s m args below meth c s₁ Bd hml0 hP hK
  obtain ⟨rfl, hZ, hh⟩ := hP
  have hx := Bd.exec
  have hby := Bd.bytes
  have hml : c.maxLocals = 6 := hml0
  have hown : s.vm.findClass "java/lang/String" = some m.cls := findClass_of_methodNamed Bd.named
  have hnm := (name_of_methodNamed Bd.named Bd.method).1
  have X0 : Stand p l e ({ frames := 2, cells := 1, slots := 6, locals := 35 } : Room) s m #[(.ref r0), (.ref r1), (.int (0 : Int32)), (.int (6 : Int32)), .null] below meth c s₁ [] 0 0 := Stand.of_body Bd
  have e0 : s₁.heap = h0 := by rw [← hh, Bd.state]; rfl
  have N0 := Fr.nil n0
  refine own_by (p := p) (e := e) (below := below) (K := own_Ksb6 Z r0 r1 kC c0 c1 c2 c3 c4 c5 wALLOW wFORBID tALLOW tFORBID wV kwV cs h0 n0 s) (W' := s₁.setTop (mkF m 0 #[.val (.ref r0), .val (.ref r1), .val (.int (0 : Int32)), .val (.int (6 : Int32)), .val .null, .unset] [])) (fun t k => castTop (efsb6 m r0 r1) k) ?_
  obtain ⟨T21, X21, e21, st21⟩ := initO X0 hx hZ hown (own_w hw 17) (own_w hw 18) (own_w hw 19) e0 (g := (mkF m 1 #[.val (.ref r0), .val (.ref r1), .val (.int (0 : Int32)), .val (.int (6 : Int32)), .val .null, .unset] [(.ref r0)])) rfl (by rw [hml]; rfl) rfl (hb hby djdk_42_149_1) (by decide) (W := 0) (by show 2 * 0 + _ ≤ _; exact Nat.le_of_eq rfl) (by decide)
  obtain ⟨T22, X22, e22, st22⟩ := getS (host := "") X21 hx hZ hown (own_w hw 20) Via.refl e21 (HW.2.2.2.2.2.2.2.2.2.2.2.2.2.1.ext O0.2) (g := (mkF m 27 #[.val (.ref r0), .val (.ref r1), .val (.int (0 : Int32)), .val (.int (6 : Int32)), .val .null, .unset] [])) rfl (hb hby djdk_42_149_27)
  refine own_by (W' := (T22.setTop (mkF m 33 #[.val (.ref r0), .val (.ref r1), .val (.int (0 : Int32)), .val (.int (6 : Int32)), .val .null, .unset] []))) (fun t k => XS.aloadN X0.here hx rfl (hb hby djdk_42_149_0) rfl rfl (st21 _ (XS.iloadN X21.here hx rfl (hb hby djdk_42_149_4) rfl (XS.ifYes X21.here hx rfl (pc0 := 5) (pc' := 27) rfl (hb hby djdk_42_149_5) rfl ((if0 _ _).trans (feq (by decide : ¬ ((6 : Int32) = (0 : Int32)))).2) (by decide) (by decide) (st22 _ (XS.ifNo X22.here hx rfl (hb hby djdk_42_149_30) rfl ((if0 _ _).trans (feq HW.2.2.2.2.2.2.2.2.2.2.2.2.2.2).1) k)))))) ?_
  obtain ⟨_, _, ⟨T23, L23, k23, n23⟩, -, X23, ⟨Lc23, hQ23, l23, y23, z23⟩, st23⟩ := Jvm.LawKit.callS X22 hx (y := (⟨"java/lang/StringUTF16", "compress", "([CII)[B"⟩ : MethodName)) hown (mvT hZ (own_w hw 21)) (mvT hZ (own_w hw 22)) (mvT hZ (own_w hw 23)) (mvT hZ (own_w hw 24)) (by decide) (backOf (W := 0) (rmca6 l Z a0 hw [] r1 kC c0 c1 c2 c3 c4 c5 h0 n0 Z0 O0 V1 hc_c0 hc_c1 hc_c2 hc_c3 hc_c4 hc_c5) hZ (own_w hw 24) (own_w hw 23) (by decide) (by decide)) (g := (mkF m 36 #[.val (.ref r0), .val (.ref r1), .val (.int (0 : Int32)), .val (.int (6 : Int32)), .val .null, .unset] [(.int (6 : Int32)), (.int (0 : Int32)), (.ref r1)])) rfl (by rw [hml]; rfl) (argsL := [(.ref r1), (.int (0 : Int32)), (.int (6 : Int32))]) (rest := []) (lenOf pd_4 rfl) rfl (by show 2 * 0 + _ ≤ _; exact Nat.le_of_eq rfl) (hb hby djdk_42_149_36) (fun _ _ => ⟨rfl, e22, (by decide : 0 + 1 ≤ _), (by decide : 0 + 6 ≤ _)⟩)
  dsimp only [Pt.U, Pt.locs, Pt.cells, Pt.slots] at X23 l23 y23 z23 st23 hQ23
  subst l23 y23 z23
  obtain ⟨fb23, kb23, rfl, N23q, Kq23, hsz23, Vq23⟩ := hQ23
  have ne_r0_fb23 : r0 ≠ fb23 := Nat.ne_of_lt (Nat.lt_of_lt_of_le E0.lt hsz23)
  have ne_r1_fb23 : r1 ≠ fb23 := Nat.ne_of_lt (Nat.lt_of_lt_of_le V1.lt hsz23)
  have O23 := Old.keep O0 Kq23 all0
  have K23 := Keep.trans (Keep.refl h0 [r0]) Kq23 all0
  have N23 := Fr.app N0 N23q
  refine own_by (W' := (T23.setTop (mkF m 42 #[.val (.ref r0), .val (.ref r1), .val (.int (0 : Int32)), .val (.int (6 : Int32)), .val .null, .val (.ref fb23)] [(.ref r0)]))) (fun t k => XS.aloadN X22.here hx rfl (hb hby djdk_42_149_33) rfl rfl (XS.iloadN X22.here hx rfl (hb hby djdk_42_149_34) rfl (XS.iloadN X22.here hx rfl (hb hby djdk_42_149_35) rfl (st23 _ (XS.astore X23.here hx rfl (hb hby djdk_42_149_39) rfl rfl (l' := #[.val (.ref r0), .val (.ref r1), .val (.int (0 : Int32)), .val (.int (6 : Int32)), .val .null, .val (.ref fb23)]) rfl (XS.aloadN X23.here hx rfl (hb hby djdk_42_149_41) rfl rfl k)))))) ?_
  obtain ⟨_, _, ⟨T24, L24, k24, n24⟩, -, X24, ⟨Lc24, hQ24, l24, y24, z24⟩, st24⟩ := Jvm.LawKit.callS X23 hx (y := (⟨"java/lang/StringUTF16", "coderFromArrayLen", "([BI)B"⟩ : MethodName)) hown (mvT hZ (own_w hw 29)) (mvT hZ (own_w hw 30)) (mvT hZ (own_w hw 23)) (mvT hZ (own_w hw 31)) (by decide) (backOf (W := 1) (rmcd6 l Z a0 hw [] fb23 kb23 [(.int (nar .byte (c0.toInt8.toInt32))), (.int (nar .byte (c1.toInt8.toInt32))), (.int (nar .byte (c2.toInt8.toInt32))), (.int (nar .byte (c3.toInt8.toInt32))), (.int (nar .byte (c4.toInt8.toInt32))), (.int (nar .byte (c5.toInt8.toInt32)))] T23.heap n0 (own_le O23) Vq23) hZ (own_w hw 31) (own_w hw 23) (by decide) (by decide)) (g := (mkF m 45 #[.val (.ref r0), .val (.ref r1), .val (.int (0 : Int32)), .val (.int (6 : Int32)), .val .null, .val (.ref fb23)] [(.int (6 : Int32)), (.ref fb23), (.ref r0)])) rfl (by rw [hml]; rfl) (argsL := [(.ref fb23), (.int (6 : Int32))]) (rest := [(.ref r0)]) (lenOf pd_5 rfl) rfl (by show 2 * 0 + _ ≤ _; exact Nat.le_of_eq rfl) (hb hby djdk_42_149_45) (fun _ _ => ⟨rfl, rfl, (by decide : 1 + 0 ≤ _), (by decide : 6 + 0 ≤ _)⟩)
  dsimp only [Pt.U, Pt.locs, Pt.cells, Pt.slots] at X24 l24 y24 z24 st24 hQ24
  subst l24 y24 z24
  obtain ⟨rfl, N24q, e24⟩ := hQ24
  have N24 := Fr.app N23 N24q
  obtain ⟨T25, h25, X25, e25, W25, st25⟩ := putFN X24 hx hZ hown (own_w hw 32) Via.refl e24 (F_coder.keep Kq23 nin0) (E0.keep Kq23) (Or.inr ⟨(own_w hw 33), rfl, hnm⟩) (own_w hw 8) (ty := .byte) (v' := .int (0 : Int32)) (by decide) rfl (by decide) (g := (mkF m 48 #[.val (.ref r0), .val (.ref r1), .val (.int (0 : Int32)), .val (.int (6 : Int32)), .val .null, .val (.ref fb23)] [(.int (0 : Int32)), (.ref r0)])) rfl rfl (hb hby djdk_42_149_48)
  have Fw25 := (F_coder.keep Kq23 nin0).same W25
  have O25 := Old.wr O23 W25 g_r0
  have N25 := Fr.snoc X25 N24 g_r0
  have K25 := Keep.wr K23 W25 (Or.inl (List.mem_of_getElem? (i := 0) rfl))
  refine own_by (W' := (T25.setTop (mkF m 54 #[.val (.ref r0), .val (.ref r1), .val (.int (0 : Int32)), .val (.int (6 : Int32)), .val .null, .val (.ref fb23)] [(.ref fb23), (.ref r0)]))) (fun t k => XS.aload X23.here hx rfl (hb hby djdk_42_149_42) rfl rfl (XS.iloadN X23.here hx rfl (hb hby djdk_42_149_44) rfl (st24 _ (st25 _ (XS.aloadN X25.here hx rfl (hb hby djdk_42_149_51) rfl rfl (XS.aload X25.here hx rfl (hb hby djdk_42_149_52) rfl rfl k)))))) ?_
  obtain ⟨T26, h26, X26, e26, W26, st26⟩ := putF X25 hx hZ hown (host := "") (Or.inl (own_w hw 34)) Via.refl e25 ((F_value.keep Kq23 nin0).other W25 (Or.inr (slot_ne (Or.inr (own_w hw 35)) (Or.inr (own_w hw 33)) (by decide) (t := (.array .byte)) (t' := .byte) (by decide) (by decide)))) ((E0.keep Kq23).wr W25) (Or.inr ⟨(own_w hw 35), rfl, hnm⟩) (own_w hw 8) (ty := (.array .byte)) (by decide) rfl rfl (g := (mkF m 54 #[.val (.ref r0), .val (.ref r1), .val (.int (0 : Int32)), .val (.int (6 : Int32)), .val .null, .val (.ref fb23)] [(.ref fb23), (.ref r0)])) rfl rfl (hb hby djdk_42_149_54)
  have Fw26 := ((F_value.keep Kq23 nin0).other W25 (Or.inr (slot_ne (Or.inr (own_w hw 35)) (Or.inr (own_w hw 33)) (by decide) (t := (.array .byte)) (t' := .byte) (by decide) (by decide)))).same W26
  have O26 := Old.wr O25 W26 g_r0
  have N26 := Fr.snoc X26 N25 g_r0
  have K26 := Keep.wr K25 W26 (Or.inl (List.mem_of_getElem? (i := 0) rfl))
  obtain ⟨fs, hr, hrun, hended, hW, hsame⟩ := X26.leave (v := none) (fun _ => rfl)
  refine own_by (W' := (T26.setTop (mkF m 57 #[.val (.ref r0), .val (.ref r1), .val (.int (0 : Int32)), .val (.int (6 : Int32)), .val .null, .val (.ref fb23)] []))) (fun t k => st26 _ k) ?_
  refine ⟨_, _, X26.returnOut hx Bd.returns (hb hby djdk_42_149_57) hr, hrun, hended, _, _, rfl, ?_, ⟨_, rfl⟩, hW, hsame.mono (by decide) (by decide)⟩
  show Qsb6 Z r0 r1 kC c0 c1 c2 c3 c4 c5 wALLOW wFORBID tALLOW tFORBID wV kwV cs h0 n0 _ T26.heap _
  rw [e26]
  exact ⟨rfl, N26, K26, (((E0.keep Kq23).wr W25).wr W26), (Fw25.other W26 (Or.inr (slot_ne (Or.inr (own_w hw 33)) (Or.inr (own_w hw 35)) (by decide) (t := .byte) (t' := (.array .byte)) (by decide) (by decide)))), _, _, Fw26, ((Vq23.other W25 ne_r0_fb23.symm).other W26 ne_r0_fb23.symm)⟩
theorem efsa6 (m : MethodId) (r0 : Addr) (r1 : Addr) : entryFrame m #[(.ref r0), (.ref r1)] 2 = mkF m 0 #[.val (.ref r0), .val (.ref r1)] [] := by first | (simp [entryFrame, mkF, argsToLocals, Value.category]; done) | rfl
def Qsa6 (Z : State) (r0 : Addr) (r1 : Addr) (kC : ClassId) (c0 : Int32) (c1 : Int32) (c2 : Int32) (c3 : Int32) (c4 : Int32) (c5 : Int32) (wALLOW : Addr) (wFORBID : Addr) (tALLOW : Addr) (tFORBID : Addr) (wV : Addr) (kwV : ClassId) (cs : Int32) (h0 : Heap) (n0 : Nat) (v : Option Value) (h : Heap) (L : List Loc) : Prop := v = none ∧ Fr n0 L ∧ Keep h0 h [r0] ∧ own_St Z h r0 (6 : Int32) [(.int (nar .byte (c0.toInt8.toInt32))), (.int (nar .byte (c1.toInt8.toInt32))), (.int (nar .byte (c2.toInt8.toInt32))), (.int (nar .byte (c3.toInt8.toInt32))), (.int (nar .byte (c4.toInt8.toInt32))), (.int (nar .byte (c5.toInt8.toInt32)))]
abbrev own_Ksa6 (Z : State) (r0 : Addr) (r1 : Addr) (kC : ClassId) (c0 : Int32) (c1 : Int32) (c2 : Int32) (c3 : Int32) (c4 : Int32) (c5 : Int32) (wALLOW : Addr) (wFORBID : Addr) (tALLOW : Addr) (tFORBID : Addr) (wV : Addr) (kwV : ClassId) (cs : Int32) (h0 : Heap) (n0 : Nat) (s : State) : Outcome → State → Prop := fun o U' => ∃ v L, o = .returned v ∧ Qsa6 Z r0 r1 kC c0 c1 c2 c3 c4 c5 wALLOW wFORBID tALLOW tFORBID wV kwV cs h0 n0 v U'.heap L ∧ FrameEnd s o U' L ({ frames := 3, cells := 1, slots := 6, locals := 52 } : Room).cells ({ frames := 3, cells := 1, slots := 6, locals := 52 } : Room).slots
set_option maxRecDepth 65536 in
set_option maxHeartbeats 40000000 in
theorem rmsa6 (l : Launch) (Z : State) (a0 : Array Value) (hw : ∀ d ∈ tables_1, d.before a0 Z = true) (ws : List Jvm.Cond) (r0 : Addr) (r1 : Addr) (kC : ClassId) (c0 : Int32) (c1 : Int32) (c2 : Int32) (c3 : Int32) (c4 : Int32) (c5 : Int32) (wALLOW : Addr) (wFORBID : Addr) (tALLOW : Addr) (tFORBID : Addr) (wV : Addr) (kwV : ClassId) (cs : Int32) (h0 : Heap) (n0 : Nat) (Z0 : n0 ≤ h0.size) (O0 : Old Z n0 h0) (HW : own_Wd Z wALLOW wFORBID tALLOW tFORBID wV kwV cs) (E0 : Exa Z h0 r0 "java/lang/String") (g_r0 : n0 ≤ r0) (F_value : Fld Z h0 r0 "java/lang/String" "value" "[B" .null) (F_coder : Fld Z h0 r0 "java/lang/String" "coder" "B" (.int (0 : Int32))) (V1 : Arv Z h0 r1 kC .char (6 : Int32) [(.int c0), (.int c1), (.int c2), (.int c3), (.int c4), (.int c5)] (.int (0 : Int32))) (hc_c0 : ¬ (255 : Int32) < c0) (hc_c1 : ¬ (255 : Int32) < c1) (hc_c2 : ¬ (255 : Int32) < c2) (hc_c3 : ¬ (255 : Int32) < c3) (hc_c4 : ¬ (255 : Int32) < c4) (hc_c5 : ¬ (255 : Int32) < c5) :
    MetFree l (⟨"java/lang/String", "<init>", "([C)V"⟩ : MethodName) (head1 (Jvm.Cond.code (⟨"java/lang/String", "<init>", "([C)V"⟩ : MethodName) jdk_42_method_3_code 2 none :: ws) ({ frames := 3, cells := 1, slots := 6, locals := 52 } : Room)) (fun a U => a = #[(.ref r0), (.ref r1)] ∧ Z.Warmed39 U.vm ∧ U.heap = h0) (fun _ _ _ _ _ => True) (fun _ U o U' => ∃ v L, o = .returned v ∧ Qsa6 Z r0 r1 kC c0 c1 c2 c3 c4 c5 wALLOW wFORBID tALLOW tFORBID wV kwV cs h0 n0 v U'.heap L ∧ FrameEnd U o U' L ({ frames := 3, cells := 1, slots := 6, locals := 52 } : Room).cells ({ frames := 3, cells := 1, slots := 6, locals := 52 } : Room).slots) := by
  refine MetFree.of_bodySF (plainFor_of_name pn_java_lang_String) hisR ?_
  intro p e s m args below meth c s₁ Bd hml0 hP hK
  obtain ⟨rfl, hZ, hh⟩ := hP
  have hx := Bd.exec
  have hby := Bd.bytes
  have hml : c.maxLocals = 2 := hml0
  have hown : s.vm.findClass "java/lang/String" = some m.cls := findClass_of_methodNamed Bd.named
  have hnm := (name_of_methodNamed Bd.named Bd.method).1
  have X0 : Stand p l e ({ frames := 3, cells := 1, slots := 6, locals := 52 } : Room) s m #[(.ref r0), (.ref r1)] below meth c s₁ [] 0 0 := Stand.of_body Bd
  have e0 : s₁.heap = h0 := by rw [← hh, Bd.state]; rfl
  have N0 := Fr.nil n0
  refine own_by (p := p) (e := e) (below := below) (K := own_Ksa6 Z r0 r1 kC c0 c1 c2 c3 c4 c5 wALLOW wFORBID tALLOW tFORBID wV kwV cs h0 n0 s) (W' := s₁.setTop (mkF m 0 #[.val (.ref r0), .val (.ref r1)] [])) (fun t k => castTop (efsa6 m r0 r1) k) ?_
  obtain ⟨clu21, Aru21, qu21, Su21, Ngu21, Hau21, Gau21⟩ := id V1
  refine own_by (W' := (s₁.setTop (mkF m 5 #[.val (.ref r0), .val (.ref r1)] [(.int clu21.slots.size.toInt32), (.int (0 : Int32)), (.ref r1), (.ref r0)]))) (fun t k => XS.aloadN X0.here hx rfl (hb hby djdk_42_3_0) rfl rfl (XS.aloadN X0.here hx rfl (hb hby djdk_42_3_1) rfl rfl (XS.iconst X0.here hx rfl (hb hby djdk_42_3_2) (XS.aloadN X0.here hx rfl (hb hby djdk_42_3_3) rfl rfl ((X0.arraylength hx (by rw [e0]; exact Aru21.1) (State.isArrayOf_alike hZ.alike Aru21.2.1) (g := (mkF m 4 #[.val (.ref r0), .val (.ref r1)] [(.ref r1), (.int (0 : Int32)), (.ref r1), (.ref r0)])) rfl rfl (hb hby djdk_42_3_4)) _ k))))) ?_
  rw [len_of Su21 Ngu21]
  obtain ⟨_, _, ⟨T22, L22, k22, n22⟩, -, X22, ⟨Lc22, hQ22, l22, y22, z22⟩, st22⟩ := X0.specialBack hx (y := (⟨"java/lang/String", "<init>", "([CIILjava/lang/Void;)V"⟩ : MethodName)) rfl hown (mvT hZ (own_w hw 13)) (mvT hZ (own_w hw 14)) (mvT hZ (own_w hw 16)) (by decide) (backOf (W := 0) (rmsb6 l Z a0 hw [] r0 r1 kC c0 c1 c2 c3 c4 c5 wALLOW wFORBID tALLOW tFORBID wV kwV cs h0 n0 Z0 O0 HW E0 g_r0 F_value F_coder V1 hc_c0 hc_c1 hc_c2 hc_c3 hc_c4 hc_c5) hZ (own_w hw 16) (own_w hw 9) (by decide) (by decide)) (g := (mkF m 6 #[.val (.ref r0), .val (.ref r1)] [.null, (.int (6 : Int32)), (.int (0 : Int32)), (.ref r1), (.ref r0)])) rfl (by rw [hml]; rfl) (Steps.refl _) (a := r0) (argsL := [(.ref r1), (.int (0 : Int32)), (.int (6 : Int32)), .null]) (rest := []) (lenOf pd_1 rfl) rfl (by show 2 * 0 + _ ≤ _; exact Nat.le_of_eq rfl) (hb hby djdk_42_3_6) (fun _ _ => ⟨rfl, e0, (by decide : 0 + 1 ≤ _), (by decide : 0 + 6 ≤ _)⟩)
  dsimp only [Pt.U, Pt.locs, Pt.cells, Pt.slots] at X22 l22 y22 z22 st22 hQ22
  subst l22 y22 z22
  obtain ⟨rfl, N22q, Kq22, Tq22⟩ := hQ22
  have O22 := Old.keep O0 Kq22 (allS g_r0 all0)
  have K22 := Keep.trans (Keep.refl h0 [r0]) Kq22 (allS (Or.inl (List.mem_of_getElem? (i := 0) rfl)) all0)
  have N22 := Fr.app N0 N22q
  obtain ⟨fs, hr, hrun, hended, hW, hsame⟩ := X22.leave (v := none) (fun _ => rfl)
  refine own_by (W' := (T22.setTop (mkF m 9 #[.val (.ref r0), .val (.ref r1)] []))) (fun t k => XS.aconstNull X0.here hx rfl (hb hby djdk_42_3_5) (Steps.trans st22 k)) ?_
  refine ⟨_, _, X22.returnOut hx Bd.returns (hb hby djdk_42_3_9) hr, hrun, hended, _, _, rfl, ?_, ⟨_, rfl⟩, hW, hsame.mono (by decide) (by decide)⟩
  show Qsa6 Z r0 r1 kC c0 c1 c2 c3 c4 c5 wALLOW wFORBID tALLOW tFORBID wV kwV cs h0 n0 _ T22.heap _
  exact ⟨rfl, N22, K22, Tq22⟩
theorem dmethod_3_185 : decode method_3_code 185 = .ok (.new 19, 3) := by decide +kernel
theorem dmethod_3_188 : decode method_3_code 188 = .ok (.dup, 1) := by decide +kernel
theorem dmethod_3_189 : decode method_3_code 189 = .ok (.bipush 6, 2) := by decide +kernel
theorem dmethod_3_191 : decode method_3_code 191 = .ok (.newarray .char, 2) := by decide +kernel
theorem dmethod_3_193 : decode method_3_code 193 = .ok (.dup, 1) := by decide +kernel
theorem dmethod_3_194 : decode method_3_code 194 = .ok (.iconst 0, 1) := by decide +kernel
theorem dmethod_3_195 : decode method_3_code 195 = .ok (.aload_n 0, 1) := by decide +kernel
theorem dmethod_3_196 : decode method_3_code 196 = .ok (.iconst 0, 1) := by decide +kernel
theorem dmethod_3_197 : decode method_3_code 197 = .ok (.caload, 1) := by decide +kernel
theorem dmethod_3_198 : decode method_3_code 198 = .ok (.castore, 1) := by decide +kernel
theorem dmethod_3_199 : decode method_3_code 199 = .ok (.dup, 1) := by decide +kernel
theorem dmethod_3_200 : decode method_3_code 200 = .ok (.iconst 1, 1) := by decide +kernel
theorem dmethod_3_201 : decode method_3_code 201 = .ok (.aload_n 0, 1) := by decide +kernel
theorem dmethod_3_202 : decode method_3_code 202 = .ok (.iconst 1, 1) := by decide +kernel
theorem dmethod_3_203 : decode method_3_code 203 = .ok (.caload, 1) := by decide +kernel
theorem dmethod_3_204 : decode method_3_code 204 = .ok (.castore, 1) := by decide +kernel
theorem dmethod_3_205 : decode method_3_code 205 = .ok (.dup, 1) := by decide +kernel
theorem dmethod_3_206 : decode method_3_code 206 = .ok (.iconst 2, 1) := by decide +kernel
theorem dmethod_3_207 : decode method_3_code 207 = .ok (.aload_n 0, 1) := by decide +kernel
theorem dmethod_3_208 : decode method_3_code 208 = .ok (.iconst 2, 1) := by decide +kernel
theorem dmethod_3_209 : decode method_3_code 209 = .ok (.caload, 1) := by decide +kernel
theorem dmethod_3_210 : decode method_3_code 210 = .ok (.castore, 1) := by decide +kernel
theorem dmethod_3_211 : decode method_3_code 211 = .ok (.dup, 1) := by decide +kernel
theorem dmethod_3_212 : decode method_3_code 212 = .ok (.iconst 3, 1) := by decide +kernel
theorem dmethod_3_213 : decode method_3_code 213 = .ok (.aload_n 0, 1) := by decide +kernel
theorem dmethod_3_214 : decode method_3_code 214 = .ok (.iconst 3, 1) := by decide +kernel
theorem dmethod_3_215 : decode method_3_code 215 = .ok (.caload, 1) := by decide +kernel
theorem dmethod_3_216 : decode method_3_code 216 = .ok (.castore, 1) := by decide +kernel
theorem dmethod_3_217 : decode method_3_code 217 = .ok (.dup, 1) := by decide +kernel
theorem dmethod_3_218 : decode method_3_code 218 = .ok (.iconst 4, 1) := by decide +kernel
theorem dmethod_3_219 : decode method_3_code 219 = .ok (.aload_n 0, 1) := by decide +kernel
theorem dmethod_3_220 : decode method_3_code 220 = .ok (.iconst 4, 1) := by decide +kernel
theorem dmethod_3_221 : decode method_3_code 221 = .ok (.caload, 1) := by decide +kernel
theorem dmethod_3_222 : decode method_3_code 222 = .ok (.castore, 1) := by decide +kernel
theorem dmethod_3_223 : decode method_3_code 223 = .ok (.dup, 1) := by decide +kernel
theorem dmethod_3_224 : decode method_3_code 224 = .ok (.iconst 5, 1) := by decide +kernel
theorem dmethod_3_225 : decode method_3_code 225 = .ok (.aload_n 0, 1) := by decide +kernel
theorem dmethod_3_226 : decode method_3_code 226 = .ok (.iconst 5, 1) := by decide +kernel
theorem dmethod_3_227 : decode method_3_code 227 = .ok (.caload, 1) := by decide +kernel
theorem dmethod_3_228 : decode method_3_code 228 = .ok (.castore, 1) := by decide +kernel
theorem dmethod_3_229 : decode method_3_code 229 = .ok (.invokespecial 39, 3) := by decide +kernel
theorem dmethod_3_232 : decode method_3_code 232 = .ok (.areturn, 1) := by decide +kernel
theorem efmk6 (m : MethodId) (r0 : Addr) : entryFrame m #[(.ref r0), (.int (6 : Int32))] 2 = mkF m 0 #[.val (.ref r0), .val (.int (6 : Int32))] [] := by first | (simp [entryFrame, mkF, argsToLocals, Value.category]; done) | rfl
def Qmk6 (Z : State) (r0 : Addr) (kC : ClassId) (c0 : Int32) (c1 : Int32) (c2 : Int32) (c3 : Int32) (c4 : Int32) (c5 : Int32) (wALLOW : Addr) (wFORBID : Addr) (tALLOW : Addr) (tFORBID : Addr) (wV : Addr) (kwV : ClassId) (cs : Int32) (h0 : Heap) (n0 : Nat) (v : Option Value) (h : Heap) (L : List Loc) : Prop := ∃ q : Addr, v = some (.ref q) ∧ Fr n0 L ∧ Keep h0 h [] ∧ h0.size ≤ q ∧ own_St Z h q (6 : Int32) [(.int (nar .byte (c0.toInt8.toInt32))), (.int (nar .byte (c1.toInt8.toInt32))), (.int (nar .byte (c2.toInt8.toInt32))), (.int (nar .byte (c3.toInt8.toInt32))), (.int (nar .byte (c4.toInt8.toInt32))), (.int (nar .byte (c5.toInt8.toInt32)))]
abbrev own_Kmk6 (Z : State) (r0 : Addr) (kC : ClassId) (c0 : Int32) (c1 : Int32) (c2 : Int32) (c3 : Int32) (c4 : Int32) (c5 : Int32) (wALLOW : Addr) (wFORBID : Addr) (tALLOW : Addr) (tFORBID : Addr) (wV : Addr) (kwV : ClassId) (cs : Int32) (h0 : Heap) (n0 : Nat) (s : State) : Outcome → State → Prop := fun o U' => ∃ v L, o = .returned v ∧ Qmk6 Z r0 kC c0 c1 c2 c3 c4 c5 wALLOW wFORBID tALLOW tFORBID wV kwV cs h0 n0 v U'.heap L ∧ FrameEnd s o U' L ({ frames := 4, cells := 3, slots := 16, locals := 66 } : Room).cells ({ frames := 4, cells := 3, slots := 16, locals := 66 } : Room).slots
set_option maxRecDepth 65536 in
set_option maxHeartbeats 40000000 in
theorem rmmk6 (l : Launch) (Z : State) (a0 : Array Value) (hw : ∀ d ∈ tables_1, d.before a0 Z = true) (ws : List Jvm.Cond) (r0 : Addr) (kC : ClassId) (c0 : Int32) (c1 : Int32) (c2 : Int32) (c3 : Int32) (c4 : Int32) (c5 : Int32) (wALLOW : Addr) (wFORBID : Addr) (tALLOW : Addr) (tFORBID : Addr) (wV : Addr) (kwV : ClassId) (cs : Int32) (h0 : Heap) (n0 : Nat) (Z0 : n0 ≤ h0.size) (O0 : Old Z n0 h0) (HW : own_Wd Z wALLOW wFORBID tALLOW tFORBID wV kwV cs) (V0 : Arv Z h0 r0 kC .char (6 : Int32) [(.int c0), (.int c1), (.int c2), (.int c3), (.int c4), (.int c5)] (.int (0 : Int32))) (hl_c0 : own_ch c0) (hl_c1 : own_ch c1) (hl_c2 : own_ch c2) (hl_c3 : own_ch c3) (hl_c4 : own_ch c4) (hl_c5 : own_ch c5) :
    MetFree l (⟨"com/example/claviger/claviger/engine/EffectNamedPinLaw", "make", "([CI)Ljava/lang/String;"⟩ : MethodName) (head1 (Jvm.Cond.code (⟨"com/example/claviger/claviger/engine/EffectNamedPinLaw", "make", "([CI)Ljava/lang/String;"⟩ : MethodName) method_3_code 2 (some (.object "java/lang/String")) :: ws) ({ frames := 4, cells := 3, slots := 16, locals := 66 } : Room)) (fun a U => a = #[(.ref r0), (.int (6 : Int32))] ∧ Z.Warmed39 U.vm ∧ U.heap = h0) (fun _ _ _ _ _ => True) (fun _ U o U' => ∃ v L, o = .returned v ∧ Qmk6 Z r0 kC c0 c1 c2 c3 c4 c5 wALLOW wFORBID tALLOW tFORBID wV kwV cs h0 n0 v U'.heap L ∧ FrameEnd U o U' L ({ frames := 4, cells := 3, slots := 16, locals := 66 } : Room).cells ({ frames := 4, cells := 3, slots := 16, locals := 66 } : Room).slots) := by
  refine MetFree.of_bodySF (plainFor_of_name pn_com_example_claviger_claviger_engine_EffectNamedPinLaw) hisR ?_
  intro p e s m args below meth c s₁ Bd hml0 hP hK
  obtain ⟨rfl, hZ, hh⟩ := hP
  have hx := Bd.exec
  have hby := Bd.bytes
  have hml : c.maxLocals = 2 := hml0
  have hown : s.vm.findClass "com/example/claviger/claviger/engine/EffectNamedPinLaw" = some m.cls := findClass_of_methodNamed Bd.named
  have hnm := (name_of_methodNamed Bd.named Bd.method).1
  have X0 : Stand p l e ({ frames := 4, cells := 3, slots := 16, locals := 66 } : Room) s m #[(.ref r0), (.int (6 : Int32))] below meth c s₁ [] 0 0 := Stand.of_body Bd
  have e0 : s₁.heap = h0 := by rw [← hh, Bd.state]; rfl
  have N0 := Fr.nil n0
  refine own_by (p := p) (e := e) (below := below) (K := own_Kmk6 Z r0 kC c0 c1 c2 c3 c4 c5 wALLOW wFORBID tALLOW tFORBID wV kwV cs h0 n0 s) (W' := s₁.setTop (mkF m 0 #[.val (.ref r0), .val (.int (6 : Int32))] [])) (fun t k => castTop (efmk6 m r0) k) ?_
  refine own_by (W' := (s₁.setTop (mkF m 38 #[.val (.ref r0), .val (.int (6 : Int32))] [(.int (6 : Int32))]))) (fun t k => XS.iloadN X0.here hx rfl (hb hby dmethod_3_0) rfl (XS.ifYes X0.here hx rfl (pc0 := 1) (pc' := 15) rfl (hb hby dmethod_3_1) rfl ((if0 _ _).trans (feq (by decide : ¬ ((6 : Int32) = (0 : Int32)))).2) (by decide) (by decide) (XS.iloadN X0.here hx rfl (hb hby dmethod_3_15) rfl (XS.iconst X0.here hx rfl (hb hby dmethod_3_16) (XS.icmpYes X0.here hx rfl (pc0 := 17) (pc' := 37) rfl (hb hby dmethod_3_17) rfl (feq (by decide : ¬ ((6 : Int32) = (1 : Int32)))).2 (by decide) (by decide) (XS.iloadN X0.here hx rfl (hb hby dmethod_3_37) rfl k)))))) ?_
  refine own_by (W' := (s₁.setTop (mkF m 100 #[.val (.ref r0), .val (.int (6 : Int32))] [(.int (6 : Int32))]))) (fun t k => XS.iconst X0.here hx rfl (hb hby dmethod_3_38) (XS.icmpYes X0.here hx rfl (pc0 := 39) (pc' := 65) rfl (hb hby dmethod_3_39) rfl (feq (by decide : ¬ ((6 : Int32) = (2 : Int32)))).2 (by decide) (by decide) (XS.iloadN X0.here hx rfl (hb hby dmethod_3_65) rfl (XS.iconst X0.here hx rfl (hb hby dmethod_3_66) (XS.icmpYes X0.here hx rfl (pc0 := 67) (pc' := 99) rfl (hb hby dmethod_3_67) rfl (feq (by decide : ¬ ((6 : Int32) = (3 : Int32)))).2 (by decide) (by decide) (XS.iloadN X0.here hx rfl (hb hby dmethod_3_99) rfl k)))))) ?_
  obtain ⟨T21, h21, X21, e21, E21, A21, D21, -, st21⟩ := newO X0 hx hZ hown (own_w hw 7) (own_w hw 8) (own_w hw 9) e0 (g := (mkF m 185 #[.val (.ref r0), .val (.int (6 : Int32))] [])) rfl (hb hby dmethod_3_185) (by decide) (by decide)
  obtain ⟨b21, g21⟩ : ∃ z, z = h0.size := ⟨_, rfl⟩
  rw [← g21] at A21 D21 st21
  have g_b21 : n0 ≤ b21 := Nat.le_trans (own_le O0) (Nat.le_of_eq g21.symm)
  have sz_b21 : h0.size ≤ b21 := Nat.le_trans (Keep.refl h0 []).1 (Nat.le_of_eq g21.symm)
  have ne_r0_b21 : r0 ≠ b21 := Nat.ne_of_lt (Nat.lt_of_lt_of_le V0.lt (Nat.le_of_eq g21.symm))
  have O21 := O0.ext E21
  have K21 := Keep.ext (Keep.refl h0 []) E21
  have F_coder_b21 : Fld Z h21 b21 "java/lang/String" "coder" "B" (.int (0 : Int32)) := D21 (Or.inr (own_w hw 33)) (ty := .byte) (by decide)
  have F_value_b21 : Fld Z h21 b21 "java/lang/String" "value" "[B" .null := D21 (Or.inr (own_w hw 35)) (ty := (.array .byte)) (by decide)
  refine own_by (W' := (T21.setTop (mkF m 188 #[.val (.ref r0), .val (.int (6 : Int32))] [(.ref b21)]))) (fun t k => XS.iconst X0.here hx rfl (hb hby dmethod_3_100) (XS.icmpYes X0.here hx rfl (pc0 := 101) (pc' := 139) rfl (hb hby dmethod_3_101) rfl (feq (by decide : ¬ ((6 : Int32) = (4 : Int32)))).2 (by decide) (by decide) (XS.iloadN X0.here hx rfl (hb hby dmethod_3_139) rfl (XS.iconst X0.here hx rfl (hb hby dmethod_3_140) (XS.icmpYes X0.here hx rfl (pc0 := 141) (pc' := 185) rfl (hb hby dmethod_3_141) rfl (feq (by decide : ¬ ((6 : Int32) = (5 : Int32)))).2 (by decide) (by decide) (st21 _ k)))))) ?_
  obtain ⟨T22, h22, k22, X22, e22, E22, A22, st22⟩ := newP X21 hx hZ (own_w hw 1) e21 (g := (mkF m 191 #[.val (.ref r0), .val (.int (6 : Int32))] [(.int (6 : Int32)), (.ref b21), (.ref b21)])) rfl (hb hby dmethod_3_191) rfl (by decide) (cap := 6) (by decide) (by decide) (by decide) (by decide)
  obtain ⟨b22, g22⟩ : ∃ z, z = h21.size := ⟨_, rfl⟩
  rw [← g22] at A22 st22
  have g_b22 : n0 ≤ b22 := Nat.le_trans (own_le O21) (Nat.le_of_eq g22.symm)
  have sz_b22 : h0.size ≤ b22 := Nat.le_trans K21.1 (Nat.le_of_eq g22.symm)
  have ne_r0_b22 : r0 ≠ b22 := Nat.ne_of_lt (Nat.lt_of_lt_of_le (V0.ext E21).lt (Nat.le_of_eq g22.symm))
  have ne_b21_b22 : b21 ≠ b22 := Nat.ne_of_lt (Nat.lt_of_lt_of_le A21.lt (Nat.le_of_eq g22.symm))
  have O22 := O21.ext E22
  have K22 := Keep.ext K21 E22
  have V_b22 : Arv Z h22 b22 k22 .char (6 : Int32) [(.int (0 : Int32)), (.int (0 : Int32)), (.int (0 : Int32)), (.int (0 : Int32)), (.int (0 : Int32)), (.int (0 : Int32))] (.int (0 : Int32)) := (Arv.new A22 (by decide)).pad (pad_rep [] (.int (0 : Int32)) 6)
  refine own_by (W' := (T22.setTop (mkF m 196 #[.val (.ref r0), .val (.int (6 : Int32))] [(.ref r0), (.int (0 : Int32)), (.ref b22), (.ref b22), (.ref b21), (.ref b21)]))) (fun t k => XS.dup X21.here hx rfl (hb hby dmethod_3_188) rfl rfl (XS.bipush X21.here hx rfl (hb hby dmethod_3_189) (st22 _ (XS.dup X22.here hx rfl (hb hby dmethod_3_193) rfl rfl (XS.iconst X22.here hx rfl (hb hby dmethod_3_194) (XS.aloadN X22.here hx rfl (hb hby dmethod_3_195) rfl rfl k)))))) ?_
  obtain ⟨clu23, Aru23, qu23, Su23, Ngu23, Hau23, Gau23⟩ := id ((V0.ext E21).ext E22)
  have hinu23 : ¬ ((0 : Int32) < 0 ∨ clu23.slots.size ≤ ((0 : Int32)).toNatClampNeg) := inb_of Su23 ⟨by decide, by decide⟩
  have hatu23 : clu23.slots[((0 : Int32)).toNatClampNeg]? = some (.int c0) := Has.at Hau23 hinu23 rfl
  obtain ⟨clu24, Aru24, qu24, Su24, Ngu24, Hau24, Gau24⟩ := id V_b22
  have hinu24 : ¬ ((0 : Int32) < 0 ∨ clu24.slots.size ≤ ((0 : Int32)).toNatClampNeg) := inb_of Su24 ⟨by decide, by decide⟩
  obtain ⟨T25, h25, X25, e25, W25, st25⟩ := stC X22 hx hZ e22 Aru24 (j := (0 : Int32)) hinu24 (g := (mkF m 198 #[.val (.ref r0), .val (.int (6 : Int32))] [(.int c0), (.int (0 : Int32)), (.ref b22), (.ref b22), (.ref b21), (.ref b21)])) rfl rfl (hb hby dmethod_3_198)
  have Vu24 : Arv Z h25 b22 k22 .char (6 : Int32) [(.int (nar .char c0)), (.int (0 : Int32)), (.int (0 : Int32)), (.int (0 : Int32)), (.int (0 : Int32)), (.int (0 : Int32))] (.int (0 : Int32)) := Arv.set Aru24 qu24 Su24 Ngu24 Hau24 Gau24 (fits_nar_char _) W25 0 rfl (Nat.le_of_ble_eq_true rfl)
  rw [show nar .char c0 = c0 from hl_c0.1] at Vu24
  have O25 := Old.wr O22 W25 g_b22
  have N25 := Fr.snoc X25 N0 g_b22
  have K25 := Keep.wr K22 W25 (Or.inr sz_b22)
  refine own_by (W' := (T25.setTop (mkF m 202 #[.val (.ref r0), .val (.int (6 : Int32))] [(.ref r0), (.int (1 : Int32)), (.ref b22), (.ref b22), (.ref b21), (.ref b21)]))) (fun t k => XS.iconst X22.here hx rfl (hb hby dmethod_3_196) ((X22.caload hx (j := (0 : Int32)) (v := (.int c0)) (by rw [e22]; exact Aru23.1) (State.isArrayOf_alike hZ.alike Aru23.2.1) Aru23.2.2 hinu23 hatu23 (g := (mkF m 197 #[.val (.ref r0), .val (.int (6 : Int32))] [(.int (0 : Int32)), (.ref r0), (.int (0 : Int32)), (.ref b22), (.ref b22), (.ref b21), (.ref b21)])) rfl rfl (hb hby dmethod_3_197)) _ (st25 _ (XS.dup X25.here hx rfl (hb hby dmethod_3_199) rfl rfl (XS.iconst X25.here hx rfl (hb hby dmethod_3_200) (XS.aloadN X25.here hx rfl (hb hby dmethod_3_201) rfl rfl k)))))) ?_
  obtain ⟨clu26, Aru26, qu26, Su26, Ngu26, Hau26, Gau26⟩ := id (((V0.ext E21).ext E22).other W25 ne_r0_b22)
  have hinu26 : ¬ ((1 : Int32) < 0 ∨ clu26.slots.size ≤ ((1 : Int32)).toNatClampNeg) := inb_of Su26 ⟨by decide, by decide⟩
  have hatu26 : clu26.slots[((1 : Int32)).toNatClampNeg]? = some (.int c1) := Has.at Hau26 hinu26 rfl
  obtain ⟨clu27, Aru27, qu27, Su27, Ngu27, Hau27, Gau27⟩ := id Vu24
  have hinu27 : ¬ ((1 : Int32) < 0 ∨ clu27.slots.size ≤ ((1 : Int32)).toNatClampNeg) := inb_of Su27 ⟨by decide, by decide⟩
  obtain ⟨T28, h28, X28, e28, W28, st28⟩ := stC X25 hx hZ e25 Aru27 (j := (1 : Int32)) hinu27 (g := (mkF m 204 #[.val (.ref r0), .val (.int (6 : Int32))] [(.int c1), (.int (1 : Int32)), (.ref b22), (.ref b22), (.ref b21), (.ref b21)])) rfl rfl (hb hby dmethod_3_204)
  have Vu27 : Arv Z h28 b22 k22 .char (6 : Int32) [(.int c0), (.int (nar .char c1)), (.int (0 : Int32)), (.int (0 : Int32)), (.int (0 : Int32)), (.int (0 : Int32))] (.int (0 : Int32)) := Arv.set Aru27 qu27 Su27 Ngu27 Hau27 Gau27 (fits_nar_char _) W28 1 rfl (Nat.le_of_ble_eq_true rfl)
  rw [show nar .char c1 = c1 from hl_c1.1] at Vu27
  have O28 := Old.wr O25 W28 g_b22
  have N28 := Fr.snoc X28 N25 g_b22
  have K28 := Keep.wr K25 W28 (Or.inr sz_b22)
  refine own_by (W' := (T28.setTop (mkF m 208 #[.val (.ref r0), .val (.int (6 : Int32))] [(.ref r0), (.int (2 : Int32)), (.ref b22), (.ref b22), (.ref b21), (.ref b21)]))) (fun t k => XS.iconst X25.here hx rfl (hb hby dmethod_3_202) ((X25.caload hx (j := (1 : Int32)) (v := (.int c1)) (by rw [e25]; exact Aru26.1) (State.isArrayOf_alike hZ.alike Aru26.2.1) Aru26.2.2 hinu26 hatu26 (g := (mkF m 203 #[.val (.ref r0), .val (.int (6 : Int32))] [(.int (1 : Int32)), (.ref r0), (.int (1 : Int32)), (.ref b22), (.ref b22), (.ref b21), (.ref b21)])) rfl rfl (hb hby dmethod_3_203)) _ (st28 _ (XS.dup X28.here hx rfl (hb hby dmethod_3_205) rfl rfl (XS.iconst X28.here hx rfl (hb hby dmethod_3_206) (XS.aloadN X28.here hx rfl (hb hby dmethod_3_207) rfl rfl k)))))) ?_
  obtain ⟨clu29, Aru29, qu29, Su29, Ngu29, Hau29, Gau29⟩ := id ((((V0.ext E21).ext E22).other W25 ne_r0_b22).other W28 ne_r0_b22)
  have hinu29 : ¬ ((2 : Int32) < 0 ∨ clu29.slots.size ≤ ((2 : Int32)).toNatClampNeg) := inb_of Su29 ⟨by decide, by decide⟩
  have hatu29 : clu29.slots[((2 : Int32)).toNatClampNeg]? = some (.int c2) := Has.at Hau29 hinu29 rfl
  obtain ⟨clu30, Aru30, qu30, Su30, Ngu30, Hau30, Gau30⟩ := id Vu27
  have hinu30 : ¬ ((2 : Int32) < 0 ∨ clu30.slots.size ≤ ((2 : Int32)).toNatClampNeg) := inb_of Su30 ⟨by decide, by decide⟩
  obtain ⟨T31, h31, X31, e31, W31, st31⟩ := stC X28 hx hZ e28 Aru30 (j := (2 : Int32)) hinu30 (g := (mkF m 210 #[.val (.ref r0), .val (.int (6 : Int32))] [(.int c2), (.int (2 : Int32)), (.ref b22), (.ref b22), (.ref b21), (.ref b21)])) rfl rfl (hb hby dmethod_3_210)
  have Vu30 : Arv Z h31 b22 k22 .char (6 : Int32) [(.int c0), (.int c1), (.int (nar .char c2)), (.int (0 : Int32)), (.int (0 : Int32)), (.int (0 : Int32))] (.int (0 : Int32)) := Arv.set Aru30 qu30 Su30 Ngu30 Hau30 Gau30 (fits_nar_char _) W31 2 rfl (Nat.le_of_ble_eq_true rfl)
  rw [show nar .char c2 = c2 from hl_c2.1] at Vu30
  have O31 := Old.wr O28 W31 g_b22
  have N31 := Fr.snoc X31 N28 g_b22
  have K31 := Keep.wr K28 W31 (Or.inr sz_b22)
  refine own_by (W' := (T31.setTop (mkF m 214 #[.val (.ref r0), .val (.int (6 : Int32))] [(.ref r0), (.int (3 : Int32)), (.ref b22), (.ref b22), (.ref b21), (.ref b21)]))) (fun t k => XS.iconst X28.here hx rfl (hb hby dmethod_3_208) ((X28.caload hx (j := (2 : Int32)) (v := (.int c2)) (by rw [e28]; exact Aru29.1) (State.isArrayOf_alike hZ.alike Aru29.2.1) Aru29.2.2 hinu29 hatu29 (g := (mkF m 209 #[.val (.ref r0), .val (.int (6 : Int32))] [(.int (2 : Int32)), (.ref r0), (.int (2 : Int32)), (.ref b22), (.ref b22), (.ref b21), (.ref b21)])) rfl rfl (hb hby dmethod_3_209)) _ (st31 _ (XS.dup X31.here hx rfl (hb hby dmethod_3_211) rfl rfl (XS.iconst X31.here hx rfl (hb hby dmethod_3_212) (XS.aloadN X31.here hx rfl (hb hby dmethod_3_213) rfl rfl k)))))) ?_
  obtain ⟨clu32, Aru32, qu32, Su32, Ngu32, Hau32, Gau32⟩ := id (((((V0.ext E21).ext E22).other W25 ne_r0_b22).other W28 ne_r0_b22).other W31 ne_r0_b22)
  have hinu32 : ¬ ((3 : Int32) < 0 ∨ clu32.slots.size ≤ ((3 : Int32)).toNatClampNeg) := inb_of Su32 ⟨by decide, by decide⟩
  have hatu32 : clu32.slots[((3 : Int32)).toNatClampNeg]? = some (.int c3) := Has.at Hau32 hinu32 rfl
  obtain ⟨clu33, Aru33, qu33, Su33, Ngu33, Hau33, Gau33⟩ := id Vu30
  have hinu33 : ¬ ((3 : Int32) < 0 ∨ clu33.slots.size ≤ ((3 : Int32)).toNatClampNeg) := inb_of Su33 ⟨by decide, by decide⟩
  obtain ⟨T34, h34, X34, e34, W34, st34⟩ := stC X31 hx hZ e31 Aru33 (j := (3 : Int32)) hinu33 (g := (mkF m 216 #[.val (.ref r0), .val (.int (6 : Int32))] [(.int c3), (.int (3 : Int32)), (.ref b22), (.ref b22), (.ref b21), (.ref b21)])) rfl rfl (hb hby dmethod_3_216)
  have Vu33 : Arv Z h34 b22 k22 .char (6 : Int32) [(.int c0), (.int c1), (.int c2), (.int (nar .char c3)), (.int (0 : Int32)), (.int (0 : Int32))] (.int (0 : Int32)) := Arv.set Aru33 qu33 Su33 Ngu33 Hau33 Gau33 (fits_nar_char _) W34 3 rfl (Nat.le_of_ble_eq_true rfl)
  rw [show nar .char c3 = c3 from hl_c3.1] at Vu33
  have O34 := Old.wr O31 W34 g_b22
  have N34 := Fr.snoc X34 N31 g_b22
  have K34 := Keep.wr K31 W34 (Or.inr sz_b22)
  refine own_by (W' := (T34.setTop (mkF m 220 #[.val (.ref r0), .val (.int (6 : Int32))] [(.ref r0), (.int (4 : Int32)), (.ref b22), (.ref b22), (.ref b21), (.ref b21)]))) (fun t k => XS.iconst X31.here hx rfl (hb hby dmethod_3_214) ((X31.caload hx (j := (3 : Int32)) (v := (.int c3)) (by rw [e31]; exact Aru32.1) (State.isArrayOf_alike hZ.alike Aru32.2.1) Aru32.2.2 hinu32 hatu32 (g := (mkF m 215 #[.val (.ref r0), .val (.int (6 : Int32))] [(.int (3 : Int32)), (.ref r0), (.int (3 : Int32)), (.ref b22), (.ref b22), (.ref b21), (.ref b21)])) rfl rfl (hb hby dmethod_3_215)) _ (st34 _ (XS.dup X34.here hx rfl (hb hby dmethod_3_217) rfl rfl (XS.iconst X34.here hx rfl (hb hby dmethod_3_218) (XS.aloadN X34.here hx rfl (hb hby dmethod_3_219) rfl rfl k)))))) ?_
  obtain ⟨clu35, Aru35, qu35, Su35, Ngu35, Hau35, Gau35⟩ := id ((((((V0.ext E21).ext E22).other W25 ne_r0_b22).other W28 ne_r0_b22).other W31 ne_r0_b22).other W34 ne_r0_b22)
  have hinu35 : ¬ ((4 : Int32) < 0 ∨ clu35.slots.size ≤ ((4 : Int32)).toNatClampNeg) := inb_of Su35 ⟨by decide, by decide⟩
  have hatu35 : clu35.slots[((4 : Int32)).toNatClampNeg]? = some (.int c4) := Has.at Hau35 hinu35 rfl
  obtain ⟨clu36, Aru36, qu36, Su36, Ngu36, Hau36, Gau36⟩ := id Vu33
  have hinu36 : ¬ ((4 : Int32) < 0 ∨ clu36.slots.size ≤ ((4 : Int32)).toNatClampNeg) := inb_of Su36 ⟨by decide, by decide⟩
  obtain ⟨T37, h37, X37, e37, W37, st37⟩ := stC X34 hx hZ e34 Aru36 (j := (4 : Int32)) hinu36 (g := (mkF m 222 #[.val (.ref r0), .val (.int (6 : Int32))] [(.int c4), (.int (4 : Int32)), (.ref b22), (.ref b22), (.ref b21), (.ref b21)])) rfl rfl (hb hby dmethod_3_222)
  have Vu36 : Arv Z h37 b22 k22 .char (6 : Int32) [(.int c0), (.int c1), (.int c2), (.int c3), (.int (nar .char c4)), (.int (0 : Int32))] (.int (0 : Int32)) := Arv.set Aru36 qu36 Su36 Ngu36 Hau36 Gau36 (fits_nar_char _) W37 4 rfl (Nat.le_of_ble_eq_true rfl)
  rw [show nar .char c4 = c4 from hl_c4.1] at Vu36
  have O37 := Old.wr O34 W37 g_b22
  have N37 := Fr.snoc X37 N34 g_b22
  have K37 := Keep.wr K34 W37 (Or.inr sz_b22)
  refine own_by (W' := (T37.setTop (mkF m 226 #[.val (.ref r0), .val (.int (6 : Int32))] [(.ref r0), (.int (5 : Int32)), (.ref b22), (.ref b22), (.ref b21), (.ref b21)]))) (fun t k => XS.iconst X34.here hx rfl (hb hby dmethod_3_220) ((X34.caload hx (j := (4 : Int32)) (v := (.int c4)) (by rw [e34]; exact Aru35.1) (State.isArrayOf_alike hZ.alike Aru35.2.1) Aru35.2.2 hinu35 hatu35 (g := (mkF m 221 #[.val (.ref r0), .val (.int (6 : Int32))] [(.int (4 : Int32)), (.ref r0), (.int (4 : Int32)), (.ref b22), (.ref b22), (.ref b21), (.ref b21)])) rfl rfl (hb hby dmethod_3_221)) _ (st37 _ (XS.dup X37.here hx rfl (hb hby dmethod_3_223) rfl rfl (XS.iconst X37.here hx rfl (hb hby dmethod_3_224) (XS.aloadN X37.here hx rfl (hb hby dmethod_3_225) rfl rfl k)))))) ?_
  obtain ⟨clu38, Aru38, qu38, Su38, Ngu38, Hau38, Gau38⟩ := id (((((((V0.ext E21).ext E22).other W25 ne_r0_b22).other W28 ne_r0_b22).other W31 ne_r0_b22).other W34 ne_r0_b22).other W37 ne_r0_b22)
  have hinu38 : ¬ ((5 : Int32) < 0 ∨ clu38.slots.size ≤ ((5 : Int32)).toNatClampNeg) := inb_of Su38 ⟨by decide, by decide⟩
  have hatu38 : clu38.slots[((5 : Int32)).toNatClampNeg]? = some (.int c5) := Has.at Hau38 hinu38 rfl
  obtain ⟨clu39, Aru39, qu39, Su39, Ngu39, Hau39, Gau39⟩ := id Vu36
  have hinu39 : ¬ ((5 : Int32) < 0 ∨ clu39.slots.size ≤ ((5 : Int32)).toNatClampNeg) := inb_of Su39 ⟨by decide, by decide⟩
  obtain ⟨T40, h40, X40, e40, W40, st40⟩ := stC X37 hx hZ e37 Aru39 (j := (5 : Int32)) hinu39 (g := (mkF m 228 #[.val (.ref r0), .val (.int (6 : Int32))] [(.int c5), (.int (5 : Int32)), (.ref b22), (.ref b22), (.ref b21), (.ref b21)])) rfl rfl (hb hby dmethod_3_228)
  have Vu39 : Arv Z h40 b22 k22 .char (6 : Int32) [(.int c0), (.int c1), (.int c2), (.int c3), (.int c4), (.int (nar .char c5))] (.int (0 : Int32)) := Arv.set Aru39 qu39 Su39 Ngu39 Hau39 Gau39 (fits_nar_char _) W40 5 rfl (Nat.le_of_ble_eq_true rfl)
  rw [show nar .char c5 = c5 from hl_c5.1] at Vu39
  have O40 := Old.wr O37 W40 g_b22
  have N40 := Fr.snoc X40 N37 g_b22
  have K40 := Keep.wr K37 W40 (Or.inr sz_b22)
  obtain ⟨_, _, ⟨T41, L41, k41, n41⟩, -, X41, ⟨Lc41, hQ41, l41, y41, z41⟩, st41⟩ := X40.specialBack hx (y := (⟨"java/lang/String", "<init>", "([C)V"⟩ : MethodName)) rfl hown (mvT hZ (own_w hw 10)) (mvT hZ (own_w hw 11)) (mvT hZ (own_w hw 12)) (by decide) (backOf (W := 1) (rmsa6 l Z a0 hw [] b21 b22 k22 c0 c1 c2 c3 c4 c5 wALLOW wFORBID tALLOW tFORBID wV kwV cs h40 n0 (own_le O40) O40 HW (((((((A21.ext E22).wr W25).wr W28).wr W31).wr W34).wr W37).wr W40) g_b21 (((((((F_value_b21.ext E22).other W25 (Or.inl ne_b21_b22)).other W28 (Or.inl ne_b21_b22)).other W31 (Or.inl ne_b21_b22)).other W34 (Or.inl ne_b21_b22)).other W37 (Or.inl ne_b21_b22)).other W40 (Or.inl ne_b21_b22)) (((((((F_coder_b21.ext E22).other W25 (Or.inl ne_b21_b22)).other W28 (Or.inl ne_b21_b22)).other W31 (Or.inl ne_b21_b22)).other W34 (Or.inl ne_b21_b22)).other W37 (Or.inl ne_b21_b22)).other W40 (Or.inl ne_b21_b22)) Vu39 hl_c0.2 hl_c1.2 hl_c2.2 hl_c3.2 hl_c4.2 hl_c5.2) hZ (own_w hw 12) (own_w hw 9) (by decide) (by decide)) (g := (mkF m 229 #[.val (.ref r0), .val (.int (6 : Int32))] [(.ref b22), (.ref b21), (.ref b21)])) rfl (by rw [hml]; rfl) (Steps.refl _) (a := b21) (argsL := [(.ref b22)]) (rest := [(.ref b21)]) (lenOf pd_2 rfl) rfl (by show 2 * 0 + _ ≤ _; exact Nat.le_of_eq rfl) (hb hby dmethod_3_229) (fun _ _ => ⟨rfl, e40, (by decide : 2 + 1 ≤ _), (by decide : 10 + 6 ≤ _)⟩)
  dsimp only [Pt.U, Pt.locs, Pt.cells, Pt.slots] at X41 l41 y41 z41 st41 hQ41
  subst l41 y41 z41
  obtain ⟨rfl, N41q, Kq41, Tq41⟩ := hQ41
  have O41 := Old.keep O40 Kq41 (allS g_b21 all0)
  have K41 := Keep.trans K40 Kq41 (allS (Or.inr sz_b21) all0)
  have N41 := Fr.app N40 N41q
  obtain ⟨fs, hr, hrun, hended, hW, hsame⟩ := X41.leave (v := some (.ref b21)) (fun h => by rw [Bd.returns] at h; cases h)
  refine own_by (W' := (T41.setTop (mkF m 232 #[.val (.ref r0), .val (.int (6 : Int32))] [(.ref b21)]))) (fun t k => XS.iconst X37.here hx rfl (hb hby dmethod_3_226) ((X37.caload hx (j := (5 : Int32)) (v := (.int c5)) (by rw [e37]; exact Aru38.1) (State.isArrayOf_alike hZ.alike Aru38.2.1) Aru38.2.2 hinu38 hatu38 (g := (mkF m 227 #[.val (.ref r0), .val (.int (6 : Int32))] [(.int (5 : Int32)), (.ref r0), (.int (5 : Int32)), (.ref b22), (.ref b22), (.ref b21), (.ref b21)])) rfl rfl (hb hby dmethod_3_227)) _ (st40 _ (Steps.trans st41 k)))) ?_
  refine ⟨_, _, retOut X41 hx Bd.returns rfl (Or.inr (Or.inr (Or.inr (Or.inr ⟨rfl, rfl, rfl⟩)))) (hb hby dmethod_3_232) hr, hrun, hended, _, _, rfl, ?_, ⟨_, rfl⟩, hW, hsame.mono (by decide) (by decide)⟩
  show Qmk6 Z r0 kC c0 c1 c2 c3 c4 c5 wALLOW wFORBID tALLOW tFORBID wV kwV cs h0 n0 _ T41.heap _
  exact ⟨_, rfl, N41, K41, sz_b21, Tq41⟩
theorem dprog_8_1_0 : decode prog_8_method_1_code 0 = .ok (.getstatic 10, 3) := by decide +kernel
theorem dprog_8_1_3 : decode prog_8_method_1_code 3 = .ok (.invokevirtual 14, 3) := by decide +kernel
theorem dprog_8_1_6 : decode prog_8_method_1_code 6 = .ok (.checkcast 15, 3) := by decide +kernel
theorem dprog_8_1_9 : decode prog_8_method_1_code 9 = .ok (.areturn, 1) := by decide +kernel
theorem pn_com_example_claviger_claviger_engine_Effect : plainName "com/example/claviger/claviger/engine/Effect" = true := by first | (simp [plainName, overriddenIn]; done) | decide +kernel
theorem efV (m : MethodId)  : entryFrame m #[] 0 = mkF m 0 #[] [] := by first | (simp [entryFrame, mkF, argsToLocals, Value.category]; done) | rfl
def QV (Z : State) (wALLOW : Addr) (wFORBID : Addr) (tALLOW : Addr) (tFORBID : Addr) (wV : Addr) (kwV : ClassId) (cs : Int32) (h0 : Heap) (n0 : Nat) (v : Option Value) (h : Heap) (L : List Loc) : Prop := ∃ q : Addr, v = some (.ref q) ∧ Fr n0 L ∧ Keep h0 h [] ∧ Arv Z h q kwV (.object "com/example/claviger/claviger/engine/Effect") (2 : Int32) [(.ref wALLOW), (.ref wFORBID)] .null
abbrev own_KV (Z : State) (wALLOW : Addr) (wFORBID : Addr) (tALLOW : Addr) (tFORBID : Addr) (wV : Addr) (kwV : ClassId) (cs : Int32) (h0 : Heap) (n0 : Nat) (s : State) : Outcome → State → Prop := fun o U' => ∃ v L, o = .returned v ∧ QV Z wALLOW wFORBID tALLOW tFORBID wV kwV cs h0 n0 v U'.heap L ∧ FrameEnd s o U' L ({ frames := 1, cells := 1, slots := 2, locals := 14 } : Room).cells ({ frames := 1, cells := 1, slots := 2, locals := 14 } : Room).slots
set_option maxRecDepth 65536 in
set_option maxHeartbeats 40000000 in
theorem rmV (l : Launch) (Z : State) (a0 : Array Value) (hw : ∀ d ∈ tables_1, d.before a0 Z = true) (ws : List Jvm.Cond) (wALLOW : Addr) (wFORBID : Addr) (tALLOW : Addr) (tFORBID : Addr) (wV : Addr) (kwV : ClassId) (cs : Int32) (h0 : Heap) (n0 : Nat) (Z0 : n0 ≤ h0.size) (O0 : Old Z n0 h0) (HW : own_Wd Z wALLOW wFORBID tALLOW tFORBID wV kwV cs) :
    MetFree l (⟨"com/example/claviger/claviger/engine/Effect", "values", "()[Lcom/example/claviger/claviger/engine/Effect;"⟩ : MethodName) (head1 (Jvm.Cond.code (⟨"com/example/claviger/claviger/engine/Effect", "values", "()[Lcom/example/claviger/claviger/engine/Effect;"⟩ : MethodName) prog_8_method_1_code 0 (some (.array (.object "com/example/claviger/claviger/engine/Effect"))) :: ws) ({ frames := 1, cells := 1, slots := 2, locals := 14 } : Room)) (fun a U => a = #[] ∧ Z.Warmed39 U.vm ∧ U.heap = h0) (fun _ _ _ _ _ => True) (fun _ U o U' => ∃ v L, o = .returned v ∧ QV Z wALLOW wFORBID tALLOW tFORBID wV kwV cs h0 n0 v U'.heap L ∧ FrameEnd U o U' L ({ frames := 1, cells := 1, slots := 2, locals := 14 } : Room).cells ({ frames := 1, cells := 1, slots := 2, locals := 14 } : Room).slots) := by
  refine MetFree.of_bodySF (plainFor_of_name pn_com_example_claviger_claviger_engine_Effect) hisR ?_
  intro p e s m args below meth c s₁ Bd hml0 hP hK
  obtain ⟨rfl, hZ, hh⟩ := hP
  have hx := Bd.exec
  have hby := Bd.bytes
  have hml : c.maxLocals = 0 := hml0
  have hown : s.vm.findClass "com/example/claviger/claviger/engine/Effect" = some m.cls := findClass_of_methodNamed Bd.named
  have hnm := (name_of_methodNamed Bd.named Bd.method).1
  have X0 : Stand p l e ({ frames := 1, cells := 1, slots := 2, locals := 14 } : Room) s m #[] below meth c s₁ [] 0 0 := Stand.of_body Bd
  have e0 : s₁.heap = h0 := by rw [← hh, Bd.state]; rfl
  have N0 := Fr.nil n0
  refine own_by (p := p) (e := e) (below := below) (K := own_KV Z wALLOW wFORBID tALLOW tFORBID wV kwV cs h0 n0 s) (W' := s₁.setTop (mkF m 0 #[] [])) (fun t k => castTop (efV m ) k) ?_
  obtain ⟨T21, X21, e21, st21⟩ := getS (host := "") X0 hx hZ hown (own_w hw 58) Via.refl e0 (HW.2.2.2.2.2.2.2.2.2.2.1.ext O0.2) (g := (mkF m 0 #[] [])) rfl (hb hby dprog_8_1_0)
  obtain ⟨T22, h22, X22, e22, E22, A22, Ex22, st22⟩ := cloneH X21 hx hZ hown (own_w hw 60) (own_w hw 61) (own_w hw 65) (own_w hw 63) (own_w hw 64) (own_w hw 66) e21 (Arv.arh (HW.2.2.2.2.2.2.2.2.2.2.2.2.1.ext O0.2)) (HW.2.2.2.2.2.2.2.2.2.2.2.1.ext O0.2) (g := (mkF m 3 #[] [(.ref wV)])) rfl (by rw [hml]; rfl) rfl (hb hby dprog_8_1_3) (by decide) (W := 0) (by show 2 * 0 + _ ≤ _; exact Nat.le_of_eq rfl) (by decide) (cap := 2) (by decide) (by decide) (by decide)
  obtain ⟨b22, g22⟩ : ∃ z, z = h0.size := ⟨_, rfl⟩
  rw [← g22] at A22 Ex22 st22
  have g_b22 : n0 ≤ b22 := Nat.le_trans (own_le O0) (Nat.le_of_eq g22.symm)
  have sz_b22 : h0.size ≤ b22 := Nat.le_trans (Keep.refl h0 []).1 (Nat.le_of_eq g22.symm)
  have O22 := O0.ext E22
  have K22 := Keep.ext (Keep.refl h0 []) E22
  have V_b22 : Arv Z h22 b22 kwV (.object "com/example/claviger/claviger/engine/Effect") (2 : Int32) [(.ref wALLOW), (.ref wFORBID)] .null := A22
  obtain ⟨T23, X23, e23, st23⟩ := castY X22 hx hZ hown (own_w hw 69) e22 (Ins.self Ex22) (g := (mkF m 6 #[] [(.ref b22)])) rfl rfl (hb hby dprog_8_1_6)
  obtain ⟨fs, hr, hrun, hended, hW, hsame⟩ := X23.leave (v := some (.ref b22)) (fun h => by rw [Bd.returns] at h; cases h)
  refine own_by (W' := (T23.setTop (mkF m 9 #[] [(.ref b22)]))) (fun t k => st21 _ (st22 _ (st23 _ k))) ?_
  refine ⟨_, _, retOut X23 hx Bd.returns rfl (Or.inr (Or.inr (Or.inr (Or.inr ⟨rfl, rfl, rfl⟩)))) (hb hby dprog_8_1_9) hr, hrun, hended, _, _, rfl, ?_, ⟨_, rfl⟩, hW, hsame.mono (by decide) (by decide)⟩
  show QV Z wALLOW wFORBID tALLOW tFORBID wV kwV cs h0 n0 _ T23.heap _
  rw [e23]
  exact ⟨_, rfl, N0, K22, V_b22⟩
theorem djdk_43_13_0 : decode jdk_43_method_13_code 0 = .ok (.aload_n 0, 1) := by decide +kernel
theorem djdk_43_13_1 : decode jdk_43_method_13_code 1 = .ok (.arraylength, 1) := by decide +kernel
theorem djdk_43_13_2 : decode jdk_43_method_13_code 2 = .ok (.aload_n 1, 1) := by decide +kernel
theorem djdk_43_13_3 : decode jdk_43_method_13_code 3 = .ok (.arraylength, 1) := by decide +kernel
theorem djdk_43_13_4 : decode jdk_43_method_13_code 4 = .ok (.if_icmp .ne 30, 3) := by decide +kernel
theorem djdk_43_13_34 : decode jdk_43_method_13_code 34 = .ok (.iconst 0, 1) := by decide +kernel
theorem djdk_43_13_35 : decode jdk_43_method_13_code 35 = .ok (.ireturn, 1) := by decide +kernel
theorem pn_java_lang_StringLatin1 : plainName "java/lang/StringLatin1" = true := by first | (simp [plainName, overriddenIn]; done) | decide +kernel
theorem efleN (m : MethodId) (r0 : Addr) (r1 : Addr) : entryFrame m #[(.ref r0), (.ref r1)] 3 = mkF m 0 #[.val (.ref r0), .val (.ref r1), .unset] [] := by first | (simp [entryFrame, mkF, argsToLocals, Value.category]; done) | rfl
def QleN (Z : State) (r0 : Addr) (r1 : Addr) (k0 : ClassId) (k1 : ClassId) (n1 : Int32) (n2 : Int32) (l1 : List Value) (l2 : List Value) (h0 : Heap) (n0 : Nat) (v : Option Value) (h : Heap) (L : List Loc) : Prop := v = some (.int (0 : Int32)) ∧ Fr n0 L ∧ h = h0
abbrev own_KleN (Z : State) (r0 : Addr) (r1 : Addr) (k0 : ClassId) (k1 : ClassId) (n1 : Int32) (n2 : Int32) (l1 : List Value) (l2 : List Value) (h0 : Heap) (n0 : Nat) (s : State) : Outcome → State → Prop := fun o U' => ∃ v L, o = .returned v ∧ QleN Z r0 r1 k0 k1 n1 n2 l1 l2 h0 n0 v U'.heap L ∧ FrameEnd s o U' L ({ frames := 0, cells := 0, slots := 0, locals := 0 } : Room).cells ({ frames := 0, cells := 0, slots := 0, locals := 0 } : Room).slots
set_option maxRecDepth 65536 in
set_option maxHeartbeats 40000000 in
theorem rmleN (l : Launch) (Z : State) (a0 : Array Value) (hw : ∀ d ∈ tables_1, d.before a0 Z = true) (ws : List Jvm.Cond) (r0 : Addr) (r1 : Addr) (k0 : ClassId) (k1 : ClassId) (n1 : Int32) (n2 : Int32) (l1 : List Value) (l2 : List Value) (h0 : Heap) (n0 : Nat) (Z0 : n0 ≤ h0.size) (V0 : Arv Z h0 r0 k0 .byte n1 l1 (.int (0 : Int32))) (V1 : Arv Z h0 r1 k1 .byte n2 l2 (.int (0 : Int32))) (hne : ¬ n1 = n2) :
    MetFree l (⟨"java/lang/StringLatin1", "equals", "([B[B)Z"⟩ : MethodName) (head1 (Jvm.Cond.code (⟨"java/lang/StringLatin1", "equals", "([B[B)Z"⟩ : MethodName) jdk_43_method_13_code 3 (some .boolean) :: ws) ({ frames := 0, cells := 0, slots := 0, locals := 0 } : Room)) (fun a U => a = #[(.ref r0), (.ref r1)] ∧ Z.Warmed39 U.vm ∧ U.heap = h0) (fun _ _ _ _ _ => True) (fun _ U o U' => ∃ v L, o = .returned v ∧ QleN Z r0 r1 k0 k1 n1 n2 l1 l2 h0 n0 v U'.heap L ∧ FrameEnd U o U' L ({ frames := 0, cells := 0, slots := 0, locals := 0 } : Room).cells ({ frames := 0, cells := 0, slots := 0, locals := 0 } : Room).slots) := by
  refine MetFree.of_bodySF (plainFor_of_name pn_java_lang_StringLatin1) hisR ?_
  intro p e s m args below meth c s₁ Bd hml0 hP hK
  obtain ⟨rfl, hZ, hh⟩ := hP
  have hx := Bd.exec
  have hby := Bd.bytes
  have hml : c.maxLocals = 3 := hml0
  have hown : s.vm.findClass "java/lang/StringLatin1" = some m.cls := findClass_of_methodNamed Bd.named
  have hnm := (name_of_methodNamed Bd.named Bd.method).1
  have X0 : Stand p l e ({ frames := 0, cells := 0, slots := 0, locals := 0 } : Room) s m #[(.ref r0), (.ref r1)] below meth c s₁ [] 0 0 := Stand.of_body Bd
  have e0 : s₁.heap = h0 := by rw [← hh, Bd.state]; rfl
  have N0 := Fr.nil n0
  refine own_by (p := p) (e := e) (below := below) (K := own_KleN Z r0 r1 k0 k1 n1 n2 l1 l2 h0 n0 s) (W' := s₁.setTop (mkF m 0 #[.val (.ref r0), .val (.ref r1), .unset] [])) (fun t k => castTop (efleN m r0 r1) k) ?_
  obtain ⟨clu21, Aru21, qu21, Su21, Ngu21, Hau21, Gau21⟩ := id V0
  refine own_by (W' := (s₁.setTop (mkF m 2 #[.val (.ref r0), .val (.ref r1), .unset] [(.int clu21.slots.size.toInt32)]))) (fun t k => XS.aloadN X0.here hx rfl (hb hby djdk_43_13_0) rfl rfl ((X0.arraylength hx (by rw [e0]; exact Aru21.1) (State.isArrayOf_alike hZ.alike Aru21.2.1) (g := (mkF m 1 #[.val (.ref r0), .val (.ref r1), .unset] [(.ref r0)])) rfl rfl (hb hby djdk_43_13_1)) _ k)) ?_
  rw [len_of Su21 Ngu21]
  obtain ⟨clu22, Aru22, qu22, Su22, Ngu22, Hau22, Gau22⟩ := id V1
  refine own_by (W' := (s₁.setTop (mkF m 4 #[.val (.ref r0), .val (.ref r1), .unset] [(.int clu22.slots.size.toInt32), (.int n1)]))) (fun t k => XS.aloadN X0.here hx rfl (hb hby djdk_43_13_2) rfl rfl ((X0.arraylength hx (by rw [e0]; exact Aru22.1) (State.isArrayOf_alike hZ.alike Aru22.2.1) (g := (mkF m 3 #[.val (.ref r0), .val (.ref r1), .unset] [(.ref r1), (.int n1)])) rfl rfl (hb hby djdk_43_13_3)) _ k)) ?_
  rw [len_of Su22 Ngu22]
  obtain ⟨fs, hr, hrun, hended, hW, hsame⟩ := X0.leave (v := some (.int (0 : Int32))) (fun h => by rw [Bd.returns] at h; cases h)
  refine own_by (W' := (s₁.setTop (mkF m 35 #[.val (.ref r0), .val (.ref r1), .unset] [(.int (0 : Int32))]))) (fun t k => XS.icmpYes X0.here hx rfl (pc0 := 4) (pc' := 34) rfl (hb hby djdk_43_13_4) rfl (feq hne).2 (by decide) (by decide) (XS.iconst X0.here hx rfl (hb hby djdk_43_13_34) k)) ?_
  refine ⟨_, _, retOut X0 hx Bd.returns rfl (Or.inl ⟨rfl, Or.inr (Or.inl rfl), _, rfl⟩) (hb hby djdk_43_13_35) hr, hrun, hended, _, _, rfl, ?_, ⟨_, rfl⟩, hW, hsame.mono (by decide) (by decide)⟩
  exact ⟨rfl, N0, e0⟩
theorem pd_6 : parseMethodDescriptor "([B[B)Z" = some ⟨[(.array .byte), (.array .byte)], some .boolean⟩ := by decide +kernel
theorem djdk_42_66_0 : decode jdk_42_method_66_code 0 = .ok (.aload_n 0, 1) := by decide +kernel
theorem djdk_42_66_1 : decode jdk_42_method_66_code 1 = .ok (.aload_n 1, 1) := by decide +kernel
theorem djdk_42_66_2 : decode jdk_42_method_66_code 2 = .ok (.if_acmp .ne 5, 3) := by decide +kernel
theorem djdk_42_66_7 : decode jdk_42_method_66_code 7 = .ok (.aload_n 1, 1) := by decide +kernel
theorem djdk_42_66_8 : decode jdk_42_method_66_code 8 = .ok (.instanceof 10, 3) := by decide +kernel
theorem djdk_42_66_11 : decode jdk_42_method_66_code 11 = .ok (.ifCond .eq 43, 3) := by decide +kernel
theorem djdk_42_66_14 : decode jdk_42_method_66_code 14 = .ok (.aload_n 1, 1) := by decide +kernel
theorem djdk_42_66_15 : decode jdk_42_method_66_code 15 = .ok (.checkcast 10, 3) := by decide +kernel
theorem djdk_42_66_18 : decode jdk_42_method_66_code 18 = .ok (.astore_n 2, 1) := by decide +kernel
theorem djdk_42_66_19 : decode jdk_42_method_66_code 19 = .ok (.getstatic 38, 3) := by decide +kernel
theorem djdk_42_66_22 : decode jdk_42_method_66_code 22 = .ok (.ifCond .eq 14, 3) := by decide +kernel
theorem djdk_42_66_25 : decode jdk_42_method_66_code 25 = .ok (.aload_n 0, 1) := by decide +kernel
theorem djdk_42_66_26 : decode jdk_42_method_66_code 26 = .ok (.getfield 15, 3) := by decide +kernel
theorem djdk_42_66_29 : decode jdk_42_method_66_code 29 = .ok (.aload_n 2, 1) := by decide +kernel
theorem djdk_42_66_30 : decode jdk_42_method_66_code 30 = .ok (.getfield 15, 3) := by decide +kernel
theorem djdk_42_66_33 : decode jdk_42_method_66_code 33 = .ok (.if_icmp .ne 21, 3) := by decide +kernel
theorem djdk_42_66_36 : decode jdk_42_method_66_code 36 = .ok (.aload_n 0, 1) := by decide +kernel
theorem djdk_42_66_37 : decode jdk_42_method_66_code 37 = .ok (.getfield 9, 3) := by decide +kernel
theorem djdk_42_66_40 : decode jdk_42_method_66_code 40 = .ok (.aload_n 2, 1) := by decide +kernel
theorem djdk_42_66_41 : decode jdk_42_method_66_code 41 = .ok (.getfield 9, 3) := by decide +kernel
theorem djdk_42_66_44 : decode jdk_42_method_66_code 44 = .ok (.invokestatic 541, 3) := by decide +kernel
theorem djdk_42_66_47 : decode jdk_42_method_66_code 47 = .ok (.ifCond .eq 7, 3) := by decide +kernel
theorem djdk_42_66_54 : decode jdk_42_method_66_code 54 = .ok (.iconst 0, 1) := by decide +kernel
theorem djdk_42_66_55 : decode jdk_42_method_66_code 55 = .ok (.ireturn, 1) := by decide +kernel
theorem efseN (m : MethodId) (r0 : Addr) (r1 : Addr) : entryFrame m #[(.ref r0), (.ref r1)] 3 = mkF m 0 #[.val (.ref r0), .val (.ref r1), .unset] [] := by first | (simp [entryFrame, mkF, argsToLocals, Value.category]; done) | rfl
def QseN (Z : State) (r0 : Addr) (r1 : Addr) (n1 : Int32) (n2 : Int32) (l1 : List Value) (l2 : List Value) (wALLOW : Addr) (wFORBID : Addr) (tALLOW : Addr) (tFORBID : Addr) (wV : Addr) (kwV : ClassId) (cs : Int32) (h0 : Heap) (n0 : Nat) (v : Option Value) (h : Heap) (L : List Loc) : Prop := v = some (.int (0 : Int32)) ∧ Fr n0 L ∧ h = h0
abbrev own_KseN (Z : State) (r0 : Addr) (r1 : Addr) (n1 : Int32) (n2 : Int32) (l1 : List Value) (l2 : List Value) (wALLOW : Addr) (wFORBID : Addr) (tALLOW : Addr) (tFORBID : Addr) (wV : Addr) (kwV : ClassId) (cs : Int32) (h0 : Heap) (n0 : Nat) (s : State) : Outcome → State → Prop := fun o U' => ∃ v L, o = .returned v ∧ QseN Z r0 r1 n1 n2 l1 l2 wALLOW wFORBID tALLOW tFORBID wV kwV cs h0 n0 v U'.heap L ∧ FrameEnd s o U' L ({ frames := 1, cells := 0, slots := 0, locals := 14 } : Room).cells ({ frames := 1, cells := 0, slots := 0, locals := 14 } : Room).slots
set_option maxRecDepth 65536 in
set_option maxHeartbeats 40000000 in
theorem rmseN (l : Launch) (Z : State) (a0 : Array Value) (hw : ∀ d ∈ tables_1, d.before a0 Z = true) (ws : List Jvm.Cond) (r0 : Addr) (r1 : Addr) (n1 : Int32) (n2 : Int32) (l1 : List Value) (l2 : List Value) (wALLOW : Addr) (wFORBID : Addr) (tALLOW : Addr) (tFORBID : Addr) (wV : Addr) (kwV : ClassId) (cs : Int32) (h0 : Heap) (n0 : Nat) (Z0 : n0 ≤ h0.size) (O0 : Old Z n0 h0) (HW : own_Wd Z wALLOW wFORBID tALLOW tFORBID wV kwV cs) (T0 : own_St Z h0 r0 n1 l1) (T1 : own_St Z h0 r1 n2 l2) (hne : ¬ n1 = n2) :
    MetFree l (⟨"java/lang/String", "equals", "(Ljava/lang/Object;)Z"⟩ : MethodName) (head1 (Jvm.Cond.code (⟨"java/lang/String", "equals", "(Ljava/lang/Object;)Z"⟩ : MethodName) jdk_42_method_66_code 3 (some .boolean) :: ws) ({ frames := 1, cells := 0, slots := 0, locals := 14 } : Room)) (fun a U => a = #[(.ref r0), (.ref r1)] ∧ Z.Warmed39 U.vm ∧ U.heap = h0) (fun _ _ _ _ _ => True) (fun _ U o U' => ∃ v L, o = .returned v ∧ QseN Z r0 r1 n1 n2 l1 l2 wALLOW wFORBID tALLOW tFORBID wV kwV cs h0 n0 v U'.heap L ∧ FrameEnd U o U' L ({ frames := 1, cells := 0, slots := 0, locals := 14 } : Room).cells ({ frames := 1, cells := 0, slots := 0, locals := 14 } : Room).slots) := by
  refine MetFree.of_bodySF (plainFor_of_name pn_java_lang_String) hisR ?_
  intro p e s m args below meth c s₁ Bd hml0 hP hK
  obtain ⟨rfl, hZ, hh⟩ := hP
  have hx := Bd.exec
  have hby := Bd.bytes
  have hml : c.maxLocals = 3 := hml0
  have hown : s.vm.findClass "java/lang/String" = some m.cls := findClass_of_methodNamed Bd.named
  have hnm := (name_of_methodNamed Bd.named Bd.method).1
  have X0 : Stand p l e ({ frames := 1, cells := 0, slots := 0, locals := 14 } : Room) s m #[(.ref r0), (.ref r1)] below meth c s₁ [] 0 0 := Stand.of_body Bd
  have e0 : s₁.heap = h0 := by rw [← hh, Bd.state]; rfl
  have N0 := Fr.nil n0
  refine own_by (p := p) (e := e) (below := below) (K := own_KseN Z r0 r1 n1 n2 l1 l2 wALLOW wFORBID tALLOW tFORBID wV kwV cs h0 n0 s) (W' := s₁.setTop (mkF m 0 #[.val (.ref r0), .val (.ref r1), .unset] [])) (fun t k => castTop (efseN m r0 r1) k) ?_
  obtain ⟨E0, C0_, q0_, k0, F0, V0⟩ := id T0
  obtain ⟨E1, C1_, q1_, k1, F1, V1⟩ := id T1
  obtain ⟨T21, X21, e21, st21⟩ := instY X0 hx hZ hown (own_w hw 44) e0 (Ins.self E1) (g := (mkF m 8 #[.val (.ref r0), .val (.ref r1), .unset] [(.ref r1)])) rfl rfl (hb hby djdk_42_66_8)
  refine own_by (W' := (T21.setTop (mkF m 14 #[.val (.ref r0), .val (.ref r1), .unset] []))) (fun t k => XS.aloadN X0.here hx rfl (hb hby djdk_42_66_0) rfl rfl (XS.aloadN X0.here hx rfl (hb hby djdk_42_66_1) rfl rfl (Jvm.RoadKit.acmp (g := (mkF m 2 #[.val (.ref r0), .val (.ref r1), .unset] [(.ref r1), (.ref r0)])) X0 hx rfl rfl rfl (pc0 := 2) (pc' := 7) (same := false) rfl (hb hby djdk_42_66_2) rfl (decide_eq_false fun q => (fun q => hne (own_St.len T0 (q ▸ T1))) (Value.ref.inj q)) (by decide) (by decide) (XS.aloadN X0.here hx rfl (hb hby djdk_42_66_7) rfl rfl (st21 _ (XS.ifNo X21.here hx rfl (hb hby djdk_42_66_11) rfl ((if0 _ _).trans (feq (by decide : ¬ ((1 : Int32) = (0 : Int32)))).1) k)))))) ?_
  obtain ⟨T22, X22, e22, st22⟩ := castY X21 hx hZ hown (own_w hw 44) e21 (Ins.self E1) (g := (mkF m 15 #[.val (.ref r0), .val (.ref r1), .unset] [(.ref r1)])) rfl rfl (hb hby djdk_42_66_15)
  obtain ⟨T23, X23, e23, st23⟩ := getS (host := "") X22 hx hZ hown (own_w hw 20) Via.refl e22 (HW.2.2.2.2.2.2.2.2.2.2.2.2.2.1.ext O0.2) (g := (mkF m 19 #[.val (.ref r0), .val (.ref r1), .val (.ref r1)] [])) rfl (hb hby djdk_42_66_19)
  refine own_by (W' := (T23.setTop (mkF m 26 #[.val (.ref r0), .val (.ref r1), .val (.ref r1)] [(.ref r0)]))) (fun t k => XS.aloadN X21.here hx rfl (hb hby djdk_42_66_14) rfl rfl (st22 _ (XS.astoreN X22.here hx rfl (hb hby djdk_42_66_18) rfl rfl (l' := #[.val (.ref r0), .val (.ref r1), .val (.ref r1)]) rfl (st23 _ (XS.ifNo X23.here hx rfl (hb hby djdk_42_66_22) rfl ((if0 _ _).trans (feq HW.2.2.2.2.2.2.2.2.2.2.2.2.2.2).1) (XS.aloadN X23.here hx rfl (hb hby djdk_42_66_25) rfl rfl k)))))) ?_
  obtain ⟨T24, X24, e24, st24⟩ := getF X23 hx hZ hown (host := "") (Or.inl (own_w hw 32)) Via.refl e23 C0_ (g := (mkF m 26 #[.val (.ref r0), .val (.ref r1), .val (.ref r1)] [(.ref r0)])) rfl rfl (hb hby djdk_42_66_26)
  obtain ⟨T25, X25, e25, st25⟩ := getF X24 hx hZ hown (host := "") (Or.inl (own_w hw 32)) Via.refl e24 C1_ (g := (mkF m 30 #[.val (.ref r0), .val (.ref r1), .val (.ref r1)] [(.ref r1), (.int (0 : Int32))])) rfl rfl (hb hby djdk_42_66_30)
  obtain ⟨T26, X26, e26, st26⟩ := getF X25 hx hZ hown (host := "") (Or.inl (own_w hw 34)) Via.refl e25 F0 (g := (mkF m 37 #[.val (.ref r0), .val (.ref r1), .val (.ref r1)] [(.ref r0)])) rfl rfl (hb hby djdk_42_66_37)
  refine own_by (W' := (T26.setTop (mkF m 40 #[.val (.ref r0), .val (.ref r1), .val (.ref r1)] [(.ref q0_)]))) (fun t k => st24 _ (XS.aloadN X24.here hx rfl (hb hby djdk_42_66_29) rfl rfl (st25 _ (XS.icmpNo X25.here hx rfl (hb hby djdk_42_66_33) rfl (teq (rfl : (0 : Int32) = (0 : Int32))).2 (XS.aloadN X25.here hx rfl (hb hby djdk_42_66_36) rfl rfl (st26 _ k)))))) ?_
  obtain ⟨T27, X27, e27, st27⟩ := getF X26 hx hZ hown (host := "") (Or.inl (own_w hw 34)) Via.refl e26 F1 (g := (mkF m 41 #[.val (.ref r0), .val (.ref r1), .val (.ref r1)] [(.ref r1), (.ref q0_)])) rfl rfl (hb hby djdk_42_66_41)
  obtain ⟨_, _, ⟨T28, L28, k28, n28⟩, -, X28, ⟨Lc28, hQ28, l28, y28, z28⟩, st28⟩ := Jvm.LawKit.callS X27 hx (y := (⟨"java/lang/StringLatin1", "equals", "([B[B)Z"⟩ : MethodName)) hown (mvT hZ (own_w hw 45)) (mvT hZ (own_w hw 46)) (mvT hZ (own_w hw 47)) (mvT hZ (own_w hw 48)) (by decide) (backOf (W := 0) (rmleN l Z a0 hw [] q0_ q1_ k0 k1 n1 n2 l1 l2 h0 n0 Z0 V0 V1 hne) hZ (own_w hw 48) (own_w hw 47) (by decide) (by decide)) (g := (mkF m 44 #[.val (.ref r0), .val (.ref r1), .val (.ref r1)] [(.ref q1_), (.ref q0_)])) rfl (by rw [hml]; rfl) (argsL := [(.ref q0_), (.ref q1_)]) (rest := []) (lenOf pd_6 rfl) rfl (by show 2 * 0 + _ ≤ _; exact Nat.le_of_eq rfl) (hb hby djdk_42_66_44) (fun _ _ => ⟨rfl, e27, (by decide : 0 + 0 ≤ _), (by decide : 0 + 0 ≤ _)⟩)
  dsimp only [Pt.U, Pt.locs, Pt.cells, Pt.slots] at X28 l28 y28 z28 st28 hQ28
  subst l28 y28 z28
  obtain ⟨rfl, N28q, e28⟩ := hQ28
  have N28 := Fr.app N0 N28q
  obtain ⟨fs, hr, hrun, hended, hW, hsame⟩ := X28.leave (v := some (.int (0 : Int32))) (fun h => by rw [Bd.returns] at h; cases h)
  refine own_by (W' := (T28.setTop (mkF m 55 #[.val (.ref r0), .val (.ref r1), .val (.ref r1)] [(.int (0 : Int32))]))) (fun t k => XS.aloadN X26.here hx rfl (hb hby djdk_42_66_40) rfl rfl (st27 _ (st28 _ (XS.ifYes X28.here hx rfl (pc0 := 47) (pc' := 54) rfl (hb hby djdk_42_66_47) rfl ((if0 _ _).trans (teq (rfl : (0 : Int32) = (0 : Int32))).1) (by decide) (by decide) (XS.iconst X28.here hx rfl (hb hby djdk_42_66_54) k))))) ?_
  refine ⟨_, _, retOut X28 hx Bd.returns rfl (Or.inl ⟨rfl, Or.inr (Or.inl rfl), _, rfl⟩) (hb hby djdk_42_66_55) hr, hrun, hended, _, _, rfl, ?_, ⟨_, rfl⟩, hW, hsame.mono (by decide) (by decide)⟩
  exact ⟨rfl, N28, e28⟩
theorem djdk_43_13_7 : decode jdk_43_method_13_code 7 = .ok (.iconst 0, 1) := by decide +kernel
theorem djdk_43_13_8 : decode jdk_43_method_13_code 8 = .ok (.istore_n 2, 1) := by decide +kernel
theorem djdk_43_13_9 : decode jdk_43_method_13_code 9 = .ok (.iload_n 2, 1) := by decide +kernel
theorem djdk_43_13_10 : decode jdk_43_method_13_code 10 = .ok (.aload_n 0, 1) := by decide +kernel
theorem djdk_43_13_11 : decode jdk_43_method_13_code 11 = .ok (.arraylength, 1) := by decide +kernel
theorem djdk_43_13_12 : decode jdk_43_method_13_code 12 = .ok (.if_icmp .ge 20, 3) := by decide +kernel
theorem djdk_43_13_15 : decode jdk_43_method_13_code 15 = .ok (.aload_n 0, 1) := by decide +kernel
theorem djdk_43_13_16 : decode jdk_43_method_13_code 16 = .ok (.iload_n 2, 1) := by decide +kernel
theorem djdk_43_13_17 : decode jdk_43_method_13_code 17 = .ok (.baload, 1) := by decide +kernel
theorem djdk_43_13_18 : decode jdk_43_method_13_code 18 = .ok (.aload_n 1, 1) := by decide +kernel
theorem djdk_43_13_19 : decode jdk_43_method_13_code 19 = .ok (.iload_n 2, 1) := by decide +kernel
theorem djdk_43_13_20 : decode jdk_43_method_13_code 20 = .ok (.baload, 1) := by decide +kernel
theorem djdk_43_13_21 : decode jdk_43_method_13_code 21 = .ok (.if_icmp .eq 5, 3) := by decide +kernel
theorem djdk_43_13_24 : decode jdk_43_method_13_code 24 = .ok (.iconst 0, 1) := by decide +kernel
theorem djdk_43_13_25 : decode jdk_43_method_13_code 25 = .ok (.ireturn, 1) := by decide +kernel
theorem djdk_43_13_26 : decode jdk_43_method_13_code 26 = .ok (.iinc 2 1, 3) := by decide +kernel
theorem djdk_43_13_29 : decode jdk_43_method_13_code 29 = .ok (.goto (-20), 3) := by decide +kernel
theorem djdk_43_13_32 : decode jdk_43_method_13_code 32 = .ok (.iconst 1, 1) := by decide +kernel
theorem djdk_43_13_33 : decode jdk_43_method_13_code 33 = .ok (.ireturn, 1) := by decide +kernel
theorem efle5_5 (m : MethodId) (r0 : Addr) (r1 : Addr) : entryFrame m #[(.ref r0), (.ref r1)] 3 = mkF m 0 #[.val (.ref r0), .val (.ref r1), .unset] [] := by first | (simp [entryFrame, mkF, argsToLocals, Value.category]; done) | rfl
def Qle5_5 (Z : State) (r0 : Addr) (r1 : Addr) (k0 : ClassId) (k1 : ClassId) (x0 : Int32) (x1 : Int32) (x2 : Int32) (x3 : Int32) (x4 : Int32) (y0 : Int32) (y1 : Int32) (y2 : Int32) (y3 : Int32) (y4 : Int32) (h0 : Heap) (n0 : Nat) (v : Option Value) (h : Heap) (L : List Loc) : Prop := v = some (.int (own_eqv [(.int x0), (.int x1), (.int x2), (.int x3), (.int x4)] [(.int y0), (.int y1), (.int y2), (.int y3), (.int y4)])) ∧ Fr n0 L ∧ h = h0
abbrev own_Kle5_5 (Z : State) (r0 : Addr) (r1 : Addr) (k0 : ClassId) (k1 : ClassId) (x0 : Int32) (x1 : Int32) (x2 : Int32) (x3 : Int32) (x4 : Int32) (y0 : Int32) (y1 : Int32) (y2 : Int32) (y3 : Int32) (y4 : Int32) (h0 : Heap) (n0 : Nat) (s : State) : Outcome → State → Prop := fun o U' => ∃ v L, o = .returned v ∧ Qle5_5 Z r0 r1 k0 k1 x0 x1 x2 x3 x4 y0 y1 y2 y3 y4 h0 n0 v U'.heap L ∧ FrameEnd s o U' L ({ frames := 0, cells := 0, slots := 0, locals := 0 } : Room).cells ({ frames := 0, cells := 0, slots := 0, locals := 0 } : Room).slots
set_option maxRecDepth 65536 in
set_option maxHeartbeats 40000000 in
theorem rmle5_5 (l : Launch) (Z : State) (a0 : Array Value) (hw : ∀ d ∈ tables_1, d.before a0 Z = true) (ws : List Jvm.Cond) (r0 : Addr) (r1 : Addr) (k0 : ClassId) (k1 : ClassId) (x0 : Int32) (x1 : Int32) (x2 : Int32) (x3 : Int32) (x4 : Int32) (y0 : Int32) (y1 : Int32) (y2 : Int32) (y3 : Int32) (y4 : Int32) (h0 : Heap) (n0 : Nat) (Z0 : n0 ≤ h0.size) (V0 : Arv Z h0 r0 k0 .byte (5 : Int32) [(.int x0), (.int x1), (.int x2), (.int x3), (.int x4)] (.int (0 : Int32))) (V1 : Arv Z h0 r1 k1 .byte (5 : Int32) [(.int y0), (.int y1), (.int y2), (.int y3), (.int y4)] (.int (0 : Int32))) :
    MetFree l (⟨"java/lang/StringLatin1", "equals", "([B[B)Z"⟩ : MethodName) (head1 (Jvm.Cond.code (⟨"java/lang/StringLatin1", "equals", "([B[B)Z"⟩ : MethodName) jdk_43_method_13_code 3 (some .boolean) :: ws) ({ frames := 0, cells := 0, slots := 0, locals := 0 } : Room)) (fun a U => a = #[(.ref r0), (.ref r1)] ∧ Z.Warmed39 U.vm ∧ U.heap = h0) (fun _ _ _ _ _ => True) (fun _ U o U' => ∃ v L, o = .returned v ∧ Qle5_5 Z r0 r1 k0 k1 x0 x1 x2 x3 x4 y0 y1 y2 y3 y4 h0 n0 v U'.heap L ∧ FrameEnd U o U' L ({ frames := 0, cells := 0, slots := 0, locals := 0 } : Room).cells ({ frames := 0, cells := 0, slots := 0, locals := 0 } : Room).slots) := by
  refine MetFree.of_bodySF (plainFor_of_name pn_java_lang_StringLatin1) hisR ?_
  intro p e s m args below meth c s₁ Bd hml0 hP hK
  obtain ⟨rfl, hZ, hh⟩ := hP
  have hx := Bd.exec
  have hby := Bd.bytes
  have hml : c.maxLocals = 3 := hml0
  have hown : s.vm.findClass "java/lang/StringLatin1" = some m.cls := findClass_of_methodNamed Bd.named
  have hnm := (name_of_methodNamed Bd.named Bd.method).1
  have X0 : Stand p l e ({ frames := 0, cells := 0, slots := 0, locals := 0 } : Room) s m #[(.ref r0), (.ref r1)] below meth c s₁ [] 0 0 := Stand.of_body Bd
  have e0 : s₁.heap = h0 := by rw [← hh, Bd.state]; rfl
  have N0 := Fr.nil n0
  refine own_by (p := p) (e := e) (below := below) (K := own_Kle5_5 Z r0 r1 k0 k1 x0 x1 x2 x3 x4 y0 y1 y2 y3 y4 h0 n0 s) (W' := s₁.setTop (mkF m 0 #[.val (.ref r0), .val (.ref r1), .unset] [])) (fun t k => castTop (efle5_5 m r0 r1) k) ?_
  obtain ⟨clu21, Aru21, qu21, Su21, Ngu21, Hau21, Gau21⟩ := id V0
  refine own_by (W' := (s₁.setTop (mkF m 2 #[.val (.ref r0), .val (.ref r1), .unset] [(.int clu21.slots.size.toInt32)]))) (fun t k => XS.aloadN X0.here hx rfl (hb hby djdk_43_13_0) rfl rfl ((X0.arraylength hx (by rw [e0]; exact Aru21.1) (State.isArrayOf_alike hZ.alike Aru21.2.1) (g := (mkF m 1 #[.val (.ref r0), .val (.ref r1), .unset] [(.ref r0)])) rfl rfl (hb hby djdk_43_13_1)) _ k)) ?_
  rw [len_of Su21 Ngu21]
  obtain ⟨clu22, Aru22, qu22, Su22, Ngu22, Hau22, Gau22⟩ := id V1
  refine own_by (W' := (s₁.setTop (mkF m 4 #[.val (.ref r0), .val (.ref r1), .unset] [(.int clu22.slots.size.toInt32), (.int (5 : Int32))]))) (fun t k => XS.aloadN X0.here hx rfl (hb hby djdk_43_13_2) rfl rfl ((X0.arraylength hx (by rw [e0]; exact Aru22.1) (State.isArrayOf_alike hZ.alike Aru22.2.1) (g := (mkF m 3 #[.val (.ref r0), .val (.ref r1), .unset] [(.ref r1), (.int (5 : Int32))])) rfl rfl (hb hby djdk_43_13_3)) _ k)) ?_
  rw [len_of Su22 Ngu22]
  obtain ⟨clu23, Aru23, qu23, Su23, Ngu23, Hau23, Gau23⟩ := id V0
  refine own_by (W' := (s₁.setTop (mkF m 12 #[.val (.ref r0), .val (.ref r1), .val (.int (0 : Int32))] [(.int clu23.slots.size.toInt32), (.int (0 : Int32))]))) (fun t k => XS.icmpNo X0.here hx rfl (hb hby djdk_43_13_4) rfl (teq (rfl : (5 : Int32) = (5 : Int32))).2 (XS.iconst X0.here hx rfl (hb hby djdk_43_13_7) (XS.istoreN X0.here hx rfl (hb hby djdk_43_13_8) rfl (l' := #[.val (.ref r0), .val (.ref r1), .val (.int (0 : Int32))]) rfl (XS.iloadN X0.here hx rfl (hb hby djdk_43_13_9) rfl (XS.aloadN X0.here hx rfl (hb hby djdk_43_13_10) rfl rfl ((X0.arraylength hx (by rw [e0]; exact Aru23.1) (State.isArrayOf_alike hZ.alike Aru23.2.1) (g := (mkF m 11 #[.val (.ref r0), .val (.ref r1), .val (.int (0 : Int32))] [(.ref r0), (.int (0 : Int32))])) rfl rfl (hb hby djdk_43_13_11)) _ k)))))) ?_
  rw [len_of Su23 Ngu23]
  obtain ⟨clu24, Aru24, qu24, Su24, Ngu24, Hau24, Gau24⟩ := id V0
  have hinu24 : ¬ ((0 : Int32) < 0 ∨ clu24.slots.size ≤ ((0 : Int32)).toNatClampNeg) := inb_of Su24 ⟨by decide, by decide⟩
  have hatu24 : clu24.slots[((0 : Int32)).toNatClampNeg]? = some (.int x0) := Has.at Hau24 hinu24 rfl
  refine own_by (W' := (s₁.setTop (mkF m 20 #[.val (.ref r0), .val (.ref r1), .val (.int (0 : Int32))] [(.int (0 : Int32)), (.ref r1), (.int x0)]))) (fun t k => XS.icmpNo X0.here hx rfl (hb hby djdk_43_13_12) rfl (tlt (by decide : (0 : Int32) < (5 : Int32))).2.1 (XS.aloadN X0.here hx rfl (hb hby djdk_43_13_15) rfl rfl (XS.iloadN X0.here hx rfl (hb hby djdk_43_13_16) rfl ((X0.baloadBytes hx (j := (0 : Int32)) (v := (.int x0)) (by rw [e0]; exact Aru24.1) (State.isArrayOf_alike hZ.alike Aru24.2.1) Aru24.2.2 hinu24 hatu24 (g := (mkF m 17 #[.val (.ref r0), .val (.ref r1), .val (.int (0 : Int32))] [(.int (0 : Int32)), (.ref r0)])) rfl rfl (hb hby djdk_43_13_17)) _ (XS.aloadN X0.here hx rfl (hb hby djdk_43_13_18) rfl rfl (XS.iloadN X0.here hx rfl (hb hby djdk_43_13_19) rfl k)))))) ?_
  obtain ⟨clu25, Aru25, qu25, Su25, Ngu25, Hau25, Gau25⟩ := id V1
  have hinu25 : ¬ ((0 : Int32) < 0 ∨ clu25.slots.size ≤ ((0 : Int32)).toNatClampNeg) := inb_of Su25 ⟨by decide, by decide⟩
  have hatu25 : clu25.slots[((0 : Int32)).toNatClampNeg]? = some (.int y0) := Has.at Hau25 hinu25 rfl
  refine own_by (W' := (s₁.setTop (mkF m 21 #[.val (.ref r0), .val (.ref r1), .val (.int (0 : Int32))] [(.int y0), (.int x0)]))) (fun t k => (X0.baloadBytes hx (j := (0 : Int32)) (v := (.int y0)) (by rw [e0]; exact Aru25.1) (State.isArrayOf_alike hZ.alike Aru25.2.1) Aru25.2.2 hinu25 hatu25 (g := (mkF m 20 #[.val (.ref r0), .val (.ref r1), .val (.int (0 : Int32))] [(.int (0 : Int32)), (.ref r1), (.int x0)])) rfl rfl (hb hby djdk_43_13_20)) _ k) ?_
  by_cases hc26 : x0 = y0
  ·
    obtain ⟨clu27, Aru27, qu27, Su27, Ngu27, Hau27, Gau27⟩ := id V0
    refine own_by (W' := (s₁.setTop (mkF m 12 #[.val (.ref r0), .val (.ref r1), .val (.int (1 : Int32))] [(.int clu27.slots.size.toInt32), (.int (1 : Int32))]))) (fun t k => XS.icmpYes X0.here hx rfl (pc0 := 21) (pc' := 26) rfl (hb hby djdk_43_13_21) rfl (teq hc26).1 (by decide) (by decide) (XS.iinc X0.here hx rfl (hb hby djdk_43_13_26) rfl (l' := #[.val (.ref r0), .val (.ref r1), .val (.int (1 : Int32))]) rfl (XS.goto X0.here hx rfl (pc0 := 29) (pc' := 9) rfl (hb hby djdk_43_13_29) (by decide) (by decide) (XS.iloadN X0.here hx rfl (hb hby djdk_43_13_9) rfl (XS.aloadN X0.here hx rfl (hb hby djdk_43_13_10) rfl rfl ((X0.arraylength hx (by rw [e0]; exact Aru27.1) (State.isArrayOf_alike hZ.alike Aru27.2.1) (g := (mkF m 11 #[.val (.ref r0), .val (.ref r1), .val (.int (1 : Int32))] [(.ref r0), (.int (1 : Int32))])) rfl rfl (hb hby djdk_43_13_11)) _ k)))))) ?_
    rw [len_of Su27 Ngu27]
    obtain ⟨clu28, Aru28, qu28, Su28, Ngu28, Hau28, Gau28⟩ := id V0
    have hinu28 : ¬ ((1 : Int32) < 0 ∨ clu28.slots.size ≤ ((1 : Int32)).toNatClampNeg) := inb_of Su28 ⟨by decide, by decide⟩
    have hatu28 : clu28.slots[((1 : Int32)).toNatClampNeg]? = some (.int x1) := Has.at Hau28 hinu28 rfl
    refine own_by (W' := (s₁.setTop (mkF m 20 #[.val (.ref r0), .val (.ref r1), .val (.int (1 : Int32))] [(.int (1 : Int32)), (.ref r1), (.int x1)]))) (fun t k => XS.icmpNo X0.here hx rfl (hb hby djdk_43_13_12) rfl (tlt (by decide : (1 : Int32) < (5 : Int32))).2.1 (XS.aloadN X0.here hx rfl (hb hby djdk_43_13_15) rfl rfl (XS.iloadN X0.here hx rfl (hb hby djdk_43_13_16) rfl ((X0.baloadBytes hx (j := (1 : Int32)) (v := (.int x1)) (by rw [e0]; exact Aru28.1) (State.isArrayOf_alike hZ.alike Aru28.2.1) Aru28.2.2 hinu28 hatu28 (g := (mkF m 17 #[.val (.ref r0), .val (.ref r1), .val (.int (1 : Int32))] [(.int (1 : Int32)), (.ref r0)])) rfl rfl (hb hby djdk_43_13_17)) _ (XS.aloadN X0.here hx rfl (hb hby djdk_43_13_18) rfl rfl (XS.iloadN X0.here hx rfl (hb hby djdk_43_13_19) rfl k)))))) ?_
    obtain ⟨clu29, Aru29, qu29, Su29, Ngu29, Hau29, Gau29⟩ := id V1
    have hinu29 : ¬ ((1 : Int32) < 0 ∨ clu29.slots.size ≤ ((1 : Int32)).toNatClampNeg) := inb_of Su29 ⟨by decide, by decide⟩
    have hatu29 : clu29.slots[((1 : Int32)).toNatClampNeg]? = some (.int y1) := Has.at Hau29 hinu29 rfl
    refine own_by (W' := (s₁.setTop (mkF m 21 #[.val (.ref r0), .val (.ref r1), .val (.int (1 : Int32))] [(.int y1), (.int x1)]))) (fun t k => (X0.baloadBytes hx (j := (1 : Int32)) (v := (.int y1)) (by rw [e0]; exact Aru29.1) (State.isArrayOf_alike hZ.alike Aru29.2.1) Aru29.2.2 hinu29 hatu29 (g := (mkF m 20 #[.val (.ref r0), .val (.ref r1), .val (.int (1 : Int32))] [(.int (1 : Int32)), (.ref r1), (.int x1)])) rfl rfl (hb hby djdk_43_13_20)) _ k) ?_
    by_cases hc30 : x1 = y1
    ·
      obtain ⟨clu31, Aru31, qu31, Su31, Ngu31, Hau31, Gau31⟩ := id V0
      refine own_by (W' := (s₁.setTop (mkF m 12 #[.val (.ref r0), .val (.ref r1), .val (.int (2 : Int32))] [(.int clu31.slots.size.toInt32), (.int (2 : Int32))]))) (fun t k => XS.icmpYes X0.here hx rfl (pc0 := 21) (pc' := 26) rfl (hb hby djdk_43_13_21) rfl (teq hc30).1 (by decide) (by decide) (XS.iinc X0.here hx rfl (hb hby djdk_43_13_26) rfl (l' := #[.val (.ref r0), .val (.ref r1), .val (.int (2 : Int32))]) rfl (XS.goto X0.here hx rfl (pc0 := 29) (pc' := 9) rfl (hb hby djdk_43_13_29) (by decide) (by decide) (XS.iloadN X0.here hx rfl (hb hby djdk_43_13_9) rfl (XS.aloadN X0.here hx rfl (hb hby djdk_43_13_10) rfl rfl ((X0.arraylength hx (by rw [e0]; exact Aru31.1) (State.isArrayOf_alike hZ.alike Aru31.2.1) (g := (mkF m 11 #[.val (.ref r0), .val (.ref r1), .val (.int (2 : Int32))] [(.ref r0), (.int (2 : Int32))])) rfl rfl (hb hby djdk_43_13_11)) _ k)))))) ?_
      rw [len_of Su31 Ngu31]
      obtain ⟨clu32, Aru32, qu32, Su32, Ngu32, Hau32, Gau32⟩ := id V0
      have hinu32 : ¬ ((2 : Int32) < 0 ∨ clu32.slots.size ≤ ((2 : Int32)).toNatClampNeg) := inb_of Su32 ⟨by decide, by decide⟩
      have hatu32 : clu32.slots[((2 : Int32)).toNatClampNeg]? = some (.int x2) := Has.at Hau32 hinu32 rfl
      refine own_by (W' := (s₁.setTop (mkF m 20 #[.val (.ref r0), .val (.ref r1), .val (.int (2 : Int32))] [(.int (2 : Int32)), (.ref r1), (.int x2)]))) (fun t k => XS.icmpNo X0.here hx rfl (hb hby djdk_43_13_12) rfl (tlt (by decide : (2 : Int32) < (5 : Int32))).2.1 (XS.aloadN X0.here hx rfl (hb hby djdk_43_13_15) rfl rfl (XS.iloadN X0.here hx rfl (hb hby djdk_43_13_16) rfl ((X0.baloadBytes hx (j := (2 : Int32)) (v := (.int x2)) (by rw [e0]; exact Aru32.1) (State.isArrayOf_alike hZ.alike Aru32.2.1) Aru32.2.2 hinu32 hatu32 (g := (mkF m 17 #[.val (.ref r0), .val (.ref r1), .val (.int (2 : Int32))] [(.int (2 : Int32)), (.ref r0)])) rfl rfl (hb hby djdk_43_13_17)) _ (XS.aloadN X0.here hx rfl (hb hby djdk_43_13_18) rfl rfl (XS.iloadN X0.here hx rfl (hb hby djdk_43_13_19) rfl k)))))) ?_
      obtain ⟨clu33, Aru33, qu33, Su33, Ngu33, Hau33, Gau33⟩ := id V1
      have hinu33 : ¬ ((2 : Int32) < 0 ∨ clu33.slots.size ≤ ((2 : Int32)).toNatClampNeg) := inb_of Su33 ⟨by decide, by decide⟩
      have hatu33 : clu33.slots[((2 : Int32)).toNatClampNeg]? = some (.int y2) := Has.at Hau33 hinu33 rfl
      refine own_by (W' := (s₁.setTop (mkF m 21 #[.val (.ref r0), .val (.ref r1), .val (.int (2 : Int32))] [(.int y2), (.int x2)]))) (fun t k => (X0.baloadBytes hx (j := (2 : Int32)) (v := (.int y2)) (by rw [e0]; exact Aru33.1) (State.isArrayOf_alike hZ.alike Aru33.2.1) Aru33.2.2 hinu33 hatu33 (g := (mkF m 20 #[.val (.ref r0), .val (.ref r1), .val (.int (2 : Int32))] [(.int (2 : Int32)), (.ref r1), (.int x2)])) rfl rfl (hb hby djdk_43_13_20)) _ k) ?_
      by_cases hc34 : x2 = y2
      ·
        obtain ⟨clu35, Aru35, qu35, Su35, Ngu35, Hau35, Gau35⟩ := id V0
        refine own_by (W' := (s₁.setTop (mkF m 12 #[.val (.ref r0), .val (.ref r1), .val (.int (3 : Int32))] [(.int clu35.slots.size.toInt32), (.int (3 : Int32))]))) (fun t k => XS.icmpYes X0.here hx rfl (pc0 := 21) (pc' := 26) rfl (hb hby djdk_43_13_21) rfl (teq hc34).1 (by decide) (by decide) (XS.iinc X0.here hx rfl (hb hby djdk_43_13_26) rfl (l' := #[.val (.ref r0), .val (.ref r1), .val (.int (3 : Int32))]) rfl (XS.goto X0.here hx rfl (pc0 := 29) (pc' := 9) rfl (hb hby djdk_43_13_29) (by decide) (by decide) (XS.iloadN X0.here hx rfl (hb hby djdk_43_13_9) rfl (XS.aloadN X0.here hx rfl (hb hby djdk_43_13_10) rfl rfl ((X0.arraylength hx (by rw [e0]; exact Aru35.1) (State.isArrayOf_alike hZ.alike Aru35.2.1) (g := (mkF m 11 #[.val (.ref r0), .val (.ref r1), .val (.int (3 : Int32))] [(.ref r0), (.int (3 : Int32))])) rfl rfl (hb hby djdk_43_13_11)) _ k)))))) ?_
        rw [len_of Su35 Ngu35]
        obtain ⟨clu36, Aru36, qu36, Su36, Ngu36, Hau36, Gau36⟩ := id V0
        have hinu36 : ¬ ((3 : Int32) < 0 ∨ clu36.slots.size ≤ ((3 : Int32)).toNatClampNeg) := inb_of Su36 ⟨by decide, by decide⟩
        have hatu36 : clu36.slots[((3 : Int32)).toNatClampNeg]? = some (.int x3) := Has.at Hau36 hinu36 rfl
        refine own_by (W' := (s₁.setTop (mkF m 20 #[.val (.ref r0), .val (.ref r1), .val (.int (3 : Int32))] [(.int (3 : Int32)), (.ref r1), (.int x3)]))) (fun t k => XS.icmpNo X0.here hx rfl (hb hby djdk_43_13_12) rfl (tlt (by decide : (3 : Int32) < (5 : Int32))).2.1 (XS.aloadN X0.here hx rfl (hb hby djdk_43_13_15) rfl rfl (XS.iloadN X0.here hx rfl (hb hby djdk_43_13_16) rfl ((X0.baloadBytes hx (j := (3 : Int32)) (v := (.int x3)) (by rw [e0]; exact Aru36.1) (State.isArrayOf_alike hZ.alike Aru36.2.1) Aru36.2.2 hinu36 hatu36 (g := (mkF m 17 #[.val (.ref r0), .val (.ref r1), .val (.int (3 : Int32))] [(.int (3 : Int32)), (.ref r0)])) rfl rfl (hb hby djdk_43_13_17)) _ (XS.aloadN X0.here hx rfl (hb hby djdk_43_13_18) rfl rfl (XS.iloadN X0.here hx rfl (hb hby djdk_43_13_19) rfl k)))))) ?_
        obtain ⟨clu37, Aru37, qu37, Su37, Ngu37, Hau37, Gau37⟩ := id V1
        have hinu37 : ¬ ((3 : Int32) < 0 ∨ clu37.slots.size ≤ ((3 : Int32)).toNatClampNeg) := inb_of Su37 ⟨by decide, by decide⟩
        have hatu37 : clu37.slots[((3 : Int32)).toNatClampNeg]? = some (.int y3) := Has.at Hau37 hinu37 rfl
        refine own_by (W' := (s₁.setTop (mkF m 21 #[.val (.ref r0), .val (.ref r1), .val (.int (3 : Int32))] [(.int y3), (.int x3)]))) (fun t k => (X0.baloadBytes hx (j := (3 : Int32)) (v := (.int y3)) (by rw [e0]; exact Aru37.1) (State.isArrayOf_alike hZ.alike Aru37.2.1) Aru37.2.2 hinu37 hatu37 (g := (mkF m 20 #[.val (.ref r0), .val (.ref r1), .val (.int (3 : Int32))] [(.int (3 : Int32)), (.ref r1), (.int x3)])) rfl rfl (hb hby djdk_43_13_20)) _ k) ?_
        by_cases hc38 : x3 = y3
        ·
          obtain ⟨clu39, Aru39, qu39, Su39, Ngu39, Hau39, Gau39⟩ := id V0
          refine own_by (W' := (s₁.setTop (mkF m 12 #[.val (.ref r0), .val (.ref r1), .val (.int (4 : Int32))] [(.int clu39.slots.size.toInt32), (.int (4 : Int32))]))) (fun t k => XS.icmpYes X0.here hx rfl (pc0 := 21) (pc' := 26) rfl (hb hby djdk_43_13_21) rfl (teq hc38).1 (by decide) (by decide) (XS.iinc X0.here hx rfl (hb hby djdk_43_13_26) rfl (l' := #[.val (.ref r0), .val (.ref r1), .val (.int (4 : Int32))]) rfl (XS.goto X0.here hx rfl (pc0 := 29) (pc' := 9) rfl (hb hby djdk_43_13_29) (by decide) (by decide) (XS.iloadN X0.here hx rfl (hb hby djdk_43_13_9) rfl (XS.aloadN X0.here hx rfl (hb hby djdk_43_13_10) rfl rfl ((X0.arraylength hx (by rw [e0]; exact Aru39.1) (State.isArrayOf_alike hZ.alike Aru39.2.1) (g := (mkF m 11 #[.val (.ref r0), .val (.ref r1), .val (.int (4 : Int32))] [(.ref r0), (.int (4 : Int32))])) rfl rfl (hb hby djdk_43_13_11)) _ k)))))) ?_
          rw [len_of Su39 Ngu39]
          obtain ⟨clu40, Aru40, qu40, Su40, Ngu40, Hau40, Gau40⟩ := id V0
          have hinu40 : ¬ ((4 : Int32) < 0 ∨ clu40.slots.size ≤ ((4 : Int32)).toNatClampNeg) := inb_of Su40 ⟨by decide, by decide⟩
          have hatu40 : clu40.slots[((4 : Int32)).toNatClampNeg]? = some (.int x4) := Has.at Hau40 hinu40 rfl
          refine own_by (W' := (s₁.setTop (mkF m 20 #[.val (.ref r0), .val (.ref r1), .val (.int (4 : Int32))] [(.int (4 : Int32)), (.ref r1), (.int x4)]))) (fun t k => XS.icmpNo X0.here hx rfl (hb hby djdk_43_13_12) rfl (tlt (by decide : (4 : Int32) < (5 : Int32))).2.1 (XS.aloadN X0.here hx rfl (hb hby djdk_43_13_15) rfl rfl (XS.iloadN X0.here hx rfl (hb hby djdk_43_13_16) rfl ((X0.baloadBytes hx (j := (4 : Int32)) (v := (.int x4)) (by rw [e0]; exact Aru40.1) (State.isArrayOf_alike hZ.alike Aru40.2.1) Aru40.2.2 hinu40 hatu40 (g := (mkF m 17 #[.val (.ref r0), .val (.ref r1), .val (.int (4 : Int32))] [(.int (4 : Int32)), (.ref r0)])) rfl rfl (hb hby djdk_43_13_17)) _ (XS.aloadN X0.here hx rfl (hb hby djdk_43_13_18) rfl rfl (XS.iloadN X0.here hx rfl (hb hby djdk_43_13_19) rfl k)))))) ?_
          obtain ⟨clu41, Aru41, qu41, Su41, Ngu41, Hau41, Gau41⟩ := id V1
          have hinu41 : ¬ ((4 : Int32) < 0 ∨ clu41.slots.size ≤ ((4 : Int32)).toNatClampNeg) := inb_of Su41 ⟨by decide, by decide⟩
          have hatu41 : clu41.slots[((4 : Int32)).toNatClampNeg]? = some (.int y4) := Has.at Hau41 hinu41 rfl
          refine own_by (W' := (s₁.setTop (mkF m 21 #[.val (.ref r0), .val (.ref r1), .val (.int (4 : Int32))] [(.int y4), (.int x4)]))) (fun t k => (X0.baloadBytes hx (j := (4 : Int32)) (v := (.int y4)) (by rw [e0]; exact Aru41.1) (State.isArrayOf_alike hZ.alike Aru41.2.1) Aru41.2.2 hinu41 hatu41 (g := (mkF m 20 #[.val (.ref r0), .val (.ref r1), .val (.int (4 : Int32))] [(.int (4 : Int32)), (.ref r1), (.int x4)])) rfl rfl (hb hby djdk_43_13_20)) _ k) ?_
          by_cases hc42 : x4 = y4
          ·
            obtain ⟨clu43, Aru43, qu43, Su43, Ngu43, Hau43, Gau43⟩ := id V0
            refine own_by (W' := (s₁.setTop (mkF m 12 #[.val (.ref r0), .val (.ref r1), .val (.int (5 : Int32))] [(.int clu43.slots.size.toInt32), (.int (5 : Int32))]))) (fun t k => XS.icmpYes X0.here hx rfl (pc0 := 21) (pc' := 26) rfl (hb hby djdk_43_13_21) rfl (teq hc42).1 (by decide) (by decide) (XS.iinc X0.here hx rfl (hb hby djdk_43_13_26) rfl (l' := #[.val (.ref r0), .val (.ref r1), .val (.int (5 : Int32))]) rfl (XS.goto X0.here hx rfl (pc0 := 29) (pc' := 9) rfl (hb hby djdk_43_13_29) (by decide) (by decide) (XS.iloadN X0.here hx rfl (hb hby djdk_43_13_9) rfl (XS.aloadN X0.here hx rfl (hb hby djdk_43_13_10) rfl rfl ((X0.arraylength hx (by rw [e0]; exact Aru43.1) (State.isArrayOf_alike hZ.alike Aru43.2.1) (g := (mkF m 11 #[.val (.ref r0), .val (.ref r1), .val (.int (5 : Int32))] [(.ref r0), (.int (5 : Int32))])) rfl rfl (hb hby djdk_43_13_11)) _ k)))))) ?_
            rw [len_of Su43 Ngu43]
            obtain ⟨fs, hr, hrun, hended, hW, hsame⟩ := X0.leave (v := some (.int (1 : Int32))) (fun h => by rw [Bd.returns] at h; cases h)
            refine own_by (W' := (s₁.setTop (mkF m 33 #[.val (.ref r0), .val (.ref r1), .val (.int (5 : Int32))] [(.int (1 : Int32))]))) (fun t k => XS.icmpYes X0.here hx rfl (pc0 := 12) (pc' := 32) rfl (hb hby djdk_43_13_12) rfl (flt (by decide : ¬ ((5 : Int32) < (5 : Int32)))).2.1 (by decide) (by decide) (XS.iconst X0.here hx rfl (hb hby djdk_43_13_32) k)) ?_
            refine ⟨_, _, retOut X0 hx Bd.returns rfl (Or.inl ⟨rfl, Or.inr (Or.inl rfl), _, rfl⟩) (hb hby djdk_43_13_33) hr, hrun, hended, _, _, rfl, ?_, ⟨_, rfl⟩, hW, hsame.mono (by decide) (by decide)⟩
            refine ⟨congrArg (fun z => some (Value.int z)) ?_, N0, e0⟩
            exact (own_eqv_t (by simp [hc26, hc30, hc34, hc38, hc42])).symm
          ·
            obtain ⟨fs, hr, hrun, hended, hW, hsame⟩ := X0.leave (v := some (.int (0 : Int32))) (fun h => by rw [Bd.returns] at h; cases h)
            refine own_by (W' := (s₁.setTop (mkF m 25 #[.val (.ref r0), .val (.ref r1), .val (.int (4 : Int32))] [(.int (0 : Int32))]))) (fun t k => XS.icmpNo X0.here hx rfl (hb hby djdk_43_13_21) rfl (feq hc42).1 (XS.iconst X0.here hx rfl (hb hby djdk_43_13_24) k)) ?_
            refine ⟨_, _, retOut X0 hx Bd.returns rfl (Or.inl ⟨rfl, Or.inr (Or.inl rfl), _, rfl⟩) (hb hby djdk_43_13_25) hr, hrun, hended, _, _, rfl, ?_, ⟨_, rfl⟩, hW, hsame.mono (by decide) (by decide)⟩
            refine ⟨congrArg (fun z => some (Value.int z)) ?_, N0, e0⟩
            exact (own_eqv_f (by simp [hc26, hc30, hc34, hc38, hc42])).symm
        ·
          obtain ⟨fs, hr, hrun, hended, hW, hsame⟩ := X0.leave (v := some (.int (0 : Int32))) (fun h => by rw [Bd.returns] at h; cases h)
          refine own_by (W' := (s₁.setTop (mkF m 25 #[.val (.ref r0), .val (.ref r1), .val (.int (3 : Int32))] [(.int (0 : Int32))]))) (fun t k => XS.icmpNo X0.here hx rfl (hb hby djdk_43_13_21) rfl (feq hc38).1 (XS.iconst X0.here hx rfl (hb hby djdk_43_13_24) k)) ?_
          refine ⟨_, _, retOut X0 hx Bd.returns rfl (Or.inl ⟨rfl, Or.inr (Or.inl rfl), _, rfl⟩) (hb hby djdk_43_13_25) hr, hrun, hended, _, _, rfl, ?_, ⟨_, rfl⟩, hW, hsame.mono (by decide) (by decide)⟩
          refine ⟨congrArg (fun z => some (Value.int z)) ?_, N0, e0⟩
          exact (own_eqv_f (by simp [hc26, hc30, hc34, hc38])).symm
      ·
        obtain ⟨fs, hr, hrun, hended, hW, hsame⟩ := X0.leave (v := some (.int (0 : Int32))) (fun h => by rw [Bd.returns] at h; cases h)
        refine own_by (W' := (s₁.setTop (mkF m 25 #[.val (.ref r0), .val (.ref r1), .val (.int (2 : Int32))] [(.int (0 : Int32))]))) (fun t k => XS.icmpNo X0.here hx rfl (hb hby djdk_43_13_21) rfl (feq hc34).1 (XS.iconst X0.here hx rfl (hb hby djdk_43_13_24) k)) ?_
        refine ⟨_, _, retOut X0 hx Bd.returns rfl (Or.inl ⟨rfl, Or.inr (Or.inl rfl), _, rfl⟩) (hb hby djdk_43_13_25) hr, hrun, hended, _, _, rfl, ?_, ⟨_, rfl⟩, hW, hsame.mono (by decide) (by decide)⟩
        refine ⟨congrArg (fun z => some (Value.int z)) ?_, N0, e0⟩
        exact (own_eqv_f (by simp [hc26, hc30, hc34])).symm
    ·
      obtain ⟨fs, hr, hrun, hended, hW, hsame⟩ := X0.leave (v := some (.int (0 : Int32))) (fun h => by rw [Bd.returns] at h; cases h)
      refine own_by (W' := (s₁.setTop (mkF m 25 #[.val (.ref r0), .val (.ref r1), .val (.int (1 : Int32))] [(.int (0 : Int32))]))) (fun t k => XS.icmpNo X0.here hx rfl (hb hby djdk_43_13_21) rfl (feq hc30).1 (XS.iconst X0.here hx rfl (hb hby djdk_43_13_24) k)) ?_
      refine ⟨_, _, retOut X0 hx Bd.returns rfl (Or.inl ⟨rfl, Or.inr (Or.inl rfl), _, rfl⟩) (hb hby djdk_43_13_25) hr, hrun, hended, _, _, rfl, ?_, ⟨_, rfl⟩, hW, hsame.mono (by decide) (by decide)⟩
      refine ⟨congrArg (fun z => some (Value.int z)) ?_, N0, e0⟩
      exact (own_eqv_f (by simp [hc26, hc30])).symm
  ·
    obtain ⟨fs, hr, hrun, hended, hW, hsame⟩ := X0.leave (v := some (.int (0 : Int32))) (fun h => by rw [Bd.returns] at h; cases h)
    refine own_by (W' := (s₁.setTop (mkF m 25 #[.val (.ref r0), .val (.ref r1), .val (.int (0 : Int32))] [(.int (0 : Int32))]))) (fun t k => XS.icmpNo X0.here hx rfl (hb hby djdk_43_13_21) rfl (feq hc26).1 (XS.iconst X0.here hx rfl (hb hby djdk_43_13_24) k)) ?_
    refine ⟨_, _, retOut X0 hx Bd.returns rfl (Or.inl ⟨rfl, Or.inr (Or.inl rfl), _, rfl⟩) (hb hby djdk_43_13_25) hr, hrun, hended, _, _, rfl, ?_, ⟨_, rfl⟩, hW, hsame.mono (by decide) (by decide)⟩
    refine ⟨congrArg (fun z => some (Value.int z)) ?_, N0, e0⟩
    exact (own_eqv_f (by simp [hc26])).symm
theorem djdk_42_66_5 : decode jdk_42_method_66_code 5 = .ok (.iconst 1, 1) := by decide +kernel
theorem djdk_42_66_6 : decode jdk_42_method_66_code 6 = .ok (.ireturn, 1) := by decide +kernel
theorem djdk_42_66_50 : decode jdk_42_method_66_code 50 = .ok (.iconst 1, 1) := by decide +kernel
theorem djdk_42_66_51 : decode jdk_42_method_66_code 51 = .ok (.goto 4, 3) := by decide +kernel
theorem efse5_5 (m : MethodId) (r0 : Addr) (r1 : Addr) : entryFrame m #[(.ref r0), (.ref r1)] 3 = mkF m 0 #[.val (.ref r0), .val (.ref r1), .unset] [] := by first | (simp [entryFrame, mkF, argsToLocals, Value.category]; done) | rfl
def Qse5_5 (Z : State) (r0 : Addr) (r1 : Addr) (x0 : Int32) (x1 : Int32) (x2 : Int32) (x3 : Int32) (x4 : Int32) (y0 : Int32) (y1 : Int32) (y2 : Int32) (y3 : Int32) (y4 : Int32) (wALLOW : Addr) (wFORBID : Addr) (tALLOW : Addr) (tFORBID : Addr) (wV : Addr) (kwV : ClassId) (cs : Int32) (h0 : Heap) (n0 : Nat) (v : Option Value) (h : Heap) (L : List Loc) : Prop := v = some (.int (own_eqv [(.int x0), (.int x1), (.int x2), (.int x3), (.int x4)] [(.int y0), (.int y1), (.int y2), (.int y3), (.int y4)])) ∧ Fr n0 L ∧ h = h0
abbrev own_Kse5_5 (Z : State) (r0 : Addr) (r1 : Addr) (x0 : Int32) (x1 : Int32) (x2 : Int32) (x3 : Int32) (x4 : Int32) (y0 : Int32) (y1 : Int32) (y2 : Int32) (y3 : Int32) (y4 : Int32) (wALLOW : Addr) (wFORBID : Addr) (tALLOW : Addr) (tFORBID : Addr) (wV : Addr) (kwV : ClassId) (cs : Int32) (h0 : Heap) (n0 : Nat) (s : State) : Outcome → State → Prop := fun o U' => ∃ v L, o = .returned v ∧ Qse5_5 Z r0 r1 x0 x1 x2 x3 x4 y0 y1 y2 y3 y4 wALLOW wFORBID tALLOW tFORBID wV kwV cs h0 n0 v U'.heap L ∧ FrameEnd s o U' L ({ frames := 1, cells := 0, slots := 0, locals := 14 } : Room).cells ({ frames := 1, cells := 0, slots := 0, locals := 14 } : Room).slots
set_option maxRecDepth 65536 in
set_option maxHeartbeats 40000000 in
theorem rmse5_5 (l : Launch) (Z : State) (a0 : Array Value) (hw : ∀ d ∈ tables_1, d.before a0 Z = true) (ws : List Jvm.Cond) (r0 : Addr) (r1 : Addr) (x0 : Int32) (x1 : Int32) (x2 : Int32) (x3 : Int32) (x4 : Int32) (y0 : Int32) (y1 : Int32) (y2 : Int32) (y3 : Int32) (y4 : Int32) (wALLOW : Addr) (wFORBID : Addr) (tALLOW : Addr) (tFORBID : Addr) (wV : Addr) (kwV : ClassId) (cs : Int32) (h0 : Heap) (n0 : Nat) (Z0 : n0 ≤ h0.size) (O0 : Old Z n0 h0) (HW : own_Wd Z wALLOW wFORBID tALLOW tFORBID wV kwV cs) (T0 : own_St Z h0 r0 (5 : Int32) [(.int x0), (.int x1), (.int x2), (.int x3), (.int x4)]) (T1 : own_St Z h0 r1 (5 : Int32) [(.int y0), (.int y1), (.int y2), (.int y3), (.int y4)]) :
    MetFree l (⟨"java/lang/String", "equals", "(Ljava/lang/Object;)Z"⟩ : MethodName) (head1 (Jvm.Cond.code (⟨"java/lang/String", "equals", "(Ljava/lang/Object;)Z"⟩ : MethodName) jdk_42_method_66_code 3 (some .boolean) :: ws) ({ frames := 1, cells := 0, slots := 0, locals := 14 } : Room)) (fun a U => a = #[(.ref r0), (.ref r1)] ∧ Z.Warmed39 U.vm ∧ U.heap = h0) (fun _ _ _ _ _ => True) (fun _ U o U' => ∃ v L, o = .returned v ∧ Qse5_5 Z r0 r1 x0 x1 x2 x3 x4 y0 y1 y2 y3 y4 wALLOW wFORBID tALLOW tFORBID wV kwV cs h0 n0 v U'.heap L ∧ FrameEnd U o U' L ({ frames := 1, cells := 0, slots := 0, locals := 14 } : Room).cells ({ frames := 1, cells := 0, slots := 0, locals := 14 } : Room).slots) := by
  refine MetFree.of_bodySF (plainFor_of_name pn_java_lang_String) hisR ?_
  intro p e s m args below meth c s₁ Bd hml0 hP hK
  obtain ⟨rfl, hZ, hh⟩ := hP
  have hx := Bd.exec
  have hby := Bd.bytes
  have hml : c.maxLocals = 3 := hml0
  have hown : s.vm.findClass "java/lang/String" = some m.cls := findClass_of_methodNamed Bd.named
  have hnm := (name_of_methodNamed Bd.named Bd.method).1
  have X0 : Stand p l e ({ frames := 1, cells := 0, slots := 0, locals := 14 } : Room) s m #[(.ref r0), (.ref r1)] below meth c s₁ [] 0 0 := Stand.of_body Bd
  have e0 : s₁.heap = h0 := by rw [← hh, Bd.state]; rfl
  have N0 := Fr.nil n0
  refine own_by (p := p) (e := e) (below := below) (K := own_Kse5_5 Z r0 r1 x0 x1 x2 x3 x4 y0 y1 y2 y3 y4 wALLOW wFORBID tALLOW tFORBID wV kwV cs h0 n0 s) (W' := s₁.setTop (mkF m 0 #[.val (.ref r0), .val (.ref r1), .unset] [])) (fun t k => castTop (efse5_5 m r0 r1) k) ?_
  obtain ⟨E0, C0_, q0_, k0, F0, V0⟩ := id T0
  obtain ⟨E1, C1_, q1_, k1, F1, V1⟩ := id T1
  refine own_by (W' := (s₁.setTop (mkF m 2 #[.val (.ref r0), .val (.ref r1), .unset] [(.ref r1), (.ref r0)]))) (fun t k => XS.aloadN X0.here hx rfl (hb hby djdk_42_66_0) rfl rfl (XS.aloadN X0.here hx rfl (hb hby djdk_42_66_1) rfl rfl k)) ?_
  by_cases hc21 : r0 = r1
  ·
    obtain ⟨fs, hr, hrun, hended, hW, hsame⟩ := X0.leave (v := some (.int (1 : Int32))) (fun h => by rw [Bd.returns] at h; cases h)
    refine own_by (W' := (s₁.setTop (mkF m 6 #[.val (.ref r0), .val (.ref r1), .unset] [(.int (1 : Int32))]))) (fun t k => Jvm.RoadKit.acmp (g := (mkF m 2 #[.val (.ref r0), .val (.ref r1), .unset] [(.ref r1), (.ref r0)])) X0 hx rfl rfl rfl (pc0 := 2) (pc' := 5) (same := true) rfl (hb hby djdk_42_66_2) rfl (decide_eq_true (congrArg Value.ref hc21)) (by decide) (by decide) (XS.iconst X0.here hx rfl (hb hby djdk_42_66_5) k)) ?_
    refine ⟨_, _, retOut X0 hx Bd.returns rfl (Or.inl ⟨rfl, Or.inr (Or.inl rfl), _, rfl⟩) (hb hby djdk_42_66_6) hr, hrun, hended, _, _, rfl, ?_, ⟨_, rfl⟩, hW, hsame.mono (by decide) (by decide)⟩
    refine ⟨congrArg (fun z => some (Value.int z)) ?_, N0, e0⟩
    exact (own_eqv_t (own_St.inj T0 (hc21 ▸ T1) rfl rfl)).symm
  ·
    obtain ⟨T22, X22, e22, st22⟩ := instY X0 hx hZ hown (own_w hw 44) e0 (Ins.self E1) (g := (mkF m 8 #[.val (.ref r0), .val (.ref r1), .unset] [(.ref r1)])) rfl rfl (hb hby djdk_42_66_8)
    obtain ⟨T23, X23, e23, st23⟩ := castY X22 hx hZ hown (own_w hw 44) e22 (Ins.self E1) (g := (mkF m 15 #[.val (.ref r0), .val (.ref r1), .unset] [(.ref r1)])) rfl rfl (hb hby djdk_42_66_15)
    refine own_by (W' := (T23.setTop (mkF m 18 #[.val (.ref r0), .val (.ref r1), .unset] [(.ref r1)]))) (fun t k => Jvm.RoadKit.acmp (g := (mkF m 2 #[.val (.ref r0), .val (.ref r1), .unset] [(.ref r1), (.ref r0)])) X0 hx rfl rfl rfl (pc0 := 2) (pc' := 7) (same := false) rfl (hb hby djdk_42_66_2) rfl (decide_eq_false fun q => hc21 (Value.ref.inj q)) (by decide) (by decide) (XS.aloadN X0.here hx rfl (hb hby djdk_42_66_7) rfl rfl (st22 _ (XS.ifNo X22.here hx rfl (hb hby djdk_42_66_11) rfl ((if0 _ _).trans (feq (by decide : ¬ ((1 : Int32) = (0 : Int32)))).1) (XS.aloadN X22.here hx rfl (hb hby djdk_42_66_14) rfl rfl (st23 _ k)))))) ?_
    obtain ⟨T24, X24, e24, st24⟩ := getS (host := "") X23 hx hZ hown (own_w hw 20) Via.refl e23 (HW.2.2.2.2.2.2.2.2.2.2.2.2.2.1.ext O0.2) (g := (mkF m 19 #[.val (.ref r0), .val (.ref r1), .val (.ref r1)] [])) rfl (hb hby djdk_42_66_19)
    obtain ⟨T25, X25, e25, st25⟩ := getF X24 hx hZ hown (host := "") (Or.inl (own_w hw 32)) Via.refl e24 C0_ (g := (mkF m 26 #[.val (.ref r0), .val (.ref r1), .val (.ref r1)] [(.ref r0)])) rfl rfl (hb hby djdk_42_66_26)
    refine own_by (W' := (T25.setTop (mkF m 30 #[.val (.ref r0), .val (.ref r1), .val (.ref r1)] [(.ref r1), (.int (0 : Int32))]))) (fun t k => XS.astoreN X23.here hx rfl (hb hby djdk_42_66_18) rfl rfl (l' := #[.val (.ref r0), .val (.ref r1), .val (.ref r1)]) rfl (st24 _ (XS.ifNo X24.here hx rfl (hb hby djdk_42_66_22) rfl ((if0 _ _).trans (feq HW.2.2.2.2.2.2.2.2.2.2.2.2.2.2).1) (XS.aloadN X24.here hx rfl (hb hby djdk_42_66_25) rfl rfl (st25 _ (XS.aloadN X25.here hx rfl (hb hby djdk_42_66_29) rfl rfl k)))))) ?_
    obtain ⟨T26, X26, e26, st26⟩ := getF X25 hx hZ hown (host := "") (Or.inl (own_w hw 32)) Via.refl e25 C1_ (g := (mkF m 30 #[.val (.ref r0), .val (.ref r1), .val (.ref r1)] [(.ref r1), (.int (0 : Int32))])) rfl rfl (hb hby djdk_42_66_30)
    obtain ⟨T27, X27, e27, st27⟩ := getF X26 hx hZ hown (host := "") (Or.inl (own_w hw 34)) Via.refl e26 F0 (g := (mkF m 37 #[.val (.ref r0), .val (.ref r1), .val (.ref r1)] [(.ref r0)])) rfl rfl (hb hby djdk_42_66_37)
    obtain ⟨T28, X28, e28, st28⟩ := getF X27 hx hZ hown (host := "") (Or.inl (own_w hw 34)) Via.refl e27 F1 (g := (mkF m 41 #[.val (.ref r0), .val (.ref r1), .val (.ref r1)] [(.ref r1), (.ref q0_)])) rfl rfl (hb hby djdk_42_66_41)
    refine own_by (W' := (T28.setTop (mkF m 44 #[.val (.ref r0), .val (.ref r1), .val (.ref r1)] [(.ref q1_), (.ref q0_)]))) (fun t k => st26 _ (XS.icmpNo X26.here hx rfl (hb hby djdk_42_66_33) rfl (teq (rfl : (0 : Int32) = (0 : Int32))).2 (XS.aloadN X26.here hx rfl (hb hby djdk_42_66_36) rfl rfl (st27 _ (XS.aloadN X27.here hx rfl (hb hby djdk_42_66_40) rfl rfl (st28 _ k)))))) ?_
    obtain ⟨_, _, ⟨T29, L29, k29, n29⟩, -, X29, ⟨Lc29, hQ29, l29, y29, z29⟩, st29⟩ := Jvm.LawKit.callS X28 hx (y := (⟨"java/lang/StringLatin1", "equals", "([B[B)Z"⟩ : MethodName)) hown (mvT hZ (own_w hw 45)) (mvT hZ (own_w hw 46)) (mvT hZ (own_w hw 47)) (mvT hZ (own_w hw 48)) (by decide) (backOf (W := 0) (rmle5_5 l Z a0 hw [] q0_ q1_ k0 k1 x0 x1 x2 x3 x4 y0 y1 y2 y3 y4 h0 n0 Z0 V0 V1) hZ (own_w hw 48) (own_w hw 47) (by decide) (by decide)) (g := (mkF m 44 #[.val (.ref r0), .val (.ref r1), .val (.ref r1)] [(.ref q1_), (.ref q0_)])) rfl (by rw [hml]; rfl) (argsL := [(.ref q0_), (.ref q1_)]) (rest := []) (lenOf pd_6 rfl) rfl (by show 2 * 0 + _ ≤ _; exact Nat.le_of_eq rfl) (hb hby djdk_42_66_44) (fun _ _ => ⟨rfl, e28, (by decide : 0 + 0 ≤ _), (by decide : 0 + 0 ≤ _)⟩)
    dsimp only [Pt.U, Pt.locs, Pt.cells, Pt.slots] at X29 l29 y29 z29 st29 hQ29
    subst l29 y29 z29
    obtain ⟨rfl, N29q, e29⟩ := hQ29
    have N29 := Fr.app N0 N29q
    refine own_by (W' := (T29.setTop (mkF m 47 #[.val (.ref r0), .val (.ref r1), .val (.ref r1)] [(.int (own_eqv [(.int x0), (.int x1), (.int x2), (.int x3), (.int x4)] [(.int y0), (.int y1), (.int y2), (.int y3), (.int y4)]))]))) (fun t k => st29 _ k) ?_
    by_cases hc30 : (own_eqv [(.int x0), (.int x1), (.int x2), (.int x3), (.int x4)] [(.int y0), (.int y1), (.int y2), (.int y3), (.int y4)]) = (0 : Int32)
    ·
      obtain ⟨fs, hr, hrun, hended, hW, hsame⟩ := X29.leave (v := some (.int (0 : Int32))) (fun h => by rw [Bd.returns] at h; cases h)
      refine own_by (W' := (T29.setTop (mkF m 55 #[.val (.ref r0), .val (.ref r1), .val (.ref r1)] [(.int (0 : Int32))]))) (fun t k => XS.ifYes X29.here hx rfl (pc0 := 47) (pc' := 54) rfl (hb hby djdk_42_66_47) rfl ((if0 _ _).trans (teq hc30).1) (by decide) (by decide) (XS.iconst X29.here hx rfl (hb hby djdk_42_66_54) k)) ?_
      refine ⟨_, _, retOut X29 hx Bd.returns rfl (Or.inl ⟨rfl, Or.inr (Or.inl rfl), _, rfl⟩) (hb hby djdk_42_66_55) hr, hrun, hended, _, _, rfl, ?_, ⟨_, rfl⟩, hW, hsame.mono (by decide) (by decide)⟩
      refine ⟨congrArg (fun z => some (Value.int z)) ?_, N29, e29⟩
      exact hc30.symm
    ·
      obtain ⟨fs, hr, hrun, hended, hW, hsame⟩ := X29.leave (v := some (.int (1 : Int32))) (fun h => by rw [Bd.returns] at h; cases h)
      refine own_by (W' := (T29.setTop (mkF m 55 #[.val (.ref r0), .val (.ref r1), .val (.ref r1)] [(.int (1 : Int32))]))) (fun t k => XS.ifNo X29.here hx rfl (hb hby djdk_42_66_47) rfl ((if0 _ _).trans (feq hc30).1) (XS.iconst X29.here hx rfl (hb hby djdk_42_66_50) (XS.goto X29.here hx rfl (pc0 := 51) (pc' := 55) rfl (hb hby djdk_42_66_51) (by decide) (by decide) k))) ?_
      refine ⟨_, _, retOut X29 hx Bd.returns rfl (Or.inl ⟨rfl, Or.inr (Or.inl rfl), _, rfl⟩) (hb hby djdk_42_66_55) hr, hrun, hended, _, _, rfl, ?_, ⟨_, rfl⟩, hW, hsame.mono (by decide) (by decide)⟩
      refine ⟨congrArg (fun z => some (Value.int z)) ?_, N29, e29⟩
      exact (own_eqv_t (own_eqv_1 hc30)).symm
theorem efle6_6 (m : MethodId) (r0 : Addr) (r1 : Addr) : entryFrame m #[(.ref r0), (.ref r1)] 3 = mkF m 0 #[.val (.ref r0), .val (.ref r1), .unset] [] := by first | (simp [entryFrame, mkF, argsToLocals, Value.category]; done) | rfl
def Qle6_6 (Z : State) (r0 : Addr) (r1 : Addr) (k0 : ClassId) (k1 : ClassId) (x0 : Int32) (x1 : Int32) (x2 : Int32) (x3 : Int32) (x4 : Int32) (x5 : Int32) (y0 : Int32) (y1 : Int32) (y2 : Int32) (y3 : Int32) (y4 : Int32) (y5 : Int32) (h0 : Heap) (n0 : Nat) (v : Option Value) (h : Heap) (L : List Loc) : Prop := v = some (.int (own_eqv [(.int x0), (.int x1), (.int x2), (.int x3), (.int x4), (.int x5)] [(.int y0), (.int y1), (.int y2), (.int y3), (.int y4), (.int y5)])) ∧ Fr n0 L ∧ h = h0
abbrev own_Kle6_6 (Z : State) (r0 : Addr) (r1 : Addr) (k0 : ClassId) (k1 : ClassId) (x0 : Int32) (x1 : Int32) (x2 : Int32) (x3 : Int32) (x4 : Int32) (x5 : Int32) (y0 : Int32) (y1 : Int32) (y2 : Int32) (y3 : Int32) (y4 : Int32) (y5 : Int32) (h0 : Heap) (n0 : Nat) (s : State) : Outcome → State → Prop := fun o U' => ∃ v L, o = .returned v ∧ Qle6_6 Z r0 r1 k0 k1 x0 x1 x2 x3 x4 x5 y0 y1 y2 y3 y4 y5 h0 n0 v U'.heap L ∧ FrameEnd s o U' L ({ frames := 0, cells := 0, slots := 0, locals := 0 } : Room).cells ({ frames := 0, cells := 0, slots := 0, locals := 0 } : Room).slots
set_option maxRecDepth 65536 in
set_option maxHeartbeats 40000000 in
theorem rmle6_6 (l : Launch) (Z : State) (a0 : Array Value) (hw : ∀ d ∈ tables_1, d.before a0 Z = true) (ws : List Jvm.Cond) (r0 : Addr) (r1 : Addr) (k0 : ClassId) (k1 : ClassId) (x0 : Int32) (x1 : Int32) (x2 : Int32) (x3 : Int32) (x4 : Int32) (x5 : Int32) (y0 : Int32) (y1 : Int32) (y2 : Int32) (y3 : Int32) (y4 : Int32) (y5 : Int32) (h0 : Heap) (n0 : Nat) (Z0 : n0 ≤ h0.size) (V0 : Arv Z h0 r0 k0 .byte (6 : Int32) [(.int x0), (.int x1), (.int x2), (.int x3), (.int x4), (.int x5)] (.int (0 : Int32))) (V1 : Arv Z h0 r1 k1 .byte (6 : Int32) [(.int y0), (.int y1), (.int y2), (.int y3), (.int y4), (.int y5)] (.int (0 : Int32))) :
    MetFree l (⟨"java/lang/StringLatin1", "equals", "([B[B)Z"⟩ : MethodName) (head1 (Jvm.Cond.code (⟨"java/lang/StringLatin1", "equals", "([B[B)Z"⟩ : MethodName) jdk_43_method_13_code 3 (some .boolean) :: ws) ({ frames := 0, cells := 0, slots := 0, locals := 0 } : Room)) (fun a U => a = #[(.ref r0), (.ref r1)] ∧ Z.Warmed39 U.vm ∧ U.heap = h0) (fun _ _ _ _ _ => True) (fun _ U o U' => ∃ v L, o = .returned v ∧ Qle6_6 Z r0 r1 k0 k1 x0 x1 x2 x3 x4 x5 y0 y1 y2 y3 y4 y5 h0 n0 v U'.heap L ∧ FrameEnd U o U' L ({ frames := 0, cells := 0, slots := 0, locals := 0 } : Room).cells ({ frames := 0, cells := 0, slots := 0, locals := 0 } : Room).slots) := by
  refine MetFree.of_bodySF (plainFor_of_name pn_java_lang_StringLatin1) hisR ?_
  intro p e s m args below meth c s₁ Bd hml0 hP hK
  obtain ⟨rfl, hZ, hh⟩ := hP
  have hx := Bd.exec
  have hby := Bd.bytes
  have hml : c.maxLocals = 3 := hml0
  have hown : s.vm.findClass "java/lang/StringLatin1" = some m.cls := findClass_of_methodNamed Bd.named
  have hnm := (name_of_methodNamed Bd.named Bd.method).1
  have X0 : Stand p l e ({ frames := 0, cells := 0, slots := 0, locals := 0 } : Room) s m #[(.ref r0), (.ref r1)] below meth c s₁ [] 0 0 := Stand.of_body Bd
  have e0 : s₁.heap = h0 := by rw [← hh, Bd.state]; rfl
  have N0 := Fr.nil n0
  refine own_by (p := p) (e := e) (below := below) (K := own_Kle6_6 Z r0 r1 k0 k1 x0 x1 x2 x3 x4 x5 y0 y1 y2 y3 y4 y5 h0 n0 s) (W' := s₁.setTop (mkF m 0 #[.val (.ref r0), .val (.ref r1), .unset] [])) (fun t k => castTop (efle6_6 m r0 r1) k) ?_
  obtain ⟨clu21, Aru21, qu21, Su21, Ngu21, Hau21, Gau21⟩ := id V0
  refine own_by (W' := (s₁.setTop (mkF m 2 #[.val (.ref r0), .val (.ref r1), .unset] [(.int clu21.slots.size.toInt32)]))) (fun t k => XS.aloadN X0.here hx rfl (hb hby djdk_43_13_0) rfl rfl ((X0.arraylength hx (by rw [e0]; exact Aru21.1) (State.isArrayOf_alike hZ.alike Aru21.2.1) (g := (mkF m 1 #[.val (.ref r0), .val (.ref r1), .unset] [(.ref r0)])) rfl rfl (hb hby djdk_43_13_1)) _ k)) ?_
  rw [len_of Su21 Ngu21]
  obtain ⟨clu22, Aru22, qu22, Su22, Ngu22, Hau22, Gau22⟩ := id V1
  refine own_by (W' := (s₁.setTop (mkF m 4 #[.val (.ref r0), .val (.ref r1), .unset] [(.int clu22.slots.size.toInt32), (.int (6 : Int32))]))) (fun t k => XS.aloadN X0.here hx rfl (hb hby djdk_43_13_2) rfl rfl ((X0.arraylength hx (by rw [e0]; exact Aru22.1) (State.isArrayOf_alike hZ.alike Aru22.2.1) (g := (mkF m 3 #[.val (.ref r0), .val (.ref r1), .unset] [(.ref r1), (.int (6 : Int32))])) rfl rfl (hb hby djdk_43_13_3)) _ k)) ?_
  rw [len_of Su22 Ngu22]
  obtain ⟨clu23, Aru23, qu23, Su23, Ngu23, Hau23, Gau23⟩ := id V0
  refine own_by (W' := (s₁.setTop (mkF m 12 #[.val (.ref r0), .val (.ref r1), .val (.int (0 : Int32))] [(.int clu23.slots.size.toInt32), (.int (0 : Int32))]))) (fun t k => XS.icmpNo X0.here hx rfl (hb hby djdk_43_13_4) rfl (teq (rfl : (6 : Int32) = (6 : Int32))).2 (XS.iconst X0.here hx rfl (hb hby djdk_43_13_7) (XS.istoreN X0.here hx rfl (hb hby djdk_43_13_8) rfl (l' := #[.val (.ref r0), .val (.ref r1), .val (.int (0 : Int32))]) rfl (XS.iloadN X0.here hx rfl (hb hby djdk_43_13_9) rfl (XS.aloadN X0.here hx rfl (hb hby djdk_43_13_10) rfl rfl ((X0.arraylength hx (by rw [e0]; exact Aru23.1) (State.isArrayOf_alike hZ.alike Aru23.2.1) (g := (mkF m 11 #[.val (.ref r0), .val (.ref r1), .val (.int (0 : Int32))] [(.ref r0), (.int (0 : Int32))])) rfl rfl (hb hby djdk_43_13_11)) _ k)))))) ?_
  rw [len_of Su23 Ngu23]
  obtain ⟨clu24, Aru24, qu24, Su24, Ngu24, Hau24, Gau24⟩ := id V0
  have hinu24 : ¬ ((0 : Int32) < 0 ∨ clu24.slots.size ≤ ((0 : Int32)).toNatClampNeg) := inb_of Su24 ⟨by decide, by decide⟩
  have hatu24 : clu24.slots[((0 : Int32)).toNatClampNeg]? = some (.int x0) := Has.at Hau24 hinu24 rfl
  refine own_by (W' := (s₁.setTop (mkF m 20 #[.val (.ref r0), .val (.ref r1), .val (.int (0 : Int32))] [(.int (0 : Int32)), (.ref r1), (.int x0)]))) (fun t k => XS.icmpNo X0.here hx rfl (hb hby djdk_43_13_12) rfl (tlt (by decide : (0 : Int32) < (6 : Int32))).2.1 (XS.aloadN X0.here hx rfl (hb hby djdk_43_13_15) rfl rfl (XS.iloadN X0.here hx rfl (hb hby djdk_43_13_16) rfl ((X0.baloadBytes hx (j := (0 : Int32)) (v := (.int x0)) (by rw [e0]; exact Aru24.1) (State.isArrayOf_alike hZ.alike Aru24.2.1) Aru24.2.2 hinu24 hatu24 (g := (mkF m 17 #[.val (.ref r0), .val (.ref r1), .val (.int (0 : Int32))] [(.int (0 : Int32)), (.ref r0)])) rfl rfl (hb hby djdk_43_13_17)) _ (XS.aloadN X0.here hx rfl (hb hby djdk_43_13_18) rfl rfl (XS.iloadN X0.here hx rfl (hb hby djdk_43_13_19) rfl k)))))) ?_
  obtain ⟨clu25, Aru25, qu25, Su25, Ngu25, Hau25, Gau25⟩ := id V1
  have hinu25 : ¬ ((0 : Int32) < 0 ∨ clu25.slots.size ≤ ((0 : Int32)).toNatClampNeg) := inb_of Su25 ⟨by decide, by decide⟩
  have hatu25 : clu25.slots[((0 : Int32)).toNatClampNeg]? = some (.int y0) := Has.at Hau25 hinu25 rfl
  refine own_by (W' := (s₁.setTop (mkF m 21 #[.val (.ref r0), .val (.ref r1), .val (.int (0 : Int32))] [(.int y0), (.int x0)]))) (fun t k => (X0.baloadBytes hx (j := (0 : Int32)) (v := (.int y0)) (by rw [e0]; exact Aru25.1) (State.isArrayOf_alike hZ.alike Aru25.2.1) Aru25.2.2 hinu25 hatu25 (g := (mkF m 20 #[.val (.ref r0), .val (.ref r1), .val (.int (0 : Int32))] [(.int (0 : Int32)), (.ref r1), (.int x0)])) rfl rfl (hb hby djdk_43_13_20)) _ k) ?_
  by_cases hc26 : x0 = y0
  ·
    obtain ⟨clu27, Aru27, qu27, Su27, Ngu27, Hau27, Gau27⟩ := id V0
    refine own_by (W' := (s₁.setTop (mkF m 12 #[.val (.ref r0), .val (.ref r1), .val (.int (1 : Int32))] [(.int clu27.slots.size.toInt32), (.int (1 : Int32))]))) (fun t k => XS.icmpYes X0.here hx rfl (pc0 := 21) (pc' := 26) rfl (hb hby djdk_43_13_21) rfl (teq hc26).1 (by decide) (by decide) (XS.iinc X0.here hx rfl (hb hby djdk_43_13_26) rfl (l' := #[.val (.ref r0), .val (.ref r1), .val (.int (1 : Int32))]) rfl (XS.goto X0.here hx rfl (pc0 := 29) (pc' := 9) rfl (hb hby djdk_43_13_29) (by decide) (by decide) (XS.iloadN X0.here hx rfl (hb hby djdk_43_13_9) rfl (XS.aloadN X0.here hx rfl (hb hby djdk_43_13_10) rfl rfl ((X0.arraylength hx (by rw [e0]; exact Aru27.1) (State.isArrayOf_alike hZ.alike Aru27.2.1) (g := (mkF m 11 #[.val (.ref r0), .val (.ref r1), .val (.int (1 : Int32))] [(.ref r0), (.int (1 : Int32))])) rfl rfl (hb hby djdk_43_13_11)) _ k)))))) ?_
    rw [len_of Su27 Ngu27]
    obtain ⟨clu28, Aru28, qu28, Su28, Ngu28, Hau28, Gau28⟩ := id V0
    have hinu28 : ¬ ((1 : Int32) < 0 ∨ clu28.slots.size ≤ ((1 : Int32)).toNatClampNeg) := inb_of Su28 ⟨by decide, by decide⟩
    have hatu28 : clu28.slots[((1 : Int32)).toNatClampNeg]? = some (.int x1) := Has.at Hau28 hinu28 rfl
    refine own_by (W' := (s₁.setTop (mkF m 20 #[.val (.ref r0), .val (.ref r1), .val (.int (1 : Int32))] [(.int (1 : Int32)), (.ref r1), (.int x1)]))) (fun t k => XS.icmpNo X0.here hx rfl (hb hby djdk_43_13_12) rfl (tlt (by decide : (1 : Int32) < (6 : Int32))).2.1 (XS.aloadN X0.here hx rfl (hb hby djdk_43_13_15) rfl rfl (XS.iloadN X0.here hx rfl (hb hby djdk_43_13_16) rfl ((X0.baloadBytes hx (j := (1 : Int32)) (v := (.int x1)) (by rw [e0]; exact Aru28.1) (State.isArrayOf_alike hZ.alike Aru28.2.1) Aru28.2.2 hinu28 hatu28 (g := (mkF m 17 #[.val (.ref r0), .val (.ref r1), .val (.int (1 : Int32))] [(.int (1 : Int32)), (.ref r0)])) rfl rfl (hb hby djdk_43_13_17)) _ (XS.aloadN X0.here hx rfl (hb hby djdk_43_13_18) rfl rfl (XS.iloadN X0.here hx rfl (hb hby djdk_43_13_19) rfl k)))))) ?_
    obtain ⟨clu29, Aru29, qu29, Su29, Ngu29, Hau29, Gau29⟩ := id V1
    have hinu29 : ¬ ((1 : Int32) < 0 ∨ clu29.slots.size ≤ ((1 : Int32)).toNatClampNeg) := inb_of Su29 ⟨by decide, by decide⟩
    have hatu29 : clu29.slots[((1 : Int32)).toNatClampNeg]? = some (.int y1) := Has.at Hau29 hinu29 rfl
    refine own_by (W' := (s₁.setTop (mkF m 21 #[.val (.ref r0), .val (.ref r1), .val (.int (1 : Int32))] [(.int y1), (.int x1)]))) (fun t k => (X0.baloadBytes hx (j := (1 : Int32)) (v := (.int y1)) (by rw [e0]; exact Aru29.1) (State.isArrayOf_alike hZ.alike Aru29.2.1) Aru29.2.2 hinu29 hatu29 (g := (mkF m 20 #[.val (.ref r0), .val (.ref r1), .val (.int (1 : Int32))] [(.int (1 : Int32)), (.ref r1), (.int x1)])) rfl rfl (hb hby djdk_43_13_20)) _ k) ?_
    by_cases hc30 : x1 = y1
    ·
      obtain ⟨clu31, Aru31, qu31, Su31, Ngu31, Hau31, Gau31⟩ := id V0
      refine own_by (W' := (s₁.setTop (mkF m 12 #[.val (.ref r0), .val (.ref r1), .val (.int (2 : Int32))] [(.int clu31.slots.size.toInt32), (.int (2 : Int32))]))) (fun t k => XS.icmpYes X0.here hx rfl (pc0 := 21) (pc' := 26) rfl (hb hby djdk_43_13_21) rfl (teq hc30).1 (by decide) (by decide) (XS.iinc X0.here hx rfl (hb hby djdk_43_13_26) rfl (l' := #[.val (.ref r0), .val (.ref r1), .val (.int (2 : Int32))]) rfl (XS.goto X0.here hx rfl (pc0 := 29) (pc' := 9) rfl (hb hby djdk_43_13_29) (by decide) (by decide) (XS.iloadN X0.here hx rfl (hb hby djdk_43_13_9) rfl (XS.aloadN X0.here hx rfl (hb hby djdk_43_13_10) rfl rfl ((X0.arraylength hx (by rw [e0]; exact Aru31.1) (State.isArrayOf_alike hZ.alike Aru31.2.1) (g := (mkF m 11 #[.val (.ref r0), .val (.ref r1), .val (.int (2 : Int32))] [(.ref r0), (.int (2 : Int32))])) rfl rfl (hb hby djdk_43_13_11)) _ k)))))) ?_
      rw [len_of Su31 Ngu31]
      obtain ⟨clu32, Aru32, qu32, Su32, Ngu32, Hau32, Gau32⟩ := id V0
      have hinu32 : ¬ ((2 : Int32) < 0 ∨ clu32.slots.size ≤ ((2 : Int32)).toNatClampNeg) := inb_of Su32 ⟨by decide, by decide⟩
      have hatu32 : clu32.slots[((2 : Int32)).toNatClampNeg]? = some (.int x2) := Has.at Hau32 hinu32 rfl
      refine own_by (W' := (s₁.setTop (mkF m 20 #[.val (.ref r0), .val (.ref r1), .val (.int (2 : Int32))] [(.int (2 : Int32)), (.ref r1), (.int x2)]))) (fun t k => XS.icmpNo X0.here hx rfl (hb hby djdk_43_13_12) rfl (tlt (by decide : (2 : Int32) < (6 : Int32))).2.1 (XS.aloadN X0.here hx rfl (hb hby djdk_43_13_15) rfl rfl (XS.iloadN X0.here hx rfl (hb hby djdk_43_13_16) rfl ((X0.baloadBytes hx (j := (2 : Int32)) (v := (.int x2)) (by rw [e0]; exact Aru32.1) (State.isArrayOf_alike hZ.alike Aru32.2.1) Aru32.2.2 hinu32 hatu32 (g := (mkF m 17 #[.val (.ref r0), .val (.ref r1), .val (.int (2 : Int32))] [(.int (2 : Int32)), (.ref r0)])) rfl rfl (hb hby djdk_43_13_17)) _ (XS.aloadN X0.here hx rfl (hb hby djdk_43_13_18) rfl rfl (XS.iloadN X0.here hx rfl (hb hby djdk_43_13_19) rfl k)))))) ?_
      obtain ⟨clu33, Aru33, qu33, Su33, Ngu33, Hau33, Gau33⟩ := id V1
      have hinu33 : ¬ ((2 : Int32) < 0 ∨ clu33.slots.size ≤ ((2 : Int32)).toNatClampNeg) := inb_of Su33 ⟨by decide, by decide⟩
      have hatu33 : clu33.slots[((2 : Int32)).toNatClampNeg]? = some (.int y2) := Has.at Hau33 hinu33 rfl
      refine own_by (W' := (s₁.setTop (mkF m 21 #[.val (.ref r0), .val (.ref r1), .val (.int (2 : Int32))] [(.int y2), (.int x2)]))) (fun t k => (X0.baloadBytes hx (j := (2 : Int32)) (v := (.int y2)) (by rw [e0]; exact Aru33.1) (State.isArrayOf_alike hZ.alike Aru33.2.1) Aru33.2.2 hinu33 hatu33 (g := (mkF m 20 #[.val (.ref r0), .val (.ref r1), .val (.int (2 : Int32))] [(.int (2 : Int32)), (.ref r1), (.int x2)])) rfl rfl (hb hby djdk_43_13_20)) _ k) ?_
      by_cases hc34 : x2 = y2
      ·
        obtain ⟨clu35, Aru35, qu35, Su35, Ngu35, Hau35, Gau35⟩ := id V0
        refine own_by (W' := (s₁.setTop (mkF m 12 #[.val (.ref r0), .val (.ref r1), .val (.int (3 : Int32))] [(.int clu35.slots.size.toInt32), (.int (3 : Int32))]))) (fun t k => XS.icmpYes X0.here hx rfl (pc0 := 21) (pc' := 26) rfl (hb hby djdk_43_13_21) rfl (teq hc34).1 (by decide) (by decide) (XS.iinc X0.here hx rfl (hb hby djdk_43_13_26) rfl (l' := #[.val (.ref r0), .val (.ref r1), .val (.int (3 : Int32))]) rfl (XS.goto X0.here hx rfl (pc0 := 29) (pc' := 9) rfl (hb hby djdk_43_13_29) (by decide) (by decide) (XS.iloadN X0.here hx rfl (hb hby djdk_43_13_9) rfl (XS.aloadN X0.here hx rfl (hb hby djdk_43_13_10) rfl rfl ((X0.arraylength hx (by rw [e0]; exact Aru35.1) (State.isArrayOf_alike hZ.alike Aru35.2.1) (g := (mkF m 11 #[.val (.ref r0), .val (.ref r1), .val (.int (3 : Int32))] [(.ref r0), (.int (3 : Int32))])) rfl rfl (hb hby djdk_43_13_11)) _ k)))))) ?_
        rw [len_of Su35 Ngu35]
        obtain ⟨clu36, Aru36, qu36, Su36, Ngu36, Hau36, Gau36⟩ := id V0
        have hinu36 : ¬ ((3 : Int32) < 0 ∨ clu36.slots.size ≤ ((3 : Int32)).toNatClampNeg) := inb_of Su36 ⟨by decide, by decide⟩
        have hatu36 : clu36.slots[((3 : Int32)).toNatClampNeg]? = some (.int x3) := Has.at Hau36 hinu36 rfl
        refine own_by (W' := (s₁.setTop (mkF m 20 #[.val (.ref r0), .val (.ref r1), .val (.int (3 : Int32))] [(.int (3 : Int32)), (.ref r1), (.int x3)]))) (fun t k => XS.icmpNo X0.here hx rfl (hb hby djdk_43_13_12) rfl (tlt (by decide : (3 : Int32) < (6 : Int32))).2.1 (XS.aloadN X0.here hx rfl (hb hby djdk_43_13_15) rfl rfl (XS.iloadN X0.here hx rfl (hb hby djdk_43_13_16) rfl ((X0.baloadBytes hx (j := (3 : Int32)) (v := (.int x3)) (by rw [e0]; exact Aru36.1) (State.isArrayOf_alike hZ.alike Aru36.2.1) Aru36.2.2 hinu36 hatu36 (g := (mkF m 17 #[.val (.ref r0), .val (.ref r1), .val (.int (3 : Int32))] [(.int (3 : Int32)), (.ref r0)])) rfl rfl (hb hby djdk_43_13_17)) _ (XS.aloadN X0.here hx rfl (hb hby djdk_43_13_18) rfl rfl (XS.iloadN X0.here hx rfl (hb hby djdk_43_13_19) rfl k)))))) ?_
        obtain ⟨clu37, Aru37, qu37, Su37, Ngu37, Hau37, Gau37⟩ := id V1
        have hinu37 : ¬ ((3 : Int32) < 0 ∨ clu37.slots.size ≤ ((3 : Int32)).toNatClampNeg) := inb_of Su37 ⟨by decide, by decide⟩
        have hatu37 : clu37.slots[((3 : Int32)).toNatClampNeg]? = some (.int y3) := Has.at Hau37 hinu37 rfl
        refine own_by (W' := (s₁.setTop (mkF m 21 #[.val (.ref r0), .val (.ref r1), .val (.int (3 : Int32))] [(.int y3), (.int x3)]))) (fun t k => (X0.baloadBytes hx (j := (3 : Int32)) (v := (.int y3)) (by rw [e0]; exact Aru37.1) (State.isArrayOf_alike hZ.alike Aru37.2.1) Aru37.2.2 hinu37 hatu37 (g := (mkF m 20 #[.val (.ref r0), .val (.ref r1), .val (.int (3 : Int32))] [(.int (3 : Int32)), (.ref r1), (.int x3)])) rfl rfl (hb hby djdk_43_13_20)) _ k) ?_
        by_cases hc38 : x3 = y3
        ·
          obtain ⟨clu39, Aru39, qu39, Su39, Ngu39, Hau39, Gau39⟩ := id V0
          refine own_by (W' := (s₁.setTop (mkF m 12 #[.val (.ref r0), .val (.ref r1), .val (.int (4 : Int32))] [(.int clu39.slots.size.toInt32), (.int (4 : Int32))]))) (fun t k => XS.icmpYes X0.here hx rfl (pc0 := 21) (pc' := 26) rfl (hb hby djdk_43_13_21) rfl (teq hc38).1 (by decide) (by decide) (XS.iinc X0.here hx rfl (hb hby djdk_43_13_26) rfl (l' := #[.val (.ref r0), .val (.ref r1), .val (.int (4 : Int32))]) rfl (XS.goto X0.here hx rfl (pc0 := 29) (pc' := 9) rfl (hb hby djdk_43_13_29) (by decide) (by decide) (XS.iloadN X0.here hx rfl (hb hby djdk_43_13_9) rfl (XS.aloadN X0.here hx rfl (hb hby djdk_43_13_10) rfl rfl ((X0.arraylength hx (by rw [e0]; exact Aru39.1) (State.isArrayOf_alike hZ.alike Aru39.2.1) (g := (mkF m 11 #[.val (.ref r0), .val (.ref r1), .val (.int (4 : Int32))] [(.ref r0), (.int (4 : Int32))])) rfl rfl (hb hby djdk_43_13_11)) _ k)))))) ?_
          rw [len_of Su39 Ngu39]
          obtain ⟨clu40, Aru40, qu40, Su40, Ngu40, Hau40, Gau40⟩ := id V0
          have hinu40 : ¬ ((4 : Int32) < 0 ∨ clu40.slots.size ≤ ((4 : Int32)).toNatClampNeg) := inb_of Su40 ⟨by decide, by decide⟩
          have hatu40 : clu40.slots[((4 : Int32)).toNatClampNeg]? = some (.int x4) := Has.at Hau40 hinu40 rfl
          refine own_by (W' := (s₁.setTop (mkF m 20 #[.val (.ref r0), .val (.ref r1), .val (.int (4 : Int32))] [(.int (4 : Int32)), (.ref r1), (.int x4)]))) (fun t k => XS.icmpNo X0.here hx rfl (hb hby djdk_43_13_12) rfl (tlt (by decide : (4 : Int32) < (6 : Int32))).2.1 (XS.aloadN X0.here hx rfl (hb hby djdk_43_13_15) rfl rfl (XS.iloadN X0.here hx rfl (hb hby djdk_43_13_16) rfl ((X0.baloadBytes hx (j := (4 : Int32)) (v := (.int x4)) (by rw [e0]; exact Aru40.1) (State.isArrayOf_alike hZ.alike Aru40.2.1) Aru40.2.2 hinu40 hatu40 (g := (mkF m 17 #[.val (.ref r0), .val (.ref r1), .val (.int (4 : Int32))] [(.int (4 : Int32)), (.ref r0)])) rfl rfl (hb hby djdk_43_13_17)) _ (XS.aloadN X0.here hx rfl (hb hby djdk_43_13_18) rfl rfl (XS.iloadN X0.here hx rfl (hb hby djdk_43_13_19) rfl k)))))) ?_
          obtain ⟨clu41, Aru41, qu41, Su41, Ngu41, Hau41, Gau41⟩ := id V1
          have hinu41 : ¬ ((4 : Int32) < 0 ∨ clu41.slots.size ≤ ((4 : Int32)).toNatClampNeg) := inb_of Su41 ⟨by decide, by decide⟩
          have hatu41 : clu41.slots[((4 : Int32)).toNatClampNeg]? = some (.int y4) := Has.at Hau41 hinu41 rfl
          refine own_by (W' := (s₁.setTop (mkF m 21 #[.val (.ref r0), .val (.ref r1), .val (.int (4 : Int32))] [(.int y4), (.int x4)]))) (fun t k => (X0.baloadBytes hx (j := (4 : Int32)) (v := (.int y4)) (by rw [e0]; exact Aru41.1) (State.isArrayOf_alike hZ.alike Aru41.2.1) Aru41.2.2 hinu41 hatu41 (g := (mkF m 20 #[.val (.ref r0), .val (.ref r1), .val (.int (4 : Int32))] [(.int (4 : Int32)), (.ref r1), (.int x4)])) rfl rfl (hb hby djdk_43_13_20)) _ k) ?_
          by_cases hc42 : x4 = y4
          ·
            obtain ⟨clu43, Aru43, qu43, Su43, Ngu43, Hau43, Gau43⟩ := id V0
            refine own_by (W' := (s₁.setTop (mkF m 12 #[.val (.ref r0), .val (.ref r1), .val (.int (5 : Int32))] [(.int clu43.slots.size.toInt32), (.int (5 : Int32))]))) (fun t k => XS.icmpYes X0.here hx rfl (pc0 := 21) (pc' := 26) rfl (hb hby djdk_43_13_21) rfl (teq hc42).1 (by decide) (by decide) (XS.iinc X0.here hx rfl (hb hby djdk_43_13_26) rfl (l' := #[.val (.ref r0), .val (.ref r1), .val (.int (5 : Int32))]) rfl (XS.goto X0.here hx rfl (pc0 := 29) (pc' := 9) rfl (hb hby djdk_43_13_29) (by decide) (by decide) (XS.iloadN X0.here hx rfl (hb hby djdk_43_13_9) rfl (XS.aloadN X0.here hx rfl (hb hby djdk_43_13_10) rfl rfl ((X0.arraylength hx (by rw [e0]; exact Aru43.1) (State.isArrayOf_alike hZ.alike Aru43.2.1) (g := (mkF m 11 #[.val (.ref r0), .val (.ref r1), .val (.int (5 : Int32))] [(.ref r0), (.int (5 : Int32))])) rfl rfl (hb hby djdk_43_13_11)) _ k)))))) ?_
            rw [len_of Su43 Ngu43]
            obtain ⟨clu44, Aru44, qu44, Su44, Ngu44, Hau44, Gau44⟩ := id V0
            have hinu44 : ¬ ((5 : Int32) < 0 ∨ clu44.slots.size ≤ ((5 : Int32)).toNatClampNeg) := inb_of Su44 ⟨by decide, by decide⟩
            have hatu44 : clu44.slots[((5 : Int32)).toNatClampNeg]? = some (.int x5) := Has.at Hau44 hinu44 rfl
            refine own_by (W' := (s₁.setTop (mkF m 20 #[.val (.ref r0), .val (.ref r1), .val (.int (5 : Int32))] [(.int (5 : Int32)), (.ref r1), (.int x5)]))) (fun t k => XS.icmpNo X0.here hx rfl (hb hby djdk_43_13_12) rfl (tlt (by decide : (5 : Int32) < (6 : Int32))).2.1 (XS.aloadN X0.here hx rfl (hb hby djdk_43_13_15) rfl rfl (XS.iloadN X0.here hx rfl (hb hby djdk_43_13_16) rfl ((X0.baloadBytes hx (j := (5 : Int32)) (v := (.int x5)) (by rw [e0]; exact Aru44.1) (State.isArrayOf_alike hZ.alike Aru44.2.1) Aru44.2.2 hinu44 hatu44 (g := (mkF m 17 #[.val (.ref r0), .val (.ref r1), .val (.int (5 : Int32))] [(.int (5 : Int32)), (.ref r0)])) rfl rfl (hb hby djdk_43_13_17)) _ (XS.aloadN X0.here hx rfl (hb hby djdk_43_13_18) rfl rfl (XS.iloadN X0.here hx rfl (hb hby djdk_43_13_19) rfl k)))))) ?_
            obtain ⟨clu45, Aru45, qu45, Su45, Ngu45, Hau45, Gau45⟩ := id V1
            have hinu45 : ¬ ((5 : Int32) < 0 ∨ clu45.slots.size ≤ ((5 : Int32)).toNatClampNeg) := inb_of Su45 ⟨by decide, by decide⟩
            have hatu45 : clu45.slots[((5 : Int32)).toNatClampNeg]? = some (.int y5) := Has.at Hau45 hinu45 rfl
            refine own_by (W' := (s₁.setTop (mkF m 21 #[.val (.ref r0), .val (.ref r1), .val (.int (5 : Int32))] [(.int y5), (.int x5)]))) (fun t k => (X0.baloadBytes hx (j := (5 : Int32)) (v := (.int y5)) (by rw [e0]; exact Aru45.1) (State.isArrayOf_alike hZ.alike Aru45.2.1) Aru45.2.2 hinu45 hatu45 (g := (mkF m 20 #[.val (.ref r0), .val (.ref r1), .val (.int (5 : Int32))] [(.int (5 : Int32)), (.ref r1), (.int x5)])) rfl rfl (hb hby djdk_43_13_20)) _ k) ?_
            by_cases hc46 : x5 = y5
            ·
              obtain ⟨clu47, Aru47, qu47, Su47, Ngu47, Hau47, Gau47⟩ := id V0
              refine own_by (W' := (s₁.setTop (mkF m 12 #[.val (.ref r0), .val (.ref r1), .val (.int (6 : Int32))] [(.int clu47.slots.size.toInt32), (.int (6 : Int32))]))) (fun t k => XS.icmpYes X0.here hx rfl (pc0 := 21) (pc' := 26) rfl (hb hby djdk_43_13_21) rfl (teq hc46).1 (by decide) (by decide) (XS.iinc X0.here hx rfl (hb hby djdk_43_13_26) rfl (l' := #[.val (.ref r0), .val (.ref r1), .val (.int (6 : Int32))]) rfl (XS.goto X0.here hx rfl (pc0 := 29) (pc' := 9) rfl (hb hby djdk_43_13_29) (by decide) (by decide) (XS.iloadN X0.here hx rfl (hb hby djdk_43_13_9) rfl (XS.aloadN X0.here hx rfl (hb hby djdk_43_13_10) rfl rfl ((X0.arraylength hx (by rw [e0]; exact Aru47.1) (State.isArrayOf_alike hZ.alike Aru47.2.1) (g := (mkF m 11 #[.val (.ref r0), .val (.ref r1), .val (.int (6 : Int32))] [(.ref r0), (.int (6 : Int32))])) rfl rfl (hb hby djdk_43_13_11)) _ k)))))) ?_
              rw [len_of Su47 Ngu47]
              obtain ⟨fs, hr, hrun, hended, hW, hsame⟩ := X0.leave (v := some (.int (1 : Int32))) (fun h => by rw [Bd.returns] at h; cases h)
              refine own_by (W' := (s₁.setTop (mkF m 33 #[.val (.ref r0), .val (.ref r1), .val (.int (6 : Int32))] [(.int (1 : Int32))]))) (fun t k => XS.icmpYes X0.here hx rfl (pc0 := 12) (pc' := 32) rfl (hb hby djdk_43_13_12) rfl (flt (by decide : ¬ ((6 : Int32) < (6 : Int32)))).2.1 (by decide) (by decide) (XS.iconst X0.here hx rfl (hb hby djdk_43_13_32) k)) ?_
              refine ⟨_, _, retOut X0 hx Bd.returns rfl (Or.inl ⟨rfl, Or.inr (Or.inl rfl), _, rfl⟩) (hb hby djdk_43_13_33) hr, hrun, hended, _, _, rfl, ?_, ⟨_, rfl⟩, hW, hsame.mono (by decide) (by decide)⟩
              refine ⟨congrArg (fun z => some (Value.int z)) ?_, N0, e0⟩
              exact (own_eqv_t (by simp [hc26, hc30, hc34, hc38, hc42, hc46])).symm
            ·
              obtain ⟨fs, hr, hrun, hended, hW, hsame⟩ := X0.leave (v := some (.int (0 : Int32))) (fun h => by rw [Bd.returns] at h; cases h)
              refine own_by (W' := (s₁.setTop (mkF m 25 #[.val (.ref r0), .val (.ref r1), .val (.int (5 : Int32))] [(.int (0 : Int32))]))) (fun t k => XS.icmpNo X0.here hx rfl (hb hby djdk_43_13_21) rfl (feq hc46).1 (XS.iconst X0.here hx rfl (hb hby djdk_43_13_24) k)) ?_
              refine ⟨_, _, retOut X0 hx Bd.returns rfl (Or.inl ⟨rfl, Or.inr (Or.inl rfl), _, rfl⟩) (hb hby djdk_43_13_25) hr, hrun, hended, _, _, rfl, ?_, ⟨_, rfl⟩, hW, hsame.mono (by decide) (by decide)⟩
              refine ⟨congrArg (fun z => some (Value.int z)) ?_, N0, e0⟩
              exact (own_eqv_f (by simp [hc26, hc30, hc34, hc38, hc42, hc46])).symm
          ·
            obtain ⟨fs, hr, hrun, hended, hW, hsame⟩ := X0.leave (v := some (.int (0 : Int32))) (fun h => by rw [Bd.returns] at h; cases h)
            refine own_by (W' := (s₁.setTop (mkF m 25 #[.val (.ref r0), .val (.ref r1), .val (.int (4 : Int32))] [(.int (0 : Int32))]))) (fun t k => XS.icmpNo X0.here hx rfl (hb hby djdk_43_13_21) rfl (feq hc42).1 (XS.iconst X0.here hx rfl (hb hby djdk_43_13_24) k)) ?_
            refine ⟨_, _, retOut X0 hx Bd.returns rfl (Or.inl ⟨rfl, Or.inr (Or.inl rfl), _, rfl⟩) (hb hby djdk_43_13_25) hr, hrun, hended, _, _, rfl, ?_, ⟨_, rfl⟩, hW, hsame.mono (by decide) (by decide)⟩
            refine ⟨congrArg (fun z => some (Value.int z)) ?_, N0, e0⟩
            exact (own_eqv_f (by simp [hc26, hc30, hc34, hc38, hc42])).symm
        ·
          obtain ⟨fs, hr, hrun, hended, hW, hsame⟩ := X0.leave (v := some (.int (0 : Int32))) (fun h => by rw [Bd.returns] at h; cases h)
          refine own_by (W' := (s₁.setTop (mkF m 25 #[.val (.ref r0), .val (.ref r1), .val (.int (3 : Int32))] [(.int (0 : Int32))]))) (fun t k => XS.icmpNo X0.here hx rfl (hb hby djdk_43_13_21) rfl (feq hc38).1 (XS.iconst X0.here hx rfl (hb hby djdk_43_13_24) k)) ?_
          refine ⟨_, _, retOut X0 hx Bd.returns rfl (Or.inl ⟨rfl, Or.inr (Or.inl rfl), _, rfl⟩) (hb hby djdk_43_13_25) hr, hrun, hended, _, _, rfl, ?_, ⟨_, rfl⟩, hW, hsame.mono (by decide) (by decide)⟩
          refine ⟨congrArg (fun z => some (Value.int z)) ?_, N0, e0⟩
          exact (own_eqv_f (by simp [hc26, hc30, hc34, hc38])).symm
      ·
        obtain ⟨fs, hr, hrun, hended, hW, hsame⟩ := X0.leave (v := some (.int (0 : Int32))) (fun h => by rw [Bd.returns] at h; cases h)
        refine own_by (W' := (s₁.setTop (mkF m 25 #[.val (.ref r0), .val (.ref r1), .val (.int (2 : Int32))] [(.int (0 : Int32))]))) (fun t k => XS.icmpNo X0.here hx rfl (hb hby djdk_43_13_21) rfl (feq hc34).1 (XS.iconst X0.here hx rfl (hb hby djdk_43_13_24) k)) ?_
        refine ⟨_, _, retOut X0 hx Bd.returns rfl (Or.inl ⟨rfl, Or.inr (Or.inl rfl), _, rfl⟩) (hb hby djdk_43_13_25) hr, hrun, hended, _, _, rfl, ?_, ⟨_, rfl⟩, hW, hsame.mono (by decide) (by decide)⟩
        refine ⟨congrArg (fun z => some (Value.int z)) ?_, N0, e0⟩
        exact (own_eqv_f (by simp [hc26, hc30, hc34])).symm
    ·
      obtain ⟨fs, hr, hrun, hended, hW, hsame⟩ := X0.leave (v := some (.int (0 : Int32))) (fun h => by rw [Bd.returns] at h; cases h)
      refine own_by (W' := (s₁.setTop (mkF m 25 #[.val (.ref r0), .val (.ref r1), .val (.int (1 : Int32))] [(.int (0 : Int32))]))) (fun t k => XS.icmpNo X0.here hx rfl (hb hby djdk_43_13_21) rfl (feq hc30).1 (XS.iconst X0.here hx rfl (hb hby djdk_43_13_24) k)) ?_
      refine ⟨_, _, retOut X0 hx Bd.returns rfl (Or.inl ⟨rfl, Or.inr (Or.inl rfl), _, rfl⟩) (hb hby djdk_43_13_25) hr, hrun, hended, _, _, rfl, ?_, ⟨_, rfl⟩, hW, hsame.mono (by decide) (by decide)⟩
      refine ⟨congrArg (fun z => some (Value.int z)) ?_, N0, e0⟩
      exact (own_eqv_f (by simp [hc26, hc30])).symm
  ·
    obtain ⟨fs, hr, hrun, hended, hW, hsame⟩ := X0.leave (v := some (.int (0 : Int32))) (fun h => by rw [Bd.returns] at h; cases h)
    refine own_by (W' := (s₁.setTop (mkF m 25 #[.val (.ref r0), .val (.ref r1), .val (.int (0 : Int32))] [(.int (0 : Int32))]))) (fun t k => XS.icmpNo X0.here hx rfl (hb hby djdk_43_13_21) rfl (feq hc26).1 (XS.iconst X0.here hx rfl (hb hby djdk_43_13_24) k)) ?_
    refine ⟨_, _, retOut X0 hx Bd.returns rfl (Or.inl ⟨rfl, Or.inr (Or.inl rfl), _, rfl⟩) (hb hby djdk_43_13_25) hr, hrun, hended, _, _, rfl, ?_, ⟨_, rfl⟩, hW, hsame.mono (by decide) (by decide)⟩
    refine ⟨congrArg (fun z => some (Value.int z)) ?_, N0, e0⟩
    exact (own_eqv_f (by simp [hc26])).symm
theorem efse6_6 (m : MethodId) (r0 : Addr) (r1 : Addr) : entryFrame m #[(.ref r0), (.ref r1)] 3 = mkF m 0 #[.val (.ref r0), .val (.ref r1), .unset] [] := by first | (simp [entryFrame, mkF, argsToLocals, Value.category]; done) | rfl
def Qse6_6 (Z : State) (r0 : Addr) (r1 : Addr) (x0 : Int32) (x1 : Int32) (x2 : Int32) (x3 : Int32) (x4 : Int32) (x5 : Int32) (y0 : Int32) (y1 : Int32) (y2 : Int32) (y3 : Int32) (y4 : Int32) (y5 : Int32) (wALLOW : Addr) (wFORBID : Addr) (tALLOW : Addr) (tFORBID : Addr) (wV : Addr) (kwV : ClassId) (cs : Int32) (h0 : Heap) (n0 : Nat) (v : Option Value) (h : Heap) (L : List Loc) : Prop := v = some (.int (own_eqv [(.int x0), (.int x1), (.int x2), (.int x3), (.int x4), (.int x5)] [(.int y0), (.int y1), (.int y2), (.int y3), (.int y4), (.int y5)])) ∧ Fr n0 L ∧ h = h0
abbrev own_Kse6_6 (Z : State) (r0 : Addr) (r1 : Addr) (x0 : Int32) (x1 : Int32) (x2 : Int32) (x3 : Int32) (x4 : Int32) (x5 : Int32) (y0 : Int32) (y1 : Int32) (y2 : Int32) (y3 : Int32) (y4 : Int32) (y5 : Int32) (wALLOW : Addr) (wFORBID : Addr) (tALLOW : Addr) (tFORBID : Addr) (wV : Addr) (kwV : ClassId) (cs : Int32) (h0 : Heap) (n0 : Nat) (s : State) : Outcome → State → Prop := fun o U' => ∃ v L, o = .returned v ∧ Qse6_6 Z r0 r1 x0 x1 x2 x3 x4 x5 y0 y1 y2 y3 y4 y5 wALLOW wFORBID tALLOW tFORBID wV kwV cs h0 n0 v U'.heap L ∧ FrameEnd s o U' L ({ frames := 1, cells := 0, slots := 0, locals := 14 } : Room).cells ({ frames := 1, cells := 0, slots := 0, locals := 14 } : Room).slots
set_option maxRecDepth 65536 in
set_option maxHeartbeats 40000000 in
theorem rmse6_6 (l : Launch) (Z : State) (a0 : Array Value) (hw : ∀ d ∈ tables_1, d.before a0 Z = true) (ws : List Jvm.Cond) (r0 : Addr) (r1 : Addr) (x0 : Int32) (x1 : Int32) (x2 : Int32) (x3 : Int32) (x4 : Int32) (x5 : Int32) (y0 : Int32) (y1 : Int32) (y2 : Int32) (y3 : Int32) (y4 : Int32) (y5 : Int32) (wALLOW : Addr) (wFORBID : Addr) (tALLOW : Addr) (tFORBID : Addr) (wV : Addr) (kwV : ClassId) (cs : Int32) (h0 : Heap) (n0 : Nat) (Z0 : n0 ≤ h0.size) (O0 : Old Z n0 h0) (HW : own_Wd Z wALLOW wFORBID tALLOW tFORBID wV kwV cs) (T0 : own_St Z h0 r0 (6 : Int32) [(.int x0), (.int x1), (.int x2), (.int x3), (.int x4), (.int x5)]) (T1 : own_St Z h0 r1 (6 : Int32) [(.int y0), (.int y1), (.int y2), (.int y3), (.int y4), (.int y5)]) :
    MetFree l (⟨"java/lang/String", "equals", "(Ljava/lang/Object;)Z"⟩ : MethodName) (head1 (Jvm.Cond.code (⟨"java/lang/String", "equals", "(Ljava/lang/Object;)Z"⟩ : MethodName) jdk_42_method_66_code 3 (some .boolean) :: ws) ({ frames := 1, cells := 0, slots := 0, locals := 14 } : Room)) (fun a U => a = #[(.ref r0), (.ref r1)] ∧ Z.Warmed39 U.vm ∧ U.heap = h0) (fun _ _ _ _ _ => True) (fun _ U o U' => ∃ v L, o = .returned v ∧ Qse6_6 Z r0 r1 x0 x1 x2 x3 x4 x5 y0 y1 y2 y3 y4 y5 wALLOW wFORBID tALLOW tFORBID wV kwV cs h0 n0 v U'.heap L ∧ FrameEnd U o U' L ({ frames := 1, cells := 0, slots := 0, locals := 14 } : Room).cells ({ frames := 1, cells := 0, slots := 0, locals := 14 } : Room).slots) := by
  refine MetFree.of_bodySF (plainFor_of_name pn_java_lang_String) hisR ?_
  intro p e s m args below meth c s₁ Bd hml0 hP hK
  obtain ⟨rfl, hZ, hh⟩ := hP
  have hx := Bd.exec
  have hby := Bd.bytes
  have hml : c.maxLocals = 3 := hml0
  have hown : s.vm.findClass "java/lang/String" = some m.cls := findClass_of_methodNamed Bd.named
  have hnm := (name_of_methodNamed Bd.named Bd.method).1
  have X0 : Stand p l e ({ frames := 1, cells := 0, slots := 0, locals := 14 } : Room) s m #[(.ref r0), (.ref r1)] below meth c s₁ [] 0 0 := Stand.of_body Bd
  have e0 : s₁.heap = h0 := by rw [← hh, Bd.state]; rfl
  have N0 := Fr.nil n0
  refine own_by (p := p) (e := e) (below := below) (K := own_Kse6_6 Z r0 r1 x0 x1 x2 x3 x4 x5 y0 y1 y2 y3 y4 y5 wALLOW wFORBID tALLOW tFORBID wV kwV cs h0 n0 s) (W' := s₁.setTop (mkF m 0 #[.val (.ref r0), .val (.ref r1), .unset] [])) (fun t k => castTop (efse6_6 m r0 r1) k) ?_
  obtain ⟨E0, C0_, q0_, k0, F0, V0⟩ := id T0
  obtain ⟨E1, C1_, q1_, k1, F1, V1⟩ := id T1
  refine own_by (W' := (s₁.setTop (mkF m 2 #[.val (.ref r0), .val (.ref r1), .unset] [(.ref r1), (.ref r0)]))) (fun t k => XS.aloadN X0.here hx rfl (hb hby djdk_42_66_0) rfl rfl (XS.aloadN X0.here hx rfl (hb hby djdk_42_66_1) rfl rfl k)) ?_
  by_cases hc21 : r0 = r1
  ·
    obtain ⟨fs, hr, hrun, hended, hW, hsame⟩ := X0.leave (v := some (.int (1 : Int32))) (fun h => by rw [Bd.returns] at h; cases h)
    refine own_by (W' := (s₁.setTop (mkF m 6 #[.val (.ref r0), .val (.ref r1), .unset] [(.int (1 : Int32))]))) (fun t k => Jvm.RoadKit.acmp (g := (mkF m 2 #[.val (.ref r0), .val (.ref r1), .unset] [(.ref r1), (.ref r0)])) X0 hx rfl rfl rfl (pc0 := 2) (pc' := 5) (same := true) rfl (hb hby djdk_42_66_2) rfl (decide_eq_true (congrArg Value.ref hc21)) (by decide) (by decide) (XS.iconst X0.here hx rfl (hb hby djdk_42_66_5) k)) ?_
    refine ⟨_, _, retOut X0 hx Bd.returns rfl (Or.inl ⟨rfl, Or.inr (Or.inl rfl), _, rfl⟩) (hb hby djdk_42_66_6) hr, hrun, hended, _, _, rfl, ?_, ⟨_, rfl⟩, hW, hsame.mono (by decide) (by decide)⟩
    refine ⟨congrArg (fun z => some (Value.int z)) ?_, N0, e0⟩
    exact (own_eqv_t (own_St.inj T0 (hc21 ▸ T1) rfl rfl)).symm
  ·
    obtain ⟨T22, X22, e22, st22⟩ := instY X0 hx hZ hown (own_w hw 44) e0 (Ins.self E1) (g := (mkF m 8 #[.val (.ref r0), .val (.ref r1), .unset] [(.ref r1)])) rfl rfl (hb hby djdk_42_66_8)
    obtain ⟨T23, X23, e23, st23⟩ := castY X22 hx hZ hown (own_w hw 44) e22 (Ins.self E1) (g := (mkF m 15 #[.val (.ref r0), .val (.ref r1), .unset] [(.ref r1)])) rfl rfl (hb hby djdk_42_66_15)
    refine own_by (W' := (T23.setTop (mkF m 18 #[.val (.ref r0), .val (.ref r1), .unset] [(.ref r1)]))) (fun t k => Jvm.RoadKit.acmp (g := (mkF m 2 #[.val (.ref r0), .val (.ref r1), .unset] [(.ref r1), (.ref r0)])) X0 hx rfl rfl rfl (pc0 := 2) (pc' := 7) (same := false) rfl (hb hby djdk_42_66_2) rfl (decide_eq_false fun q => hc21 (Value.ref.inj q)) (by decide) (by decide) (XS.aloadN X0.here hx rfl (hb hby djdk_42_66_7) rfl rfl (st22 _ (XS.ifNo X22.here hx rfl (hb hby djdk_42_66_11) rfl ((if0 _ _).trans (feq (by decide : ¬ ((1 : Int32) = (0 : Int32)))).1) (XS.aloadN X22.here hx rfl (hb hby djdk_42_66_14) rfl rfl (st23 _ k)))))) ?_
    obtain ⟨T24, X24, e24, st24⟩ := getS (host := "") X23 hx hZ hown (own_w hw 20) Via.refl e23 (HW.2.2.2.2.2.2.2.2.2.2.2.2.2.1.ext O0.2) (g := (mkF m 19 #[.val (.ref r0), .val (.ref r1), .val (.ref r1)] [])) rfl (hb hby djdk_42_66_19)
    obtain ⟨T25, X25, e25, st25⟩ := getF X24 hx hZ hown (host := "") (Or.inl (own_w hw 32)) Via.refl e24 C0_ (g := (mkF m 26 #[.val (.ref r0), .val (.ref r1), .val (.ref r1)] [(.ref r0)])) rfl rfl (hb hby djdk_42_66_26)
    refine own_by (W' := (T25.setTop (mkF m 30 #[.val (.ref r0), .val (.ref r1), .val (.ref r1)] [(.ref r1), (.int (0 : Int32))]))) (fun t k => XS.astoreN X23.here hx rfl (hb hby djdk_42_66_18) rfl rfl (l' := #[.val (.ref r0), .val (.ref r1), .val (.ref r1)]) rfl (st24 _ (XS.ifNo X24.here hx rfl (hb hby djdk_42_66_22) rfl ((if0 _ _).trans (feq HW.2.2.2.2.2.2.2.2.2.2.2.2.2.2).1) (XS.aloadN X24.here hx rfl (hb hby djdk_42_66_25) rfl rfl (st25 _ (XS.aloadN X25.here hx rfl (hb hby djdk_42_66_29) rfl rfl k)))))) ?_
    obtain ⟨T26, X26, e26, st26⟩ := getF X25 hx hZ hown (host := "") (Or.inl (own_w hw 32)) Via.refl e25 C1_ (g := (mkF m 30 #[.val (.ref r0), .val (.ref r1), .val (.ref r1)] [(.ref r1), (.int (0 : Int32))])) rfl rfl (hb hby djdk_42_66_30)
    obtain ⟨T27, X27, e27, st27⟩ := getF X26 hx hZ hown (host := "") (Or.inl (own_w hw 34)) Via.refl e26 F0 (g := (mkF m 37 #[.val (.ref r0), .val (.ref r1), .val (.ref r1)] [(.ref r0)])) rfl rfl (hb hby djdk_42_66_37)
    obtain ⟨T28, X28, e28, st28⟩ := getF X27 hx hZ hown (host := "") (Or.inl (own_w hw 34)) Via.refl e27 F1 (g := (mkF m 41 #[.val (.ref r0), .val (.ref r1), .val (.ref r1)] [(.ref r1), (.ref q0_)])) rfl rfl (hb hby djdk_42_66_41)
    refine own_by (W' := (T28.setTop (mkF m 44 #[.val (.ref r0), .val (.ref r1), .val (.ref r1)] [(.ref q1_), (.ref q0_)]))) (fun t k => st26 _ (XS.icmpNo X26.here hx rfl (hb hby djdk_42_66_33) rfl (teq (rfl : (0 : Int32) = (0 : Int32))).2 (XS.aloadN X26.here hx rfl (hb hby djdk_42_66_36) rfl rfl (st27 _ (XS.aloadN X27.here hx rfl (hb hby djdk_42_66_40) rfl rfl (st28 _ k)))))) ?_
    obtain ⟨_, _, ⟨T29, L29, k29, n29⟩, -, X29, ⟨Lc29, hQ29, l29, y29, z29⟩, st29⟩ := Jvm.LawKit.callS X28 hx (y := (⟨"java/lang/StringLatin1", "equals", "([B[B)Z"⟩ : MethodName)) hown (mvT hZ (own_w hw 45)) (mvT hZ (own_w hw 46)) (mvT hZ (own_w hw 47)) (mvT hZ (own_w hw 48)) (by decide) (backOf (W := 0) (rmle6_6 l Z a0 hw [] q0_ q1_ k0 k1 x0 x1 x2 x3 x4 x5 y0 y1 y2 y3 y4 y5 h0 n0 Z0 V0 V1) hZ (own_w hw 48) (own_w hw 47) (by decide) (by decide)) (g := (mkF m 44 #[.val (.ref r0), .val (.ref r1), .val (.ref r1)] [(.ref q1_), (.ref q0_)])) rfl (by rw [hml]; rfl) (argsL := [(.ref q0_), (.ref q1_)]) (rest := []) (lenOf pd_6 rfl) rfl (by show 2 * 0 + _ ≤ _; exact Nat.le_of_eq rfl) (hb hby djdk_42_66_44) (fun _ _ => ⟨rfl, e28, (by decide : 0 + 0 ≤ _), (by decide : 0 + 0 ≤ _)⟩)
    dsimp only [Pt.U, Pt.locs, Pt.cells, Pt.slots] at X29 l29 y29 z29 st29 hQ29
    subst l29 y29 z29
    obtain ⟨rfl, N29q, e29⟩ := hQ29
    have N29 := Fr.app N0 N29q
    refine own_by (W' := (T29.setTop (mkF m 47 #[.val (.ref r0), .val (.ref r1), .val (.ref r1)] [(.int (own_eqv [(.int x0), (.int x1), (.int x2), (.int x3), (.int x4), (.int x5)] [(.int y0), (.int y1), (.int y2), (.int y3), (.int y4), (.int y5)]))]))) (fun t k => st29 _ k) ?_
    by_cases hc30 : (own_eqv [(.int x0), (.int x1), (.int x2), (.int x3), (.int x4), (.int x5)] [(.int y0), (.int y1), (.int y2), (.int y3), (.int y4), (.int y5)]) = (0 : Int32)
    ·
      obtain ⟨fs, hr, hrun, hended, hW, hsame⟩ := X29.leave (v := some (.int (0 : Int32))) (fun h => by rw [Bd.returns] at h; cases h)
      refine own_by (W' := (T29.setTop (mkF m 55 #[.val (.ref r0), .val (.ref r1), .val (.ref r1)] [(.int (0 : Int32))]))) (fun t k => XS.ifYes X29.here hx rfl (pc0 := 47) (pc' := 54) rfl (hb hby djdk_42_66_47) rfl ((if0 _ _).trans (teq hc30).1) (by decide) (by decide) (XS.iconst X29.here hx rfl (hb hby djdk_42_66_54) k)) ?_
      refine ⟨_, _, retOut X29 hx Bd.returns rfl (Or.inl ⟨rfl, Or.inr (Or.inl rfl), _, rfl⟩) (hb hby djdk_42_66_55) hr, hrun, hended, _, _, rfl, ?_, ⟨_, rfl⟩, hW, hsame.mono (by decide) (by decide)⟩
      refine ⟨congrArg (fun z => some (Value.int z)) ?_, N29, e29⟩
      exact hc30.symm
    ·
      obtain ⟨fs, hr, hrun, hended, hW, hsame⟩ := X29.leave (v := some (.int (1 : Int32))) (fun h => by rw [Bd.returns] at h; cases h)
      refine own_by (W' := (T29.setTop (mkF m 55 #[.val (.ref r0), .val (.ref r1), .val (.ref r1)] [(.int (1 : Int32))]))) (fun t k => XS.ifNo X29.here hx rfl (hb hby djdk_42_66_47) rfl ((if0 _ _).trans (feq hc30).1) (XS.iconst X29.here hx rfl (hb hby djdk_42_66_50) (XS.goto X29.here hx rfl (pc0 := 51) (pc' := 55) rfl (hb hby djdk_42_66_51) (by decide) (by decide) k))) ?_
      refine ⟨_, _, retOut X29 hx Bd.returns rfl (Or.inl ⟨rfl, Or.inr (Or.inl rfl), _, rfl⟩) (hb hby djdk_42_66_55) hr, hrun, hended, _, _, rfl, ?_, ⟨_, rfl⟩, hW, hsame.mono (by decide) (by decide)⟩
      refine ⟨congrArg (fun z => some (Value.int z)) ?_, N29, e29⟩
      exact (own_eqv_t (own_eqv_1 hc30)).symm
def own_F5 (a : Addr) (bs : List Value) : Value := if own_eqv [(.int (97 : Int32)), (.int (108 : Int32)), (.int (108 : Int32)), (.int (111 : Int32)), (.int (119 : Int32))] bs = 0 then .null else .ref a
theorem own_F5ref (a : Addr) (bs : List Value) : (own_F5 a bs).isRef = true := by
  unfold own_F5
  repeat' split
  all_goals rfl
theorem pd_7 : parseMethodDescriptor "()[Lcom/example/claviger/claviger/engine/Effect;" = some ⟨[], some (.array (.object "com/example/claviger/claviger/engine/Effect"))⟩ := by decide +kernel
theorem pd_8 : parseMethodDescriptor "(Ljava/lang/Object;)Z" = some ⟨[(.object "java/lang/Object")], some .boolean⟩ := by decide +kernel
theorem dprog_8_5_0 : decode prog_8_method_5_code 0 = .ok (.invokestatic 33, 3) := by decide +kernel
theorem dprog_8_5_3 : decode prog_8_method_5_code 3 = .ok (.astore_n 1, 1) := by decide +kernel
theorem dprog_8_5_4 : decode prog_8_method_5_code 4 = .ok (.aload_n 1, 1) := by decide +kernel
theorem dprog_8_5_5 : decode prog_8_method_5_code 5 = .ok (.arraylength, 1) := by decide +kernel
theorem dprog_8_5_6 : decode prog_8_method_5_code 6 = .ok (.istore_n 2, 1) := by decide +kernel
theorem dprog_8_5_7 : decode prog_8_method_5_code 7 = .ok (.iconst 0, 1) := by decide +kernel
theorem dprog_8_5_8 : decode prog_8_method_5_code 8 = .ok (.istore_n 3, 1) := by decide +kernel
theorem dprog_8_5_9 : decode prog_8_method_5_code 9 = .ok (.iload_n 3, 1) := by decide +kernel
theorem dprog_8_5_10 : decode prog_8_method_5_code 10 = .ok (.iload_n 2, 1) := by decide +kernel
theorem dprog_8_5_11 : decode prog_8_method_5_code 11 = .ok (.if_icmp .ge 29, 3) := by decide +kernel
theorem dprog_8_5_14 : decode prog_8_method_5_code 14 = .ok (.aload_n 1, 1) := by decide +kernel
theorem dprog_8_5_15 : decode prog_8_method_5_code 15 = .ok (.iload_n 3, 1) := by decide +kernel
theorem dprog_8_5_16 : decode prog_8_method_5_code 16 = .ok (.aaload, 1) := by decide +kernel
theorem dprog_8_5_17 : decode prog_8_method_5_code 17 = .ok (.astore 4, 2) := by decide +kernel
theorem dprog_8_5_19 : decode prog_8_method_5_code 19 = .ok (.aload 4, 2) := by decide +kernel
theorem dprog_8_5_21 : decode prog_8_method_5_code 21 = .ok (.getfield 29, 3) := by decide +kernel
theorem dprog_8_5_24 : decode prog_8_method_5_code 24 = .ok (.aload_n 0, 1) := by decide +kernel
theorem dprog_8_5_25 : decode prog_8_method_5_code 25 = .ok (.invokevirtual 37, 3) := by decide +kernel
theorem dprog_8_5_28 : decode prog_8_method_5_code 28 = .ok (.ifCond .eq 6, 3) := by decide +kernel
theorem dprog_8_5_31 : decode prog_8_method_5_code 31 = .ok (.aload 4, 2) := by decide +kernel
theorem dprog_8_5_33 : decode prog_8_method_5_code 33 = .ok (.areturn, 1) := by decide +kernel
theorem dprog_8_5_34 : decode prog_8_method_5_code 34 = .ok (.iinc 3 1, 3) := by decide +kernel
theorem dprog_8_5_37 : decode prog_8_method_5_code 37 = .ok (.goto (-28), 3) := by decide +kernel
theorem dprog_8_5_40 : decode prog_8_method_5_code 40 = .ok (.aconst_null, 1) := by decide +kernel
theorem dprog_8_5_41 : decode prog_8_method_5_code 41 = .ok (.areturn, 1) := by decide +kernel
theorem efnm5 (m : MethodId) (r0 : Addr) : entryFrame m #[(.ref r0)] 5 = mkF m 0 #[.val (.ref r0), .unset, .unset, .unset, .unset] [] := by first | (simp [entryFrame, mkF, argsToLocals, Value.category]; done) | rfl
def Qnm5 (Z : State) (r0 : Addr) (x0 : Int32) (x1 : Int32) (x2 : Int32) (x3 : Int32) (x4 : Int32) (wALLOW : Addr) (wFORBID : Addr) (tALLOW : Addr) (tFORBID : Addr) (wV : Addr) (kwV : ClassId) (cs : Int32) (h0 : Heap) (n0 : Nat) (v : Option Value) (h : Heap) (L : List Loc) : Prop := v = some (own_F5 wALLOW [(.int x0), (.int x1), (.int x2), (.int x3), (.int x4)]) ∧ Fr n0 L ∧ Keep h0 h []
abbrev own_Knm5 (Z : State) (r0 : Addr) (x0 : Int32) (x1 : Int32) (x2 : Int32) (x3 : Int32) (x4 : Int32) (wALLOW : Addr) (wFORBID : Addr) (tALLOW : Addr) (tFORBID : Addr) (wV : Addr) (kwV : ClassId) (cs : Int32) (h0 : Heap) (n0 : Nat) (s : State) : Outcome → State → Prop := fun o U' => ∃ v L, o = .returned v ∧ Qnm5 Z r0 x0 x1 x2 x3 x4 wALLOW wFORBID tALLOW tFORBID wV kwV cs h0 n0 v U'.heap L ∧ FrameEnd s o U' L ({ frames := 2, cells := 1, slots := 2, locals := 28 } : Room).cells ({ frames := 2, cells := 1, slots := 2, locals := 28 } : Room).slots
set_option maxRecDepth 65536 in
set_option maxHeartbeats 40000000 in
theorem rmnm5 (l : Launch) (Z : State) (a0 : Array Value) (hw : ∀ d ∈ tables_1, d.before a0 Z = true) (ws : List Jvm.Cond) (r0 : Addr) (x0 : Int32) (x1 : Int32) (x2 : Int32) (x3 : Int32) (x4 : Int32) (wALLOW : Addr) (wFORBID : Addr) (tALLOW : Addr) (tFORBID : Addr) (wV : Addr) (kwV : ClassId) (cs : Int32) (h0 : Heap) (n0 : Nat) (Z0 : n0 ≤ h0.size) (O0 : Old Z n0 h0) (HW : own_Wd Z wALLOW wFORBID tALLOW tFORBID wV kwV cs) (T0 : own_St Z h0 r0 (5 : Int32) [(.int x0), (.int x1), (.int x2), (.int x3), (.int x4)]) :
    MetFree l (⟨"com/example/claviger/claviger/engine/Effect", "named", "(Ljava/lang/String;)Lcom/example/claviger/claviger/engine/Effect;"⟩ : MethodName) (head1 (Jvm.Cond.code (⟨"com/example/claviger/claviger/engine/Effect", "named", "(Ljava/lang/String;)Lcom/example/claviger/claviger/engine/Effect;"⟩ : MethodName) prog_8_method_5_code 5 (some (.object "com/example/claviger/claviger/engine/Effect")) :: ws) ({ frames := 2, cells := 1, slots := 2, locals := 28 } : Room)) (fun a U => a = #[(.ref r0)] ∧ Z.Warmed39 U.vm ∧ U.heap = h0) (fun _ _ _ _ _ => True) (fun _ U o U' => ∃ v L, o = .returned v ∧ Qnm5 Z r0 x0 x1 x2 x3 x4 wALLOW wFORBID tALLOW tFORBID wV kwV cs h0 n0 v U'.heap L ∧ FrameEnd U o U' L ({ frames := 2, cells := 1, slots := 2, locals := 28 } : Room).cells ({ frames := 2, cells := 1, slots := 2, locals := 28 } : Room).slots) := by
  refine MetFree.of_bodySF (plainFor_of_name pn_com_example_claviger_claviger_engine_Effect) hisR ?_
  intro p e s m args below meth c s₁ Bd hml0 hP hK
  obtain ⟨rfl, hZ, hh⟩ := hP
  have hx := Bd.exec
  have hby := Bd.bytes
  have hml : c.maxLocals = 5 := hml0
  have hown : s.vm.findClass "com/example/claviger/claviger/engine/Effect" = some m.cls := findClass_of_methodNamed Bd.named
  have hnm := (name_of_methodNamed Bd.named Bd.method).1
  have X0 : Stand p l e ({ frames := 2, cells := 1, slots := 2, locals := 28 } : Room) s m #[(.ref r0)] below meth c s₁ [] 0 0 := Stand.of_body Bd
  have e0 : s₁.heap = h0 := by rw [← hh, Bd.state]; rfl
  have N0 := Fr.nil n0
  refine own_by (p := p) (e := e) (below := below) (K := own_Knm5 Z r0 x0 x1 x2 x3 x4 wALLOW wFORBID tALLOW tFORBID wV kwV cs h0 n0 s) (W' := s₁.setTop (mkF m 0 #[.val (.ref r0), .unset, .unset, .unset, .unset] [])) (fun t k => castTop (efnm5 m r0) k) ?_
  obtain ⟨_, _, ⟨T21, L21, k21, n21⟩, -, X21, ⟨Lc21, hQ21, l21, y21, z21⟩, st21⟩ := Jvm.LawKit.callS X0 hx (y := (⟨"com/example/claviger/claviger/engine/Effect", "values", "()[Lcom/example/claviger/claviger/engine/Effect;"⟩ : MethodName)) hown (mvT hZ (own_w hw 55)) (mvT hZ (own_w hw 56)) (mvT hZ (own_w hw 50)) (mvT hZ (own_w hw 57)) (by decide) (backOf (W := 0) (rmV l Z a0 hw [] wALLOW wFORBID tALLOW tFORBID wV kwV cs h0 n0 Z0 O0 HW) hZ (own_w hw 57) (own_w hw 50) (by decide) (by decide)) (g := (mkF m 0 #[.val (.ref r0), .unset, .unset, .unset, .unset] [])) rfl (by rw [hml]; rfl) (argsL := []) (rest := []) (lenOf pd_7 rfl) rfl (by show 2 * 0 + _ ≤ _; exact Nat.le_of_eq rfl) (hb hby dprog_8_5_0) (fun _ _ => ⟨rfl, e0, (by decide : 0 + 1 ≤ _), (by decide : 0 + 2 ≤ _)⟩)
  dsimp only [Pt.U, Pt.locs, Pt.cells, Pt.slots] at X21 l21 y21 z21 st21 hQ21
  subst l21 y21 z21
  obtain ⟨fb21, rfl, N21q, Kq21, Vq21⟩ := hQ21
  have O21 := Old.keep O0 Kq21 all0
  have K21 := Keep.trans (Keep.refl h0 []) Kq21 all0
  have N21 := Fr.app N0 N21q
  obtain ⟨clu22, Aru22, qu22, Su22, Ngu22, Hau22, Gau22⟩ := id Vq21
  refine own_by (W' := (T21.setTop (mkF m 6 #[.val (.ref r0), .val (.ref fb21), .unset, .unset, .unset] [(.int clu22.slots.size.toInt32)]))) (fun t k => st21 _ (XS.astoreN X21.here hx rfl (hb hby dprog_8_5_3) rfl rfl (l' := #[.val (.ref r0), .val (.ref fb21), .unset, .unset, .unset]) rfl (XS.aloadN X21.here hx rfl (hb hby dprog_8_5_4) rfl rfl ((X21.arraylength hx Aru22.1 (State.isArrayOf_alike hZ.alike Aru22.2.1) (g := (mkF m 5 #[.val (.ref r0), .val (.ref fb21), .unset, .unset, .unset] [(.ref fb21)])) rfl rfl (hb hby dprog_8_5_5)) _ k)))) ?_
  rw [len_of Su22 Ngu22]
  refine own_by (W' := (T21.setTop (mkF m 14 #[.val (.ref r0), .val (.ref fb21), .val (.int (2 : Int32)), .val (.int (0 : Int32)), .unset] []))) (fun t k => XS.istoreN X21.here hx rfl (hb hby dprog_8_5_6) rfl (l' := #[.val (.ref r0), .val (.ref fb21), .val (.int (2 : Int32)), .unset, .unset]) rfl (XS.iconst X21.here hx rfl (hb hby dprog_8_5_7) (XS.istoreN X21.here hx rfl (hb hby dprog_8_5_8) rfl (l' := #[.val (.ref r0), .val (.ref fb21), .val (.int (2 : Int32)), .val (.int (0 : Int32)), .unset]) rfl (XS.iloadN X21.here hx rfl (hb hby dprog_8_5_9) rfl (XS.iloadN X21.here hx rfl (hb hby dprog_8_5_10) rfl (XS.icmpNo X21.here hx rfl (hb hby dprog_8_5_11) rfl (tlt (by decide : (0 : Int32) < (2 : Int32))).2.1 k)))))) ?_
  obtain ⟨clu23, Aru23, qu23, Su23, Ngu23, Hau23, Gau23⟩ := id Vq21
  have hinu23 : ¬ ((0 : Int32) < 0 ∨ clu23.slots.size ≤ ((0 : Int32)).toNatClampNeg) := inb_of Su23 ⟨by decide, by decide⟩
  have hatu23 : clu23.slots[((0 : Int32)).toNatClampNeg]? = some (.ref wALLOW) := Has.at Hau23 hinu23 rfl
  obtain ⟨T24, X24, e24, st24⟩ := getF X21 hx hZ hown (host := "") (Or.inl (own_w hw 71)) Via.refl rfl (HW.2.2.2.2.1.ext O21.2) (g := (mkF m 21 #[.val (.ref r0), .val (.ref fb21), .val (.int (2 : Int32)), .val (.int (0 : Int32)), .val (.ref wALLOW)] [(.ref wALLOW)])) rfl rfl (hb hby dprog_8_5_21)
  refine own_by (W' := (T24.setTop (mkF m 24 #[.val (.ref r0), .val (.ref fb21), .val (.int (2 : Int32)), .val (.int (0 : Int32)), .val (.ref wALLOW)] [(.ref tALLOW)]))) (fun t k => XS.aloadN X21.here hx rfl (hb hby dprog_8_5_14) rfl rfl (XS.iloadN X21.here hx rfl (hb hby dprog_8_5_15) rfl ((X21.aaload hx (j := (0 : Int32)) (v := (.ref wALLOW)) Aru23.1 (State.isArrayOf_alike hZ.alike Aru23.2.1) rfl Aru23.2.2 hinu23 hatu23 (g := (mkF m 16 #[.val (.ref r0), .val (.ref fb21), .val (.int (2 : Int32)), .val (.int (0 : Int32)), .unset] [(.int (0 : Int32)), (.ref fb21)])) rfl rfl (hb hby dprog_8_5_16)) _ (XS.astore X21.here hx rfl (hb hby dprog_8_5_17) rfl rfl (l' := #[.val (.ref r0), .val (.ref fb21), .val (.int (2 : Int32)), .val (.int (0 : Int32)), .val (.ref wALLOW)]) rfl (XS.aload X21.here hx rfl (hb hby dprog_8_5_19) rfl rfl (st24 _ k)))))) ?_
  obtain ⟨cq25, kq25, q25a, q25b, q25c⟩ := isOf hZ e24 (HW.2.2.2.2.2.2.1.ext O21.2)
  obtain ⟨_, _, ⟨T25, L25, k25, n25⟩, -, X25, ⟨Lc25, hQ25, l25, y25, z25⟩, st25⟩ := X24.virtualBack hx (y := (⟨"java/lang/String", "equals", "(Ljava/lang/Object;)Z"⟩ : MethodName)) (z := (⟨"java/lang/String", "equals", "(Ljava/lang/Object;)Z"⟩ : MethodName)) hown (mvT hZ (own_w hw 73)) (mvT hZ (own_w hw 40)) (notFace_of_selects (args := #[]) (mvT hZ (own_w hw 42))) (mvT hZ (own_w hw 42)) (mvT hZ (own_w hw 41)) (by decide) (backOf (W := 0) (rmse5_5 l Z a0 hw [] tALLOW r0 (97 : Int32) (108 : Int32) (108 : Int32) (111 : Int32) (119 : Int32) x0 x1 x2 x3 x4 wALLOW wFORBID tALLOW tFORBID wV kwV cs T21.heap n0 (own_le O21) O21 HW (HW.2.2.2.2.2.1.ext O21.2) (T0.keep0 Kq21)) hZ (own_w hw 43) (own_w hw 9) (by decide) (by decide)) q25a q25c (g := (mkF m 25 #[.val (.ref r0), .val (.ref fb21), .val (.int (2 : Int32)), .val (.int (0 : Int32)), .val (.ref wALLOW)] [(.ref r0), (.ref tALLOW)])) rfl (by rw [hml]; rfl) (Steps.refl _) (argsL := [(.ref r0)]) (rest := []) (lenOf pd_8 rfl) rfl (by show 2 * 0 + _ ≤ _; exact Nat.le_of_eq rfl) (hb hby dprog_8_5_25) (fun _ _ => ⟨rfl, e24, (by decide : 1 + 0 ≤ _), (by decide : 2 + 0 ≤ _)⟩)
  dsimp only [Pt.U, Pt.locs, Pt.cells, Pt.slots] at X25 l25 y25 z25 st25 hQ25
  subst l25 y25 z25
  obtain ⟨rfl, N25q, e25⟩ := hQ25
  have N25 := Fr.app N21 N25q
  refine own_by (W' := (T25.setTop (mkF m 28 #[.val (.ref r0), .val (.ref fb21), .val (.int (2 : Int32)), .val (.int (0 : Int32)), .val (.ref wALLOW)] [(.int (own_eqv [(.int (97 : Int32)), (.int (108 : Int32)), (.int (108 : Int32)), (.int (111 : Int32)), (.int (119 : Int32))] [(.int x0), (.int x1), (.int x2), (.int x3), (.int x4)]))]))) (fun t k => XS.aloadN X24.here hx rfl (hb hby dprog_8_5_24) rfl rfl (Steps.trans st25 k)) ?_
  by_cases hc26 : (own_eqv [(.int (97 : Int32)), (.int (108 : Int32)), (.int (108 : Int32)), (.int (111 : Int32)), (.int (119 : Int32))] [(.int x0), (.int x1), (.int x2), (.int x3), (.int x4)]) = (0 : Int32)
  ·
    refine own_by (W' := (T25.setTop (mkF m 14 #[.val (.ref r0), .val (.ref fb21), .val (.int (2 : Int32)), .val (.int (1 : Int32)), .val (.ref wALLOW)] []))) (fun t k => XS.ifYes X25.here hx rfl (pc0 := 28) (pc' := 34) rfl (hb hby dprog_8_5_28) rfl ((if0 _ _).trans (teq hc26).1) (by decide) (by decide) (XS.iinc X25.here hx rfl (hb hby dprog_8_5_34) rfl (l' := #[.val (.ref r0), .val (.ref fb21), .val (.int (2 : Int32)), .val (.int (1 : Int32)), .val (.ref wALLOW)]) rfl (XS.goto X25.here hx rfl (pc0 := 37) (pc' := 9) rfl (hb hby dprog_8_5_37) (by decide) (by decide) (XS.iloadN X25.here hx rfl (hb hby dprog_8_5_9) rfl (XS.iloadN X25.here hx rfl (hb hby dprog_8_5_10) rfl (XS.icmpNo X25.here hx rfl (hb hby dprog_8_5_11) rfl (tlt (by decide : (1 : Int32) < (2 : Int32))).2.1 k)))))) ?_
    obtain ⟨clu27, Aru27, qu27, Su27, Ngu27, Hau27, Gau27⟩ := id Vq21
    have hinu27 : ¬ ((1 : Int32) < 0 ∨ clu27.slots.size ≤ ((1 : Int32)).toNatClampNeg) := inb_of Su27 ⟨by decide, by decide⟩
    have hatu27 : clu27.slots[((1 : Int32)).toNatClampNeg]? = some (.ref wFORBID) := Has.at Hau27 hinu27 rfl
    obtain ⟨T28, X28, e28, st28⟩ := getF X25 hx hZ hown (host := "") (Or.inl (own_w hw 71)) Via.refl e25 (HW.2.2.2.2.2.2.2.1.ext O21.2) (g := (mkF m 21 #[.val (.ref r0), .val (.ref fb21), .val (.int (2 : Int32)), .val (.int (1 : Int32)), .val (.ref wFORBID)] [(.ref wFORBID)])) rfl rfl (hb hby dprog_8_5_21)
    refine own_by (W' := (T28.setTop (mkF m 24 #[.val (.ref r0), .val (.ref fb21), .val (.int (2 : Int32)), .val (.int (1 : Int32)), .val (.ref wFORBID)] [(.ref tFORBID)]))) (fun t k => XS.aloadN X25.here hx rfl (hb hby dprog_8_5_14) rfl rfl (XS.iloadN X25.here hx rfl (hb hby dprog_8_5_15) rfl ((X25.aaload hx (j := (1 : Int32)) (v := (.ref wFORBID)) (by rw [e25]; exact Aru27.1) (State.isArrayOf_alike hZ.alike Aru27.2.1) rfl Aru27.2.2 hinu27 hatu27 (g := (mkF m 16 #[.val (.ref r0), .val (.ref fb21), .val (.int (2 : Int32)), .val (.int (1 : Int32)), .val (.ref wALLOW)] [(.int (1 : Int32)), (.ref fb21)])) rfl rfl (hb hby dprog_8_5_16)) _ (XS.astore X25.here hx rfl (hb hby dprog_8_5_17) rfl rfl (l' := #[.val (.ref r0), .val (.ref fb21), .val (.int (2 : Int32)), .val (.int (1 : Int32)), .val (.ref wFORBID)]) rfl (XS.aload X25.here hx rfl (hb hby dprog_8_5_19) rfl rfl (st28 _ k)))))) ?_
    obtain ⟨cq29, kq29, q29a, q29b, q29c⟩ := isOf hZ e28 (HW.2.2.2.2.2.2.2.2.2.1.ext O21.2)
    obtain ⟨_, _, ⟨T29, L29, k29, n29⟩, -, X29, ⟨Lc29, hQ29, l29, y29, z29⟩, st29⟩ := X28.virtualBack hx (y := (⟨"java/lang/String", "equals", "(Ljava/lang/Object;)Z"⟩ : MethodName)) (z := (⟨"java/lang/String", "equals", "(Ljava/lang/Object;)Z"⟩ : MethodName)) hown (mvT hZ (own_w hw 73)) (mvT hZ (own_w hw 40)) (notFace_of_selects (args := #[]) (mvT hZ (own_w hw 42))) (mvT hZ (own_w hw 42)) (mvT hZ (own_w hw 41)) (by decide) (backOf (W := 0) (rmseN l Z a0 hw [] tFORBID r0 (6 : Int32) (5 : Int32) [(.int (102 : Int32)), (.int (111 : Int32)), (.int (114 : Int32)), (.int (98 : Int32)), (.int (105 : Int32)), (.int (100 : Int32))] [(.int x0), (.int x1), (.int x2), (.int x3), (.int x4)] wALLOW wFORBID tALLOW tFORBID wV kwV cs T21.heap n0 (own_le O21) O21 HW (HW.2.2.2.2.2.2.2.2.1.ext O21.2) (T0.keep0 Kq21) (by decide)) hZ (own_w hw 43) (own_w hw 9) (by decide) (by decide)) q29a q29c (g := (mkF m 25 #[.val (.ref r0), .val (.ref fb21), .val (.int (2 : Int32)), .val (.int (1 : Int32)), .val (.ref wFORBID)] [(.ref r0), (.ref tFORBID)])) rfl (by rw [hml]; rfl) (Steps.refl _) (argsL := [(.ref r0)]) (rest := []) (lenOf pd_8 rfl) rfl (by show 2 * 0 + _ ≤ _; exact Nat.le_of_eq rfl) (hb hby dprog_8_5_25) (fun _ _ => ⟨rfl, e28, (by decide : 1 + 0 ≤ _), (by decide : 2 + 0 ≤ _)⟩)
    dsimp only [Pt.U, Pt.locs, Pt.cells, Pt.slots] at X29 l29 y29 z29 st29 hQ29
    subst l29 y29 z29
    obtain ⟨rfl, N29q, e29⟩ := hQ29
    have N29 := Fr.app N25 N29q
    refine own_by (W' := (T29.setTop (mkF m 10 #[.val (.ref r0), .val (.ref fb21), .val (.int (2 : Int32)), .val (.int (2 : Int32)), .val (.ref wFORBID)] [(.int (2 : Int32))]))) (fun t k => XS.aloadN X28.here hx rfl (hb hby dprog_8_5_24) rfl rfl (Steps.trans st29 (XS.ifYes X29.here hx rfl (pc0 := 28) (pc' := 34) rfl (hb hby dprog_8_5_28) rfl ((if0 _ _).trans (teq (rfl : (0 : Int32) = (0 : Int32))).1) (by decide) (by decide) (XS.iinc X29.here hx rfl (hb hby dprog_8_5_34) rfl (l' := #[.val (.ref r0), .val (.ref fb21), .val (.int (2 : Int32)), .val (.int (2 : Int32)), .val (.ref wFORBID)]) rfl (XS.goto X29.here hx rfl (pc0 := 37) (pc' := 9) rfl (hb hby dprog_8_5_37) (by decide) (by decide) (XS.iloadN X29.here hx rfl (hb hby dprog_8_5_9) rfl k)))))) ?_
    obtain ⟨fs, hr, hrun, hended, hW, hsame⟩ := X29.leave (v := some .null) (fun h => by rw [Bd.returns] at h; cases h)
    refine own_by (W' := (T29.setTop (mkF m 41 #[.val (.ref r0), .val (.ref fb21), .val (.int (2 : Int32)), .val (.int (2 : Int32)), .val (.ref wFORBID)] [.null]))) (fun t k => XS.iloadN X29.here hx rfl (hb hby dprog_8_5_10) rfl (XS.icmpYes X29.here hx rfl (pc0 := 11) (pc' := 40) rfl (hb hby dprog_8_5_11) rfl (flt (by decide : ¬ ((2 : Int32) < (2 : Int32)))).2.1 (by decide) (by decide) (XS.aconstNull X29.here hx rfl (hb hby dprog_8_5_40) k))) ?_
    refine ⟨_, _, retOut X29 hx Bd.returns rfl (Or.inr (Or.inr (Or.inr (Or.inr ⟨rfl, rfl, rfl⟩)))) (hb hby dprog_8_5_41) hr, hrun, hended, _, _, rfl, ?_, ⟨_, rfl⟩, hW, hsame.mono (by decide) (by decide)⟩
    show Qnm5 Z r0 x0 x1 x2 x3 x4 wALLOW wFORBID tALLOW tFORBID wV kwV cs h0 n0 _ T29.heap _
    rw [e29]
    refine ⟨congrArg some ?_, N29, K21⟩
    rw [own_F5, if_pos hc26]
  ·
    obtain ⟨fs, hr, hrun, hended, hW, hsame⟩ := X25.leave (v := some (.ref wALLOW)) (fun h => by rw [Bd.returns] at h; cases h)
    refine own_by (W' := (T25.setTop (mkF m 33 #[.val (.ref r0), .val (.ref fb21), .val (.int (2 : Int32)), .val (.int (0 : Int32)), .val (.ref wALLOW)] [(.ref wALLOW)]))) (fun t k => XS.ifNo X25.here hx rfl (hb hby dprog_8_5_28) rfl ((if0 _ _).trans (feq hc26).1) (XS.aload X25.here hx rfl (hb hby dprog_8_5_31) rfl rfl k)) ?_
    refine ⟨_, _, retOut X25 hx Bd.returns rfl (Or.inr (Or.inr (Or.inr (Or.inr ⟨rfl, rfl, rfl⟩)))) (hb hby dprog_8_5_33) hr, hrun, hended, _, _, rfl, ?_, ⟨_, rfl⟩, hW, hsame.mono (by decide) (by decide)⟩
    show Qnm5 Z r0 x0 x1 x2 x3 x4 wALLOW wFORBID tALLOW tFORBID wV kwV cs h0 n0 _ T25.heap _
    rw [e25]
    refine ⟨congrArg some ?_, N25, K21⟩
    rw [own_F5, if_neg hc26]
def own_F6 (a : Addr) (bs : List Value) : Value := if own_eqv [(.int (102 : Int32)), (.int (111 : Int32)), (.int (114 : Int32)), (.int (98 : Int32)), (.int (105 : Int32)), (.int (100 : Int32))] bs = 0 then .null else .ref a
theorem own_F6ref (a : Addr) (bs : List Value) : (own_F6 a bs).isRef = true := by
  unfold own_F6
  repeat' split
  all_goals rfl
theorem efnm6 (m : MethodId) (r0 : Addr) : entryFrame m #[(.ref r0)] 5 = mkF m 0 #[.val (.ref r0), .unset, .unset, .unset, .unset] [] := by first | (simp [entryFrame, mkF, argsToLocals, Value.category]; done) | rfl
def Qnm6 (Z : State) (r0 : Addr) (x0 : Int32) (x1 : Int32) (x2 : Int32) (x3 : Int32) (x4 : Int32) (x5 : Int32) (wALLOW : Addr) (wFORBID : Addr) (tALLOW : Addr) (tFORBID : Addr) (wV : Addr) (kwV : ClassId) (cs : Int32) (h0 : Heap) (n0 : Nat) (v : Option Value) (h : Heap) (L : List Loc) : Prop := v = some (own_F6 wFORBID [(.int x0), (.int x1), (.int x2), (.int x3), (.int x4), (.int x5)]) ∧ Fr n0 L ∧ Keep h0 h []
abbrev own_Knm6 (Z : State) (r0 : Addr) (x0 : Int32) (x1 : Int32) (x2 : Int32) (x3 : Int32) (x4 : Int32) (x5 : Int32) (wALLOW : Addr) (wFORBID : Addr) (tALLOW : Addr) (tFORBID : Addr) (wV : Addr) (kwV : ClassId) (cs : Int32) (h0 : Heap) (n0 : Nat) (s : State) : Outcome → State → Prop := fun o U' => ∃ v L, o = .returned v ∧ Qnm6 Z r0 x0 x1 x2 x3 x4 x5 wALLOW wFORBID tALLOW tFORBID wV kwV cs h0 n0 v U'.heap L ∧ FrameEnd s o U' L ({ frames := 2, cells := 1, slots := 2, locals := 28 } : Room).cells ({ frames := 2, cells := 1, slots := 2, locals := 28 } : Room).slots
set_option maxRecDepth 65536 in
set_option maxHeartbeats 40000000 in
theorem rmnm6 (l : Launch) (Z : State) (a0 : Array Value) (hw : ∀ d ∈ tables_1, d.before a0 Z = true) (ws : List Jvm.Cond) (r0 : Addr) (x0 : Int32) (x1 : Int32) (x2 : Int32) (x3 : Int32) (x4 : Int32) (x5 : Int32) (wALLOW : Addr) (wFORBID : Addr) (tALLOW : Addr) (tFORBID : Addr) (wV : Addr) (kwV : ClassId) (cs : Int32) (h0 : Heap) (n0 : Nat) (Z0 : n0 ≤ h0.size) (O0 : Old Z n0 h0) (HW : own_Wd Z wALLOW wFORBID tALLOW tFORBID wV kwV cs) (T0 : own_St Z h0 r0 (6 : Int32) [(.int x0), (.int x1), (.int x2), (.int x3), (.int x4), (.int x5)]) :
    MetFree l (⟨"com/example/claviger/claviger/engine/Effect", "named", "(Ljava/lang/String;)Lcom/example/claviger/claviger/engine/Effect;"⟩ : MethodName) (head1 (Jvm.Cond.code (⟨"com/example/claviger/claviger/engine/Effect", "named", "(Ljava/lang/String;)Lcom/example/claviger/claviger/engine/Effect;"⟩ : MethodName) prog_8_method_5_code 5 (some (.object "com/example/claviger/claviger/engine/Effect")) :: ws) ({ frames := 2, cells := 1, slots := 2, locals := 28 } : Room)) (fun a U => a = #[(.ref r0)] ∧ Z.Warmed39 U.vm ∧ U.heap = h0) (fun _ _ _ _ _ => True) (fun _ U o U' => ∃ v L, o = .returned v ∧ Qnm6 Z r0 x0 x1 x2 x3 x4 x5 wALLOW wFORBID tALLOW tFORBID wV kwV cs h0 n0 v U'.heap L ∧ FrameEnd U o U' L ({ frames := 2, cells := 1, slots := 2, locals := 28 } : Room).cells ({ frames := 2, cells := 1, slots := 2, locals := 28 } : Room).slots) := by
  refine MetFree.of_bodySF (plainFor_of_name pn_com_example_claviger_claviger_engine_Effect) hisR ?_
  intro p e s m args below meth c s₁ Bd hml0 hP hK
  obtain ⟨rfl, hZ, hh⟩ := hP
  have hx := Bd.exec
  have hby := Bd.bytes
  have hml : c.maxLocals = 5 := hml0
  have hown : s.vm.findClass "com/example/claviger/claviger/engine/Effect" = some m.cls := findClass_of_methodNamed Bd.named
  have hnm := (name_of_methodNamed Bd.named Bd.method).1
  have X0 : Stand p l e ({ frames := 2, cells := 1, slots := 2, locals := 28 } : Room) s m #[(.ref r0)] below meth c s₁ [] 0 0 := Stand.of_body Bd
  have e0 : s₁.heap = h0 := by rw [← hh, Bd.state]; rfl
  have N0 := Fr.nil n0
  refine own_by (p := p) (e := e) (below := below) (K := own_Knm6 Z r0 x0 x1 x2 x3 x4 x5 wALLOW wFORBID tALLOW tFORBID wV kwV cs h0 n0 s) (W' := s₁.setTop (mkF m 0 #[.val (.ref r0), .unset, .unset, .unset, .unset] [])) (fun t k => castTop (efnm6 m r0) k) ?_
  obtain ⟨_, _, ⟨T21, L21, k21, n21⟩, -, X21, ⟨Lc21, hQ21, l21, y21, z21⟩, st21⟩ := Jvm.LawKit.callS X0 hx (y := (⟨"com/example/claviger/claviger/engine/Effect", "values", "()[Lcom/example/claviger/claviger/engine/Effect;"⟩ : MethodName)) hown (mvT hZ (own_w hw 55)) (mvT hZ (own_w hw 56)) (mvT hZ (own_w hw 50)) (mvT hZ (own_w hw 57)) (by decide) (backOf (W := 0) (rmV l Z a0 hw [] wALLOW wFORBID tALLOW tFORBID wV kwV cs h0 n0 Z0 O0 HW) hZ (own_w hw 57) (own_w hw 50) (by decide) (by decide)) (g := (mkF m 0 #[.val (.ref r0), .unset, .unset, .unset, .unset] [])) rfl (by rw [hml]; rfl) (argsL := []) (rest := []) (lenOf pd_7 rfl) rfl (by show 2 * 0 + _ ≤ _; exact Nat.le_of_eq rfl) (hb hby dprog_8_5_0) (fun _ _ => ⟨rfl, e0, (by decide : 0 + 1 ≤ _), (by decide : 0 + 2 ≤ _)⟩)
  dsimp only [Pt.U, Pt.locs, Pt.cells, Pt.slots] at X21 l21 y21 z21 st21 hQ21
  subst l21 y21 z21
  obtain ⟨fb21, rfl, N21q, Kq21, Vq21⟩ := hQ21
  have O21 := Old.keep O0 Kq21 all0
  have K21 := Keep.trans (Keep.refl h0 []) Kq21 all0
  have N21 := Fr.app N0 N21q
  obtain ⟨clu22, Aru22, qu22, Su22, Ngu22, Hau22, Gau22⟩ := id Vq21
  refine own_by (W' := (T21.setTop (mkF m 6 #[.val (.ref r0), .val (.ref fb21), .unset, .unset, .unset] [(.int clu22.slots.size.toInt32)]))) (fun t k => st21 _ (XS.astoreN X21.here hx rfl (hb hby dprog_8_5_3) rfl rfl (l' := #[.val (.ref r0), .val (.ref fb21), .unset, .unset, .unset]) rfl (XS.aloadN X21.here hx rfl (hb hby dprog_8_5_4) rfl rfl ((X21.arraylength hx Aru22.1 (State.isArrayOf_alike hZ.alike Aru22.2.1) (g := (mkF m 5 #[.val (.ref r0), .val (.ref fb21), .unset, .unset, .unset] [(.ref fb21)])) rfl rfl (hb hby dprog_8_5_5)) _ k)))) ?_
  rw [len_of Su22 Ngu22]
  refine own_by (W' := (T21.setTop (mkF m 14 #[.val (.ref r0), .val (.ref fb21), .val (.int (2 : Int32)), .val (.int (0 : Int32)), .unset] []))) (fun t k => XS.istoreN X21.here hx rfl (hb hby dprog_8_5_6) rfl (l' := #[.val (.ref r0), .val (.ref fb21), .val (.int (2 : Int32)), .unset, .unset]) rfl (XS.iconst X21.here hx rfl (hb hby dprog_8_5_7) (XS.istoreN X21.here hx rfl (hb hby dprog_8_5_8) rfl (l' := #[.val (.ref r0), .val (.ref fb21), .val (.int (2 : Int32)), .val (.int (0 : Int32)), .unset]) rfl (XS.iloadN X21.here hx rfl (hb hby dprog_8_5_9) rfl (XS.iloadN X21.here hx rfl (hb hby dprog_8_5_10) rfl (XS.icmpNo X21.here hx rfl (hb hby dprog_8_5_11) rfl (tlt (by decide : (0 : Int32) < (2 : Int32))).2.1 k)))))) ?_
  obtain ⟨clu23, Aru23, qu23, Su23, Ngu23, Hau23, Gau23⟩ := id Vq21
  have hinu23 : ¬ ((0 : Int32) < 0 ∨ clu23.slots.size ≤ ((0 : Int32)).toNatClampNeg) := inb_of Su23 ⟨by decide, by decide⟩
  have hatu23 : clu23.slots[((0 : Int32)).toNatClampNeg]? = some (.ref wALLOW) := Has.at Hau23 hinu23 rfl
  obtain ⟨T24, X24, e24, st24⟩ := getF X21 hx hZ hown (host := "") (Or.inl (own_w hw 71)) Via.refl rfl (HW.2.2.2.2.1.ext O21.2) (g := (mkF m 21 #[.val (.ref r0), .val (.ref fb21), .val (.int (2 : Int32)), .val (.int (0 : Int32)), .val (.ref wALLOW)] [(.ref wALLOW)])) rfl rfl (hb hby dprog_8_5_21)
  refine own_by (W' := (T24.setTop (mkF m 24 #[.val (.ref r0), .val (.ref fb21), .val (.int (2 : Int32)), .val (.int (0 : Int32)), .val (.ref wALLOW)] [(.ref tALLOW)]))) (fun t k => XS.aloadN X21.here hx rfl (hb hby dprog_8_5_14) rfl rfl (XS.iloadN X21.here hx rfl (hb hby dprog_8_5_15) rfl ((X21.aaload hx (j := (0 : Int32)) (v := (.ref wALLOW)) Aru23.1 (State.isArrayOf_alike hZ.alike Aru23.2.1) rfl Aru23.2.2 hinu23 hatu23 (g := (mkF m 16 #[.val (.ref r0), .val (.ref fb21), .val (.int (2 : Int32)), .val (.int (0 : Int32)), .unset] [(.int (0 : Int32)), (.ref fb21)])) rfl rfl (hb hby dprog_8_5_16)) _ (XS.astore X21.here hx rfl (hb hby dprog_8_5_17) rfl rfl (l' := #[.val (.ref r0), .val (.ref fb21), .val (.int (2 : Int32)), .val (.int (0 : Int32)), .val (.ref wALLOW)]) rfl (XS.aload X21.here hx rfl (hb hby dprog_8_5_19) rfl rfl (st24 _ k)))))) ?_
  obtain ⟨cq25, kq25, q25a, q25b, q25c⟩ := isOf hZ e24 (HW.2.2.2.2.2.2.1.ext O21.2)
  obtain ⟨_, _, ⟨T25, L25, k25, n25⟩, -, X25, ⟨Lc25, hQ25, l25, y25, z25⟩, st25⟩ := X24.virtualBack hx (y := (⟨"java/lang/String", "equals", "(Ljava/lang/Object;)Z"⟩ : MethodName)) (z := (⟨"java/lang/String", "equals", "(Ljava/lang/Object;)Z"⟩ : MethodName)) hown (mvT hZ (own_w hw 73)) (mvT hZ (own_w hw 40)) (notFace_of_selects (args := #[]) (mvT hZ (own_w hw 42))) (mvT hZ (own_w hw 42)) (mvT hZ (own_w hw 41)) (by decide) (backOf (W := 0) (rmseN l Z a0 hw [] tALLOW r0 (5 : Int32) (6 : Int32) [(.int (97 : Int32)), (.int (108 : Int32)), (.int (108 : Int32)), (.int (111 : Int32)), (.int (119 : Int32))] [(.int x0), (.int x1), (.int x2), (.int x3), (.int x4), (.int x5)] wALLOW wFORBID tALLOW tFORBID wV kwV cs T21.heap n0 (own_le O21) O21 HW (HW.2.2.2.2.2.1.ext O21.2) (T0.keep0 Kq21) (by decide)) hZ (own_w hw 43) (own_w hw 9) (by decide) (by decide)) q25a q25c (g := (mkF m 25 #[.val (.ref r0), .val (.ref fb21), .val (.int (2 : Int32)), .val (.int (0 : Int32)), .val (.ref wALLOW)] [(.ref r0), (.ref tALLOW)])) rfl (by rw [hml]; rfl) (Steps.refl _) (argsL := [(.ref r0)]) (rest := []) (lenOf pd_8 rfl) rfl (by show 2 * 0 + _ ≤ _; exact Nat.le_of_eq rfl) (hb hby dprog_8_5_25) (fun _ _ => ⟨rfl, e24, (by decide : 1 + 0 ≤ _), (by decide : 2 + 0 ≤ _)⟩)
  dsimp only [Pt.U, Pt.locs, Pt.cells, Pt.slots] at X25 l25 y25 z25 st25 hQ25
  subst l25 y25 z25
  obtain ⟨rfl, N25q, e25⟩ := hQ25
  have N25 := Fr.app N21 N25q
  refine own_by (W' := (T25.setTop (mkF m 10 #[.val (.ref r0), .val (.ref fb21), .val (.int (2 : Int32)), .val (.int (1 : Int32)), .val (.ref wALLOW)] [(.int (1 : Int32))]))) (fun t k => XS.aloadN X24.here hx rfl (hb hby dprog_8_5_24) rfl rfl (Steps.trans st25 (XS.ifYes X25.here hx rfl (pc0 := 28) (pc' := 34) rfl (hb hby dprog_8_5_28) rfl ((if0 _ _).trans (teq (rfl : (0 : Int32) = (0 : Int32))).1) (by decide) (by decide) (XS.iinc X25.here hx rfl (hb hby dprog_8_5_34) rfl (l' := #[.val (.ref r0), .val (.ref fb21), .val (.int (2 : Int32)), .val (.int (1 : Int32)), .val (.ref wALLOW)]) rfl (XS.goto X25.here hx rfl (pc0 := 37) (pc' := 9) rfl (hb hby dprog_8_5_37) (by decide) (by decide) (XS.iloadN X25.here hx rfl (hb hby dprog_8_5_9) rfl k)))))) ?_
  obtain ⟨clu26, Aru26, qu26, Su26, Ngu26, Hau26, Gau26⟩ := id Vq21
  have hinu26 : ¬ ((1 : Int32) < 0 ∨ clu26.slots.size ≤ ((1 : Int32)).toNatClampNeg) := inb_of Su26 ⟨by decide, by decide⟩
  have hatu26 : clu26.slots[((1 : Int32)).toNatClampNeg]? = some (.ref wFORBID) := Has.at Hau26 hinu26 rfl
  refine own_by (W' := (T25.setTop (mkF m 19 #[.val (.ref r0), .val (.ref fb21), .val (.int (2 : Int32)), .val (.int (1 : Int32)), .val (.ref wFORBID)] []))) (fun t k => XS.iloadN X25.here hx rfl (hb hby dprog_8_5_10) rfl (XS.icmpNo X25.here hx rfl (hb hby dprog_8_5_11) rfl (tlt (by decide : (1 : Int32) < (2 : Int32))).2.1 (XS.aloadN X25.here hx rfl (hb hby dprog_8_5_14) rfl rfl (XS.iloadN X25.here hx rfl (hb hby dprog_8_5_15) rfl ((X25.aaload hx (j := (1 : Int32)) (v := (.ref wFORBID)) (by rw [e25]; exact Aru26.1) (State.isArrayOf_alike hZ.alike Aru26.2.1) rfl Aru26.2.2 hinu26 hatu26 (g := (mkF m 16 #[.val (.ref r0), .val (.ref fb21), .val (.int (2 : Int32)), .val (.int (1 : Int32)), .val (.ref wALLOW)] [(.int (1 : Int32)), (.ref fb21)])) rfl rfl (hb hby dprog_8_5_16)) _ (XS.astore X25.here hx rfl (hb hby dprog_8_5_17) rfl rfl (l' := #[.val (.ref r0), .val (.ref fb21), .val (.int (2 : Int32)), .val (.int (1 : Int32)), .val (.ref wFORBID)]) rfl k)))))) ?_
  obtain ⟨T27, X27, e27, st27⟩ := getF X25 hx hZ hown (host := "") (Or.inl (own_w hw 71)) Via.refl e25 (HW.2.2.2.2.2.2.2.1.ext O21.2) (g := (mkF m 21 #[.val (.ref r0), .val (.ref fb21), .val (.int (2 : Int32)), .val (.int (1 : Int32)), .val (.ref wFORBID)] [(.ref wFORBID)])) rfl rfl (hb hby dprog_8_5_21)
  obtain ⟨cq28, kq28, q28a, q28b, q28c⟩ := isOf hZ e27 (HW.2.2.2.2.2.2.2.2.2.1.ext O21.2)
  obtain ⟨_, _, ⟨T28, L28, k28, n28⟩, -, X28, ⟨Lc28, hQ28, l28, y28, z28⟩, st28⟩ := X27.virtualBack hx (y := (⟨"java/lang/String", "equals", "(Ljava/lang/Object;)Z"⟩ : MethodName)) (z := (⟨"java/lang/String", "equals", "(Ljava/lang/Object;)Z"⟩ : MethodName)) hown (mvT hZ (own_w hw 73)) (mvT hZ (own_w hw 40)) (notFace_of_selects (args := #[]) (mvT hZ (own_w hw 42))) (mvT hZ (own_w hw 42)) (mvT hZ (own_w hw 41)) (by decide) (backOf (W := 0) (rmse6_6 l Z a0 hw [] tFORBID r0 (102 : Int32) (111 : Int32) (114 : Int32) (98 : Int32) (105 : Int32) (100 : Int32) x0 x1 x2 x3 x4 x5 wALLOW wFORBID tALLOW tFORBID wV kwV cs T21.heap n0 (own_le O21) O21 HW (HW.2.2.2.2.2.2.2.2.1.ext O21.2) (T0.keep0 Kq21)) hZ (own_w hw 43) (own_w hw 9) (by decide) (by decide)) q28a q28c (g := (mkF m 25 #[.val (.ref r0), .val (.ref fb21), .val (.int (2 : Int32)), .val (.int (1 : Int32)), .val (.ref wFORBID)] [(.ref r0), (.ref tFORBID)])) rfl (by rw [hml]; rfl) (Steps.refl _) (argsL := [(.ref r0)]) (rest := []) (lenOf pd_8 rfl) rfl (by show 2 * 0 + _ ≤ _; exact Nat.le_of_eq rfl) (hb hby dprog_8_5_25) (fun _ _ => ⟨rfl, e27, (by decide : 1 + 0 ≤ _), (by decide : 2 + 0 ≤ _)⟩)
  dsimp only [Pt.U, Pt.locs, Pt.cells, Pt.slots] at X28 l28 y28 z28 st28 hQ28
  subst l28 y28 z28
  obtain ⟨rfl, N28q, e28⟩ := hQ28
  have N28 := Fr.app N25 N28q
  refine own_by (W' := (T28.setTop (mkF m 28 #[.val (.ref r0), .val (.ref fb21), .val (.int (2 : Int32)), .val (.int (1 : Int32)), .val (.ref wFORBID)] [(.int (own_eqv [(.int (102 : Int32)), (.int (111 : Int32)), (.int (114 : Int32)), (.int (98 : Int32)), (.int (105 : Int32)), (.int (100 : Int32))] [(.int x0), (.int x1), (.int x2), (.int x3), (.int x4), (.int x5)]))]))) (fun t k => XS.aload X25.here hx rfl (hb hby dprog_8_5_19) rfl rfl (st27 _ (XS.aloadN X27.here hx rfl (hb hby dprog_8_5_24) rfl rfl (Steps.trans st28 k)))) ?_
  by_cases hc29 : (own_eqv [(.int (102 : Int32)), (.int (111 : Int32)), (.int (114 : Int32)), (.int (98 : Int32)), (.int (105 : Int32)), (.int (100 : Int32))] [(.int x0), (.int x1), (.int x2), (.int x3), (.int x4), (.int x5)]) = (0 : Int32)
  ·
    refine own_by (W' := (T28.setTop (mkF m 40 #[.val (.ref r0), .val (.ref fb21), .val (.int (2 : Int32)), .val (.int (2 : Int32)), .val (.ref wFORBID)] []))) (fun t k => XS.ifYes X28.here hx rfl (pc0 := 28) (pc' := 34) rfl (hb hby dprog_8_5_28) rfl ((if0 _ _).trans (teq hc29).1) (by decide) (by decide) (XS.iinc X28.here hx rfl (hb hby dprog_8_5_34) rfl (l' := #[.val (.ref r0), .val (.ref fb21), .val (.int (2 : Int32)), .val (.int (2 : Int32)), .val (.ref wFORBID)]) rfl (XS.goto X28.here hx rfl (pc0 := 37) (pc' := 9) rfl (hb hby dprog_8_5_37) (by decide) (by decide) (XS.iloadN X28.here hx rfl (hb hby dprog_8_5_9) rfl (XS.iloadN X28.here hx rfl (hb hby dprog_8_5_10) rfl (XS.icmpYes X28.here hx rfl (pc0 := 11) (pc' := 40) rfl (hb hby dprog_8_5_11) rfl (flt (by decide : ¬ ((2 : Int32) < (2 : Int32)))).2.1 (by decide) (by decide) k)))))) ?_
    obtain ⟨fs, hr, hrun, hended, hW, hsame⟩ := X28.leave (v := some .null) (fun h => by rw [Bd.returns] at h; cases h)
    refine own_by (W' := (T28.setTop (mkF m 41 #[.val (.ref r0), .val (.ref fb21), .val (.int (2 : Int32)), .val (.int (2 : Int32)), .val (.ref wFORBID)] [.null]))) (fun t k => XS.aconstNull X28.here hx rfl (hb hby dprog_8_5_40) k) ?_
    refine ⟨_, _, retOut X28 hx Bd.returns rfl (Or.inr (Or.inr (Or.inr (Or.inr ⟨rfl, rfl, rfl⟩)))) (hb hby dprog_8_5_41) hr, hrun, hended, _, _, rfl, ?_, ⟨_, rfl⟩, hW, hsame.mono (by decide) (by decide)⟩
    show Qnm6 Z r0 x0 x1 x2 x3 x4 x5 wALLOW wFORBID tALLOW tFORBID wV kwV cs h0 n0 _ T28.heap _
    rw [e28]
    refine ⟨congrArg some ?_, N28, K21⟩
    rw [own_F6, if_pos hc29]
  ·
    obtain ⟨fs, hr, hrun, hended, hW, hsame⟩ := X28.leave (v := some (.ref wFORBID)) (fun h => by rw [Bd.returns] at h; cases h)
    refine own_by (W' := (T28.setTop (mkF m 33 #[.val (.ref r0), .val (.ref fb21), .val (.int (2 : Int32)), .val (.int (1 : Int32)), .val (.ref wFORBID)] [(.ref wFORBID)]))) (fun t k => XS.ifNo X28.here hx rfl (hb hby dprog_8_5_28) rfl ((if0 _ _).trans (feq hc29).1) (XS.aload X28.here hx rfl (hb hby dprog_8_5_31) rfl rfl k)) ?_
    refine ⟨_, _, retOut X28 hx Bd.returns rfl (Or.inr (Or.inr (Or.inr (Or.inr ⟨rfl, rfl, rfl⟩)))) (hb hby dprog_8_5_33) hr, hrun, hended, _, _, rfl, ?_, ⟨_, rfl⟩, hW, hsame.mono (by decide) (by decide)⟩
    show Qnm6 Z r0 x0 x1 x2 x3 x4 x5 wALLOW wFORBID tALLOW tFORBID wV kwV cs h0 n0 _ T28.heap _
    rw [e28]
    refine ⟨congrArg some ?_, N28, K21⟩
    rw [own_F6, if_neg hc29]
theorem efnmN (m : MethodId) (r0 : Addr) : entryFrame m #[(.ref r0)] 5 = mkF m 0 #[.val (.ref r0), .unset, .unset, .unset, .unset] [] := by first | (simp [entryFrame, mkF, argsToLocals, Value.category]; done) | rfl
def QnmN (Z : State) (r0 : Addr) (n1 : Int32) (l1 : List Value) (wALLOW : Addr) (wFORBID : Addr) (tALLOW : Addr) (tFORBID : Addr) (wV : Addr) (kwV : ClassId) (cs : Int32) (h0 : Heap) (n0 : Nat) (v : Option Value) (h : Heap) (L : List Loc) : Prop := v = some .null ∧ Fr n0 L ∧ Keep h0 h []
abbrev own_KnmN (Z : State) (r0 : Addr) (n1 : Int32) (l1 : List Value) (wALLOW : Addr) (wFORBID : Addr) (tALLOW : Addr) (tFORBID : Addr) (wV : Addr) (kwV : ClassId) (cs : Int32) (h0 : Heap) (n0 : Nat) (s : State) : Outcome → State → Prop := fun o U' => ∃ v L, o = .returned v ∧ QnmN Z r0 n1 l1 wALLOW wFORBID tALLOW tFORBID wV kwV cs h0 n0 v U'.heap L ∧ FrameEnd s o U' L ({ frames := 2, cells := 1, slots := 2, locals := 28 } : Room).cells ({ frames := 2, cells := 1, slots := 2, locals := 28 } : Room).slots
set_option maxRecDepth 65536 in
set_option maxHeartbeats 40000000 in
theorem rmnmN (l : Launch) (Z : State) (a0 : Array Value) (hw : ∀ d ∈ tables_1, d.before a0 Z = true) (ws : List Jvm.Cond) (r0 : Addr) (n1 : Int32) (l1 : List Value) (wALLOW : Addr) (wFORBID : Addr) (tALLOW : Addr) (tFORBID : Addr) (wV : Addr) (kwV : ClassId) (cs : Int32) (h0 : Heap) (n0 : Nat) (Z0 : n0 ≤ h0.size) (O0 : Old Z n0 h0) (HW : own_Wd Z wALLOW wFORBID tALLOW tFORBID wV kwV cs) (T0 : own_St Z h0 r0 n1 l1) (h5 : ¬ (5 : Int32) = n1) (h6 : ¬ (6 : Int32) = n1) :
    MetFree l (⟨"com/example/claviger/claviger/engine/Effect", "named", "(Ljava/lang/String;)Lcom/example/claviger/claviger/engine/Effect;"⟩ : MethodName) (head1 (Jvm.Cond.code (⟨"com/example/claviger/claviger/engine/Effect", "named", "(Ljava/lang/String;)Lcom/example/claviger/claviger/engine/Effect;"⟩ : MethodName) prog_8_method_5_code 5 (some (.object "com/example/claviger/claviger/engine/Effect")) :: ws) ({ frames := 2, cells := 1, slots := 2, locals := 28 } : Room)) (fun a U => a = #[(.ref r0)] ∧ Z.Warmed39 U.vm ∧ U.heap = h0) (fun _ _ _ _ _ => True) (fun _ U o U' => ∃ v L, o = .returned v ∧ QnmN Z r0 n1 l1 wALLOW wFORBID tALLOW tFORBID wV kwV cs h0 n0 v U'.heap L ∧ FrameEnd U o U' L ({ frames := 2, cells := 1, slots := 2, locals := 28 } : Room).cells ({ frames := 2, cells := 1, slots := 2, locals := 28 } : Room).slots) := by
  refine MetFree.of_bodySF (plainFor_of_name pn_com_example_claviger_claviger_engine_Effect) hisR ?_
  intro p e s m args below meth c s₁ Bd hml0 hP hK
  obtain ⟨rfl, hZ, hh⟩ := hP
  have hx := Bd.exec
  have hby := Bd.bytes
  have hml : c.maxLocals = 5 := hml0
  have hown : s.vm.findClass "com/example/claviger/claviger/engine/Effect" = some m.cls := findClass_of_methodNamed Bd.named
  have hnm := (name_of_methodNamed Bd.named Bd.method).1
  have X0 : Stand p l e ({ frames := 2, cells := 1, slots := 2, locals := 28 } : Room) s m #[(.ref r0)] below meth c s₁ [] 0 0 := Stand.of_body Bd
  have e0 : s₁.heap = h0 := by rw [← hh, Bd.state]; rfl
  have N0 := Fr.nil n0
  refine own_by (p := p) (e := e) (below := below) (K := own_KnmN Z r0 n1 l1 wALLOW wFORBID tALLOW tFORBID wV kwV cs h0 n0 s) (W' := s₁.setTop (mkF m 0 #[.val (.ref r0), .unset, .unset, .unset, .unset] [])) (fun t k => castTop (efnmN m r0) k) ?_
  obtain ⟨_, _, ⟨T21, L21, k21, n21⟩, -, X21, ⟨Lc21, hQ21, l21, y21, z21⟩, st21⟩ := Jvm.LawKit.callS X0 hx (y := (⟨"com/example/claviger/claviger/engine/Effect", "values", "()[Lcom/example/claviger/claviger/engine/Effect;"⟩ : MethodName)) hown (mvT hZ (own_w hw 55)) (mvT hZ (own_w hw 56)) (mvT hZ (own_w hw 50)) (mvT hZ (own_w hw 57)) (by decide) (backOf (W := 0) (rmV l Z a0 hw [] wALLOW wFORBID tALLOW tFORBID wV kwV cs h0 n0 Z0 O0 HW) hZ (own_w hw 57) (own_w hw 50) (by decide) (by decide)) (g := (mkF m 0 #[.val (.ref r0), .unset, .unset, .unset, .unset] [])) rfl (by rw [hml]; rfl) (argsL := []) (rest := []) (lenOf pd_7 rfl) rfl (by show 2 * 0 + _ ≤ _; exact Nat.le_of_eq rfl) (hb hby dprog_8_5_0) (fun _ _ => ⟨rfl, e0, (by decide : 0 + 1 ≤ _), (by decide : 0 + 2 ≤ _)⟩)
  dsimp only [Pt.U, Pt.locs, Pt.cells, Pt.slots] at X21 l21 y21 z21 st21 hQ21
  subst l21 y21 z21
  obtain ⟨fb21, rfl, N21q, Kq21, Vq21⟩ := hQ21
  have O21 := Old.keep O0 Kq21 all0
  have K21 := Keep.trans (Keep.refl h0 []) Kq21 all0
  have N21 := Fr.app N0 N21q
  obtain ⟨clu22, Aru22, qu22, Su22, Ngu22, Hau22, Gau22⟩ := id Vq21
  refine own_by (W' := (T21.setTop (mkF m 6 #[.val (.ref r0), .val (.ref fb21), .unset, .unset, .unset] [(.int clu22.slots.size.toInt32)]))) (fun t k => st21 _ (XS.astoreN X21.here hx rfl (hb hby dprog_8_5_3) rfl rfl (l' := #[.val (.ref r0), .val (.ref fb21), .unset, .unset, .unset]) rfl (XS.aloadN X21.here hx rfl (hb hby dprog_8_5_4) rfl rfl ((X21.arraylength hx Aru22.1 (State.isArrayOf_alike hZ.alike Aru22.2.1) (g := (mkF m 5 #[.val (.ref r0), .val (.ref fb21), .unset, .unset, .unset] [(.ref fb21)])) rfl rfl (hb hby dprog_8_5_5)) _ k)))) ?_
  rw [len_of Su22 Ngu22]
  refine own_by (W' := (T21.setTop (mkF m 14 #[.val (.ref r0), .val (.ref fb21), .val (.int (2 : Int32)), .val (.int (0 : Int32)), .unset] []))) (fun t k => XS.istoreN X21.here hx rfl (hb hby dprog_8_5_6) rfl (l' := #[.val (.ref r0), .val (.ref fb21), .val (.int (2 : Int32)), .unset, .unset]) rfl (XS.iconst X21.here hx rfl (hb hby dprog_8_5_7) (XS.istoreN X21.here hx rfl (hb hby dprog_8_5_8) rfl (l' := #[.val (.ref r0), .val (.ref fb21), .val (.int (2 : Int32)), .val (.int (0 : Int32)), .unset]) rfl (XS.iloadN X21.here hx rfl (hb hby dprog_8_5_9) rfl (XS.iloadN X21.here hx rfl (hb hby dprog_8_5_10) rfl (XS.icmpNo X21.here hx rfl (hb hby dprog_8_5_11) rfl (tlt (by decide : (0 : Int32) < (2 : Int32))).2.1 k)))))) ?_
  obtain ⟨clu23, Aru23, qu23, Su23, Ngu23, Hau23, Gau23⟩ := id Vq21
  have hinu23 : ¬ ((0 : Int32) < 0 ∨ clu23.slots.size ≤ ((0 : Int32)).toNatClampNeg) := inb_of Su23 ⟨by decide, by decide⟩
  have hatu23 : clu23.slots[((0 : Int32)).toNatClampNeg]? = some (.ref wALLOW) := Has.at Hau23 hinu23 rfl
  obtain ⟨T24, X24, e24, st24⟩ := getF X21 hx hZ hown (host := "") (Or.inl (own_w hw 71)) Via.refl rfl (HW.2.2.2.2.1.ext O21.2) (g := (mkF m 21 #[.val (.ref r0), .val (.ref fb21), .val (.int (2 : Int32)), .val (.int (0 : Int32)), .val (.ref wALLOW)] [(.ref wALLOW)])) rfl rfl (hb hby dprog_8_5_21)
  refine own_by (W' := (T24.setTop (mkF m 24 #[.val (.ref r0), .val (.ref fb21), .val (.int (2 : Int32)), .val (.int (0 : Int32)), .val (.ref wALLOW)] [(.ref tALLOW)]))) (fun t k => XS.aloadN X21.here hx rfl (hb hby dprog_8_5_14) rfl rfl (XS.iloadN X21.here hx rfl (hb hby dprog_8_5_15) rfl ((X21.aaload hx (j := (0 : Int32)) (v := (.ref wALLOW)) Aru23.1 (State.isArrayOf_alike hZ.alike Aru23.2.1) rfl Aru23.2.2 hinu23 hatu23 (g := (mkF m 16 #[.val (.ref r0), .val (.ref fb21), .val (.int (2 : Int32)), .val (.int (0 : Int32)), .unset] [(.int (0 : Int32)), (.ref fb21)])) rfl rfl (hb hby dprog_8_5_16)) _ (XS.astore X21.here hx rfl (hb hby dprog_8_5_17) rfl rfl (l' := #[.val (.ref r0), .val (.ref fb21), .val (.int (2 : Int32)), .val (.int (0 : Int32)), .val (.ref wALLOW)]) rfl (XS.aload X21.here hx rfl (hb hby dprog_8_5_19) rfl rfl (st24 _ k)))))) ?_
  obtain ⟨cq25, kq25, q25a, q25b, q25c⟩ := isOf hZ e24 (HW.2.2.2.2.2.2.1.ext O21.2)
  obtain ⟨_, _, ⟨T25, L25, k25, n25⟩, -, X25, ⟨Lc25, hQ25, l25, y25, z25⟩, st25⟩ := X24.virtualBack hx (y := (⟨"java/lang/String", "equals", "(Ljava/lang/Object;)Z"⟩ : MethodName)) (z := (⟨"java/lang/String", "equals", "(Ljava/lang/Object;)Z"⟩ : MethodName)) hown (mvT hZ (own_w hw 73)) (mvT hZ (own_w hw 40)) (notFace_of_selects (args := #[]) (mvT hZ (own_w hw 42))) (mvT hZ (own_w hw 42)) (mvT hZ (own_w hw 41)) (by decide) (backOf (W := 0) (rmseN l Z a0 hw [] tALLOW r0 (5 : Int32) n1 [(.int (97 : Int32)), (.int (108 : Int32)), (.int (108 : Int32)), (.int (111 : Int32)), (.int (119 : Int32))] l1 wALLOW wFORBID tALLOW tFORBID wV kwV cs T21.heap n0 (own_le O21) O21 HW (HW.2.2.2.2.2.1.ext O21.2) (T0.keep0 Kq21) h5) hZ (own_w hw 43) (own_w hw 9) (by decide) (by decide)) q25a q25c (g := (mkF m 25 #[.val (.ref r0), .val (.ref fb21), .val (.int (2 : Int32)), .val (.int (0 : Int32)), .val (.ref wALLOW)] [(.ref r0), (.ref tALLOW)])) rfl (by rw [hml]; rfl) (Steps.refl _) (argsL := [(.ref r0)]) (rest := []) (lenOf pd_8 rfl) rfl (by show 2 * 0 + _ ≤ _; exact Nat.le_of_eq rfl) (hb hby dprog_8_5_25) (fun _ _ => ⟨rfl, e24, (by decide : 1 + 0 ≤ _), (by decide : 2 + 0 ≤ _)⟩)
  dsimp only [Pt.U, Pt.locs, Pt.cells, Pt.slots] at X25 l25 y25 z25 st25 hQ25
  subst l25 y25 z25
  obtain ⟨rfl, N25q, e25⟩ := hQ25
  have N25 := Fr.app N21 N25q
  refine own_by (W' := (T25.setTop (mkF m 10 #[.val (.ref r0), .val (.ref fb21), .val (.int (2 : Int32)), .val (.int (1 : Int32)), .val (.ref wALLOW)] [(.int (1 : Int32))]))) (fun t k => XS.aloadN X24.here hx rfl (hb hby dprog_8_5_24) rfl rfl (Steps.trans st25 (XS.ifYes X25.here hx rfl (pc0 := 28) (pc' := 34) rfl (hb hby dprog_8_5_28) rfl ((if0 _ _).trans (teq (rfl : (0 : Int32) = (0 : Int32))).1) (by decide) (by decide) (XS.iinc X25.here hx rfl (hb hby dprog_8_5_34) rfl (l' := #[.val (.ref r0), .val (.ref fb21), .val (.int (2 : Int32)), .val (.int (1 : Int32)), .val (.ref wALLOW)]) rfl (XS.goto X25.here hx rfl (pc0 := 37) (pc' := 9) rfl (hb hby dprog_8_5_37) (by decide) (by decide) (XS.iloadN X25.here hx rfl (hb hby dprog_8_5_9) rfl k)))))) ?_
  obtain ⟨clu26, Aru26, qu26, Su26, Ngu26, Hau26, Gau26⟩ := id Vq21
  have hinu26 : ¬ ((1 : Int32) < 0 ∨ clu26.slots.size ≤ ((1 : Int32)).toNatClampNeg) := inb_of Su26 ⟨by decide, by decide⟩
  have hatu26 : clu26.slots[((1 : Int32)).toNatClampNeg]? = some (.ref wFORBID) := Has.at Hau26 hinu26 rfl
  refine own_by (W' := (T25.setTop (mkF m 19 #[.val (.ref r0), .val (.ref fb21), .val (.int (2 : Int32)), .val (.int (1 : Int32)), .val (.ref wFORBID)] []))) (fun t k => XS.iloadN X25.here hx rfl (hb hby dprog_8_5_10) rfl (XS.icmpNo X25.here hx rfl (hb hby dprog_8_5_11) rfl (tlt (by decide : (1 : Int32) < (2 : Int32))).2.1 (XS.aloadN X25.here hx rfl (hb hby dprog_8_5_14) rfl rfl (XS.iloadN X25.here hx rfl (hb hby dprog_8_5_15) rfl ((X25.aaload hx (j := (1 : Int32)) (v := (.ref wFORBID)) (by rw [e25]; exact Aru26.1) (State.isArrayOf_alike hZ.alike Aru26.2.1) rfl Aru26.2.2 hinu26 hatu26 (g := (mkF m 16 #[.val (.ref r0), .val (.ref fb21), .val (.int (2 : Int32)), .val (.int (1 : Int32)), .val (.ref wALLOW)] [(.int (1 : Int32)), (.ref fb21)])) rfl rfl (hb hby dprog_8_5_16)) _ (XS.astore X25.here hx rfl (hb hby dprog_8_5_17) rfl rfl (l' := #[.val (.ref r0), .val (.ref fb21), .val (.int (2 : Int32)), .val (.int (1 : Int32)), .val (.ref wFORBID)]) rfl k)))))) ?_
  obtain ⟨T27, X27, e27, st27⟩ := getF X25 hx hZ hown (host := "") (Or.inl (own_w hw 71)) Via.refl e25 (HW.2.2.2.2.2.2.2.1.ext O21.2) (g := (mkF m 21 #[.val (.ref r0), .val (.ref fb21), .val (.int (2 : Int32)), .val (.int (1 : Int32)), .val (.ref wFORBID)] [(.ref wFORBID)])) rfl rfl (hb hby dprog_8_5_21)
  obtain ⟨cq28, kq28, q28a, q28b, q28c⟩ := isOf hZ e27 (HW.2.2.2.2.2.2.2.2.2.1.ext O21.2)
  obtain ⟨_, _, ⟨T28, L28, k28, n28⟩, -, X28, ⟨Lc28, hQ28, l28, y28, z28⟩, st28⟩ := X27.virtualBack hx (y := (⟨"java/lang/String", "equals", "(Ljava/lang/Object;)Z"⟩ : MethodName)) (z := (⟨"java/lang/String", "equals", "(Ljava/lang/Object;)Z"⟩ : MethodName)) hown (mvT hZ (own_w hw 73)) (mvT hZ (own_w hw 40)) (notFace_of_selects (args := #[]) (mvT hZ (own_w hw 42))) (mvT hZ (own_w hw 42)) (mvT hZ (own_w hw 41)) (by decide) (backOf (W := 0) (rmseN l Z a0 hw [] tFORBID r0 (6 : Int32) n1 [(.int (102 : Int32)), (.int (111 : Int32)), (.int (114 : Int32)), (.int (98 : Int32)), (.int (105 : Int32)), (.int (100 : Int32))] l1 wALLOW wFORBID tALLOW tFORBID wV kwV cs T21.heap n0 (own_le O21) O21 HW (HW.2.2.2.2.2.2.2.2.1.ext O21.2) (T0.keep0 Kq21) h6) hZ (own_w hw 43) (own_w hw 9) (by decide) (by decide)) q28a q28c (g := (mkF m 25 #[.val (.ref r0), .val (.ref fb21), .val (.int (2 : Int32)), .val (.int (1 : Int32)), .val (.ref wFORBID)] [(.ref r0), (.ref tFORBID)])) rfl (by rw [hml]; rfl) (Steps.refl _) (argsL := [(.ref r0)]) (rest := []) (lenOf pd_8 rfl) rfl (by show 2 * 0 + _ ≤ _; exact Nat.le_of_eq rfl) (hb hby dprog_8_5_25) (fun _ _ => ⟨rfl, e27, (by decide : 1 + 0 ≤ _), (by decide : 2 + 0 ≤ _)⟩)
  dsimp only [Pt.U, Pt.locs, Pt.cells, Pt.slots] at X28 l28 y28 z28 st28 hQ28
  subst l28 y28 z28
  obtain ⟨rfl, N28q, e28⟩ := hQ28
  have N28 := Fr.app N25 N28q
  refine own_by (W' := (T28.setTop (mkF m 37 #[.val (.ref r0), .val (.ref fb21), .val (.int (2 : Int32)), .val (.int (2 : Int32)), .val (.ref wFORBID)] []))) (fun t k => XS.aload X25.here hx rfl (hb hby dprog_8_5_19) rfl rfl (st27 _ (XS.aloadN X27.here hx rfl (hb hby dprog_8_5_24) rfl rfl (Steps.trans st28 (XS.ifYes X28.here hx rfl (pc0 := 28) (pc' := 34) rfl (hb hby dprog_8_5_28) rfl ((if0 _ _).trans (teq (rfl : (0 : Int32) = (0 : Int32))).1) (by decide) (by decide) (XS.iinc X28.here hx rfl (hb hby dprog_8_5_34) rfl (l' := #[.val (.ref r0), .val (.ref fb21), .val (.int (2 : Int32)), .val (.int (2 : Int32)), .val (.ref wFORBID)]) rfl k)))))) ?_
  obtain ⟨fs, hr, hrun, hended, hW, hsame⟩ := X28.leave (v := some .null) (fun h => by rw [Bd.returns] at h; cases h)
  refine own_by (W' := (T28.setTop (mkF m 41 #[.val (.ref r0), .val (.ref fb21), .val (.int (2 : Int32)), .val (.int (2 : Int32)), .val (.ref wFORBID)] [.null]))) (fun t k => XS.goto X28.here hx rfl (pc0 := 37) (pc' := 9) rfl (hb hby dprog_8_5_37) (by decide) (by decide) (XS.iloadN X28.here hx rfl (hb hby dprog_8_5_9) rfl (XS.iloadN X28.here hx rfl (hb hby dprog_8_5_10) rfl (XS.icmpYes X28.here hx rfl (pc0 := 11) (pc' := 40) rfl (hb hby dprog_8_5_11) rfl (flt (by decide : ¬ ((2 : Int32) < (2 : Int32)))).2.1 (by decide) (by decide) (XS.aconstNull X28.here hx rfl (hb hby dprog_8_5_40) k))))) ?_
  refine ⟨_, _, retOut X28 hx Bd.returns rfl (Or.inr (Or.inr (Or.inr (Or.inr ⟨rfl, rfl, rfl⟩)))) (hb hby dprog_8_5_41) hr, hrun, hended, _, _, rfl, ?_, ⟨_, rfl⟩, hW, hsame.mono (by decide) (by decide)⟩
  show QnmN Z r0 n1 l1 wALLOW wFORBID tALLOW tFORBID wV kwV cs h0 n0 _ T28.heap _
  rw [e28]
  exact ⟨rfl, N28, K21⟩
theorem pd_9 : parseMethodDescriptor "([CI)Ljava/lang/String;" = some ⟨[(.array .char), .int], some (.object "java/lang/String")⟩ := by decide +kernel
theorem pd_10 : parseMethodDescriptor "(Ljava/lang/String;)Lcom/example/claviger/claviger/engine/Effect;" = some ⟨[(.object "java/lang/String")], some (.object "com/example/claviger/claviger/engine/Effect")⟩ := by decide +kernel
theorem efL (m : MethodId) (p0 : Int32) (q1 : Int64) (p2 : Int32) : entryFrame m #[(.int p0), (.long q1), (.int p2)] maxLocals = mkF m 0 #[.val (.int p0), .val (.long q1), .second, .val (.int p2), .unset, .unset, .unset, .unset, .unset, .unset, .unset, .unset, .unset] [] := by first | (simp [entryFrame, mkF, argsToLocals, Value.category, maxLocals]; done) | rfl
def QL (Z : State) (p0 : Int32) (q1 : Int64) (p2 : Int32) (wALLOW : Addr) (wFORBID : Addr) (tALLOW : Addr) (tFORBID : Addr) (wV : Addr) (kwV : ClassId) (cs : Int32) (h0 : Heap) (n0 : Nat) (v : Option Value) (h : Heap) (L : List Loc) : Prop := v = some (.int 1) ∧ Fr n0 L
abbrev own_KL (Z : State) (p0 : Int32) (q1 : Int64) (p2 : Int32) (wALLOW : Addr) (wFORBID : Addr) (tALLOW : Addr) (tFORBID : Addr) (wV : Addr) (kwV : ClassId) (cs : Int32) (h0 : Heap) (n0 : Nat) (s : State) : Outcome → State → Prop := fun o U' => ∃ v L, o = .returned v ∧ QL Z p0 q1 p2 wALLOW wFORBID tALLOW tFORBID wV kwV cs h0 n0 v U'.heap L ∧ CHr Z consts_1 s.vm s.heap U'.vm U'.heap ∧ ReturnedEndW s o U' L room_1.cells room_1.slots
set_option maxRecDepth 65536 in
set_option maxHeartbeats 40000000 in
theorem rmL (l : Launch) (Z : State) (a0 : Array Value) (hw : ∀ d ∈ tables_1, d.before a0 Z = true) (ws : List Jvm.Cond) (p0 : Int32) (q1 : Int64) (p2 : Int32) (wALLOW : Addr) (wFORBID : Addr) (tALLOW : Addr) (tFORBID : Addr) (wV : Addr) (kwV : ClassId) (cs : Int32) (h0 : Heap) (n0 : Nat) (Z0 : n0 ≤ h0.size) (O0 : Old Z n0 h0) (HW : own_Wd Z wALLOW wFORBID tALLOW tFORBID wV kwV cs) :
    MetFree l x (head1 (Jvm.Cond.code x code maxLocals ret :: ws) room_1) (fun a U => a = #[(.int p0), (.long q1), (.int p2)] ∧ Z.Warmed39 U.vm ∧ U.heap = h0 ∧ CHv Z consts_1 U.vm h0) (fun _ _ _ _ _ => True) (fun _ U o U' => ∃ v L, o = .returned v ∧ QL Z p0 q1 p2 wALLOW wFORBID tALLOW tFORBID wV kwV cs h0 n0 v U'.heap L ∧ CHr Z consts_1 U.vm U.heap U'.vm U'.heap ∧ ReturnedEndW U o U' L room_1.cells room_1.slots) := by
  refine MetFree.of_bodySF (plainFor_of_name pn_com_example_claviger_claviger_engine_EffectNamedPinLaw) hisR ?_
  intro p e s m args below meth c s₁ Bd hml0 hP hK
  obtain ⟨rfl, hZ, hh, hCH⟩ := hP
  have hx := Bd.exec
  have hby := Bd.bytes
  have hml : c.maxLocals = 13 := hml0
  have hown : s.vm.findClass "com/example/claviger/claviger/engine/EffectNamedPinLaw" = some m.cls := findClass_of_methodNamed Bd.named
  have hnm := (name_of_methodNamed Bd.named Bd.method).1
  have X0 : Stand p l e room_1 (s.setVm s.vm) m #[(.int p0), (.long q1), (.int p2)] below meth c s₁ [] 0 0 := Stand.of_body Bd
  have e0 : s₁.heap = h0 := by rw [← hh, Bd.state]; rfl
  have N0 := Fr.nil n0
  have hS0 : s.Since s.vm h0.size := (State.WarmedH.refl s).since _
  have C0 : CHr Z consts_1 s.vm h0 s.vm h0 := CHr.refl hCH
  refine own_by (p := p) (e := e) (below := below) (K := own_KL Z p0 q1 p2 wALLOW wFORBID tALLOW tFORBID wV kwV cs h0 n0 s) (W' := s₁.setTop (mkF m 0 #[.val (.int p0), .val (.long q1), .second, .val (.int p2), .unset, .unset, .unset, .unset, .unset, .unset, .unset, .unset, .unset] [])) (fun t k => castTop (efL m p0 q1 p2) k) ?_
  have cut265 : ∀ (Tc : State) {lc : List Loc} (Xc : Stand p l e room_1 (s.setVm s.vm) m #[(.int p0), (.long q1), (.int p2)] below meth c Tc lc 1 6) (Nc : Fr n0 lc) (hC : Heap) (v4 : Int32) (v5 : Int32) (v6 : Int32) (v7 : Int32) (v9 : Int32) (ll : Int32) (bA : Addr) (kA : ClassId) (c0 : Int32) (c1 : Int32) (c2 : Int32) (c3 : Int32) (c4 : Int32) (c5 : Int32) (ec : Tc.heap = hC) (OC : Old Z n0 hC) (KC : Keep h0 hC []) (CC : CHr Z consts_1 s.vm h0 s.vm hC) (hll : ll = (0 : Int32) ∨ ll = (1 : Int32) ∨ ll = (2 : Int32) ∨ ll = (3 : Int32) ∨ ll = (4 : Int32) ∨ ll = (5 : Int32) ∨ ll = (6 : Int32)) (VC : Arv Z hC bA kA .char (6 : Int32) [(.int c0), (.int c1), (.int c2), (.int c3), (.int c4), (.int c5)] (.int (0 : Int32))) (hl_c0 : own_ch c0) (hl_c1 : own_ch c1) (hl_c2 : own_ch c2) (hl_c3 : own_ch c3) (hl_c4 : own_ch c4) (hl_c5 : own_ch c5), own_Gl p e below (own_KL Z p0 q1 p2 wALLOW wFORBID tALLOW tFORBID wV kwV cs h0 n0 s) (Tc.setTop (mkF m 265 #[.val (.int p0), .val (.long q1), .second, .val (.int p2), .val (.int v4), .val (.int v5), .val (.int v6), .val (.int v7), .val (.ref bA), .val (.int v9), .val (.int ll), .unset, .unset] [])) := by
    intro Tc lc Xc Nc hC v4 v5 v6 v7 v9 ll bA kA c0 c1 c2 c3 c4 c5 ec OC KC CC hll VC hl_c0 hl_c1 hl_c2 hl_c3 hl_c4 hl_c5
    rcases hll with rfl | rfl | rfl | rfl | rfl | rfl | rfl
    ·
      obtain ⟨_, _, ⟨T21, L21, k21, n21⟩, -, X21, hs221, hg221, ⟨Lc21, hQ21, l21, y21, z21, Cm21⟩, st21⟩ := callSS Xc hx (y := (⟨"com/example/claviger/claviger/engine/EffectNamedPinLaw", "make", "([CI)Ljava/lang/String;"⟩ : MethodName)) hown (mvT hZ (own_w hw 3)) (mvT hZ (own_w hw 4)) (mvT hZ (own_w hw 5)) (mvT hZ (own_w hw 6)) (by decide) (backOfSH (s := s) (vm0 := s.vm) (W := 0) (rmmk0 l Z a0 hw [] bA kA c0 c1 c2 c3 c4 c5 wALLOW wFORBID tALLOW tFORBID wV kwV cs hC n0 (own_le OC) OC HW VC hl_c0 hl_c1 hl_c2 hl_c3 hl_c4 hl_c5) hZ (own_w hw 6) (own_w hw 5) (by decide) (by decide) (own_EW hw) CC.1) (g := (mkF m 269 #[.val (.int p0), .val (.long q1), .second, .val (.int p2), .val (.int v4), .val (.int v5), .val (.int v6), .val (.int v7), .val (.ref bA), .val (.int v9), .val (.int (0 : Int32)), .unset, .unset] [(.int (0 : Int32)), (.ref bA)])) rfl (by rw [hml]; rfl) (argsL := [(.ref bA), (.int (0 : Int32))]) (rest := []) (lenOf pd_9 rfl) rfl (by show 2 * 0 + _ ≤ _; exact Nat.le_of_eq rfl) (hb hby at_269) (fun _ _ => ⟨rfl, ec, (by decide : 1 + 6 ≤ _), (by decide : 6 + 12 ≤ _)⟩)
      dsimp only [Pt.U, Pt.locs, Pt.cells, Pt.slots] at X21 l21 y21 z21 st21 hQ21 hs221 hg221 Cm21
      subst l21 y21 z21
      have C21 := CHr.trans CC Cm21
      have hS21 : s.Since T21.vm T21.heap.size := foldS hS0 (by rw [ec]; exact KC.1) hs221 hg221
      have hZ21 : Z.Warmed39 (s.setVm T21.vm).vm := State.Warmed39.trans (t := (s.setVm s.vm)) hZ hs221.1
      have hown21 : (s.setVm T21.vm).vm.findClass "com/example/claviger/claviger/engine/EffectNamedPinLaw" = some m.cls := by rw [show (s.setVm T21.vm).vm = T21.vm from rfl, hs221.1.alike.findClass]; exact hown
      obtain ⟨fb21, rfl, N21q, Kq21, hsz21, Tq21⟩ := hQ21
      have O21 := Old.keep OC Kq21 all0
      have K21 := Keep.trans KC Kq21 all0
      have N21 := Fr.app Nc N21q
      obtain ⟨a22, T22, h22, k22, lb22, lk22, X22, e22, E22, hS22, hk22, hZ22, hown22, Le22, Lc22_, Lv22, La22, -, -, Cm22, -, Ln22, st22⟩ := ldcCH (s := s) (vm0 := T21.vm) X21 hx hZ21 hown21 (own_w hw 36) (own_wS hw) rfl hS21 (Nat.le_refl _) (own_EW hw) (List.mem_of_getElem? (i := 0) rfl) C21.1 (vs := [(.int (97 : Int32)), (.int (108 : Int32)), (.int (108 : Int32)), (.int (111 : Int32)), (.int (119 : Int32))]) (z := (5 : Int32)) ⟨by decide +kernel, by rfl⟩ (by decide) (by decide) (g := (mkF m 276 #[.val (.int p0), .val (.long q1), .second, .val (.int p2), .val (.int v4), .val (.int v5), .val (.int v6), .val (.int v7), .val (.ref bA), .val (.int v9), .val (.int (0 : Int32)), .val (.ref fb21), .unset] [(.ref fb21)])) rfl (hb hby at_276) (n := 20) (by decide +kernel) (by decide) (by decide) (by decide)
      have C22 := CHr.trans C21 Cm22
      have O22 := O21.ext E22
      have K22 := Keep.ext K21 E22
      have LT22 : own_St Z h22 a22 (5 : Int32) [(.int (97 : Int32)), (.int (108 : Int32)), (.int (108 : Int32)), (.int (111 : Int32)), (.int (119 : Int32))] := ⟨Le22, Lc22_, _, _, Lv22, La22⟩
      refine own_by (W' := (T22.setTop (mkF m 278 #[.val (.int p0), .val (.long q1), .second, .val (.int p2), .val (.int v4), .val (.int v5), .val (.int v6), .val (.int v7), .val (.ref bA), .val (.int v9), .val (.int (0 : Int32)), .val (.ref fb21), .unset] [(.ref a22), (.ref fb21)]))) (fun t k => XS.aload Xc.here hx rfl (hb hby at_265) rfl rfl (XS.iload Xc.here hx rfl (hb hby at_267) rfl (Steps.trans st21 (XS.astore X21.here hx rfl (hb hby at_272) rfl rfl (l' := #[.val (.int p0), .val (.long q1), .second, .val (.int p2), .val (.int v4), .val (.int v5), .val (.int v6), .val (.int v7), .val (.ref bA), .val (.int v9), .val (.int (0 : Int32)), .val (.ref fb21), .unset]) rfl (XS.aload X21.here hx rfl (hb hby at_274) rfl rfl (st22 _ k)))))) ?_
      obtain ⟨cq23, kq23, q23a, q23b, q23c⟩ := isOf hZ22 e22 (Tq21.1.ext E22)
      obtain ⟨_, _, ⟨T23, L23, k23, n23⟩, -, X23, ⟨Lc23, hQ23, l23, y23, z23⟩, st23⟩ := X22.virtualBack hx (y := (⟨"java/lang/String", "equals", "(Ljava/lang/Object;)Z"⟩ : MethodName)) (z := (⟨"java/lang/String", "equals", "(Ljava/lang/Object;)Z"⟩ : MethodName)) hown22 (mvT hZ22 (own_w hw 39)) (mvT hZ22 (own_w hw 40)) (notFace_of_selects (args := #[]) (mvT hZ22 (own_w hw 42))) (mvT hZ22 (own_w hw 42)) (mvT hZ22 (own_w hw 41)) (by decide) (backOf (W := 0) (rmseN l Z a0 hw [] fb21 a22 (0 : Int32) (5 : Int32) [] [(.int (97 : Int32)), (.int (108 : Int32)), (.int (108 : Int32)), (.int (111 : Int32)), (.int (119 : Int32))] wALLOW wFORBID tALLOW tFORBID wV kwV cs h22 n0 (own_le O22) O22 HW (Tq21.ext E22) LT22 (by decide)) hZ22 (own_w hw 43) (own_w hw 9) (by decide) (by decide)) q23a q23c (g := (mkF m 278 #[.val (.int p0), .val (.long q1), .second, .val (.int p2), .val (.int v4), .val (.int v5), .val (.int v6), .val (.int v7), .val (.ref bA), .val (.int v9), .val (.int (0 : Int32)), .val (.ref fb21), .unset] [(.ref a22), (.ref fb21)])) rfl (by rw [hml]; rfl) (Steps.refl _) (argsL := [(.ref a22)]) (rest := []) (lenOf pd_8 rfl) rfl (by show 2 * 0 + _ ≤ _; exact Nat.le_of_eq rfl) (hb hby at_278) (fun _ _ => ⟨rfl, e22, (by decide : 9 + 0 ≤ _), (by decide : 42 + 0 ≤ _)⟩)
      dsimp only [Pt.U, Pt.locs, Pt.cells, Pt.slots] at X23 l23 y23 z23 st23 hQ23
      subst l23 y23 z23
      obtain ⟨rfl, N23q, e23⟩ := hQ23
      have N23 := Fr.app N21 N23q
      obtain ⟨a24, T24, h24, k24, lb24, lk24, X24, e24, E24, hS24, hk24, hZ24, hown24, Le24, Lc24_, Lv24, La24, -, -, Cm24, -, Ln24, st24⟩ := ldcCH (s := s) (vm0 := T22.vm) X23 hx hZ22 hown22 (own_w hw 74) (own_wS hw) e23 hS22 hk22 (own_EW hw) (List.mem_of_getElem? (i := 1) rfl) C22.1 (vs := [(.int (102 : Int32)), (.int (111 : Int32)), (.int (114 : Int32)), (.int (98 : Int32)), (.int (105 : Int32)), (.int (100 : Int32))]) (z := (6 : Int32)) ⟨by decide +kernel, by rfl⟩ (by decide) (by decide) (g := (mkF m 292 #[.val (.int p0), .val (.long q1), .second, .val (.int p2), .val (.int v4), .val (.int v5), .val (.int v6), .val (.int v7), .val (.ref bA), .val (.int v9), .val (.int (0 : Int32)), .val (.ref fb21), .unset] [(.ref fb21)])) rfl (hb hby at_292) (n := 24) (by decide +kernel) (by decide) (by decide) (by decide)
      have C24 := CHr.trans C22 Cm24
      have O24 := O22.ext E24
      have K24 := Keep.ext K22 E24
      have LT24 : own_St Z h24 a24 (6 : Int32) [(.int (102 : Int32)), (.int (111 : Int32)), (.int (114 : Int32)), (.int (98 : Int32)), (.int (105 : Int32)), (.int (100 : Int32))] := ⟨Le24, Lc24_, _, _, Lv24, La24⟩
      obtain ⟨cq25, kq25, q25a, q25b, q25c⟩ := isOf hZ24 e24 ((Tq21.1.ext E22).ext E24)
      obtain ⟨_, _, ⟨T25, L25, k25, n25⟩, -, X25, ⟨Lc25, hQ25, l25, y25, z25⟩, st25⟩ := X24.virtualBack hx (y := (⟨"java/lang/String", "equals", "(Ljava/lang/Object;)Z"⟩ : MethodName)) (z := (⟨"java/lang/String", "equals", "(Ljava/lang/Object;)Z"⟩ : MethodName)) hown24 (mvT hZ24 (own_w hw 39)) (mvT hZ24 (own_w hw 40)) (notFace_of_selects (args := #[]) (mvT hZ24 (own_w hw 42))) (mvT hZ24 (own_w hw 42)) (mvT hZ24 (own_w hw 41)) (by decide) (backOf (W := 0) (rmseN l Z a0 hw [] fb21 a24 (0 : Int32) (6 : Int32) [] [(.int (102 : Int32)), (.int (111 : Int32)), (.int (114 : Int32)), (.int (98 : Int32)), (.int (105 : Int32)), (.int (100 : Int32))] wALLOW wFORBID tALLOW tFORBID wV kwV cs h24 n0 (own_le O24) O24 HW ((Tq21.ext E22).ext E24) LT24 (by decide)) hZ24 (own_w hw 43) (own_w hw 9) (by decide) (by decide)) q25a q25c (g := (mkF m 294 #[.val (.int p0), .val (.long q1), .second, .val (.int p2), .val (.int v4), .val (.int v5), .val (.int v6), .val (.int v7), .val (.ref bA), .val (.int v9), .val (.int (0 : Int32)), .val (.ref fb21), .unset] [(.ref a24), (.ref fb21)])) rfl (by rw [hml]; rfl) (Steps.refl _) (argsL := [(.ref a24)]) (rest := []) (lenOf pd_8 rfl) rfl (by show 2 * 0 + _ ≤ _; exact Nat.le_of_eq rfl) (hb hby at_294) (fun _ _ => ⟨rfl, e24, (by decide : 11 + 0 ≤ _), (by decide : 70 + 0 ≤ _)⟩)
      dsimp only [Pt.U, Pt.locs, Pt.cells, Pt.slots] at X25 l25 y25 z25 st25 hQ25
      subst l25 y25 z25
      obtain ⟨rfl, N25q, e25⟩ := hQ25
      have N25 := Fr.app N23 N25q
      refine own_by (W' := (T25.setTop (mkF m 306 #[.val (.int p0), .val (.long q1), .second, .val (.int p2), .val (.int v4), .val (.int v5), .val (.int v6), .val (.int v7), .val (.ref bA), .val (.int v9), .val (.int (0 : Int32)), .val (.ref fb21), .unset] []))) (fun t k => Steps.trans st23 (XS.ifYes X23.here hx rfl (pc0 := 281) (pc' := 290) rfl (hb hby at_281) rfl ((if0 _ _).trans (teq (rfl : (0 : Int32) = (0 : Int32))).1) (by decide) (by decide) (XS.aload X23.here hx rfl (hb hby at_290) rfl rfl (st24 _ (Steps.trans st25 (XS.ifYes X25.here hx rfl (pc0 := 297) (pc' := 306) rfl (hb hby at_297) rfl ((if0 _ _).trans (teq (rfl : (0 : Int32) = (0 : Int32))).1) (by decide) (by decide) k)))))) ?_
      obtain ⟨_, _, ⟨T26, L26, k26, n26⟩, -, X26, ⟨Lc26, hQ26, l26, y26, z26⟩, st26⟩ := Jvm.LawKit.callS X25 hx (y := (⟨"com/example/claviger/claviger/engine/Effect", "named", "(Ljava/lang/String;)Lcom/example/claviger/claviger/engine/Effect;"⟩ : MethodName)) hown24 (mvT hZ24 (own_w hw 52)) (mvT hZ24 (own_w hw 53)) (mvT hZ24 (own_w hw 50)) (mvT hZ24 (own_w hw 54)) (by decide) (backOf (W := 0) (rmnmN l Z a0 hw [] fb21 (0 : Int32) [] wALLOW wFORBID tALLOW tFORBID wV kwV cs h24 n0 (own_le O24) O24 HW ((Tq21.ext E22).ext E24) (by decide) (by decide)) hZ24 (own_w hw 54) (own_w hw 50) (by decide) (by decide)) (g := (mkF m 311 #[.val (.int p0), .val (.long q1), .second, .val (.int p2), .val (.int v4), .val (.int v5), .val (.int v6), .val (.int v7), .val (.ref bA), .val (.int v9), .val (.int (0 : Int32)), .val (.ref fb21), .val .null] [(.ref fb21)])) rfl (by rw [hml]; rfl) (argsL := [(.ref fb21)]) (rest := []) (lenOf pd_10 rfl) rfl (by show 2 * 0 + _ ≤ _; exact Nat.le_of_eq rfl) (hb hby at_311) (fun _ _ => ⟨rfl, e25, (by decide : 11 + 1 ≤ _), (by decide : 70 + 2 ≤ _)⟩)
      dsimp only [Pt.U, Pt.locs, Pt.cells, Pt.slots] at X26 l26 y26 z26 st26 hQ26
      subst l26 y26 z26
      obtain ⟨rfl, N26q, Kq26⟩ := hQ26
      have O26 := Old.keep O24 Kq26 all0
      have K26 := Keep.trans K24 Kq26 all0
      have C26 := CHr.trans C24 (CHr.keep Kq26 all0 C24.1)
      have N26 := Fr.app N25 N26q
      refine own_by (W' := (T26.setTop (mkF m 319 #[.val (.int p0), .val (.long q1), .second, .val (.int p2), .val (.int v4), .val (.int v5), .val (.int v6), .val (.int v7), .val (.ref bA), .val (.int v9), .val (.int (0 : Int32)), .val (.ref fb21), .val .null] []))) (fun t k => XS.aconstNull X25.here hx rfl (hb hby at_306) (XS.astore X25.here hx rfl (hb hby at_307) rfl rfl (l' := #[.val (.int p0), .val (.long q1), .second, .val (.int p2), .val (.int v4), .val (.int v5), .val (.int v6), .val (.int v7), .val (.ref bA), .val (.int v9), .val (.int (0 : Int32)), .val (.ref fb21), .val .null]) rfl (XS.aload X25.here hx rfl (hb hby at_309) rfl rfl (st26 _ (XS.aload X26.here hx rfl (hb hby at_314) rfl rfl (Jvm.RoadKit.acmp (g := (mkF m 316 #[.val (.int p0), .val (.long q1), .second, .val (.int p2), .val (.int v4), .val (.int v5), .val (.int v6), .val (.int v7), .val (.ref bA), .val (.int v9), .val (.int (0 : Int32)), .val (.ref fb21), .val .null] [.null, .null])) X26 hx rfl rfl rfl (pc0 := 316) (pc' := 319) (same := true) rfl (hb hby at_316) rfl (decide_eq_true rfl) (by decide) (by decide) k)))))) ?_
      obtain ⟨fs, hr, hrun, hended, hEnd⟩ := Jvm.Stand.leaveW (s := s) (vm₁ := T24.vm) X26 hS24 (Nat.le_trans hk24 Kq26.1) (v := some (.int (1 : Int32))) (fun h => by rw [Bd.returns] at h; cases h)
      refine own_by (W' := (T26.setTop (mkF m 324 #[.val (.int p0), .val (.long q1), .second, .val (.int p2), .val (.int v4), .val (.int v5), .val (.int v6), .val (.int v7), .val (.ref bA), .val (.int v9), .val (.int (0 : Int32)), .val (.ref fb21), .val .null] [(.int (1 : Int32))]))) (fun t k => XS.iconst X26.here hx rfl (hb hby at_319) (XS.goto X26.here hx rfl (pc0 := 320) (pc' := 324) rfl (hb hby at_320) (by decide) (by decide) k)) ?_
      refine ⟨_, _, retOut X26 hx Bd.returns rfl (Or.inl ⟨rfl, Or.inr (Or.inl rfl), _, rfl⟩) (hb hby at_324) hr, hrun, hended, _, _, rfl, ?_, (by rw [hh]; show CHr Z consts_1 s.vm h0 T26.vm T26.heap; exact CHr.trans C26 (CHv.at (s := s) (vm0 := T24.vm) X26 hZ24 (own_EW hw) C26.1)), hEnd.1, hEnd.2.1, hEnd.2.2.1, hEnd.2.2.2.mono (by decide) (by decide)⟩
      exact ⟨rfl, N26⟩
    ·
      obtain ⟨_, _, ⟨T27, L27, k27, n27⟩, -, X27, ⟨Lc27, hQ27, l27, y27, z27⟩, st27⟩ := Jvm.LawKit.callS Xc hx (y := (⟨"com/example/claviger/claviger/engine/EffectNamedPinLaw", "make", "([CI)Ljava/lang/String;"⟩ : MethodName)) hown (mvT hZ (own_w hw 3)) (mvT hZ (own_w hw 4)) (mvT hZ (own_w hw 5)) (mvT hZ (own_w hw 6)) (by decide) (backOf (W := 0) (rmmk1 l Z a0 hw [] bA kA c0 c1 c2 c3 c4 c5 wALLOW wFORBID tALLOW tFORBID wV kwV cs hC n0 (own_le OC) OC HW VC hl_c0 hl_c1 hl_c2 hl_c3 hl_c4 hl_c5) hZ (own_w hw 6) (own_w hw 5) (by decide) (by decide)) (g := (mkF m 269 #[.val (.int p0), .val (.long q1), .second, .val (.int p2), .val (.int v4), .val (.int v5), .val (.int v6), .val (.int v7), .val (.ref bA), .val (.int v9), .val (.int (1 : Int32)), .unset, .unset] [(.int (1 : Int32)), (.ref bA)])) rfl (by rw [hml]; rfl) (argsL := [(.ref bA), (.int (1 : Int32))]) (rest := []) (lenOf pd_9 rfl) rfl (by show 2 * 0 + _ ≤ _; exact Nat.le_of_eq rfl) (hb hby at_269) (fun _ _ => ⟨rfl, ec, (by decide : 1 + 3 ≤ _), (by decide : 6 + 6 ≤ _)⟩)
      dsimp only [Pt.U, Pt.locs, Pt.cells, Pt.slots] at X27 l27 y27 z27 st27 hQ27
      subst l27 y27 z27
      obtain ⟨fb27, rfl, N27q, Kq27, hsz27, Tq27⟩ := hQ27
      have O27 := Old.keep OC Kq27 all0
      have K27 := Keep.trans KC Kq27 all0
      have C27 := CHr.trans CC (CHr.keep Kq27 all0 CC.1)
      have N27 := Fr.app Nc N27q
      obtain ⟨a28, T28, h28, k28, lb28, lk28, X28, e28, E28, hS28, hk28, hZ28, hown28, Le28, Lc28_, Lv28, La28, -, -, Cm28, -, Ln28, st28⟩ := ldcCH (s := s) (vm0 := s.vm) X27 hx hZ hown (own_w hw 36) (own_wS hw) rfl hS0 (Nat.le_trans KC.1 Kq27.1) (own_EW hw) (List.mem_of_getElem? (i := 0) rfl) C27.1 (vs := [(.int (97 : Int32)), (.int (108 : Int32)), (.int (108 : Int32)), (.int (111 : Int32)), (.int (119 : Int32))]) (z := (5 : Int32)) ⟨by decide +kernel, by rfl⟩ (by decide) (by decide) (g := (mkF m 276 #[.val (.int p0), .val (.long q1), .second, .val (.int p2), .val (.int v4), .val (.int v5), .val (.int v6), .val (.int v7), .val (.ref bA), .val (.int v9), .val (.int (1 : Int32)), .val (.ref fb27), .unset] [(.ref fb27)])) rfl (hb hby at_276) (n := 20) (by decide +kernel) (by decide) (by decide) (by decide)
      have C28 := CHr.trans C27 Cm28
      have O28 := O27.ext E28
      have K28 := Keep.ext K27 E28
      have LT28 : own_St Z h28 a28 (5 : Int32) [(.int (97 : Int32)), (.int (108 : Int32)), (.int (108 : Int32)), (.int (111 : Int32)), (.int (119 : Int32))] := ⟨Le28, Lc28_, _, _, Lv28, La28⟩
      refine own_by (W' := (T28.setTop (mkF m 278 #[.val (.int p0), .val (.long q1), .second, .val (.int p2), .val (.int v4), .val (.int v5), .val (.int v6), .val (.int v7), .val (.ref bA), .val (.int v9), .val (.int (1 : Int32)), .val (.ref fb27), .unset] [(.ref a28), (.ref fb27)]))) (fun t k => XS.aload Xc.here hx rfl (hb hby at_265) rfl rfl (XS.iload Xc.here hx rfl (hb hby at_267) rfl (st27 _ (XS.astore X27.here hx rfl (hb hby at_272) rfl rfl (l' := #[.val (.int p0), .val (.long q1), .second, .val (.int p2), .val (.int v4), .val (.int v5), .val (.int v6), .val (.int v7), .val (.ref bA), .val (.int v9), .val (.int (1 : Int32)), .val (.ref fb27), .unset]) rfl (XS.aload X27.here hx rfl (hb hby at_274) rfl rfl (st28 _ k)))))) ?_
      obtain ⟨cq29, kq29, q29a, q29b, q29c⟩ := isOf hZ28 e28 (Tq27.1.ext E28)
      obtain ⟨_, _, ⟨T29, L29, k29, n29⟩, -, X29, ⟨Lc29, hQ29, l29, y29, z29⟩, st29⟩ := X28.virtualBack hx (y := (⟨"java/lang/String", "equals", "(Ljava/lang/Object;)Z"⟩ : MethodName)) (z := (⟨"java/lang/String", "equals", "(Ljava/lang/Object;)Z"⟩ : MethodName)) hown28 (mvT hZ28 (own_w hw 39)) (mvT hZ28 (own_w hw 40)) (notFace_of_selects (args := #[]) (mvT hZ28 (own_w hw 42))) (mvT hZ28 (own_w hw 42)) (mvT hZ28 (own_w hw 41)) (by decide) (backOf (W := 0) (rmseN l Z a0 hw [] fb27 a28 (1 : Int32) (5 : Int32) [(.int (nar .byte (c0.toInt8.toInt32)))] [(.int (97 : Int32)), (.int (108 : Int32)), (.int (108 : Int32)), (.int (111 : Int32)), (.int (119 : Int32))] wALLOW wFORBID tALLOW tFORBID wV kwV cs h28 n0 (own_le O28) O28 HW (Tq27.ext E28) LT28 (by decide)) hZ28 (own_w hw 43) (own_w hw 9) (by decide) (by decide)) q29a q29c (g := (mkF m 278 #[.val (.int p0), .val (.long q1), .second, .val (.int p2), .val (.int v4), .val (.int v5), .val (.int v6), .val (.int v7), .val (.ref bA), .val (.int v9), .val (.int (1 : Int32)), .val (.ref fb27), .unset] [(.ref a28), (.ref fb27)])) rfl (by rw [hml]; rfl) (Steps.refl _) (argsL := [(.ref a28)]) (rest := []) (lenOf pd_8 rfl) rfl (by show 2 * 0 + _ ≤ _; exact Nat.le_of_eq rfl) (hb hby at_278) (fun _ _ => ⟨rfl, e28, (by decide : 6 + 0 ≤ _), (by decide : 36 + 0 ≤ _)⟩)
      dsimp only [Pt.U, Pt.locs, Pt.cells, Pt.slots] at X29 l29 y29 z29 st29 hQ29
      subst l29 y29 z29
      obtain ⟨rfl, N29q, e29⟩ := hQ29
      have N29 := Fr.app N27 N29q
      obtain ⟨a30, T30, h30, k30, lb30, lk30, X30, e30, E30, hS30, hk30, hZ30, hown30, Le30, Lc30_, Lv30, La30, -, -, Cm30, -, Ln30, st30⟩ := ldcCH (s := s) (vm0 := T28.vm) X29 hx hZ28 hown28 (own_w hw 74) (own_wS hw) e29 hS28 hk28 (own_EW hw) (List.mem_of_getElem? (i := 1) rfl) C28.1 (vs := [(.int (102 : Int32)), (.int (111 : Int32)), (.int (114 : Int32)), (.int (98 : Int32)), (.int (105 : Int32)), (.int (100 : Int32))]) (z := (6 : Int32)) ⟨by decide +kernel, by rfl⟩ (by decide) (by decide) (g := (mkF m 292 #[.val (.int p0), .val (.long q1), .second, .val (.int p2), .val (.int v4), .val (.int v5), .val (.int v6), .val (.int v7), .val (.ref bA), .val (.int v9), .val (.int (1 : Int32)), .val (.ref fb27), .unset] [(.ref fb27)])) rfl (hb hby at_292) (n := 24) (by decide +kernel) (by decide) (by decide) (by decide)
      have C30 := CHr.trans C28 Cm30
      have O30 := O28.ext E30
      have K30 := Keep.ext K28 E30
      have LT30 : own_St Z h30 a30 (6 : Int32) [(.int (102 : Int32)), (.int (111 : Int32)), (.int (114 : Int32)), (.int (98 : Int32)), (.int (105 : Int32)), (.int (100 : Int32))] := ⟨Le30, Lc30_, _, _, Lv30, La30⟩
      obtain ⟨cq31, kq31, q31a, q31b, q31c⟩ := isOf hZ30 e30 ((Tq27.1.ext E28).ext E30)
      obtain ⟨_, _, ⟨T31, L31, k31, n31⟩, -, X31, ⟨Lc31, hQ31, l31, y31, z31⟩, st31⟩ := X30.virtualBack hx (y := (⟨"java/lang/String", "equals", "(Ljava/lang/Object;)Z"⟩ : MethodName)) (z := (⟨"java/lang/String", "equals", "(Ljava/lang/Object;)Z"⟩ : MethodName)) hown30 (mvT hZ30 (own_w hw 39)) (mvT hZ30 (own_w hw 40)) (notFace_of_selects (args := #[]) (mvT hZ30 (own_w hw 42))) (mvT hZ30 (own_w hw 42)) (mvT hZ30 (own_w hw 41)) (by decide) (backOf (W := 0) (rmseN l Z a0 hw [] fb27 a30 (1 : Int32) (6 : Int32) [(.int (nar .byte (c0.toInt8.toInt32)))] [(.int (102 : Int32)), (.int (111 : Int32)), (.int (114 : Int32)), (.int (98 : Int32)), (.int (105 : Int32)), (.int (100 : Int32))] wALLOW wFORBID tALLOW tFORBID wV kwV cs h30 n0 (own_le O30) O30 HW ((Tq27.ext E28).ext E30) LT30 (by decide)) hZ30 (own_w hw 43) (own_w hw 9) (by decide) (by decide)) q31a q31c (g := (mkF m 294 #[.val (.int p0), .val (.long q1), .second, .val (.int p2), .val (.int v4), .val (.int v5), .val (.int v6), .val (.int v7), .val (.ref bA), .val (.int v9), .val (.int (1 : Int32)), .val (.ref fb27), .unset] [(.ref a30), (.ref fb27)])) rfl (by rw [hml]; rfl) (Steps.refl _) (argsL := [(.ref a30)]) (rest := []) (lenOf pd_8 rfl) rfl (by show 2 * 0 + _ ≤ _; exact Nat.le_of_eq rfl) (hb hby at_294) (fun _ _ => ⟨rfl, e30, (by decide : 8 + 0 ≤ _), (by decide : 64 + 0 ≤ _)⟩)
      dsimp only [Pt.U, Pt.locs, Pt.cells, Pt.slots] at X31 l31 y31 z31 st31 hQ31
      subst l31 y31 z31
      obtain ⟨rfl, N31q, e31⟩ := hQ31
      have N31 := Fr.app N29 N31q
      refine own_by (W' := (T31.setTop (mkF m 306 #[.val (.int p0), .val (.long q1), .second, .val (.int p2), .val (.int v4), .val (.int v5), .val (.int v6), .val (.int v7), .val (.ref bA), .val (.int v9), .val (.int (1 : Int32)), .val (.ref fb27), .unset] []))) (fun t k => Steps.trans st29 (XS.ifYes X29.here hx rfl (pc0 := 281) (pc' := 290) rfl (hb hby at_281) rfl ((if0 _ _).trans (teq (rfl : (0 : Int32) = (0 : Int32))).1) (by decide) (by decide) (XS.aload X29.here hx rfl (hb hby at_290) rfl rfl (st30 _ (Steps.trans st31 (XS.ifYes X31.here hx rfl (pc0 := 297) (pc' := 306) rfl (hb hby at_297) rfl ((if0 _ _).trans (teq (rfl : (0 : Int32) = (0 : Int32))).1) (by decide) (by decide) k)))))) ?_
      obtain ⟨_, _, ⟨T32, L32, k32, n32⟩, -, X32, ⟨Lc32, hQ32, l32, y32, z32⟩, st32⟩ := Jvm.LawKit.callS X31 hx (y := (⟨"com/example/claviger/claviger/engine/Effect", "named", "(Ljava/lang/String;)Lcom/example/claviger/claviger/engine/Effect;"⟩ : MethodName)) hown30 (mvT hZ30 (own_w hw 52)) (mvT hZ30 (own_w hw 53)) (mvT hZ30 (own_w hw 50)) (mvT hZ30 (own_w hw 54)) (by decide) (backOf (W := 0) (rmnmN l Z a0 hw [] fb27 (1 : Int32) [(.int (nar .byte (c0.toInt8.toInt32)))] wALLOW wFORBID tALLOW tFORBID wV kwV cs h30 n0 (own_le O30) O30 HW ((Tq27.ext E28).ext E30) (by decide) (by decide)) hZ30 (own_w hw 54) (own_w hw 50) (by decide) (by decide)) (g := (mkF m 311 #[.val (.int p0), .val (.long q1), .second, .val (.int p2), .val (.int v4), .val (.int v5), .val (.int v6), .val (.int v7), .val (.ref bA), .val (.int v9), .val (.int (1 : Int32)), .val (.ref fb27), .val .null] [(.ref fb27)])) rfl (by rw [hml]; rfl) (argsL := [(.ref fb27)]) (rest := []) (lenOf pd_10 rfl) rfl (by show 2 * 0 + _ ≤ _; exact Nat.le_of_eq rfl) (hb hby at_311) (fun _ _ => ⟨rfl, e31, (by decide : 8 + 1 ≤ _), (by decide : 64 + 2 ≤ _)⟩)
      dsimp only [Pt.U, Pt.locs, Pt.cells, Pt.slots] at X32 l32 y32 z32 st32 hQ32
      subst l32 y32 z32
      obtain ⟨rfl, N32q, Kq32⟩ := hQ32
      have O32 := Old.keep O30 Kq32 all0
      have K32 := Keep.trans K30 Kq32 all0
      have C32 := CHr.trans C30 (CHr.keep Kq32 all0 C30.1)
      have N32 := Fr.app N31 N32q
      refine own_by (W' := (T32.setTop (mkF m 319 #[.val (.int p0), .val (.long q1), .second, .val (.int p2), .val (.int v4), .val (.int v5), .val (.int v6), .val (.int v7), .val (.ref bA), .val (.int v9), .val (.int (1 : Int32)), .val (.ref fb27), .val .null] []))) (fun t k => XS.aconstNull X31.here hx rfl (hb hby at_306) (XS.astore X31.here hx rfl (hb hby at_307) rfl rfl (l' := #[.val (.int p0), .val (.long q1), .second, .val (.int p2), .val (.int v4), .val (.int v5), .val (.int v6), .val (.int v7), .val (.ref bA), .val (.int v9), .val (.int (1 : Int32)), .val (.ref fb27), .val .null]) rfl (XS.aload X31.here hx rfl (hb hby at_309) rfl rfl (st32 _ (XS.aload X32.here hx rfl (hb hby at_314) rfl rfl (Jvm.RoadKit.acmp (g := (mkF m 316 #[.val (.int p0), .val (.long q1), .second, .val (.int p2), .val (.int v4), .val (.int v5), .val (.int v6), .val (.int v7), .val (.ref bA), .val (.int v9), .val (.int (1 : Int32)), .val (.ref fb27), .val .null] [.null, .null])) X32 hx rfl rfl rfl (pc0 := 316) (pc' := 319) (same := true) rfl (hb hby at_316) rfl (decide_eq_true rfl) (by decide) (by decide) k)))))) ?_
      obtain ⟨fs, hr, hrun, hended, hEnd⟩ := Jvm.Stand.leaveW (s := s) (vm₁ := T30.vm) X32 hS30 (Nat.le_trans hk30 Kq32.1) (v := some (.int (1 : Int32))) (fun h => by rw [Bd.returns] at h; cases h)
      refine own_by (W' := (T32.setTop (mkF m 324 #[.val (.int p0), .val (.long q1), .second, .val (.int p2), .val (.int v4), .val (.int v5), .val (.int v6), .val (.int v7), .val (.ref bA), .val (.int v9), .val (.int (1 : Int32)), .val (.ref fb27), .val .null] [(.int (1 : Int32))]))) (fun t k => XS.iconst X32.here hx rfl (hb hby at_319) (XS.goto X32.here hx rfl (pc0 := 320) (pc' := 324) rfl (hb hby at_320) (by decide) (by decide) k)) ?_
      refine ⟨_, _, retOut X32 hx Bd.returns rfl (Or.inl ⟨rfl, Or.inr (Or.inl rfl), _, rfl⟩) (hb hby at_324) hr, hrun, hended, _, _, rfl, ?_, (by rw [hh]; show CHr Z consts_1 s.vm h0 T32.vm T32.heap; exact CHr.trans C32 (CHv.at (s := s) (vm0 := T30.vm) X32 hZ30 (own_EW hw) C32.1)), hEnd.1, hEnd.2.1, hEnd.2.2.1, hEnd.2.2.2.mono (by decide) (by decide)⟩
      exact ⟨rfl, N32⟩
    ·
      obtain ⟨_, _, ⟨T33, L33, k33, n33⟩, -, X33, ⟨Lc33, hQ33, l33, y33, z33⟩, st33⟩ := Jvm.LawKit.callS Xc hx (y := (⟨"com/example/claviger/claviger/engine/EffectNamedPinLaw", "make", "([CI)Ljava/lang/String;"⟩ : MethodName)) hown (mvT hZ (own_w hw 3)) (mvT hZ (own_w hw 4)) (mvT hZ (own_w hw 5)) (mvT hZ (own_w hw 6)) (by decide) (backOf (W := 0) (rmmk2 l Z a0 hw [] bA kA c0 c1 c2 c3 c4 c5 wALLOW wFORBID tALLOW tFORBID wV kwV cs hC n0 (own_le OC) OC HW VC hl_c0 hl_c1 hl_c2 hl_c3 hl_c4 hl_c5) hZ (own_w hw 6) (own_w hw 5) (by decide) (by decide)) (g := (mkF m 269 #[.val (.int p0), .val (.long q1), .second, .val (.int p2), .val (.int v4), .val (.int v5), .val (.int v6), .val (.int v7), .val (.ref bA), .val (.int v9), .val (.int (2 : Int32)), .unset, .unset] [(.int (2 : Int32)), (.ref bA)])) rfl (by rw [hml]; rfl) (argsL := [(.ref bA), (.int (2 : Int32))]) (rest := []) (lenOf pd_9 rfl) rfl (by show 2 * 0 + _ ≤ _; exact Nat.le_of_eq rfl) (hb hby at_269) (fun _ _ => ⟨rfl, ec, (by decide : 1 + 3 ≤ _), (by decide : 6 + 8 ≤ _)⟩)
      dsimp only [Pt.U, Pt.locs, Pt.cells, Pt.slots] at X33 l33 y33 z33 st33 hQ33
      subst l33 y33 z33
      obtain ⟨fb33, rfl, N33q, Kq33, hsz33, Tq33⟩ := hQ33
      have O33 := Old.keep OC Kq33 all0
      have K33 := Keep.trans KC Kq33 all0
      have C33 := CHr.trans CC (CHr.keep Kq33 all0 CC.1)
      have N33 := Fr.app Nc N33q
      obtain ⟨a34, T34, h34, k34, lb34, lk34, X34, e34, E34, hS34, hk34, hZ34, hown34, Le34, Lc34_, Lv34, La34, -, -, Cm34, -, Ln34, st34⟩ := ldcCH (s := s) (vm0 := s.vm) X33 hx hZ hown (own_w hw 36) (own_wS hw) rfl hS0 (Nat.le_trans KC.1 Kq33.1) (own_EW hw) (List.mem_of_getElem? (i := 0) rfl) C33.1 (vs := [(.int (97 : Int32)), (.int (108 : Int32)), (.int (108 : Int32)), (.int (111 : Int32)), (.int (119 : Int32))]) (z := (5 : Int32)) ⟨by decide +kernel, by rfl⟩ (by decide) (by decide) (g := (mkF m 276 #[.val (.int p0), .val (.long q1), .second, .val (.int p2), .val (.int v4), .val (.int v5), .val (.int v6), .val (.int v7), .val (.ref bA), .val (.int v9), .val (.int (2 : Int32)), .val (.ref fb33), .unset] [(.ref fb33)])) rfl (hb hby at_276) (n := 20) (by decide +kernel) (by decide) (by decide) (by decide)
      have C34 := CHr.trans C33 Cm34
      have O34 := O33.ext E34
      have K34 := Keep.ext K33 E34
      have LT34 : own_St Z h34 a34 (5 : Int32) [(.int (97 : Int32)), (.int (108 : Int32)), (.int (108 : Int32)), (.int (111 : Int32)), (.int (119 : Int32))] := ⟨Le34, Lc34_, _, _, Lv34, La34⟩
      refine own_by (W' := (T34.setTop (mkF m 278 #[.val (.int p0), .val (.long q1), .second, .val (.int p2), .val (.int v4), .val (.int v5), .val (.int v6), .val (.int v7), .val (.ref bA), .val (.int v9), .val (.int (2 : Int32)), .val (.ref fb33), .unset] [(.ref a34), (.ref fb33)]))) (fun t k => XS.aload Xc.here hx rfl (hb hby at_265) rfl rfl (XS.iload Xc.here hx rfl (hb hby at_267) rfl (st33 _ (XS.astore X33.here hx rfl (hb hby at_272) rfl rfl (l' := #[.val (.int p0), .val (.long q1), .second, .val (.int p2), .val (.int v4), .val (.int v5), .val (.int v6), .val (.int v7), .val (.ref bA), .val (.int v9), .val (.int (2 : Int32)), .val (.ref fb33), .unset]) rfl (XS.aload X33.here hx rfl (hb hby at_274) rfl rfl (st34 _ k)))))) ?_
      obtain ⟨cq35, kq35, q35a, q35b, q35c⟩ := isOf hZ34 e34 (Tq33.1.ext E34)
      obtain ⟨_, _, ⟨T35, L35, k35, n35⟩, -, X35, ⟨Lc35, hQ35, l35, y35, z35⟩, st35⟩ := X34.virtualBack hx (y := (⟨"java/lang/String", "equals", "(Ljava/lang/Object;)Z"⟩ : MethodName)) (z := (⟨"java/lang/String", "equals", "(Ljava/lang/Object;)Z"⟩ : MethodName)) hown34 (mvT hZ34 (own_w hw 39)) (mvT hZ34 (own_w hw 40)) (notFace_of_selects (args := #[]) (mvT hZ34 (own_w hw 42))) (mvT hZ34 (own_w hw 42)) (mvT hZ34 (own_w hw 41)) (by decide) (backOf (W := 0) (rmseN l Z a0 hw [] fb33 a34 (2 : Int32) (5 : Int32) [(.int (nar .byte (c0.toInt8.toInt32))), (.int (nar .byte (c1.toInt8.toInt32)))] [(.int (97 : Int32)), (.int (108 : Int32)), (.int (108 : Int32)), (.int (111 : Int32)), (.int (119 : Int32))] wALLOW wFORBID tALLOW tFORBID wV kwV cs h34 n0 (own_le O34) O34 HW (Tq33.ext E34) LT34 (by decide)) hZ34 (own_w hw 43) (own_w hw 9) (by decide) (by decide)) q35a q35c (g := (mkF m 278 #[.val (.int p0), .val (.long q1), .second, .val (.int p2), .val (.int v4), .val (.int v5), .val (.int v6), .val (.int v7), .val (.ref bA), .val (.int v9), .val (.int (2 : Int32)), .val (.ref fb33), .unset] [(.ref a34), (.ref fb33)])) rfl (by rw [hml]; rfl) (Steps.refl _) (argsL := [(.ref a34)]) (rest := []) (lenOf pd_8 rfl) rfl (by show 2 * 0 + _ ≤ _; exact Nat.le_of_eq rfl) (hb hby at_278) (fun _ _ => ⟨rfl, e34, (by decide : 6 + 0 ≤ _), (by decide : 38 + 0 ≤ _)⟩)
      dsimp only [Pt.U, Pt.locs, Pt.cells, Pt.slots] at X35 l35 y35 z35 st35 hQ35
      subst l35 y35 z35
      obtain ⟨rfl, N35q, e35⟩ := hQ35
      have N35 := Fr.app N33 N35q
      obtain ⟨a36, T36, h36, k36, lb36, lk36, X36, e36, E36, hS36, hk36, hZ36, hown36, Le36, Lc36_, Lv36, La36, -, -, Cm36, -, Ln36, st36⟩ := ldcCH (s := s) (vm0 := T34.vm) X35 hx hZ34 hown34 (own_w hw 74) (own_wS hw) e35 hS34 hk34 (own_EW hw) (List.mem_of_getElem? (i := 1) rfl) C34.1 (vs := [(.int (102 : Int32)), (.int (111 : Int32)), (.int (114 : Int32)), (.int (98 : Int32)), (.int (105 : Int32)), (.int (100 : Int32))]) (z := (6 : Int32)) ⟨by decide +kernel, by rfl⟩ (by decide) (by decide) (g := (mkF m 292 #[.val (.int p0), .val (.long q1), .second, .val (.int p2), .val (.int v4), .val (.int v5), .val (.int v6), .val (.int v7), .val (.ref bA), .val (.int v9), .val (.int (2 : Int32)), .val (.ref fb33), .unset] [(.ref fb33)])) rfl (hb hby at_292) (n := 24) (by decide +kernel) (by decide) (by decide) (by decide)
      have C36 := CHr.trans C34 Cm36
      have O36 := O34.ext E36
      have K36 := Keep.ext K34 E36
      have LT36 : own_St Z h36 a36 (6 : Int32) [(.int (102 : Int32)), (.int (111 : Int32)), (.int (114 : Int32)), (.int (98 : Int32)), (.int (105 : Int32)), (.int (100 : Int32))] := ⟨Le36, Lc36_, _, _, Lv36, La36⟩
      obtain ⟨cq37, kq37, q37a, q37b, q37c⟩ := isOf hZ36 e36 ((Tq33.1.ext E34).ext E36)
      obtain ⟨_, _, ⟨T37, L37, k37, n37⟩, -, X37, ⟨Lc37, hQ37, l37, y37, z37⟩, st37⟩ := X36.virtualBack hx (y := (⟨"java/lang/String", "equals", "(Ljava/lang/Object;)Z"⟩ : MethodName)) (z := (⟨"java/lang/String", "equals", "(Ljava/lang/Object;)Z"⟩ : MethodName)) hown36 (mvT hZ36 (own_w hw 39)) (mvT hZ36 (own_w hw 40)) (notFace_of_selects (args := #[]) (mvT hZ36 (own_w hw 42))) (mvT hZ36 (own_w hw 42)) (mvT hZ36 (own_w hw 41)) (by decide) (backOf (W := 0) (rmseN l Z a0 hw [] fb33 a36 (2 : Int32) (6 : Int32) [(.int (nar .byte (c0.toInt8.toInt32))), (.int (nar .byte (c1.toInt8.toInt32)))] [(.int (102 : Int32)), (.int (111 : Int32)), (.int (114 : Int32)), (.int (98 : Int32)), (.int (105 : Int32)), (.int (100 : Int32))] wALLOW wFORBID tALLOW tFORBID wV kwV cs h36 n0 (own_le O36) O36 HW ((Tq33.ext E34).ext E36) LT36 (by decide)) hZ36 (own_w hw 43) (own_w hw 9) (by decide) (by decide)) q37a q37c (g := (mkF m 294 #[.val (.int p0), .val (.long q1), .second, .val (.int p2), .val (.int v4), .val (.int v5), .val (.int v6), .val (.int v7), .val (.ref bA), .val (.int v9), .val (.int (2 : Int32)), .val (.ref fb33), .unset] [(.ref a36), (.ref fb33)])) rfl (by rw [hml]; rfl) (Steps.refl _) (argsL := [(.ref a36)]) (rest := []) (lenOf pd_8 rfl) rfl (by show 2 * 0 + _ ≤ _; exact Nat.le_of_eq rfl) (hb hby at_294) (fun _ _ => ⟨rfl, e36, (by decide : 8 + 0 ≤ _), (by decide : 66 + 0 ≤ _)⟩)
      dsimp only [Pt.U, Pt.locs, Pt.cells, Pt.slots] at X37 l37 y37 z37 st37 hQ37
      subst l37 y37 z37
      obtain ⟨rfl, N37q, e37⟩ := hQ37
      have N37 := Fr.app N35 N37q
      refine own_by (W' := (T37.setTop (mkF m 306 #[.val (.int p0), .val (.long q1), .second, .val (.int p2), .val (.int v4), .val (.int v5), .val (.int v6), .val (.int v7), .val (.ref bA), .val (.int v9), .val (.int (2 : Int32)), .val (.ref fb33), .unset] []))) (fun t k => Steps.trans st35 (XS.ifYes X35.here hx rfl (pc0 := 281) (pc' := 290) rfl (hb hby at_281) rfl ((if0 _ _).trans (teq (rfl : (0 : Int32) = (0 : Int32))).1) (by decide) (by decide) (XS.aload X35.here hx rfl (hb hby at_290) rfl rfl (st36 _ (Steps.trans st37 (XS.ifYes X37.here hx rfl (pc0 := 297) (pc' := 306) rfl (hb hby at_297) rfl ((if0 _ _).trans (teq (rfl : (0 : Int32) = (0 : Int32))).1) (by decide) (by decide) k)))))) ?_
      obtain ⟨_, _, ⟨T38, L38, k38, n38⟩, -, X38, ⟨Lc38, hQ38, l38, y38, z38⟩, st38⟩ := Jvm.LawKit.callS X37 hx (y := (⟨"com/example/claviger/claviger/engine/Effect", "named", "(Ljava/lang/String;)Lcom/example/claviger/claviger/engine/Effect;"⟩ : MethodName)) hown36 (mvT hZ36 (own_w hw 52)) (mvT hZ36 (own_w hw 53)) (mvT hZ36 (own_w hw 50)) (mvT hZ36 (own_w hw 54)) (by decide) (backOf (W := 0) (rmnmN l Z a0 hw [] fb33 (2 : Int32) [(.int (nar .byte (c0.toInt8.toInt32))), (.int (nar .byte (c1.toInt8.toInt32)))] wALLOW wFORBID tALLOW tFORBID wV kwV cs h36 n0 (own_le O36) O36 HW ((Tq33.ext E34).ext E36) (by decide) (by decide)) hZ36 (own_w hw 54) (own_w hw 50) (by decide) (by decide)) (g := (mkF m 311 #[.val (.int p0), .val (.long q1), .second, .val (.int p2), .val (.int v4), .val (.int v5), .val (.int v6), .val (.int v7), .val (.ref bA), .val (.int v9), .val (.int (2 : Int32)), .val (.ref fb33), .val .null] [(.ref fb33)])) rfl (by rw [hml]; rfl) (argsL := [(.ref fb33)]) (rest := []) (lenOf pd_10 rfl) rfl (by show 2 * 0 + _ ≤ _; exact Nat.le_of_eq rfl) (hb hby at_311) (fun _ _ => ⟨rfl, e37, (by decide : 8 + 1 ≤ _), (by decide : 66 + 2 ≤ _)⟩)
      dsimp only [Pt.U, Pt.locs, Pt.cells, Pt.slots] at X38 l38 y38 z38 st38 hQ38
      subst l38 y38 z38
      obtain ⟨rfl, N38q, Kq38⟩ := hQ38
      have O38 := Old.keep O36 Kq38 all0
      have K38 := Keep.trans K36 Kq38 all0
      have C38 := CHr.trans C36 (CHr.keep Kq38 all0 C36.1)
      have N38 := Fr.app N37 N38q
      refine own_by (W' := (T38.setTop (mkF m 319 #[.val (.int p0), .val (.long q1), .second, .val (.int p2), .val (.int v4), .val (.int v5), .val (.int v6), .val (.int v7), .val (.ref bA), .val (.int v9), .val (.int (2 : Int32)), .val (.ref fb33), .val .null] []))) (fun t k => XS.aconstNull X37.here hx rfl (hb hby at_306) (XS.astore X37.here hx rfl (hb hby at_307) rfl rfl (l' := #[.val (.int p0), .val (.long q1), .second, .val (.int p2), .val (.int v4), .val (.int v5), .val (.int v6), .val (.int v7), .val (.ref bA), .val (.int v9), .val (.int (2 : Int32)), .val (.ref fb33), .val .null]) rfl (XS.aload X37.here hx rfl (hb hby at_309) rfl rfl (st38 _ (XS.aload X38.here hx rfl (hb hby at_314) rfl rfl (Jvm.RoadKit.acmp (g := (mkF m 316 #[.val (.int p0), .val (.long q1), .second, .val (.int p2), .val (.int v4), .val (.int v5), .val (.int v6), .val (.int v7), .val (.ref bA), .val (.int v9), .val (.int (2 : Int32)), .val (.ref fb33), .val .null] [.null, .null])) X38 hx rfl rfl rfl (pc0 := 316) (pc' := 319) (same := true) rfl (hb hby at_316) rfl (decide_eq_true rfl) (by decide) (by decide) k)))))) ?_
      obtain ⟨fs, hr, hrun, hended, hEnd⟩ := Jvm.Stand.leaveW (s := s) (vm₁ := T36.vm) X38 hS36 (Nat.le_trans hk36 Kq38.1) (v := some (.int (1 : Int32))) (fun h => by rw [Bd.returns] at h; cases h)
      refine own_by (W' := (T38.setTop (mkF m 324 #[.val (.int p0), .val (.long q1), .second, .val (.int p2), .val (.int v4), .val (.int v5), .val (.int v6), .val (.int v7), .val (.ref bA), .val (.int v9), .val (.int (2 : Int32)), .val (.ref fb33), .val .null] [(.int (1 : Int32))]))) (fun t k => XS.iconst X38.here hx rfl (hb hby at_319) (XS.goto X38.here hx rfl (pc0 := 320) (pc' := 324) rfl (hb hby at_320) (by decide) (by decide) k)) ?_
      refine ⟨_, _, retOut X38 hx Bd.returns rfl (Or.inl ⟨rfl, Or.inr (Or.inl rfl), _, rfl⟩) (hb hby at_324) hr, hrun, hended, _, _, rfl, ?_, (by rw [hh]; show CHr Z consts_1 s.vm h0 T38.vm T38.heap; exact CHr.trans C38 (CHv.at (s := s) (vm0 := T36.vm) X38 hZ36 (own_EW hw) C38.1)), hEnd.1, hEnd.2.1, hEnd.2.2.1, hEnd.2.2.2.mono (by decide) (by decide)⟩
      exact ⟨rfl, N38⟩
    ·
      obtain ⟨_, _, ⟨T39, L39, k39, n39⟩, -, X39, ⟨Lc39, hQ39, l39, y39, z39⟩, st39⟩ := Jvm.LawKit.callS Xc hx (y := (⟨"com/example/claviger/claviger/engine/EffectNamedPinLaw", "make", "([CI)Ljava/lang/String;"⟩ : MethodName)) hown (mvT hZ (own_w hw 3)) (mvT hZ (own_w hw 4)) (mvT hZ (own_w hw 5)) (mvT hZ (own_w hw 6)) (by decide) (backOf (W := 0) (rmmk3 l Z a0 hw [] bA kA c0 c1 c2 c3 c4 c5 wALLOW wFORBID tALLOW tFORBID wV kwV cs hC n0 (own_le OC) OC HW VC hl_c0 hl_c1 hl_c2 hl_c3 hl_c4 hl_c5) hZ (own_w hw 6) (own_w hw 5) (by decide) (by decide)) (g := (mkF m 269 #[.val (.int p0), .val (.long q1), .second, .val (.int p2), .val (.int v4), .val (.int v5), .val (.int v6), .val (.int v7), .val (.ref bA), .val (.int v9), .val (.int (3 : Int32)), .unset, .unset] [(.int (3 : Int32)), (.ref bA)])) rfl (by rw [hml]; rfl) (argsL := [(.ref bA), (.int (3 : Int32))]) (rest := []) (lenOf pd_9 rfl) rfl (by show 2 * 0 + _ ≤ _; exact Nat.le_of_eq rfl) (hb hby at_269) (fun _ _ => ⟨rfl, ec, (by decide : 1 + 3 ≤ _), (by decide : 6 + 10 ≤ _)⟩)
      dsimp only [Pt.U, Pt.locs, Pt.cells, Pt.slots] at X39 l39 y39 z39 st39 hQ39
      subst l39 y39 z39
      obtain ⟨fb39, rfl, N39q, Kq39, hsz39, Tq39⟩ := hQ39
      have O39 := Old.keep OC Kq39 all0
      have K39 := Keep.trans KC Kq39 all0
      have C39 := CHr.trans CC (CHr.keep Kq39 all0 CC.1)
      have N39 := Fr.app Nc N39q
      obtain ⟨a40, T40, h40, k40, lb40, lk40, X40, e40, E40, hS40, hk40, hZ40, hown40, Le40, Lc40_, Lv40, La40, -, -, Cm40, -, Ln40, st40⟩ := ldcCH (s := s) (vm0 := s.vm) X39 hx hZ hown (own_w hw 36) (own_wS hw) rfl hS0 (Nat.le_trans KC.1 Kq39.1) (own_EW hw) (List.mem_of_getElem? (i := 0) rfl) C39.1 (vs := [(.int (97 : Int32)), (.int (108 : Int32)), (.int (108 : Int32)), (.int (111 : Int32)), (.int (119 : Int32))]) (z := (5 : Int32)) ⟨by decide +kernel, by rfl⟩ (by decide) (by decide) (g := (mkF m 276 #[.val (.int p0), .val (.long q1), .second, .val (.int p2), .val (.int v4), .val (.int v5), .val (.int v6), .val (.int v7), .val (.ref bA), .val (.int v9), .val (.int (3 : Int32)), .val (.ref fb39), .unset] [(.ref fb39)])) rfl (hb hby at_276) (n := 20) (by decide +kernel) (by decide) (by decide) (by decide)
      have C40 := CHr.trans C39 Cm40
      have O40 := O39.ext E40
      have K40 := Keep.ext K39 E40
      have LT40 : own_St Z h40 a40 (5 : Int32) [(.int (97 : Int32)), (.int (108 : Int32)), (.int (108 : Int32)), (.int (111 : Int32)), (.int (119 : Int32))] := ⟨Le40, Lc40_, _, _, Lv40, La40⟩
      refine own_by (W' := (T40.setTop (mkF m 278 #[.val (.int p0), .val (.long q1), .second, .val (.int p2), .val (.int v4), .val (.int v5), .val (.int v6), .val (.int v7), .val (.ref bA), .val (.int v9), .val (.int (3 : Int32)), .val (.ref fb39), .unset] [(.ref a40), (.ref fb39)]))) (fun t k => XS.aload Xc.here hx rfl (hb hby at_265) rfl rfl (XS.iload Xc.here hx rfl (hb hby at_267) rfl (st39 _ (XS.astore X39.here hx rfl (hb hby at_272) rfl rfl (l' := #[.val (.int p0), .val (.long q1), .second, .val (.int p2), .val (.int v4), .val (.int v5), .val (.int v6), .val (.int v7), .val (.ref bA), .val (.int v9), .val (.int (3 : Int32)), .val (.ref fb39), .unset]) rfl (XS.aload X39.here hx rfl (hb hby at_274) rfl rfl (st40 _ k)))))) ?_
      obtain ⟨cq41, kq41, q41a, q41b, q41c⟩ := isOf hZ40 e40 (Tq39.1.ext E40)
      obtain ⟨_, _, ⟨T41, L41, k41, n41⟩, -, X41, ⟨Lc41, hQ41, l41, y41, z41⟩, st41⟩ := X40.virtualBack hx (y := (⟨"java/lang/String", "equals", "(Ljava/lang/Object;)Z"⟩ : MethodName)) (z := (⟨"java/lang/String", "equals", "(Ljava/lang/Object;)Z"⟩ : MethodName)) hown40 (mvT hZ40 (own_w hw 39)) (mvT hZ40 (own_w hw 40)) (notFace_of_selects (args := #[]) (mvT hZ40 (own_w hw 42))) (mvT hZ40 (own_w hw 42)) (mvT hZ40 (own_w hw 41)) (by decide) (backOf (W := 0) (rmseN l Z a0 hw [] fb39 a40 (3 : Int32) (5 : Int32) [(.int (nar .byte (c0.toInt8.toInt32))), (.int (nar .byte (c1.toInt8.toInt32))), (.int (nar .byte (c2.toInt8.toInt32)))] [(.int (97 : Int32)), (.int (108 : Int32)), (.int (108 : Int32)), (.int (111 : Int32)), (.int (119 : Int32))] wALLOW wFORBID tALLOW tFORBID wV kwV cs h40 n0 (own_le O40) O40 HW (Tq39.ext E40) LT40 (by decide)) hZ40 (own_w hw 43) (own_w hw 9) (by decide) (by decide)) q41a q41c (g := (mkF m 278 #[.val (.int p0), .val (.long q1), .second, .val (.int p2), .val (.int v4), .val (.int v5), .val (.int v6), .val (.int v7), .val (.ref bA), .val (.int v9), .val (.int (3 : Int32)), .val (.ref fb39), .unset] [(.ref a40), (.ref fb39)])) rfl (by rw [hml]; rfl) (Steps.refl _) (argsL := [(.ref a40)]) (rest := []) (lenOf pd_8 rfl) rfl (by show 2 * 0 + _ ≤ _; exact Nat.le_of_eq rfl) (hb hby at_278) (fun _ _ => ⟨rfl, e40, (by decide : 6 + 0 ≤ _), (by decide : 40 + 0 ≤ _)⟩)
      dsimp only [Pt.U, Pt.locs, Pt.cells, Pt.slots] at X41 l41 y41 z41 st41 hQ41
      subst l41 y41 z41
      obtain ⟨rfl, N41q, e41⟩ := hQ41
      have N41 := Fr.app N39 N41q
      obtain ⟨a42, T42, h42, k42, lb42, lk42, X42, e42, E42, hS42, hk42, hZ42, hown42, Le42, Lc42_, Lv42, La42, -, -, Cm42, -, Ln42, st42⟩ := ldcCH (s := s) (vm0 := T40.vm) X41 hx hZ40 hown40 (own_w hw 74) (own_wS hw) e41 hS40 hk40 (own_EW hw) (List.mem_of_getElem? (i := 1) rfl) C40.1 (vs := [(.int (102 : Int32)), (.int (111 : Int32)), (.int (114 : Int32)), (.int (98 : Int32)), (.int (105 : Int32)), (.int (100 : Int32))]) (z := (6 : Int32)) ⟨by decide +kernel, by rfl⟩ (by decide) (by decide) (g := (mkF m 292 #[.val (.int p0), .val (.long q1), .second, .val (.int p2), .val (.int v4), .val (.int v5), .val (.int v6), .val (.int v7), .val (.ref bA), .val (.int v9), .val (.int (3 : Int32)), .val (.ref fb39), .unset] [(.ref fb39)])) rfl (hb hby at_292) (n := 24) (by decide +kernel) (by decide) (by decide) (by decide)
      have C42 := CHr.trans C40 Cm42
      have O42 := O40.ext E42
      have K42 := Keep.ext K40 E42
      have LT42 : own_St Z h42 a42 (6 : Int32) [(.int (102 : Int32)), (.int (111 : Int32)), (.int (114 : Int32)), (.int (98 : Int32)), (.int (105 : Int32)), (.int (100 : Int32))] := ⟨Le42, Lc42_, _, _, Lv42, La42⟩
      obtain ⟨cq43, kq43, q43a, q43b, q43c⟩ := isOf hZ42 e42 ((Tq39.1.ext E40).ext E42)
      obtain ⟨_, _, ⟨T43, L43, k43, n43⟩, -, X43, ⟨Lc43, hQ43, l43, y43, z43⟩, st43⟩ := X42.virtualBack hx (y := (⟨"java/lang/String", "equals", "(Ljava/lang/Object;)Z"⟩ : MethodName)) (z := (⟨"java/lang/String", "equals", "(Ljava/lang/Object;)Z"⟩ : MethodName)) hown42 (mvT hZ42 (own_w hw 39)) (mvT hZ42 (own_w hw 40)) (notFace_of_selects (args := #[]) (mvT hZ42 (own_w hw 42))) (mvT hZ42 (own_w hw 42)) (mvT hZ42 (own_w hw 41)) (by decide) (backOf (W := 0) (rmseN l Z a0 hw [] fb39 a42 (3 : Int32) (6 : Int32) [(.int (nar .byte (c0.toInt8.toInt32))), (.int (nar .byte (c1.toInt8.toInt32))), (.int (nar .byte (c2.toInt8.toInt32)))] [(.int (102 : Int32)), (.int (111 : Int32)), (.int (114 : Int32)), (.int (98 : Int32)), (.int (105 : Int32)), (.int (100 : Int32))] wALLOW wFORBID tALLOW tFORBID wV kwV cs h42 n0 (own_le O42) O42 HW ((Tq39.ext E40).ext E42) LT42 (by decide)) hZ42 (own_w hw 43) (own_w hw 9) (by decide) (by decide)) q43a q43c (g := (mkF m 294 #[.val (.int p0), .val (.long q1), .second, .val (.int p2), .val (.int v4), .val (.int v5), .val (.int v6), .val (.int v7), .val (.ref bA), .val (.int v9), .val (.int (3 : Int32)), .val (.ref fb39), .unset] [(.ref a42), (.ref fb39)])) rfl (by rw [hml]; rfl) (Steps.refl _) (argsL := [(.ref a42)]) (rest := []) (lenOf pd_8 rfl) rfl (by show 2 * 0 + _ ≤ _; exact Nat.le_of_eq rfl) (hb hby at_294) (fun _ _ => ⟨rfl, e42, (by decide : 8 + 0 ≤ _), (by decide : 68 + 0 ≤ _)⟩)
      dsimp only [Pt.U, Pt.locs, Pt.cells, Pt.slots] at X43 l43 y43 z43 st43 hQ43
      subst l43 y43 z43
      obtain ⟨rfl, N43q, e43⟩ := hQ43
      have N43 := Fr.app N41 N43q
      refine own_by (W' := (T43.setTop (mkF m 306 #[.val (.int p0), .val (.long q1), .second, .val (.int p2), .val (.int v4), .val (.int v5), .val (.int v6), .val (.int v7), .val (.ref bA), .val (.int v9), .val (.int (3 : Int32)), .val (.ref fb39), .unset] []))) (fun t k => Steps.trans st41 (XS.ifYes X41.here hx rfl (pc0 := 281) (pc' := 290) rfl (hb hby at_281) rfl ((if0 _ _).trans (teq (rfl : (0 : Int32) = (0 : Int32))).1) (by decide) (by decide) (XS.aload X41.here hx rfl (hb hby at_290) rfl rfl (st42 _ (Steps.trans st43 (XS.ifYes X43.here hx rfl (pc0 := 297) (pc' := 306) rfl (hb hby at_297) rfl ((if0 _ _).trans (teq (rfl : (0 : Int32) = (0 : Int32))).1) (by decide) (by decide) k)))))) ?_
      obtain ⟨_, _, ⟨T44, L44, k44, n44⟩, -, X44, ⟨Lc44, hQ44, l44, y44, z44⟩, st44⟩ := Jvm.LawKit.callS X43 hx (y := (⟨"com/example/claviger/claviger/engine/Effect", "named", "(Ljava/lang/String;)Lcom/example/claviger/claviger/engine/Effect;"⟩ : MethodName)) hown42 (mvT hZ42 (own_w hw 52)) (mvT hZ42 (own_w hw 53)) (mvT hZ42 (own_w hw 50)) (mvT hZ42 (own_w hw 54)) (by decide) (backOf (W := 0) (rmnmN l Z a0 hw [] fb39 (3 : Int32) [(.int (nar .byte (c0.toInt8.toInt32))), (.int (nar .byte (c1.toInt8.toInt32))), (.int (nar .byte (c2.toInt8.toInt32)))] wALLOW wFORBID tALLOW tFORBID wV kwV cs h42 n0 (own_le O42) O42 HW ((Tq39.ext E40).ext E42) (by decide) (by decide)) hZ42 (own_w hw 54) (own_w hw 50) (by decide) (by decide)) (g := (mkF m 311 #[.val (.int p0), .val (.long q1), .second, .val (.int p2), .val (.int v4), .val (.int v5), .val (.int v6), .val (.int v7), .val (.ref bA), .val (.int v9), .val (.int (3 : Int32)), .val (.ref fb39), .val .null] [(.ref fb39)])) rfl (by rw [hml]; rfl) (argsL := [(.ref fb39)]) (rest := []) (lenOf pd_10 rfl) rfl (by show 2 * 0 + _ ≤ _; exact Nat.le_of_eq rfl) (hb hby at_311) (fun _ _ => ⟨rfl, e43, (by decide : 8 + 1 ≤ _), (by decide : 68 + 2 ≤ _)⟩)
      dsimp only [Pt.U, Pt.locs, Pt.cells, Pt.slots] at X44 l44 y44 z44 st44 hQ44
      subst l44 y44 z44
      obtain ⟨rfl, N44q, Kq44⟩ := hQ44
      have O44 := Old.keep O42 Kq44 all0
      have K44 := Keep.trans K42 Kq44 all0
      have C44 := CHr.trans C42 (CHr.keep Kq44 all0 C42.1)
      have N44 := Fr.app N43 N44q
      refine own_by (W' := (T44.setTop (mkF m 319 #[.val (.int p0), .val (.long q1), .second, .val (.int p2), .val (.int v4), .val (.int v5), .val (.int v6), .val (.int v7), .val (.ref bA), .val (.int v9), .val (.int (3 : Int32)), .val (.ref fb39), .val .null] []))) (fun t k => XS.aconstNull X43.here hx rfl (hb hby at_306) (XS.astore X43.here hx rfl (hb hby at_307) rfl rfl (l' := #[.val (.int p0), .val (.long q1), .second, .val (.int p2), .val (.int v4), .val (.int v5), .val (.int v6), .val (.int v7), .val (.ref bA), .val (.int v9), .val (.int (3 : Int32)), .val (.ref fb39), .val .null]) rfl (XS.aload X43.here hx rfl (hb hby at_309) rfl rfl (st44 _ (XS.aload X44.here hx rfl (hb hby at_314) rfl rfl (Jvm.RoadKit.acmp (g := (mkF m 316 #[.val (.int p0), .val (.long q1), .second, .val (.int p2), .val (.int v4), .val (.int v5), .val (.int v6), .val (.int v7), .val (.ref bA), .val (.int v9), .val (.int (3 : Int32)), .val (.ref fb39), .val .null] [.null, .null])) X44 hx rfl rfl rfl (pc0 := 316) (pc' := 319) (same := true) rfl (hb hby at_316) rfl (decide_eq_true rfl) (by decide) (by decide) k)))))) ?_
      obtain ⟨fs, hr, hrun, hended, hEnd⟩ := Jvm.Stand.leaveW (s := s) (vm₁ := T42.vm) X44 hS42 (Nat.le_trans hk42 Kq44.1) (v := some (.int (1 : Int32))) (fun h => by rw [Bd.returns] at h; cases h)
      refine own_by (W' := (T44.setTop (mkF m 324 #[.val (.int p0), .val (.long q1), .second, .val (.int p2), .val (.int v4), .val (.int v5), .val (.int v6), .val (.int v7), .val (.ref bA), .val (.int v9), .val (.int (3 : Int32)), .val (.ref fb39), .val .null] [(.int (1 : Int32))]))) (fun t k => XS.iconst X44.here hx rfl (hb hby at_319) (XS.goto X44.here hx rfl (pc0 := 320) (pc' := 324) rfl (hb hby at_320) (by decide) (by decide) k)) ?_
      refine ⟨_, _, retOut X44 hx Bd.returns rfl (Or.inl ⟨rfl, Or.inr (Or.inl rfl), _, rfl⟩) (hb hby at_324) hr, hrun, hended, _, _, rfl, ?_, (by rw [hh]; show CHr Z consts_1 s.vm h0 T44.vm T44.heap; exact CHr.trans C44 (CHv.at (s := s) (vm0 := T42.vm) X44 hZ42 (own_EW hw) C44.1)), hEnd.1, hEnd.2.1, hEnd.2.2.1, hEnd.2.2.2.mono (by decide) (by decide)⟩
      exact ⟨rfl, N44⟩
    ·
      obtain ⟨_, _, ⟨T45, L45, k45, n45⟩, -, X45, ⟨Lc45, hQ45, l45, y45, z45⟩, st45⟩ := Jvm.LawKit.callS Xc hx (y := (⟨"com/example/claviger/claviger/engine/EffectNamedPinLaw", "make", "([CI)Ljava/lang/String;"⟩ : MethodName)) hown (mvT hZ (own_w hw 3)) (mvT hZ (own_w hw 4)) (mvT hZ (own_w hw 5)) (mvT hZ (own_w hw 6)) (by decide) (backOf (W := 0) (rmmk4 l Z a0 hw [] bA kA c0 c1 c2 c3 c4 c5 wALLOW wFORBID tALLOW tFORBID wV kwV cs hC n0 (own_le OC) OC HW VC hl_c0 hl_c1 hl_c2 hl_c3 hl_c4 hl_c5) hZ (own_w hw 6) (own_w hw 5) (by decide) (by decide)) (g := (mkF m 269 #[.val (.int p0), .val (.long q1), .second, .val (.int p2), .val (.int v4), .val (.int v5), .val (.int v6), .val (.int v7), .val (.ref bA), .val (.int v9), .val (.int (4 : Int32)), .unset, .unset] [(.int (4 : Int32)), (.ref bA)])) rfl (by rw [hml]; rfl) (argsL := [(.ref bA), (.int (4 : Int32))]) (rest := []) (lenOf pd_9 rfl) rfl (by show 2 * 0 + _ ≤ _; exact Nat.le_of_eq rfl) (hb hby at_269) (fun _ _ => ⟨rfl, ec, (by decide : 1 + 3 ≤ _), (by decide : 6 + 12 ≤ _)⟩)
      dsimp only [Pt.U, Pt.locs, Pt.cells, Pt.slots] at X45 l45 y45 z45 st45 hQ45
      subst l45 y45 z45
      obtain ⟨fb45, rfl, N45q, Kq45, hsz45, Tq45⟩ := hQ45
      have O45 := Old.keep OC Kq45 all0
      have K45 := Keep.trans KC Kq45 all0
      have C45 := CHr.trans CC (CHr.keep Kq45 all0 CC.1)
      have N45 := Fr.app Nc N45q
      obtain ⟨a46, T46, h46, k46, lb46, lk46, X46, e46, E46, hS46, hk46, hZ46, hown46, Le46, Lc46_, Lv46, La46, -, -, Cm46, -, Ln46, st46⟩ := ldcCH (s := s) (vm0 := s.vm) X45 hx hZ hown (own_w hw 36) (own_wS hw) rfl hS0 (Nat.le_trans KC.1 Kq45.1) (own_EW hw) (List.mem_of_getElem? (i := 0) rfl) C45.1 (vs := [(.int (97 : Int32)), (.int (108 : Int32)), (.int (108 : Int32)), (.int (111 : Int32)), (.int (119 : Int32))]) (z := (5 : Int32)) ⟨by decide +kernel, by rfl⟩ (by decide) (by decide) (g := (mkF m 276 #[.val (.int p0), .val (.long q1), .second, .val (.int p2), .val (.int v4), .val (.int v5), .val (.int v6), .val (.int v7), .val (.ref bA), .val (.int v9), .val (.int (4 : Int32)), .val (.ref fb45), .unset] [(.ref fb45)])) rfl (hb hby at_276) (n := 20) (by decide +kernel) (by decide) (by decide) (by decide)
      have C46 := CHr.trans C45 Cm46
      have O46 := O45.ext E46
      have K46 := Keep.ext K45 E46
      have LT46 : own_St Z h46 a46 (5 : Int32) [(.int (97 : Int32)), (.int (108 : Int32)), (.int (108 : Int32)), (.int (111 : Int32)), (.int (119 : Int32))] := ⟨Le46, Lc46_, _, _, Lv46, La46⟩
      refine own_by (W' := (T46.setTop (mkF m 278 #[.val (.int p0), .val (.long q1), .second, .val (.int p2), .val (.int v4), .val (.int v5), .val (.int v6), .val (.int v7), .val (.ref bA), .val (.int v9), .val (.int (4 : Int32)), .val (.ref fb45), .unset] [(.ref a46), (.ref fb45)]))) (fun t k => XS.aload Xc.here hx rfl (hb hby at_265) rfl rfl (XS.iload Xc.here hx rfl (hb hby at_267) rfl (st45 _ (XS.astore X45.here hx rfl (hb hby at_272) rfl rfl (l' := #[.val (.int p0), .val (.long q1), .second, .val (.int p2), .val (.int v4), .val (.int v5), .val (.int v6), .val (.int v7), .val (.ref bA), .val (.int v9), .val (.int (4 : Int32)), .val (.ref fb45), .unset]) rfl (XS.aload X45.here hx rfl (hb hby at_274) rfl rfl (st46 _ k)))))) ?_
      obtain ⟨cq47, kq47, q47a, q47b, q47c⟩ := isOf hZ46 e46 (Tq45.1.ext E46)
      obtain ⟨_, _, ⟨T47, L47, k47, n47⟩, -, X47, ⟨Lc47, hQ47, l47, y47, z47⟩, st47⟩ := X46.virtualBack hx (y := (⟨"java/lang/String", "equals", "(Ljava/lang/Object;)Z"⟩ : MethodName)) (z := (⟨"java/lang/String", "equals", "(Ljava/lang/Object;)Z"⟩ : MethodName)) hown46 (mvT hZ46 (own_w hw 39)) (mvT hZ46 (own_w hw 40)) (notFace_of_selects (args := #[]) (mvT hZ46 (own_w hw 42))) (mvT hZ46 (own_w hw 42)) (mvT hZ46 (own_w hw 41)) (by decide) (backOf (W := 0) (rmseN l Z a0 hw [] fb45 a46 (4 : Int32) (5 : Int32) [(.int (nar .byte (c0.toInt8.toInt32))), (.int (nar .byte (c1.toInt8.toInt32))), (.int (nar .byte (c2.toInt8.toInt32))), (.int (nar .byte (c3.toInt8.toInt32)))] [(.int (97 : Int32)), (.int (108 : Int32)), (.int (108 : Int32)), (.int (111 : Int32)), (.int (119 : Int32))] wALLOW wFORBID tALLOW tFORBID wV kwV cs h46 n0 (own_le O46) O46 HW (Tq45.ext E46) LT46 (by decide)) hZ46 (own_w hw 43) (own_w hw 9) (by decide) (by decide)) q47a q47c (g := (mkF m 278 #[.val (.int p0), .val (.long q1), .second, .val (.int p2), .val (.int v4), .val (.int v5), .val (.int v6), .val (.int v7), .val (.ref bA), .val (.int v9), .val (.int (4 : Int32)), .val (.ref fb45), .unset] [(.ref a46), (.ref fb45)])) rfl (by rw [hml]; rfl) (Steps.refl _) (argsL := [(.ref a46)]) (rest := []) (lenOf pd_8 rfl) rfl (by show 2 * 0 + _ ≤ _; exact Nat.le_of_eq rfl) (hb hby at_278) (fun _ _ => ⟨rfl, e46, (by decide : 6 + 0 ≤ _), (by decide : 42 + 0 ≤ _)⟩)
      dsimp only [Pt.U, Pt.locs, Pt.cells, Pt.slots] at X47 l47 y47 z47 st47 hQ47
      subst l47 y47 z47
      obtain ⟨rfl, N47q, e47⟩ := hQ47
      have N47 := Fr.app N45 N47q
      obtain ⟨a48, T48, h48, k48, lb48, lk48, X48, e48, E48, hS48, hk48, hZ48, hown48, Le48, Lc48_, Lv48, La48, -, -, Cm48, -, Ln48, st48⟩ := ldcCH (s := s) (vm0 := T46.vm) X47 hx hZ46 hown46 (own_w hw 74) (own_wS hw) e47 hS46 hk46 (own_EW hw) (List.mem_of_getElem? (i := 1) rfl) C46.1 (vs := [(.int (102 : Int32)), (.int (111 : Int32)), (.int (114 : Int32)), (.int (98 : Int32)), (.int (105 : Int32)), (.int (100 : Int32))]) (z := (6 : Int32)) ⟨by decide +kernel, by rfl⟩ (by decide) (by decide) (g := (mkF m 292 #[.val (.int p0), .val (.long q1), .second, .val (.int p2), .val (.int v4), .val (.int v5), .val (.int v6), .val (.int v7), .val (.ref bA), .val (.int v9), .val (.int (4 : Int32)), .val (.ref fb45), .unset] [(.ref fb45)])) rfl (hb hby at_292) (n := 24) (by decide +kernel) (by decide) (by decide) (by decide)
      have C48 := CHr.trans C46 Cm48
      have O48 := O46.ext E48
      have K48 := Keep.ext K46 E48
      have LT48 : own_St Z h48 a48 (6 : Int32) [(.int (102 : Int32)), (.int (111 : Int32)), (.int (114 : Int32)), (.int (98 : Int32)), (.int (105 : Int32)), (.int (100 : Int32))] := ⟨Le48, Lc48_, _, _, Lv48, La48⟩
      obtain ⟨cq49, kq49, q49a, q49b, q49c⟩ := isOf hZ48 e48 ((Tq45.1.ext E46).ext E48)
      obtain ⟨_, _, ⟨T49, L49, k49, n49⟩, -, X49, ⟨Lc49, hQ49, l49, y49, z49⟩, st49⟩ := X48.virtualBack hx (y := (⟨"java/lang/String", "equals", "(Ljava/lang/Object;)Z"⟩ : MethodName)) (z := (⟨"java/lang/String", "equals", "(Ljava/lang/Object;)Z"⟩ : MethodName)) hown48 (mvT hZ48 (own_w hw 39)) (mvT hZ48 (own_w hw 40)) (notFace_of_selects (args := #[]) (mvT hZ48 (own_w hw 42))) (mvT hZ48 (own_w hw 42)) (mvT hZ48 (own_w hw 41)) (by decide) (backOf (W := 0) (rmseN l Z a0 hw [] fb45 a48 (4 : Int32) (6 : Int32) [(.int (nar .byte (c0.toInt8.toInt32))), (.int (nar .byte (c1.toInt8.toInt32))), (.int (nar .byte (c2.toInt8.toInt32))), (.int (nar .byte (c3.toInt8.toInt32)))] [(.int (102 : Int32)), (.int (111 : Int32)), (.int (114 : Int32)), (.int (98 : Int32)), (.int (105 : Int32)), (.int (100 : Int32))] wALLOW wFORBID tALLOW tFORBID wV kwV cs h48 n0 (own_le O48) O48 HW ((Tq45.ext E46).ext E48) LT48 (by decide)) hZ48 (own_w hw 43) (own_w hw 9) (by decide) (by decide)) q49a q49c (g := (mkF m 294 #[.val (.int p0), .val (.long q1), .second, .val (.int p2), .val (.int v4), .val (.int v5), .val (.int v6), .val (.int v7), .val (.ref bA), .val (.int v9), .val (.int (4 : Int32)), .val (.ref fb45), .unset] [(.ref a48), (.ref fb45)])) rfl (by rw [hml]; rfl) (Steps.refl _) (argsL := [(.ref a48)]) (rest := []) (lenOf pd_8 rfl) rfl (by show 2 * 0 + _ ≤ _; exact Nat.le_of_eq rfl) (hb hby at_294) (fun _ _ => ⟨rfl, e48, (by decide : 8 + 0 ≤ _), (by decide : 70 + 0 ≤ _)⟩)
      dsimp only [Pt.U, Pt.locs, Pt.cells, Pt.slots] at X49 l49 y49 z49 st49 hQ49
      subst l49 y49 z49
      obtain ⟨rfl, N49q, e49⟩ := hQ49
      have N49 := Fr.app N47 N49q
      refine own_by (W' := (T49.setTop (mkF m 306 #[.val (.int p0), .val (.long q1), .second, .val (.int p2), .val (.int v4), .val (.int v5), .val (.int v6), .val (.int v7), .val (.ref bA), .val (.int v9), .val (.int (4 : Int32)), .val (.ref fb45), .unset] []))) (fun t k => Steps.trans st47 (XS.ifYes X47.here hx rfl (pc0 := 281) (pc' := 290) rfl (hb hby at_281) rfl ((if0 _ _).trans (teq (rfl : (0 : Int32) = (0 : Int32))).1) (by decide) (by decide) (XS.aload X47.here hx rfl (hb hby at_290) rfl rfl (st48 _ (Steps.trans st49 (XS.ifYes X49.here hx rfl (pc0 := 297) (pc' := 306) rfl (hb hby at_297) rfl ((if0 _ _).trans (teq (rfl : (0 : Int32) = (0 : Int32))).1) (by decide) (by decide) k)))))) ?_
      obtain ⟨_, _, ⟨T50, L50, k50, n50⟩, -, X50, ⟨Lc50, hQ50, l50, y50, z50⟩, st50⟩ := Jvm.LawKit.callS X49 hx (y := (⟨"com/example/claviger/claviger/engine/Effect", "named", "(Ljava/lang/String;)Lcom/example/claviger/claviger/engine/Effect;"⟩ : MethodName)) hown48 (mvT hZ48 (own_w hw 52)) (mvT hZ48 (own_w hw 53)) (mvT hZ48 (own_w hw 50)) (mvT hZ48 (own_w hw 54)) (by decide) (backOf (W := 0) (rmnmN l Z a0 hw [] fb45 (4 : Int32) [(.int (nar .byte (c0.toInt8.toInt32))), (.int (nar .byte (c1.toInt8.toInt32))), (.int (nar .byte (c2.toInt8.toInt32))), (.int (nar .byte (c3.toInt8.toInt32)))] wALLOW wFORBID tALLOW tFORBID wV kwV cs h48 n0 (own_le O48) O48 HW ((Tq45.ext E46).ext E48) (by decide) (by decide)) hZ48 (own_w hw 54) (own_w hw 50) (by decide) (by decide)) (g := (mkF m 311 #[.val (.int p0), .val (.long q1), .second, .val (.int p2), .val (.int v4), .val (.int v5), .val (.int v6), .val (.int v7), .val (.ref bA), .val (.int v9), .val (.int (4 : Int32)), .val (.ref fb45), .val .null] [(.ref fb45)])) rfl (by rw [hml]; rfl) (argsL := [(.ref fb45)]) (rest := []) (lenOf pd_10 rfl) rfl (by show 2 * 0 + _ ≤ _; exact Nat.le_of_eq rfl) (hb hby at_311) (fun _ _ => ⟨rfl, e49, (by decide : 8 + 1 ≤ _), (by decide : 70 + 2 ≤ _)⟩)
      dsimp only [Pt.U, Pt.locs, Pt.cells, Pt.slots] at X50 l50 y50 z50 st50 hQ50
      subst l50 y50 z50
      obtain ⟨rfl, N50q, Kq50⟩ := hQ50
      have O50 := Old.keep O48 Kq50 all0
      have K50 := Keep.trans K48 Kq50 all0
      have C50 := CHr.trans C48 (CHr.keep Kq50 all0 C48.1)
      have N50 := Fr.app N49 N50q
      refine own_by (W' := (T50.setTop (mkF m 319 #[.val (.int p0), .val (.long q1), .second, .val (.int p2), .val (.int v4), .val (.int v5), .val (.int v6), .val (.int v7), .val (.ref bA), .val (.int v9), .val (.int (4 : Int32)), .val (.ref fb45), .val .null] []))) (fun t k => XS.aconstNull X49.here hx rfl (hb hby at_306) (XS.astore X49.here hx rfl (hb hby at_307) rfl rfl (l' := #[.val (.int p0), .val (.long q1), .second, .val (.int p2), .val (.int v4), .val (.int v5), .val (.int v6), .val (.int v7), .val (.ref bA), .val (.int v9), .val (.int (4 : Int32)), .val (.ref fb45), .val .null]) rfl (XS.aload X49.here hx rfl (hb hby at_309) rfl rfl (st50 _ (XS.aload X50.here hx rfl (hb hby at_314) rfl rfl (Jvm.RoadKit.acmp (g := (mkF m 316 #[.val (.int p0), .val (.long q1), .second, .val (.int p2), .val (.int v4), .val (.int v5), .val (.int v6), .val (.int v7), .val (.ref bA), .val (.int v9), .val (.int (4 : Int32)), .val (.ref fb45), .val .null] [.null, .null])) X50 hx rfl rfl rfl (pc0 := 316) (pc' := 319) (same := true) rfl (hb hby at_316) rfl (decide_eq_true rfl) (by decide) (by decide) k)))))) ?_
      obtain ⟨fs, hr, hrun, hended, hEnd⟩ := Jvm.Stand.leaveW (s := s) (vm₁ := T48.vm) X50 hS48 (Nat.le_trans hk48 Kq50.1) (v := some (.int (1 : Int32))) (fun h => by rw [Bd.returns] at h; cases h)
      refine own_by (W' := (T50.setTop (mkF m 324 #[.val (.int p0), .val (.long q1), .second, .val (.int p2), .val (.int v4), .val (.int v5), .val (.int v6), .val (.int v7), .val (.ref bA), .val (.int v9), .val (.int (4 : Int32)), .val (.ref fb45), .val .null] [(.int (1 : Int32))]))) (fun t k => XS.iconst X50.here hx rfl (hb hby at_319) (XS.goto X50.here hx rfl (pc0 := 320) (pc' := 324) rfl (hb hby at_320) (by decide) (by decide) k)) ?_
      refine ⟨_, _, retOut X50 hx Bd.returns rfl (Or.inl ⟨rfl, Or.inr (Or.inl rfl), _, rfl⟩) (hb hby at_324) hr, hrun, hended, _, _, rfl, ?_, (by rw [hh]; show CHr Z consts_1 s.vm h0 T50.vm T50.heap; exact CHr.trans C50 (CHv.at (s := s) (vm0 := T48.vm) X50 hZ48 (own_EW hw) C50.1)), hEnd.1, hEnd.2.1, hEnd.2.2.1, hEnd.2.2.2.mono (by decide) (by decide)⟩
      exact ⟨rfl, N50⟩
    ·
      obtain ⟨_, _, ⟨T51, L51, k51, n51⟩, -, X51, ⟨Lc51, hQ51, l51, y51, z51⟩, st51⟩ := Jvm.LawKit.callS Xc hx (y := (⟨"com/example/claviger/claviger/engine/EffectNamedPinLaw", "make", "([CI)Ljava/lang/String;"⟩ : MethodName)) hown (mvT hZ (own_w hw 3)) (mvT hZ (own_w hw 4)) (mvT hZ (own_w hw 5)) (mvT hZ (own_w hw 6)) (by decide) (backOf (W := 0) (rmmk5 l Z a0 hw [] bA kA c0 c1 c2 c3 c4 c5 wALLOW wFORBID tALLOW tFORBID wV kwV cs hC n0 (own_le OC) OC HW VC hl_c0 hl_c1 hl_c2 hl_c3 hl_c4 hl_c5) hZ (own_w hw 6) (own_w hw 5) (by decide) (by decide)) (g := (mkF m 269 #[.val (.int p0), .val (.long q1), .second, .val (.int p2), .val (.int v4), .val (.int v5), .val (.int v6), .val (.int v7), .val (.ref bA), .val (.int v9), .val (.int (5 : Int32)), .unset, .unset] [(.int (5 : Int32)), (.ref bA)])) rfl (by rw [hml]; rfl) (argsL := [(.ref bA), (.int (5 : Int32))]) (rest := []) (lenOf pd_9 rfl) rfl (by show 2 * 0 + _ ≤ _; exact Nat.le_of_eq rfl) (hb hby at_269) (fun _ _ => ⟨rfl, ec, (by decide : 1 + 3 ≤ _), (by decide : 6 + 14 ≤ _)⟩)
      dsimp only [Pt.U, Pt.locs, Pt.cells, Pt.slots] at X51 l51 y51 z51 st51 hQ51
      subst l51 y51 z51
      obtain ⟨fb51, rfl, N51q, Kq51, hsz51, Tq51⟩ := hQ51
      have O51 := Old.keep OC Kq51 all0
      have K51 := Keep.trans KC Kq51 all0
      have C51 := CHr.trans CC (CHr.keep Kq51 all0 CC.1)
      have N51 := Fr.app Nc N51q
      obtain ⟨a52, T52, h52, k52, lb52, lk52, X52, e52, E52, hS52, hk52, hZ52, hown52, Le52, Lc52_, Lv52, La52, -, -, Cm52, -, Ln52, st52⟩ := ldcCH (s := s) (vm0 := s.vm) X51 hx hZ hown (own_w hw 36) (own_wS hw) rfl hS0 (Nat.le_trans KC.1 Kq51.1) (own_EW hw) (List.mem_of_getElem? (i := 0) rfl) C51.1 (vs := [(.int (97 : Int32)), (.int (108 : Int32)), (.int (108 : Int32)), (.int (111 : Int32)), (.int (119 : Int32))]) (z := (5 : Int32)) ⟨by decide +kernel, by rfl⟩ (by decide) (by decide) (g := (mkF m 276 #[.val (.int p0), .val (.long q1), .second, .val (.int p2), .val (.int v4), .val (.int v5), .val (.int v6), .val (.int v7), .val (.ref bA), .val (.int v9), .val (.int (5 : Int32)), .val (.ref fb51), .unset] [(.ref fb51)])) rfl (hb hby at_276) (n := 20) (by decide +kernel) (by decide) (by decide) (by decide)
      have C52 := CHr.trans C51 Cm52
      have O52 := O51.ext E52
      have K52 := Keep.ext K51 E52
      have LT52 : own_St Z h52 a52 (5 : Int32) [(.int (97 : Int32)), (.int (108 : Int32)), (.int (108 : Int32)), (.int (111 : Int32)), (.int (119 : Int32))] := ⟨Le52, Lc52_, _, _, Lv52, La52⟩
      refine own_by (W' := (T52.setTop (mkF m 278 #[.val (.int p0), .val (.long q1), .second, .val (.int p2), .val (.int v4), .val (.int v5), .val (.int v6), .val (.int v7), .val (.ref bA), .val (.int v9), .val (.int (5 : Int32)), .val (.ref fb51), .unset] [(.ref a52), (.ref fb51)]))) (fun t k => XS.aload Xc.here hx rfl (hb hby at_265) rfl rfl (XS.iload Xc.here hx rfl (hb hby at_267) rfl (st51 _ (XS.astore X51.here hx rfl (hb hby at_272) rfl rfl (l' := #[.val (.int p0), .val (.long q1), .second, .val (.int p2), .val (.int v4), .val (.int v5), .val (.int v6), .val (.int v7), .val (.ref bA), .val (.int v9), .val (.int (5 : Int32)), .val (.ref fb51), .unset]) rfl (XS.aload X51.here hx rfl (hb hby at_274) rfl rfl (st52 _ k)))))) ?_
      obtain ⟨cq53, kq53, q53a, q53b, q53c⟩ := isOf hZ52 e52 (Tq51.1.ext E52)
      obtain ⟨_, _, ⟨T53, L53, k53, n53⟩, -, X53, ⟨Lc53, hQ53, l53, y53, z53⟩, st53⟩ := X52.virtualBack hx (y := (⟨"java/lang/String", "equals", "(Ljava/lang/Object;)Z"⟩ : MethodName)) (z := (⟨"java/lang/String", "equals", "(Ljava/lang/Object;)Z"⟩ : MethodName)) hown52 (mvT hZ52 (own_w hw 39)) (mvT hZ52 (own_w hw 40)) (notFace_of_selects (args := #[]) (mvT hZ52 (own_w hw 42))) (mvT hZ52 (own_w hw 42)) (mvT hZ52 (own_w hw 41)) (by decide) (backOf (W := 0) (rmse5_5 l Z a0 hw [] fb51 a52 (nar .byte (c0.toInt8.toInt32)) (nar .byte (c1.toInt8.toInt32)) (nar .byte (c2.toInt8.toInt32)) (nar .byte (c3.toInt8.toInt32)) (nar .byte (c4.toInt8.toInt32)) (97 : Int32) (108 : Int32) (108 : Int32) (111 : Int32) (119 : Int32) wALLOW wFORBID tALLOW tFORBID wV kwV cs h52 n0 (own_le O52) O52 HW (Tq51.ext E52) LT52) hZ52 (own_w hw 43) (own_w hw 9) (by decide) (by decide)) q53a q53c (g := (mkF m 278 #[.val (.int p0), .val (.long q1), .second, .val (.int p2), .val (.int v4), .val (.int v5), .val (.int v6), .val (.int v7), .val (.ref bA), .val (.int v9), .val (.int (5 : Int32)), .val (.ref fb51), .unset] [(.ref a52), (.ref fb51)])) rfl (by rw [hml]; rfl) (Steps.refl _) (argsL := [(.ref a52)]) (rest := []) (lenOf pd_8 rfl) rfl (by show 2 * 0 + _ ≤ _; exact Nat.le_of_eq rfl) (hb hby at_278) (fun _ _ => ⟨rfl, e52, (by decide : 6 + 0 ≤ _), (by decide : 44 + 0 ≤ _)⟩)
      dsimp only [Pt.U, Pt.locs, Pt.cells, Pt.slots] at X53 l53 y53 z53 st53 hQ53
      subst l53 y53 z53
      obtain ⟨rfl, N53q, e53⟩ := hQ53
      have N53 := Fr.app N51 N53q
      refine own_by (W' := (T53.setTop (mkF m 281 #[.val (.int p0), .val (.long q1), .second, .val (.int p2), .val (.int v4), .val (.int v5), .val (.int v6), .val (.int v7), .val (.ref bA), .val (.int v9), .val (.int (5 : Int32)), .val (.ref fb51), .unset] [(.int (own_eqv [(.int (nar .byte (c0.toInt8.toInt32))), (.int (nar .byte (c1.toInt8.toInt32))), (.int (nar .byte (c2.toInt8.toInt32))), (.int (nar .byte (c3.toInt8.toInt32))), (.int (nar .byte (c4.toInt8.toInt32)))] [(.int (97 : Int32)), (.int (108 : Int32)), (.int (108 : Int32)), (.int (111 : Int32)), (.int (119 : Int32))]))]))) (fun t k => Steps.trans st53 k) ?_
      by_cases hc54 : (own_eqv [(.int (nar .byte (c0.toInt8.toInt32))), (.int (nar .byte (c1.toInt8.toInt32))), (.int (nar .byte (c2.toInt8.toInt32))), (.int (nar .byte (c3.toInt8.toInt32))), (.int (nar .byte (c4.toInt8.toInt32)))] [(.int (97 : Int32)), (.int (108 : Int32)), (.int (108 : Int32)), (.int (111 : Int32)), (.int (119 : Int32))]) = (0 : Int32)
      ·
        obtain ⟨a55, T55, h55, k55, lb55, lk55, X55, e55, E55, hS55, hk55, hZ55, hown55, Le55, Lc55_, Lv55, La55, -, -, Cm55, -, Ln55, st55⟩ := ldcCH (s := s) (vm0 := T52.vm) X53 hx hZ52 hown52 (own_w hw 74) (own_wS hw) e53 hS52 hk52 (own_EW hw) (List.mem_of_getElem? (i := 1) rfl) C52.1 (vs := [(.int (102 : Int32)), (.int (111 : Int32)), (.int (114 : Int32)), (.int (98 : Int32)), (.int (105 : Int32)), (.int (100 : Int32))]) (z := (6 : Int32)) ⟨by decide +kernel, by rfl⟩ (by decide) (by decide) (g := (mkF m 292 #[.val (.int p0), .val (.long q1), .second, .val (.int p2), .val (.int v4), .val (.int v5), .val (.int v6), .val (.int v7), .val (.ref bA), .val (.int v9), .val (.int (5 : Int32)), .val (.ref fb51), .unset] [(.ref fb51)])) rfl (hb hby at_292) (n := 24) (by decide +kernel) (by decide) (by decide) (by decide)
        have C55 := CHr.trans C52 Cm55
        have O55 := O52.ext E55
        have K55 := Keep.ext K52 E55
        have LT55 : own_St Z h55 a55 (6 : Int32) [(.int (102 : Int32)), (.int (111 : Int32)), (.int (114 : Int32)), (.int (98 : Int32)), (.int (105 : Int32)), (.int (100 : Int32))] := ⟨Le55, Lc55_, _, _, Lv55, La55⟩
        obtain ⟨cq56, kq56, q56a, q56b, q56c⟩ := isOf hZ55 e55 ((Tq51.1.ext E52).ext E55)
        obtain ⟨_, _, ⟨T56, L56, k56, n56⟩, -, X56, ⟨Lc56, hQ56, l56, y56, z56⟩, st56⟩ := X55.virtualBack hx (y := (⟨"java/lang/String", "equals", "(Ljava/lang/Object;)Z"⟩ : MethodName)) (z := (⟨"java/lang/String", "equals", "(Ljava/lang/Object;)Z"⟩ : MethodName)) hown55 (mvT hZ55 (own_w hw 39)) (mvT hZ55 (own_w hw 40)) (notFace_of_selects (args := #[]) (mvT hZ55 (own_w hw 42))) (mvT hZ55 (own_w hw 42)) (mvT hZ55 (own_w hw 41)) (by decide) (backOf (W := 0) (rmseN l Z a0 hw [] fb51 a55 (5 : Int32) (6 : Int32) [(.int (nar .byte (c0.toInt8.toInt32))), (.int (nar .byte (c1.toInt8.toInt32))), (.int (nar .byte (c2.toInt8.toInt32))), (.int (nar .byte (c3.toInt8.toInt32))), (.int (nar .byte (c4.toInt8.toInt32)))] [(.int (102 : Int32)), (.int (111 : Int32)), (.int (114 : Int32)), (.int (98 : Int32)), (.int (105 : Int32)), (.int (100 : Int32))] wALLOW wFORBID tALLOW tFORBID wV kwV cs h55 n0 (own_le O55) O55 HW ((Tq51.ext E52).ext E55) LT55 (by decide)) hZ55 (own_w hw 43) (own_w hw 9) (by decide) (by decide)) q56a q56c (g := (mkF m 294 #[.val (.int p0), .val (.long q1), .second, .val (.int p2), .val (.int v4), .val (.int v5), .val (.int v6), .val (.int v7), .val (.ref bA), .val (.int v9), .val (.int (5 : Int32)), .val (.ref fb51), .unset] [(.ref a55), (.ref fb51)])) rfl (by rw [hml]; rfl) (Steps.refl _) (argsL := [(.ref a55)]) (rest := []) (lenOf pd_8 rfl) rfl (by show 2 * 0 + _ ≤ _; exact Nat.le_of_eq rfl) (hb hby at_294) (fun _ _ => ⟨rfl, e55, (by decide : 8 + 0 ≤ _), (by decide : 72 + 0 ≤ _)⟩)
        dsimp only [Pt.U, Pt.locs, Pt.cells, Pt.slots] at X56 l56 y56 z56 st56 hQ56
        subst l56 y56 z56
        obtain ⟨rfl, N56q, e56⟩ := hQ56
        have N56 := Fr.app N53 N56q
        refine own_by (W' := (T56.setTop (mkF m 307 #[.val (.int p0), .val (.long q1), .second, .val (.int p2), .val (.int v4), .val (.int v5), .val (.int v6), .val (.int v7), .val (.ref bA), .val (.int v9), .val (.int (5 : Int32)), .val (.ref fb51), .unset] [.null]))) (fun t k => XS.ifYes X53.here hx rfl (pc0 := 281) (pc' := 290) rfl (hb hby at_281) rfl ((if0 _ _).trans (teq hc54).1) (by decide) (by decide) (XS.aload X53.here hx rfl (hb hby at_290) rfl rfl (st55 _ (Steps.trans st56 (XS.ifYes X56.here hx rfl (pc0 := 297) (pc' := 306) rfl (hb hby at_297) rfl ((if0 _ _).trans (teq (rfl : (0 : Int32) = (0 : Int32))).1) (by decide) (by decide) (XS.aconstNull X56.here hx rfl (hb hby at_306) k)))))) ?_
        obtain ⟨_, _, ⟨T57, L57, k57, n57⟩, -, X57, ⟨Lc57, hQ57, l57, y57, z57⟩, st57⟩ := Jvm.LawKit.callS X56 hx (y := (⟨"com/example/claviger/claviger/engine/Effect", "named", "(Ljava/lang/String;)Lcom/example/claviger/claviger/engine/Effect;"⟩ : MethodName)) hown55 (mvT hZ55 (own_w hw 52)) (mvT hZ55 (own_w hw 53)) (mvT hZ55 (own_w hw 50)) (mvT hZ55 (own_w hw 54)) (by decide) (backOf (W := 0) (rmnm5 l Z a0 hw [] fb51 (nar .byte (c0.toInt8.toInt32)) (nar .byte (c1.toInt8.toInt32)) (nar .byte (c2.toInt8.toInt32)) (nar .byte (c3.toInt8.toInt32)) (nar .byte (c4.toInt8.toInt32)) wALLOW wFORBID tALLOW tFORBID wV kwV cs h55 n0 (own_le O55) O55 HW ((Tq51.ext E52).ext E55)) hZ55 (own_w hw 54) (own_w hw 50) (by decide) (by decide)) (g := (mkF m 311 #[.val (.int p0), .val (.long q1), .second, .val (.int p2), .val (.int v4), .val (.int v5), .val (.int v6), .val (.int v7), .val (.ref bA), .val (.int v9), .val (.int (5 : Int32)), .val (.ref fb51), .val .null] [(.ref fb51)])) rfl (by rw [hml]; rfl) (argsL := [(.ref fb51)]) (rest := []) (lenOf pd_10 rfl) rfl (by show 2 * 0 + _ ≤ _; exact Nat.le_of_eq rfl) (hb hby at_311) (fun _ _ => ⟨rfl, e56, (by decide : 8 + 1 ≤ _), (by decide : 72 + 2 ≤ _)⟩)
        dsimp only [Pt.U, Pt.locs, Pt.cells, Pt.slots] at X57 l57 y57 z57 st57 hQ57
        subst l57 y57 z57
        obtain ⟨rfl, N57q, Kq57⟩ := hQ57
        have O57 := Old.keep O55 Kq57 all0
        have K57 := Keep.trans K55 Kq57 all0
        have C57 := CHr.trans C55 (CHr.keep Kq57 all0 C55.1)
        have N57 := Fr.app N56 N57q
        have ho58 : ((own_F5 wALLOW [(.int (nar .byte (c0.toInt8.toInt32))), (.int (nar .byte (c1.toInt8.toInt32))), (.int (nar .byte (c2.toInt8.toInt32))), (.int (nar .byte (c3.toInt8.toInt32))), (.int (nar .byte (c4.toInt8.toInt32)))]) : Value) = .null := by rw [own_F5, if_pos (own_eqv_comm _ _ ▸ hc54)]
        refine own_by (W' := (T57.setTop (mkF m 320 #[.val (.int p0), .val (.long q1), .second, .val (.int p2), .val (.int v4), .val (.int v5), .val (.int v6), .val (.int v7), .val (.ref bA), .val (.int v9), .val (.int (5 : Int32)), .val (.ref fb51), .val .null] [(.int (1 : Int32))]))) (fun t k => XS.astore X56.here hx rfl (hb hby at_307) rfl rfl (l' := #[.val (.int p0), .val (.long q1), .second, .val (.int p2), .val (.int v4), .val (.int v5), .val (.int v6), .val (.int v7), .val (.ref bA), .val (.int v9), .val (.int (5 : Int32)), .val (.ref fb51), .val .null]) rfl (XS.aload X56.here hx rfl (hb hby at_309) rfl rfl (st57 _ (XS.aload X57.here hx rfl (hb hby at_314) rfl rfl (Jvm.RoadKit.acmp (g := (mkF m 316 #[.val (.int p0), .val (.long q1), .second, .val (.int p2), .val (.int v4), .val (.int v5), .val (.int v6), .val (.int v7), .val (.ref bA), .val (.int v9), .val (.int (5 : Int32)), .val (.ref fb51), .val .null] [.null, (own_F5 wALLOW [(.int (nar .byte (c0.toInt8.toInt32))), (.int (nar .byte (c1.toInt8.toInt32))), (.int (nar .byte (c2.toInt8.toInt32))), (.int (nar .byte (c3.toInt8.toInt32))), (.int (nar .byte (c4.toInt8.toInt32)))])])) X57 hx rfl (own_F5ref _ _) rfl (pc0 := 316) (pc' := 319) (same := true) rfl (hb hby at_316) rfl (decide_eq_true ho58) (by decide) (by decide) (XS.iconst X57.here hx rfl (hb hby at_319) k)))))) ?_
        obtain ⟨fs, hr, hrun, hended, hEnd⟩ := Jvm.Stand.leaveW (s := s) (vm₁ := T55.vm) X57 hS55 (Nat.le_trans hk55 Kq57.1) (v := some (.int (1 : Int32))) (fun h => by rw [Bd.returns] at h; cases h)
        refine own_by (W' := (T57.setTop (mkF m 324 #[.val (.int p0), .val (.long q1), .second, .val (.int p2), .val (.int v4), .val (.int v5), .val (.int v6), .val (.int v7), .val (.ref bA), .val (.int v9), .val (.int (5 : Int32)), .val (.ref fb51), .val .null] [(.int (1 : Int32))]))) (fun t k => XS.goto X57.here hx rfl (pc0 := 320) (pc' := 324) rfl (hb hby at_320) (by decide) (by decide) k) ?_
        refine ⟨_, _, retOut X57 hx Bd.returns rfl (Or.inl ⟨rfl, Or.inr (Or.inl rfl), _, rfl⟩) (hb hby at_324) hr, hrun, hended, _, _, rfl, ?_, (by rw [hh]; show CHr Z consts_1 s.vm h0 T57.vm T57.heap; exact CHr.trans C57 (CHv.at (s := s) (vm0 := T55.vm) X57 hZ55 (own_EW hw) C57.1)), hEnd.1, hEnd.2.1, hEnd.2.2.1, hEnd.2.2.2.mono (by decide) (by decide)⟩
        exact ⟨rfl, N57⟩
      ·
        obtain ⟨T59, X59, e59, st59⟩ := getS (host := "") X53 hx hZ52 hown52 (own_w hw 49) Via.refl e53 (HW.1.ext O52.2) (g := (mkF m 284 #[.val (.int p0), .val (.long q1), .second, .val (.int p2), .val (.int v4), .val (.int v5), .val (.int v6), .val (.int v7), .val (.ref bA), .val (.int v9), .val (.int (5 : Int32)), .val (.ref fb51), .unset] [])) rfl (hb hby at_284)
        obtain ⟨_, _, ⟨T60, L60, k60, n60⟩, -, X60, ⟨Lc60, hQ60, l60, y60, z60⟩, st60⟩ := Jvm.LawKit.callS X59 hx (y := (⟨"com/example/claviger/claviger/engine/Effect", "named", "(Ljava/lang/String;)Lcom/example/claviger/claviger/engine/Effect;"⟩ : MethodName)) hown52 (mvT hZ52 (own_w hw 52)) (mvT hZ52 (own_w hw 53)) (mvT hZ52 (own_w hw 50)) (mvT hZ52 (own_w hw 54)) (by decide) (backOf (W := 0) (rmnm5 l Z a0 hw [] fb51 (nar .byte (c0.toInt8.toInt32)) (nar .byte (c1.toInt8.toInt32)) (nar .byte (c2.toInt8.toInt32)) (nar .byte (c3.toInt8.toInt32)) (nar .byte (c4.toInt8.toInt32)) wALLOW wFORBID tALLOW tFORBID wV kwV cs h52 n0 (own_le O52) O52 HW (Tq51.ext E52)) hZ52 (own_w hw 54) (own_w hw 50) (by decide) (by decide)) (g := (mkF m 311 #[.val (.int p0), .val (.long q1), .second, .val (.int p2), .val (.int v4), .val (.int v5), .val (.int v6), .val (.int v7), .val (.ref bA), .val (.int v9), .val (.int (5 : Int32)), .val (.ref fb51), .val (.ref wALLOW)] [(.ref fb51)])) rfl (by rw [hml]; rfl) (argsL := [(.ref fb51)]) (rest := []) (lenOf pd_10 rfl) rfl (by show 2 * 0 + _ ≤ _; exact Nat.le_of_eq rfl) (hb hby at_311) (fun _ _ => ⟨rfl, e59, (by decide : 6 + 1 ≤ _), (by decide : 44 + 2 ≤ _)⟩)
        dsimp only [Pt.U, Pt.locs, Pt.cells, Pt.slots] at X60 l60 y60 z60 st60 hQ60
        subst l60 y60 z60
        obtain ⟨rfl, N60q, Kq60⟩ := hQ60
        have O60 := Old.keep O52 Kq60 all0
        have K60 := Keep.trans K52 Kq60 all0
        have C60 := CHr.trans C52 (CHr.keep Kq60 all0 C52.1)
        have N60 := Fr.app N53 N60q
        refine own_by (W' := (T60.setTop (mkF m 314 #[.val (.int p0), .val (.long q1), .second, .val (.int p2), .val (.int v4), .val (.int v5), .val (.int v6), .val (.int v7), .val (.ref bA), .val (.int v9), .val (.int (5 : Int32)), .val (.ref fb51), .val (.ref wALLOW)] [(own_F5 wALLOW [(.int (nar .byte (c0.toInt8.toInt32))), (.int (nar .byte (c1.toInt8.toInt32))), (.int (nar .byte (c2.toInt8.toInt32))), (.int (nar .byte (c3.toInt8.toInt32))), (.int (nar .byte (c4.toInt8.toInt32)))])]))) (fun t k => XS.ifNo X53.here hx rfl (hb hby at_281) rfl ((if0 _ _).trans (feq hc54).1) (st59 _ (XS.goto X59.here hx rfl (pc0 := 287) (pc' := 307) rfl (hb hby at_287) (by decide) (by decide) (XS.astore X59.here hx rfl (hb hby at_307) rfl rfl (l' := #[.val (.int p0), .val (.long q1), .second, .val (.int p2), .val (.int v4), .val (.int v5), .val (.int v6), .val (.int v7), .val (.ref bA), .val (.int v9), .val (.int (5 : Int32)), .val (.ref fb51), .val (.ref wALLOW)]) rfl (XS.aload X59.here hx rfl (hb hby at_309) rfl rfl (st60 _ k)))))) ?_
        have ho61 : ((own_F5 wALLOW [(.int (nar .byte (c0.toInt8.toInt32))), (.int (nar .byte (c1.toInt8.toInt32))), (.int (nar .byte (c2.toInt8.toInt32))), (.int (nar .byte (c3.toInt8.toInt32))), (.int (nar .byte (c4.toInt8.toInt32)))]) : Value) = (.ref wALLOW) := by rw [own_F5, if_neg (own_eqv_comm _ _ ▸ hc54)]
        obtain ⟨fs, hr, hrun, hended, hEnd⟩ := Jvm.Stand.leaveW (s := s) (vm₁ := T52.vm) X60 hS52 (Nat.le_trans hk52 Kq60.1) (v := some (.int (1 : Int32))) (fun h => by rw [Bd.returns] at h; cases h)
        refine own_by (W' := (T60.setTop (mkF m 324 #[.val (.int p0), .val (.long q1), .second, .val (.int p2), .val (.int v4), .val (.int v5), .val (.int v6), .val (.int v7), .val (.ref bA), .val (.int v9), .val (.int (5 : Int32)), .val (.ref fb51), .val (.ref wALLOW)] [(.int (1 : Int32))]))) (fun t k => XS.aload X60.here hx rfl (hb hby at_314) rfl rfl (Jvm.RoadKit.acmp (g := (mkF m 316 #[.val (.int p0), .val (.long q1), .second, .val (.int p2), .val (.int v4), .val (.int v5), .val (.int v6), .val (.int v7), .val (.ref bA), .val (.int v9), .val (.int (5 : Int32)), .val (.ref fb51), .val (.ref wALLOW)] [(.ref wALLOW), (own_F5 wALLOW [(.int (nar .byte (c0.toInt8.toInt32))), (.int (nar .byte (c1.toInt8.toInt32))), (.int (nar .byte (c2.toInt8.toInt32))), (.int (nar .byte (c3.toInt8.toInt32))), (.int (nar .byte (c4.toInt8.toInt32)))])])) X60 hx rfl (own_F5ref _ _) rfl (pc0 := 316) (pc' := 319) (same := true) rfl (hb hby at_316) rfl (decide_eq_true ho61) (by decide) (by decide) (XS.iconst X60.here hx rfl (hb hby at_319) (XS.goto X60.here hx rfl (pc0 := 320) (pc' := 324) rfl (hb hby at_320) (by decide) (by decide) k)))) ?_
        refine ⟨_, _, retOut X60 hx Bd.returns rfl (Or.inl ⟨rfl, Or.inr (Or.inl rfl), _, rfl⟩) (hb hby at_324) hr, hrun, hended, _, _, rfl, ?_, (by rw [hh]; show CHr Z consts_1 s.vm h0 T60.vm T60.heap; exact CHr.trans C60 (CHv.at (s := s) (vm0 := T52.vm) X60 hZ52 (own_EW hw) C60.1)), hEnd.1, hEnd.2.1, hEnd.2.2.1, hEnd.2.2.2.mono (by decide) (by decide)⟩
        exact ⟨rfl, N60⟩
    ·
      obtain ⟨_, _, ⟨T62, L62, k62, n62⟩, -, X62, ⟨Lc62, hQ62, l62, y62, z62⟩, st62⟩ := Jvm.LawKit.callS Xc hx (y := (⟨"com/example/claviger/claviger/engine/EffectNamedPinLaw", "make", "([CI)Ljava/lang/String;"⟩ : MethodName)) hown (mvT hZ (own_w hw 3)) (mvT hZ (own_w hw 4)) (mvT hZ (own_w hw 5)) (mvT hZ (own_w hw 6)) (by decide) (backOf (W := 0) (rmmk6 l Z a0 hw [] bA kA c0 c1 c2 c3 c4 c5 wALLOW wFORBID tALLOW tFORBID wV kwV cs hC n0 (own_le OC) OC HW VC hl_c0 hl_c1 hl_c2 hl_c3 hl_c4 hl_c5) hZ (own_w hw 6) (own_w hw 5) (by decide) (by decide)) (g := (mkF m 269 #[.val (.int p0), .val (.long q1), .second, .val (.int p2), .val (.int v4), .val (.int v5), .val (.int v6), .val (.int v7), .val (.ref bA), .val (.int v9), .val (.int (6 : Int32)), .unset, .unset] [(.int (6 : Int32)), (.ref bA)])) rfl (by rw [hml]; rfl) (argsL := [(.ref bA), (.int (6 : Int32))]) (rest := []) (lenOf pd_9 rfl) rfl (by show 2 * 0 + _ ≤ _; exact Nat.le_of_eq rfl) (hb hby at_269) (fun _ _ => ⟨rfl, ec, (by decide : 1 + 3 ≤ _), (by decide : 6 + 16 ≤ _)⟩)
      dsimp only [Pt.U, Pt.locs, Pt.cells, Pt.slots] at X62 l62 y62 z62 st62 hQ62
      subst l62 y62 z62
      obtain ⟨fb62, rfl, N62q, Kq62, hsz62, Tq62⟩ := hQ62
      have O62 := Old.keep OC Kq62 all0
      have K62 := Keep.trans KC Kq62 all0
      have C62 := CHr.trans CC (CHr.keep Kq62 all0 CC.1)
      have N62 := Fr.app Nc N62q
      obtain ⟨a63, T63, h63, k63, lb63, lk63, X63, e63, E63, hS63, hk63, hZ63, hown63, Le63, Lc63_, Lv63, La63, -, -, Cm63, -, Ln63, st63⟩ := ldcCH (s := s) (vm0 := s.vm) X62 hx hZ hown (own_w hw 36) (own_wS hw) rfl hS0 (Nat.le_trans KC.1 Kq62.1) (own_EW hw) (List.mem_of_getElem? (i := 0) rfl) C62.1 (vs := [(.int (97 : Int32)), (.int (108 : Int32)), (.int (108 : Int32)), (.int (111 : Int32)), (.int (119 : Int32))]) (z := (5 : Int32)) ⟨by decide +kernel, by rfl⟩ (by decide) (by decide) (g := (mkF m 276 #[.val (.int p0), .val (.long q1), .second, .val (.int p2), .val (.int v4), .val (.int v5), .val (.int v6), .val (.int v7), .val (.ref bA), .val (.int v9), .val (.int (6 : Int32)), .val (.ref fb62), .unset] [(.ref fb62)])) rfl (hb hby at_276) (n := 20) (by decide +kernel) (by decide) (by decide) (by decide)
      have C63 := CHr.trans C62 Cm63
      have O63 := O62.ext E63
      have K63 := Keep.ext K62 E63
      have LT63 : own_St Z h63 a63 (5 : Int32) [(.int (97 : Int32)), (.int (108 : Int32)), (.int (108 : Int32)), (.int (111 : Int32)), (.int (119 : Int32))] := ⟨Le63, Lc63_, _, _, Lv63, La63⟩
      refine own_by (W' := (T63.setTop (mkF m 278 #[.val (.int p0), .val (.long q1), .second, .val (.int p2), .val (.int v4), .val (.int v5), .val (.int v6), .val (.int v7), .val (.ref bA), .val (.int v9), .val (.int (6 : Int32)), .val (.ref fb62), .unset] [(.ref a63), (.ref fb62)]))) (fun t k => XS.aload Xc.here hx rfl (hb hby at_265) rfl rfl (XS.iload Xc.here hx rfl (hb hby at_267) rfl (st62 _ (XS.astore X62.here hx rfl (hb hby at_272) rfl rfl (l' := #[.val (.int p0), .val (.long q1), .second, .val (.int p2), .val (.int v4), .val (.int v5), .val (.int v6), .val (.int v7), .val (.ref bA), .val (.int v9), .val (.int (6 : Int32)), .val (.ref fb62), .unset]) rfl (XS.aload X62.here hx rfl (hb hby at_274) rfl rfl (st63 _ k)))))) ?_
      obtain ⟨cq64, kq64, q64a, q64b, q64c⟩ := isOf hZ63 e63 (Tq62.1.ext E63)
      obtain ⟨_, _, ⟨T64, L64, k64, n64⟩, -, X64, ⟨Lc64, hQ64, l64, y64, z64⟩, st64⟩ := X63.virtualBack hx (y := (⟨"java/lang/String", "equals", "(Ljava/lang/Object;)Z"⟩ : MethodName)) (z := (⟨"java/lang/String", "equals", "(Ljava/lang/Object;)Z"⟩ : MethodName)) hown63 (mvT hZ63 (own_w hw 39)) (mvT hZ63 (own_w hw 40)) (notFace_of_selects (args := #[]) (mvT hZ63 (own_w hw 42))) (mvT hZ63 (own_w hw 42)) (mvT hZ63 (own_w hw 41)) (by decide) (backOf (W := 0) (rmseN l Z a0 hw [] fb62 a63 (6 : Int32) (5 : Int32) [(.int (nar .byte (c0.toInt8.toInt32))), (.int (nar .byte (c1.toInt8.toInt32))), (.int (nar .byte (c2.toInt8.toInt32))), (.int (nar .byte (c3.toInt8.toInt32))), (.int (nar .byte (c4.toInt8.toInt32))), (.int (nar .byte (c5.toInt8.toInt32)))] [(.int (97 : Int32)), (.int (108 : Int32)), (.int (108 : Int32)), (.int (111 : Int32)), (.int (119 : Int32))] wALLOW wFORBID tALLOW tFORBID wV kwV cs h63 n0 (own_le O63) O63 HW (Tq62.ext E63) LT63 (by decide)) hZ63 (own_w hw 43) (own_w hw 9) (by decide) (by decide)) q64a q64c (g := (mkF m 278 #[.val (.int p0), .val (.long q1), .second, .val (.int p2), .val (.int v4), .val (.int v5), .val (.int v6), .val (.int v7), .val (.ref bA), .val (.int v9), .val (.int (6 : Int32)), .val (.ref fb62), .unset] [(.ref a63), (.ref fb62)])) rfl (by rw [hml]; rfl) (Steps.refl _) (argsL := [(.ref a63)]) (rest := []) (lenOf pd_8 rfl) rfl (by show 2 * 0 + _ ≤ _; exact Nat.le_of_eq rfl) (hb hby at_278) (fun _ _ => ⟨rfl, e63, (by decide : 6 + 0 ≤ _), (by decide : 46 + 0 ≤ _)⟩)
      dsimp only [Pt.U, Pt.locs, Pt.cells, Pt.slots] at X64 l64 y64 z64 st64 hQ64
      subst l64 y64 z64
      obtain ⟨rfl, N64q, e64⟩ := hQ64
      have N64 := Fr.app N62 N64q
      obtain ⟨a65, T65, h65, k65, lb65, lk65, X65, e65, E65, hS65, hk65, hZ65, hown65, Le65, Lc65_, Lv65, La65, -, -, Cm65, -, Ln65, st65⟩ := ldcCH (s := s) (vm0 := T63.vm) X64 hx hZ63 hown63 (own_w hw 74) (own_wS hw) e64 hS63 hk63 (own_EW hw) (List.mem_of_getElem? (i := 1) rfl) C63.1 (vs := [(.int (102 : Int32)), (.int (111 : Int32)), (.int (114 : Int32)), (.int (98 : Int32)), (.int (105 : Int32)), (.int (100 : Int32))]) (z := (6 : Int32)) ⟨by decide +kernel, by rfl⟩ (by decide) (by decide) (g := (mkF m 292 #[.val (.int p0), .val (.long q1), .second, .val (.int p2), .val (.int v4), .val (.int v5), .val (.int v6), .val (.int v7), .val (.ref bA), .val (.int v9), .val (.int (6 : Int32)), .val (.ref fb62), .unset] [(.ref fb62)])) rfl (hb hby at_292) (n := 24) (by decide +kernel) (by decide) (by decide) (by decide)
      have C65 := CHr.trans C63 Cm65
      have O65 := O63.ext E65
      have K65 := Keep.ext K63 E65
      have LT65 : own_St Z h65 a65 (6 : Int32) [(.int (102 : Int32)), (.int (111 : Int32)), (.int (114 : Int32)), (.int (98 : Int32)), (.int (105 : Int32)), (.int (100 : Int32))] := ⟨Le65, Lc65_, _, _, Lv65, La65⟩
      obtain ⟨cq66, kq66, q66a, q66b, q66c⟩ := isOf hZ65 e65 ((Tq62.1.ext E63).ext E65)
      obtain ⟨_, _, ⟨T66, L66, k66, n66⟩, -, X66, ⟨Lc66, hQ66, l66, y66, z66⟩, st66⟩ := X65.virtualBack hx (y := (⟨"java/lang/String", "equals", "(Ljava/lang/Object;)Z"⟩ : MethodName)) (z := (⟨"java/lang/String", "equals", "(Ljava/lang/Object;)Z"⟩ : MethodName)) hown65 (mvT hZ65 (own_w hw 39)) (mvT hZ65 (own_w hw 40)) (notFace_of_selects (args := #[]) (mvT hZ65 (own_w hw 42))) (mvT hZ65 (own_w hw 42)) (mvT hZ65 (own_w hw 41)) (by decide) (backOf (W := 0) (rmse6_6 l Z a0 hw [] fb62 a65 (nar .byte (c0.toInt8.toInt32)) (nar .byte (c1.toInt8.toInt32)) (nar .byte (c2.toInt8.toInt32)) (nar .byte (c3.toInt8.toInt32)) (nar .byte (c4.toInt8.toInt32)) (nar .byte (c5.toInt8.toInt32)) (102 : Int32) (111 : Int32) (114 : Int32) (98 : Int32) (105 : Int32) (100 : Int32) wALLOW wFORBID tALLOW tFORBID wV kwV cs h65 n0 (own_le O65) O65 HW ((Tq62.ext E63).ext E65) LT65) hZ65 (own_w hw 43) (own_w hw 9) (by decide) (by decide)) q66a q66c (g := (mkF m 294 #[.val (.int p0), .val (.long q1), .second, .val (.int p2), .val (.int v4), .val (.int v5), .val (.int v6), .val (.int v7), .val (.ref bA), .val (.int v9), .val (.int (6 : Int32)), .val (.ref fb62), .unset] [(.ref a65), (.ref fb62)])) rfl (by rw [hml]; rfl) (Steps.refl _) (argsL := [(.ref a65)]) (rest := []) (lenOf pd_8 rfl) rfl (by show 2 * 0 + _ ≤ _; exact Nat.le_of_eq rfl) (hb hby at_294) (fun _ _ => ⟨rfl, e65, (by decide : 8 + 0 ≤ _), (by decide : 74 + 0 ≤ _)⟩)
      dsimp only [Pt.U, Pt.locs, Pt.cells, Pt.slots] at X66 l66 y66 z66 st66 hQ66
      subst l66 y66 z66
      obtain ⟨rfl, N66q, e66⟩ := hQ66
      have N66 := Fr.app N64 N66q
      refine own_by (W' := (T66.setTop (mkF m 297 #[.val (.int p0), .val (.long q1), .second, .val (.int p2), .val (.int v4), .val (.int v5), .val (.int v6), .val (.int v7), .val (.ref bA), .val (.int v9), .val (.int (6 : Int32)), .val (.ref fb62), .unset] [(.int (own_eqv [(.int (nar .byte (c0.toInt8.toInt32))), (.int (nar .byte (c1.toInt8.toInt32))), (.int (nar .byte (c2.toInt8.toInt32))), (.int (nar .byte (c3.toInt8.toInt32))), (.int (nar .byte (c4.toInt8.toInt32))), (.int (nar .byte (c5.toInt8.toInt32)))] [(.int (102 : Int32)), (.int (111 : Int32)), (.int (114 : Int32)), (.int (98 : Int32)), (.int (105 : Int32)), (.int (100 : Int32))]))]))) (fun t k => Steps.trans st64 (XS.ifYes X64.here hx rfl (pc0 := 281) (pc' := 290) rfl (hb hby at_281) rfl ((if0 _ _).trans (teq (rfl : (0 : Int32) = (0 : Int32))).1) (by decide) (by decide) (XS.aload X64.here hx rfl (hb hby at_290) rfl rfl (st65 _ (Steps.trans st66 k))))) ?_
      by_cases hc67 : (own_eqv [(.int (nar .byte (c0.toInt8.toInt32))), (.int (nar .byte (c1.toInt8.toInt32))), (.int (nar .byte (c2.toInt8.toInt32))), (.int (nar .byte (c3.toInt8.toInt32))), (.int (nar .byte (c4.toInt8.toInt32))), (.int (nar .byte (c5.toInt8.toInt32)))] [(.int (102 : Int32)), (.int (111 : Int32)), (.int (114 : Int32)), (.int (98 : Int32)), (.int (105 : Int32)), (.int (100 : Int32))]) = (0 : Int32)
      ·
        obtain ⟨_, _, ⟨T68, L68, k68, n68⟩, -, X68, ⟨Lc68, hQ68, l68, y68, z68⟩, st68⟩ := Jvm.LawKit.callS X66 hx (y := (⟨"com/example/claviger/claviger/engine/Effect", "named", "(Ljava/lang/String;)Lcom/example/claviger/claviger/engine/Effect;"⟩ : MethodName)) hown65 (mvT hZ65 (own_w hw 52)) (mvT hZ65 (own_w hw 53)) (mvT hZ65 (own_w hw 50)) (mvT hZ65 (own_w hw 54)) (by decide) (backOf (W := 0) (rmnm6 l Z a0 hw [] fb62 (nar .byte (c0.toInt8.toInt32)) (nar .byte (c1.toInt8.toInt32)) (nar .byte (c2.toInt8.toInt32)) (nar .byte (c3.toInt8.toInt32)) (nar .byte (c4.toInt8.toInt32)) (nar .byte (c5.toInt8.toInt32)) wALLOW wFORBID tALLOW tFORBID wV kwV cs h65 n0 (own_le O65) O65 HW ((Tq62.ext E63).ext E65)) hZ65 (own_w hw 54) (own_w hw 50) (by decide) (by decide)) (g := (mkF m 311 #[.val (.int p0), .val (.long q1), .second, .val (.int p2), .val (.int v4), .val (.int v5), .val (.int v6), .val (.int v7), .val (.ref bA), .val (.int v9), .val (.int (6 : Int32)), .val (.ref fb62), .val .null] [(.ref fb62)])) rfl (by rw [hml]; rfl) (argsL := [(.ref fb62)]) (rest := []) (lenOf pd_10 rfl) rfl (by show 2 * 0 + _ ≤ _; exact Nat.le_of_eq rfl) (hb hby at_311) (fun _ _ => ⟨rfl, e66, (by decide : 8 + 1 ≤ _), (by decide : 74 + 2 ≤ _)⟩)
        dsimp only [Pt.U, Pt.locs, Pt.cells, Pt.slots] at X68 l68 y68 z68 st68 hQ68
        subst l68 y68 z68
        obtain ⟨rfl, N68q, Kq68⟩ := hQ68
        have O68 := Old.keep O65 Kq68 all0
        have K68 := Keep.trans K65 Kq68 all0
        have C68 := CHr.trans C65 (CHr.keep Kq68 all0 C65.1)
        have N68 := Fr.app N66 N68q
        refine own_by (W' := (T68.setTop (mkF m 316 #[.val (.int p0), .val (.long q1), .second, .val (.int p2), .val (.int v4), .val (.int v5), .val (.int v6), .val (.int v7), .val (.ref bA), .val (.int v9), .val (.int (6 : Int32)), .val (.ref fb62), .val .null] [.null, (own_F6 wFORBID [(.int (nar .byte (c0.toInt8.toInt32))), (.int (nar .byte (c1.toInt8.toInt32))), (.int (nar .byte (c2.toInt8.toInt32))), (.int (nar .byte (c3.toInt8.toInt32))), (.int (nar .byte (c4.toInt8.toInt32))), (.int (nar .byte (c5.toInt8.toInt32)))])]))) (fun t k => XS.ifYes X66.here hx rfl (pc0 := 297) (pc' := 306) rfl (hb hby at_297) rfl ((if0 _ _).trans (teq hc67).1) (by decide) (by decide) (XS.aconstNull X66.here hx rfl (hb hby at_306) (XS.astore X66.here hx rfl (hb hby at_307) rfl rfl (l' := #[.val (.int p0), .val (.long q1), .second, .val (.int p2), .val (.int v4), .val (.int v5), .val (.int v6), .val (.int v7), .val (.ref bA), .val (.int v9), .val (.int (6 : Int32)), .val (.ref fb62), .val .null]) rfl (XS.aload X66.here hx rfl (hb hby at_309) rfl rfl (st68 _ (XS.aload X68.here hx rfl (hb hby at_314) rfl rfl k)))))) ?_
        have ho69 : ((own_F6 wFORBID [(.int (nar .byte (c0.toInt8.toInt32))), (.int (nar .byte (c1.toInt8.toInt32))), (.int (nar .byte (c2.toInt8.toInt32))), (.int (nar .byte (c3.toInt8.toInt32))), (.int (nar .byte (c4.toInt8.toInt32))), (.int (nar .byte (c5.toInt8.toInt32)))]) : Value) = .null := by rw [own_F6, if_pos (own_eqv_comm _ _ ▸ hc67)]
        obtain ⟨fs, hr, hrun, hended, hEnd⟩ := Jvm.Stand.leaveW (s := s) (vm₁ := T65.vm) X68 hS65 (Nat.le_trans hk65 Kq68.1) (v := some (.int (1 : Int32))) (fun h => by rw [Bd.returns] at h; cases h)
        refine own_by (W' := (T68.setTop (mkF m 324 #[.val (.int p0), .val (.long q1), .second, .val (.int p2), .val (.int v4), .val (.int v5), .val (.int v6), .val (.int v7), .val (.ref bA), .val (.int v9), .val (.int (6 : Int32)), .val (.ref fb62), .val .null] [(.int (1 : Int32))]))) (fun t k => Jvm.RoadKit.acmp (g := (mkF m 316 #[.val (.int p0), .val (.long q1), .second, .val (.int p2), .val (.int v4), .val (.int v5), .val (.int v6), .val (.int v7), .val (.ref bA), .val (.int v9), .val (.int (6 : Int32)), .val (.ref fb62), .val .null] [.null, (own_F6 wFORBID [(.int (nar .byte (c0.toInt8.toInt32))), (.int (nar .byte (c1.toInt8.toInt32))), (.int (nar .byte (c2.toInt8.toInt32))), (.int (nar .byte (c3.toInt8.toInt32))), (.int (nar .byte (c4.toInt8.toInt32))), (.int (nar .byte (c5.toInt8.toInt32)))])])) X68 hx rfl (own_F6ref _ _) rfl (pc0 := 316) (pc' := 319) (same := true) rfl (hb hby at_316) rfl (decide_eq_true ho69) (by decide) (by decide) (XS.iconst X68.here hx rfl (hb hby at_319) (XS.goto X68.here hx rfl (pc0 := 320) (pc' := 324) rfl (hb hby at_320) (by decide) (by decide) k))) ?_
        refine ⟨_, _, retOut X68 hx Bd.returns rfl (Or.inl ⟨rfl, Or.inr (Or.inl rfl), _, rfl⟩) (hb hby at_324) hr, hrun, hended, _, _, rfl, ?_, (by rw [hh]; show CHr Z consts_1 s.vm h0 T68.vm T68.heap; exact CHr.trans C68 (CHv.at (s := s) (vm0 := T65.vm) X68 hZ65 (own_EW hw) C68.1)), hEnd.1, hEnd.2.1, hEnd.2.2.1, hEnd.2.2.2.mono (by decide) (by decide)⟩
        exact ⟨rfl, N68⟩
      ·
        obtain ⟨T70, X70, e70, st70⟩ := getS (host := "") X66 hx hZ65 hown65 (own_w hw 75) Via.refl e66 (HW.2.2.1.ext O65.2) (g := (mkF m 300 #[.val (.int p0), .val (.long q1), .second, .val (.int p2), .val (.int v4), .val (.int v5), .val (.int v6), .val (.int v7), .val (.ref bA), .val (.int v9), .val (.int (6 : Int32)), .val (.ref fb62), .unset] [])) rfl (hb hby at_300)
        obtain ⟨_, _, ⟨T71, L71, k71, n71⟩, -, X71, ⟨Lc71, hQ71, l71, y71, z71⟩, st71⟩ := Jvm.LawKit.callS X70 hx (y := (⟨"com/example/claviger/claviger/engine/Effect", "named", "(Ljava/lang/String;)Lcom/example/claviger/claviger/engine/Effect;"⟩ : MethodName)) hown65 (mvT hZ65 (own_w hw 52)) (mvT hZ65 (own_w hw 53)) (mvT hZ65 (own_w hw 50)) (mvT hZ65 (own_w hw 54)) (by decide) (backOf (W := 0) (rmnm6 l Z a0 hw [] fb62 (nar .byte (c0.toInt8.toInt32)) (nar .byte (c1.toInt8.toInt32)) (nar .byte (c2.toInt8.toInt32)) (nar .byte (c3.toInt8.toInt32)) (nar .byte (c4.toInt8.toInt32)) (nar .byte (c5.toInt8.toInt32)) wALLOW wFORBID tALLOW tFORBID wV kwV cs h65 n0 (own_le O65) O65 HW ((Tq62.ext E63).ext E65)) hZ65 (own_w hw 54) (own_w hw 50) (by decide) (by decide)) (g := (mkF m 311 #[.val (.int p0), .val (.long q1), .second, .val (.int p2), .val (.int v4), .val (.int v5), .val (.int v6), .val (.int v7), .val (.ref bA), .val (.int v9), .val (.int (6 : Int32)), .val (.ref fb62), .val (.ref wFORBID)] [(.ref fb62)])) rfl (by rw [hml]; rfl) (argsL := [(.ref fb62)]) (rest := []) (lenOf pd_10 rfl) rfl (by show 2 * 0 + _ ≤ _; exact Nat.le_of_eq rfl) (hb hby at_311) (fun _ _ => ⟨rfl, e70, (by decide : 8 + 1 ≤ _), (by decide : 74 + 2 ≤ _)⟩)
        dsimp only [Pt.U, Pt.locs, Pt.cells, Pt.slots] at X71 l71 y71 z71 st71 hQ71
        subst l71 y71 z71
        obtain ⟨rfl, N71q, Kq71⟩ := hQ71
        have O71 := Old.keep O65 Kq71 all0
        have K71 := Keep.trans K65 Kq71 all0
        have C71 := CHr.trans C65 (CHr.keep Kq71 all0 C65.1)
        have N71 := Fr.app N66 N71q
        refine own_by (W' := (T71.setTop (mkF m 314 #[.val (.int p0), .val (.long q1), .second, .val (.int p2), .val (.int v4), .val (.int v5), .val (.int v6), .val (.int v7), .val (.ref bA), .val (.int v9), .val (.int (6 : Int32)), .val (.ref fb62), .val (.ref wFORBID)] [(own_F6 wFORBID [(.int (nar .byte (c0.toInt8.toInt32))), (.int (nar .byte (c1.toInt8.toInt32))), (.int (nar .byte (c2.toInt8.toInt32))), (.int (nar .byte (c3.toInt8.toInt32))), (.int (nar .byte (c4.toInt8.toInt32))), (.int (nar .byte (c5.toInt8.toInt32)))])]))) (fun t k => XS.ifNo X66.here hx rfl (hb hby at_297) rfl ((if0 _ _).trans (feq hc67).1) (st70 _ (XS.goto X70.here hx rfl (pc0 := 303) (pc' := 307) rfl (hb hby at_303) (by decide) (by decide) (XS.astore X70.here hx rfl (hb hby at_307) rfl rfl (l' := #[.val (.int p0), .val (.long q1), .second, .val (.int p2), .val (.int v4), .val (.int v5), .val (.int v6), .val (.int v7), .val (.ref bA), .val (.int v9), .val (.int (6 : Int32)), .val (.ref fb62), .val (.ref wFORBID)]) rfl (XS.aload X70.here hx rfl (hb hby at_309) rfl rfl (st71 _ k)))))) ?_
        have ho72 : ((own_F6 wFORBID [(.int (nar .byte (c0.toInt8.toInt32))), (.int (nar .byte (c1.toInt8.toInt32))), (.int (nar .byte (c2.toInt8.toInt32))), (.int (nar .byte (c3.toInt8.toInt32))), (.int (nar .byte (c4.toInt8.toInt32))), (.int (nar .byte (c5.toInt8.toInt32)))]) : Value) = (.ref wFORBID) := by rw [own_F6, if_neg (own_eqv_comm _ _ ▸ hc67)]
        obtain ⟨fs, hr, hrun, hended, hEnd⟩ := Jvm.Stand.leaveW (s := s) (vm₁ := T65.vm) X71 hS65 (Nat.le_trans hk65 Kq71.1) (v := some (.int (1 : Int32))) (fun h => by rw [Bd.returns] at h; cases h)
        refine own_by (W' := (T71.setTop (mkF m 324 #[.val (.int p0), .val (.long q1), .second, .val (.int p2), .val (.int v4), .val (.int v5), .val (.int v6), .val (.int v7), .val (.ref bA), .val (.int v9), .val (.int (6 : Int32)), .val (.ref fb62), .val (.ref wFORBID)] [(.int (1 : Int32))]))) (fun t k => XS.aload X71.here hx rfl (hb hby at_314) rfl rfl (Jvm.RoadKit.acmp (g := (mkF m 316 #[.val (.int p0), .val (.long q1), .second, .val (.int p2), .val (.int v4), .val (.int v5), .val (.int v6), .val (.int v7), .val (.ref bA), .val (.int v9), .val (.int (6 : Int32)), .val (.ref fb62), .val (.ref wFORBID)] [(.ref wFORBID), (own_F6 wFORBID [(.int (nar .byte (c0.toInt8.toInt32))), (.int (nar .byte (c1.toInt8.toInt32))), (.int (nar .byte (c2.toInt8.toInt32))), (.int (nar .byte (c3.toInt8.toInt32))), (.int (nar .byte (c4.toInt8.toInt32))), (.int (nar .byte (c5.toInt8.toInt32)))])])) X71 hx rfl (own_F6ref _ _) rfl (pc0 := 316) (pc' := 319) (same := true) rfl (hb hby at_316) rfl (decide_eq_true ho72) (by decide) (by decide) (XS.iconst X71.here hx rfl (hb hby at_319) (XS.goto X71.here hx rfl (pc0 := 320) (pc' := 324) rfl (hb hby at_320) (by decide) (by decide) k)))) ?_
        refine ⟨_, _, retOut X71 hx Bd.returns rfl (Or.inl ⟨rfl, Or.inr (Or.inl rfl), _, rfl⟩) (hb hby at_324) hr, hrun, hended, _, _, rfl, ?_, (by rw [hh]; show CHr Z consts_1 s.vm h0 T71.vm T71.heap; exact CHr.trans C71 (CHv.at (s := s) (vm0 := T65.vm) X71 hZ65 (own_EW hw) C71.1)), hEnd.1, hEnd.2.1, hEnd.2.2.1, hEnd.2.2.2.mono (by decide) (by decide)⟩
        exact ⟨rfl, N71⟩
  refine own_by (W' := (s₁.setTop (mkF m 3 #[.val (.int p0), .val (.long q1), .second, .val (.int p2), .unset, .unset, .unset, .unset, .unset, .unset, .unset, .unset, .unset] [(.int (p0 &&& (1 : Int32)))]))) (fun t k => XS.iloadN X0.here hx rfl (hb hby at_0) rfl (XS.iconst X0.here hx rfl (hb hby at_1) (XS.iand X0.here hx rfl (hb hby at_2) rfl k))) ?_
  by_cases hc73 : (p0 &&& (1 : Int32)) = (0 : Int32)
  ·
    refine own_by (W' := (s₁.setTop (mkF m 16 #[.val (.int p0), .val (.long q1), .second, .val (.int p2), .val (.int (0 : Int32)), .unset, .unset, .unset, .unset, .unset, .unset, .unset, .unset] [(.int ((p0.toUInt32 >>> ((1 : Int32) &&& 31).toUInt32).toInt32))]))) (fun t k => XS.ifYes X0.here hx rfl (pc0 := 3) (pc' := 10) rfl (hb hby at_3) rfl ((if0 _ _).trans (teq hc73).1) (by decide) (by decide) (XS.iconst X0.here hx rfl (hb hby at_10) (XS.istore X0.here hx rfl (hb hby at_11) rfl (l' := #[.val (.int p0), .val (.long q1), .second, .val (.int p2), .val (.int (0 : Int32)), .unset, .unset, .unset, .unset, .unset, .unset, .unset, .unset]) rfl (XS.iloadN X0.here hx rfl (hb hby at_13) rfl (XS.iconst X0.here hx rfl (hb hby at_14) (XS.iushr X0.here hx rfl (hb hby at_15) rfl k)))))) ?_
    refine own_by (W' := (s₁.setTop (mkF m 20 #[.val (.int p0), .val (.long q1), .second, .val (.int p2), .val (.int (0 : Int32)), .val (.int (((p0.toUInt32 >>> ((1 : Int32) &&& 31).toUInt32).toInt32) &&& (3 : Int32))), .unset, .unset, .unset, .unset, .unset, .unset, .unset] []))) (fun t k => XS.iconst X0.here hx rfl (hb hby at_16) (XS.iand X0.here hx rfl (hb hby at_17) rfl (XS.istore X0.here hx rfl (hb hby at_18) rfl (l' := #[.val (.int p0), .val (.long q1), .second, .val (.int p2), .val (.int (0 : Int32)), .val (.int (((p0.toUInt32 >>> ((1 : Int32) &&& 31).toUInt32).toInt32) &&& (3 : Int32))), .unset, .unset, .unset, .unset, .unset, .unset, .unset]) rfl k))) ?_
    generalize hv_kind : (((p0.toUInt32 >>> ((1 : Int32) &&& 31).toUInt32).toInt32) &&& (3 : Int32)) = kind
    refine own_by (W' := (s₁.setTop (mkF m 37 #[.val (.int p0), .val (.long q1), .second, .val (.int p2), .val (.int (0 : Int32)), .val (.int kind), .val (.int (5 : Int32)), .unset, .unset, .unset, .unset, .unset, .unset] [(.long (255 : Int64)), (.long q1)]))) (fun t k => XS.iload X0.here hx rfl (hb hby at_20) rfl (XS.ifYes X0.here hx rfl (pc0 := 22) (pc' := 30) rfl (hb hby at_22) rfl ((if0 _ _).trans (teq (rfl : (0 : Int32) = (0 : Int32))).1) (by decide) (by decide) (XS.iconst X0.here hx rfl (hb hby at_30) (XS.istore X0.here hx rfl (hb hby at_31) rfl (l' := #[.val (.int p0), .val (.long q1), .second, .val (.int p2), .val (.int (0 : Int32)), .val (.int kind), .val (.int (5 : Int32)), .unset, .unset, .unset, .unset, .unset, .unset]) rfl (XS.lloadN X0.here hx rfl (hb hby at_33) rfl ((X0.ldc2Long hx hown (mvT hZ (own_w hw 0)) (g := (mkF m 34 #[.val (.int p0), .val (.long q1), .second, .val (.int p2), .val (.int (0 : Int32)), .val (.int kind), .val (.int (5 : Int32)), .unset, .unset, .unset, .unset, .unset, .unset] [(.long q1)])) rfl (hb hby at_34)) _ k)))))) ?_
    refine own_by (W' := (s₁.setTop (mkF m 42 #[.val (.int p0), .val (.long q1), .second, .val (.int p2), .val (.int (0 : Int32)), .val (.int kind), .val (.int (5 : Int32)), .val (.int (((q1 &&& (255 : Int64)).toInt32).toUInt32.toUInt16.toUInt32.toInt32)), .unset, .unset, .unset, .unset, .unset] []))) (fun t k => XS.land X0.here hx rfl (hb hby at_37) rfl (XS.l2i X0.here hx rfl (hb hby at_38) rfl (XS.i2c X0.here hx rfl (hb hby at_39) rfl (XS.istore X0.here hx rfl (hb hby at_40) rfl (l' := #[.val (.int p0), .val (.long q1), .second, .val (.int p2), .val (.int (0 : Int32)), .val (.int kind), .val (.int (5 : Int32)), .val (.int (((q1 &&& (255 : Int64)).toInt32).toUInt32.toUInt16.toUInt32.toInt32)), .unset, .unset, .unset, .unset, .unset]) rfl k)))) ?_
    generalize hv_dd : (((q1 &&& (255 : Int64)).toInt32).toUInt32.toUInt16.toUInt32.toInt32) = dd
    obtain ⟨T74, h74, k74, X74, e74, E74, A74, st74⟩ := newP X0 hx hZ (own_w hw 1) e0 (g := (mkF m 86 #[.val (.int p0), .val (.long q1), .second, .val (.int p2), .val (.int (0 : Int32)), .val (.int kind), .val (.int (5 : Int32)), .val (.int dd), .unset, .unset, .unset, .unset, .unset] [(.int (6 : Int32))])) rfl (hb hby at_86) rfl (by decide) (cap := 6) (by decide) (by decide) (by decide) (by decide)
    obtain ⟨b74, g74⟩ : ∃ z, z = h0.size := ⟨_, rfl⟩
    rw [← g74] at A74 st74
    have g_b74 : n0 ≤ b74 := Nat.le_trans (own_le O0) (Nat.le_of_eq g74.symm)
    have sz_b74 : h0.size ≤ b74 := Nat.le_trans (Keep.refl h0 []).1 (Nat.le_of_eq g74.symm)
    have Sf74_b74 : Safe Z consts_1 s.vm _ b74 := Safe.ext E74 C0.1 (Safe.new (Nat.le_of_eq g74.symm))
    have C74 := CHr.trans C0 (CHr.ext E74 C0.1)
    have O74 := O0.ext E74
    have K74 := Keep.ext (Keep.refl h0 []) E74
    have V_b74 : Arv Z h74 b74 k74 .char (6 : Int32) [(.int (0 : Int32)), (.int (0 : Int32)), (.int (0 : Int32)), (.int (0 : Int32)), (.int (0 : Int32)), (.int (0 : Int32))] (.int (0 : Int32)) := (Arv.new A74 (by decide)).pad (pad_rep [] (.int (0 : Int32)) 6)
    refine own_by (W' := (T74.setTop (mkF m 90 #[.val (.int p0), .val (.long q1), .second, .val (.int p2), .val (.int (0 : Int32)), .val (.int kind), .val (.int (5 : Int32)), .val (.int dd), .unset, .unset, .unset, .unset, .unset] [(.int (0 : Int32)), (.ref b74), (.ref b74)]))) (fun t k => XS.iload X0.here hx rfl (hb hby at_42) rfl (XS.ifYes X0.here hx rfl (pc0 := 44) (pc' := 84) rfl (hb hby at_44) rfl ((if0 _ _).trans (teq (rfl : (0 : Int32) = (0 : Int32))).1) (by decide) (by decide) (XS.bipush X0.here hx rfl (hb hby at_84) (st74 _ (XS.dup X74.here hx rfl (hb hby at_88) rfl rfl (XS.iconst X74.here hx rfl (hb hby at_89) k)))))) ?_
    obtain ⟨clu75, Aru75, qu75, Su75, Ngu75, Hau75, Gau75⟩ := id V_b74
    have hinu75 : ¬ ((0 : Int32) < 0 ∨ clu75.slots.size ≤ ((0 : Int32)).toNatClampNeg) := inb_of Su75 ⟨by decide, by decide⟩
    obtain ⟨T76, h76, X76, e76, W76, st76⟩ := stC X74 hx hZ e74 Aru75 (j := (0 : Int32)) hinu75 (g := (mkF m 92 #[.val (.int p0), .val (.long q1), .second, .val (.int p2), .val (.int (0 : Int32)), .val (.int kind), .val (.int (5 : Int32)), .val (.int dd), .unset, .unset, .unset, .unset, .unset] [(.int (97 : Int32)), (.int (0 : Int32)), (.ref b74), (.ref b74)])) rfl rfl (hb hby at_92)
    have Vu75 : Arv Z h76 b74 k74 .char (6 : Int32) [(.int (nar .char (97 : Int32))), (.int (0 : Int32)), (.int (0 : Int32)), (.int (0 : Int32)), (.int (0 : Int32)), (.int (0 : Int32))] (.int (0 : Int32)) := Arv.set Aru75 qu75 Su75 Ngu75 Hau75 Gau75 (fits_nar_char _) W76 0 rfl (Nat.le_of_ble_eq_true rfl)
    rw [show nar .char (97 : Int32) = (97 : Int32) from (by decide)] at Vu75
    have Sf76_b74 := Safe.wr W76 Sf74_b74 C74.1 Sf74_b74
    have C76 := CHr.trans C74 (CHr.wr W76 Sf74_b74 C74.1)
    have O76 := Old.wr O74 W76 g_b74
    have N76 := Fr.snoc X76 N0 g_b74
    have K76 := Keep.wr K74 W76 (Or.inr sz_b74)
    obtain ⟨clu77, Aru77, qu77, Su77, Ngu77, Hau77, Gau77⟩ := id Vu75
    have hinu77 : ¬ ((1 : Int32) < 0 ∨ clu77.slots.size ≤ ((1 : Int32)).toNatClampNeg) := inb_of Su77 ⟨by decide, by decide⟩
    obtain ⟨T78, h78, X78, e78, W78, st78⟩ := stC X76 hx hZ e76 Aru77 (j := (1 : Int32)) hinu77 (g := (mkF m 97 #[.val (.int p0), .val (.long q1), .second, .val (.int p2), .val (.int (0 : Int32)), .val (.int kind), .val (.int (5 : Int32)), .val (.int dd), .unset, .unset, .unset, .unset, .unset] [(.int (108 : Int32)), (.int (1 : Int32)), (.ref b74), (.ref b74)])) rfl rfl (hb hby at_97)
    have Vu77 : Arv Z h78 b74 k74 .char (6 : Int32) [(.int (97 : Int32)), (.int (nar .char (108 : Int32))), (.int (0 : Int32)), (.int (0 : Int32)), (.int (0 : Int32)), (.int (0 : Int32))] (.int (0 : Int32)) := Arv.set Aru77 qu77 Su77 Ngu77 Hau77 Gau77 (fits_nar_char _) W78 1 rfl (Nat.le_of_ble_eq_true rfl)
    rw [show nar .char (108 : Int32) = (108 : Int32) from (by decide)] at Vu77
    have Sf78_b74 := Safe.wr W78 Sf76_b74 C76.1 Sf76_b74
    have C78 := CHr.trans C76 (CHr.wr W78 Sf76_b74 C76.1)
    have O78 := Old.wr O76 W78 g_b74
    have N78 := Fr.snoc X78 N76 g_b74
    have K78 := Keep.wr K76 W78 (Or.inr sz_b74)
    refine own_by (W' := (T78.setTop (mkF m 98 #[.val (.int p0), .val (.long q1), .second, .val (.int p2), .val (.int (0 : Int32)), .val (.int kind), .val (.int (5 : Int32)), .val (.int dd), .unset, .unset, .unset, .unset, .unset] [(.ref b74)]))) (fun t k => XS.bipush X74.here hx rfl (hb hby at_90) (st76 _ (XS.dup X76.here hx rfl (hb hby at_93) rfl rfl (XS.iconst X76.here hx rfl (hb hby at_94) (XS.bipush X76.here hx rfl (hb hby at_95) (st78 _ k)))))) ?_
    obtain ⟨clu79, Aru79, qu79, Su79, Ngu79, Hau79, Gau79⟩ := id Vu77
    have hinu79 : ¬ ((2 : Int32) < 0 ∨ clu79.slots.size ≤ ((2 : Int32)).toNatClampNeg) := inb_of Su79 ⟨by decide, by decide⟩
    obtain ⟨T80, h80, X80, e80, W80, st80⟩ := stC X78 hx hZ e78 Aru79 (j := (2 : Int32)) hinu79 (g := (mkF m 102 #[.val (.int p0), .val (.long q1), .second, .val (.int p2), .val (.int (0 : Int32)), .val (.int kind), .val (.int (5 : Int32)), .val (.int dd), .unset, .unset, .unset, .unset, .unset] [(.int (108 : Int32)), (.int (2 : Int32)), (.ref b74), (.ref b74)])) rfl rfl (hb hby at_102)
    have Vu79 : Arv Z h80 b74 k74 .char (6 : Int32) [(.int (97 : Int32)), (.int (108 : Int32)), (.int (nar .char (108 : Int32))), (.int (0 : Int32)), (.int (0 : Int32)), (.int (0 : Int32))] (.int (0 : Int32)) := Arv.set Aru79 qu79 Su79 Ngu79 Hau79 Gau79 (fits_nar_char _) W80 2 rfl (Nat.le_of_ble_eq_true rfl)
    rw [show nar .char (108 : Int32) = (108 : Int32) from (by decide)] at Vu79
    have Sf80_b74 := Safe.wr W80 Sf78_b74 C78.1 Sf78_b74
    have C80 := CHr.trans C78 (CHr.wr W80 Sf78_b74 C78.1)
    have O80 := Old.wr O78 W80 g_b74
    have N80 := Fr.snoc X80 N78 g_b74
    have K80 := Keep.wr K78 W80 (Or.inr sz_b74)
    refine own_by (W' := (T80.setTop (mkF m 105 #[.val (.int p0), .val (.long q1), .second, .val (.int p2), .val (.int (0 : Int32)), .val (.int kind), .val (.int (5 : Int32)), .val (.int dd), .unset, .unset, .unset, .unset, .unset] [(.int (3 : Int32)), (.ref b74), (.ref b74)]))) (fun t k => XS.dup X78.here hx rfl (hb hby at_98) rfl rfl (XS.iconst X78.here hx rfl (hb hby at_99) (XS.bipush X78.here hx rfl (hb hby at_100) (st80 _ (XS.dup X80.here hx rfl (hb hby at_103) rfl rfl (XS.iconst X80.here hx rfl (hb hby at_104) k)))))) ?_
    obtain ⟨clu81, Aru81, qu81, Su81, Ngu81, Hau81, Gau81⟩ := id Vu79
    have hinu81 : ¬ ((3 : Int32) < 0 ∨ clu81.slots.size ≤ ((3 : Int32)).toNatClampNeg) := inb_of Su81 ⟨by decide, by decide⟩
    obtain ⟨T82, h82, X82, e82, W82, st82⟩ := stC X80 hx hZ e80 Aru81 (j := (3 : Int32)) hinu81 (g := (mkF m 107 #[.val (.int p0), .val (.long q1), .second, .val (.int p2), .val (.int (0 : Int32)), .val (.int kind), .val (.int (5 : Int32)), .val (.int dd), .unset, .unset, .unset, .unset, .unset] [(.int (111 : Int32)), (.int (3 : Int32)), (.ref b74), (.ref b74)])) rfl rfl (hb hby at_107)
    have Vu81 : Arv Z h82 b74 k74 .char (6 : Int32) [(.int (97 : Int32)), (.int (108 : Int32)), (.int (108 : Int32)), (.int (nar .char (111 : Int32))), (.int (0 : Int32)), (.int (0 : Int32))] (.int (0 : Int32)) := Arv.set Aru81 qu81 Su81 Ngu81 Hau81 Gau81 (fits_nar_char _) W82 3 rfl (Nat.le_of_ble_eq_true rfl)
    rw [show nar .char (111 : Int32) = (111 : Int32) from (by decide)] at Vu81
    have Sf82_b74 := Safe.wr W82 Sf80_b74 C80.1 Sf80_b74
    have C82 := CHr.trans C80 (CHr.wr W82 Sf80_b74 C80.1)
    have O82 := Old.wr O80 W82 g_b74
    have N82 := Fr.snoc X82 N80 g_b74
    have K82 := Keep.wr K80 W82 (Or.inr sz_b74)
    obtain ⟨clu83, Aru83, qu83, Su83, Ngu83, Hau83, Gau83⟩ := id Vu81
    have hinu83 : ¬ ((4 : Int32) < 0 ∨ clu83.slots.size ≤ ((4 : Int32)).toNatClampNeg) := inb_of Su83 ⟨by decide, by decide⟩
    obtain ⟨T84, h84, X84, e84, W84, st84⟩ := stC X82 hx hZ e82 Aru83 (j := (4 : Int32)) hinu83 (g := (mkF m 112 #[.val (.int p0), .val (.long q1), .second, .val (.int p2), .val (.int (0 : Int32)), .val (.int kind), .val (.int (5 : Int32)), .val (.int dd), .unset, .unset, .unset, .unset, .unset] [(.int (119 : Int32)), (.int (4 : Int32)), (.ref b74), (.ref b74)])) rfl rfl (hb hby at_112)
    have Vu83 : Arv Z h84 b74 k74 .char (6 : Int32) [(.int (97 : Int32)), (.int (108 : Int32)), (.int (108 : Int32)), (.int (111 : Int32)), (.int (nar .char (119 : Int32))), (.int (0 : Int32))] (.int (0 : Int32)) := Arv.set Aru83 qu83 Su83 Ngu83 Hau83 Gau83 (fits_nar_char _) W84 4 rfl (Nat.le_of_ble_eq_true rfl)
    rw [show nar .char (119 : Int32) = (119 : Int32) from (by decide)] at Vu83
    have Sf84_b74 := Safe.wr W84 Sf82_b74 C82.1 Sf82_b74
    have C84 := CHr.trans C82 (CHr.wr W84 Sf82_b74 C82.1)
    have O84 := Old.wr O82 W84 g_b74
    have N84 := Fr.snoc X84 N82 g_b74
    have K84 := Keep.wr K82 W84 (Or.inr sz_b74)
    refine own_by (W' := (T84.setTop (mkF m 113 #[.val (.int p0), .val (.long q1), .second, .val (.int p2), .val (.int (0 : Int32)), .val (.int kind), .val (.int (5 : Int32)), .val (.int dd), .unset, .unset, .unset, .unset, .unset] [(.ref b74)]))) (fun t k => XS.bipush X80.here hx rfl (hb hby at_105) (st82 _ (XS.dup X82.here hx rfl (hb hby at_108) rfl rfl (XS.iconst X82.here hx rfl (hb hby at_109) (XS.bipush X82.here hx rfl (hb hby at_110) (st84 _ k)))))) ?_
    obtain ⟨clu85, Aru85, qu85, Su85, Ngu85, Hau85, Gau85⟩ := id Vu83
    have hinu85 : ¬ ((5 : Int32) < 0 ∨ clu85.slots.size ≤ ((5 : Int32)).toNatClampNeg) := inb_of Su85 ⟨by decide, by decide⟩
    obtain ⟨T86, h86, X86, e86, W86, st86⟩ := stC X84 hx hZ e84 Aru85 (j := (5 : Int32)) hinu85 (g := (mkF m 117 #[.val (.int p0), .val (.long q1), .second, .val (.int p2), .val (.int (0 : Int32)), .val (.int kind), .val (.int (5 : Int32)), .val (.int dd), .unset, .unset, .unset, .unset, .unset] [(.int dd), (.int (5 : Int32)), (.ref b74), (.ref b74)])) rfl rfl (hb hby at_117)
    have Vu85 : Arv Z h86 b74 k74 .char (6 : Int32) [(.int (97 : Int32)), (.int (108 : Int32)), (.int (108 : Int32)), (.int (111 : Int32)), (.int (119 : Int32)), (.int (nar .char dd))] (.int (0 : Int32)) := Arv.set Aru85 qu85 Su85 Ngu85 Hau85 Gau85 (fits_nar_char _) W86 5 rfl (Nat.le_of_ble_eq_true rfl)
    rw [show nar .char dd = dd from (own_ch_of hv_dd).1] at Vu85
    have Sf86_b74 := Safe.wr W86 Sf84_b74 C84.1 Sf84_b74
    have C86 := CHr.trans C84 (CHr.wr W86 Sf84_b74 C84.1)
    have O86 := Old.wr O84 W86 g_b74
    have N86 := Fr.snoc X86 N84 g_b74
    have K86 := Keep.wr K84 W86 (Or.inr sz_b74)
    refine own_by (W' := (T86.setTop (mkF m 121 #[.val (.int p0), .val (.long q1), .second, .val (.int p2), .val (.int (0 : Int32)), .val (.int kind), .val (.int (5 : Int32)), .val (.int dd), .val (.ref b74), .unset, .unset, .unset, .unset] [(.int p2)]))) (fun t k => XS.dup X84.here hx rfl (hb hby at_113) rfl rfl (XS.iconst X84.here hx rfl (hb hby at_114) (XS.iload X84.here hx rfl (hb hby at_115) rfl (st86 _ (XS.astore X86.here hx rfl (hb hby at_118) rfl rfl (l' := #[.val (.int p0), .val (.long q1), .second, .val (.int p2), .val (.int (0 : Int32)), .val (.int kind), .val (.int (5 : Int32)), .val (.int dd), .val (.ref b74), .unset, .unset, .unset, .unset]) rfl (XS.iloadN X86.here hx rfl (hb hby at_120) rfl k)))))) ?_
    refine own_by (W' := (T86.setTop (mkF m 126 #[.val (.int p0), .val (.long q1), .second, .val (.int p2), .val (.int (0 : Int32)), .val (.int kind), .val (.int (5 : Int32)), .val (.int dd), .val (.ref b74), .val (.int (p2 &&& (2147483647 : Int32))), .unset, .unset, .unset] []))) (fun t k => (X86.ldcInt hx hown (mvT hZ (own_w hw 2)) (g := (mkF m 121 #[.val (.int p0), .val (.long q1), .second, .val (.int p2), .val (.int (0 : Int32)), .val (.int kind), .val (.int (5 : Int32)), .val (.int dd), .val (.ref b74), .unset, .unset, .unset, .unset] [(.int p2)])) rfl (hb hby at_121)) _ (XS.iand X86.here hx rfl (hb hby at_123) rfl (XS.istore X86.here hx rfl (hb hby at_124) rfl (l' := #[.val (.int p0), .val (.long q1), .second, .val (.int p2), .val (.int (0 : Int32)), .val (.int kind), .val (.int (5 : Int32)), .val (.int dd), .val (.ref b74), .val (.int (p2 &&& (2147483647 : Int32))), .unset, .unset, .unset]) rfl k))) ?_
    generalize hv_nn : (p2 &&& (2147483647 : Int32)) = nn
    refine own_by (W' := (T86.setTop (mkF m 128 #[.val (.int p0), .val (.long q1), .second, .val (.int p2), .val (.int (0 : Int32)), .val (.int kind), .val (.int (5 : Int32)), .val (.int dd), .val (.ref b74), .val (.int nn), .unset, .unset, .unset] [(.int kind)]))) (fun t k => XS.iload X86.here hx rfl (hb hby at_126) rfl k) ?_
    by_cases hc87 : kind = (0 : Int32)
    ·
      refine own_by (W' := (T86.setTop (mkF m 265 #[.val (.int p0), .val (.long q1), .second, .val (.int p2), .val (.int (0 : Int32)), .val (.int kind), .val (.int (5 : Int32)), .val (.int dd), .val (.ref b74), .val (.int nn), .val (.int (5 : Int32)), .unset, .unset] []))) (fun t k => XS.ifNo X86.here hx rfl (hb hby at_128) rfl ((if0 _ _).trans (teq hc87).2) (XS.iload X86.here hx rfl (hb hby at_131) rfl (XS.istore X86.here hx rfl (hb hby at_133) rfl (l' := #[.val (.int p0), .val (.long q1), .second, .val (.int p2), .val (.int (0 : Int32)), .val (.int kind), .val (.int (5 : Int32)), .val (.int dd), .val (.ref b74), .val (.int nn), .val (.int (5 : Int32)), .unset, .unset]) rfl (XS.goto X86.here hx rfl (pc0 := 135) (pc' := 265) rfl (hb hby at_135) (by decide) (by decide) k)))) ?_
      exact cut265 _ X86 N86 (h86) ((0 : Int32)) (kind) ((5 : Int32)) (dd) (nn) ((5 : Int32)) (b74) (k74) ((97 : Int32)) ((108 : Int32)) ((108 : Int32)) ((111 : Int32)) ((119 : Int32)) (dd) e86 (O86) (K86) (C86) (by decide) (Vu85) (⟨(by decide), (by decide)⟩) (⟨(by decide), (by decide)⟩) (⟨(by decide), (by decide)⟩) (⟨(by decide), (by decide)⟩) (⟨(by decide), (by decide)⟩) (⟨(own_ch_of hv_dd).1, (own_ch_of hv_dd).2⟩)
    ·
      refine own_by (W' := (T86.setTop (mkF m 141 #[.val (.int p0), .val (.long q1), .second, .val (.int p2), .val (.int (0 : Int32)), .val (.int kind), .val (.int (5 : Int32)), .val (.int dd), .val (.ref b74), .val (.int nn), .unset, .unset, .unset] [(.int (1 : Int32)), (.int kind)]))) (fun t k => XS.ifYes X86.here hx rfl (pc0 := 128) (pc' := 138) rfl (hb hby at_128) rfl ((if0 _ _).trans (feq hc87).2) (by decide) (by decide) (XS.iload X86.here hx rfl (hb hby at_138) rfl (XS.iconst X86.here hx rfl (hb hby at_140) k))) ?_
      by_cases hc88 : kind = (1 : Int32)
      ·
        refine own_by (W' := (T86.setTop (mkF m 151 #[.val (.int p0), .val (.long q1), .second, .val (.int p2), .val (.int (0 : Int32)), .val (.int kind), .val (.int (5 : Int32)), .val (.int dd), .val (.ref b74), .val (.int nn), .unset, .unset, .unset] [(.int (nn % (5 : Int32))), (.ref b74)]))) (fun t k => XS.icmpNo X86.here hx rfl (hb hby at_141) rfl (teq hc88).2 (XS.aload X86.here hx rfl (hb hby at_144) rfl rfl (XS.iload X86.here hx rfl (hb hby at_146) rfl (XS.iload X86.here hx rfl (hb hby at_148) rfl (iremM X86 hx rfl (hb hby at_150) rfl (by decide) k))))) ?_
        rcases own_rem5 hv_nn with hs | hs | hs | hs | hs
        ·
          rw [hs]
          obtain ⟨clu89, Aru89, qu89, Su89, Ngu89, Hau89, Gau89⟩ := id Vu85
          have hinu89 : ¬ ((0 : Int32) < 0 ∨ clu89.slots.size ≤ ((0 : Int32)).toNatClampNeg) := inb_of Su89 ⟨by decide, by decide⟩
          obtain ⟨T90, h90, X90, e90, W90, st90⟩ := stC X86 hx hZ e86 Aru89 (j := (0 : Int32)) hinu89 (g := (mkF m 153 #[.val (.int p0), .val (.long q1), .second, .val (.int p2), .val (.int (0 : Int32)), .val (.int kind), .val (.int (5 : Int32)), .val (.int dd), .val (.ref b74), .val (.int nn), .unset, .unset, .unset] [(.int dd), (.int (0 : Int32)), (.ref b74)])) rfl rfl (hb hby at_153)
          have Vu89 : Arv Z h90 b74 k74 .char (6 : Int32) [(.int (nar .char dd)), (.int (108 : Int32)), (.int (108 : Int32)), (.int (111 : Int32)), (.int (119 : Int32)), (.int dd)] (.int (0 : Int32)) := Arv.set Aru89 qu89 Su89 Ngu89 Hau89 Gau89 (fits_nar_char _) W90 0 rfl (Nat.le_of_ble_eq_true rfl)
          rw [show nar .char dd = dd from (own_ch_of hv_dd).1] at Vu89
          have Sf90_b74 := Safe.wr W90 Sf86_b74 C86.1 Sf86_b74
          have C90 := CHr.trans C86 (CHr.wr W90 Sf86_b74 C86.1)
          have O90 := Old.wr O86 W90 g_b74
          have N90 := Fr.snoc X90 N86 g_b74
          have K90 := Keep.wr K86 W90 (Or.inr sz_b74)
          refine own_by (W' := (T90.setTop (mkF m 265 #[.val (.int p0), .val (.long q1), .second, .val (.int p2), .val (.int (0 : Int32)), .val (.int kind), .val (.int (5 : Int32)), .val (.int dd), .val (.ref b74), .val (.int nn), .val (.int (5 : Int32)), .unset, .unset] []))) (fun t k => XS.iload X86.here hx rfl (hb hby at_151) rfl (st90 _ (XS.iload X90.here hx rfl (hb hby at_154) rfl (XS.istore X90.here hx rfl (hb hby at_156) rfl (l' := #[.val (.int p0), .val (.long q1), .second, .val (.int p2), .val (.int (0 : Int32)), .val (.int kind), .val (.int (5 : Int32)), .val (.int dd), .val (.ref b74), .val (.int nn), .val (.int (5 : Int32)), .unset, .unset]) rfl (XS.goto X90.here hx rfl (pc0 := 158) (pc' := 265) rfl (hb hby at_158) (by decide) (by decide) k))))) ?_
          exact cut265 _ X90 N90 (h90) ((0 : Int32)) (kind) ((5 : Int32)) (dd) (nn) ((5 : Int32)) (b74) (k74) (dd) ((108 : Int32)) ((108 : Int32)) ((111 : Int32)) ((119 : Int32)) (dd) e90 (O90) (K90) (C90) (by decide) (Vu89) (⟨(own_ch_of hv_dd).1, (own_ch_of hv_dd).2⟩) (⟨(by decide), (by decide)⟩) (⟨(by decide), (by decide)⟩) (⟨(by decide), (by decide)⟩) (⟨(by decide), (by decide)⟩) (⟨(own_ch_of hv_dd).1, (own_ch_of hv_dd).2⟩)
        ·
          rw [hs]
          obtain ⟨clu91, Aru91, qu91, Su91, Ngu91, Hau91, Gau91⟩ := id Vu85
          have hinu91 : ¬ ((1 : Int32) < 0 ∨ clu91.slots.size ≤ ((1 : Int32)).toNatClampNeg) := inb_of Su91 ⟨by decide, by decide⟩
          obtain ⟨T92, h92, X92, e92, W92, st92⟩ := stC X86 hx hZ e86 Aru91 (j := (1 : Int32)) hinu91 (g := (mkF m 153 #[.val (.int p0), .val (.long q1), .second, .val (.int p2), .val (.int (0 : Int32)), .val (.int kind), .val (.int (5 : Int32)), .val (.int dd), .val (.ref b74), .val (.int nn), .unset, .unset, .unset] [(.int dd), (.int (1 : Int32)), (.ref b74)])) rfl rfl (hb hby at_153)
          have Vu91 : Arv Z h92 b74 k74 .char (6 : Int32) [(.int (97 : Int32)), (.int (nar .char dd)), (.int (108 : Int32)), (.int (111 : Int32)), (.int (119 : Int32)), (.int dd)] (.int (0 : Int32)) := Arv.set Aru91 qu91 Su91 Ngu91 Hau91 Gau91 (fits_nar_char _) W92 1 rfl (Nat.le_of_ble_eq_true rfl)
          rw [show nar .char dd = dd from (own_ch_of hv_dd).1] at Vu91
          have Sf92_b74 := Safe.wr W92 Sf86_b74 C86.1 Sf86_b74
          have C92 := CHr.trans C86 (CHr.wr W92 Sf86_b74 C86.1)
          have O92 := Old.wr O86 W92 g_b74
          have N92 := Fr.snoc X92 N86 g_b74
          have K92 := Keep.wr K86 W92 (Or.inr sz_b74)
          refine own_by (W' := (T92.setTop (mkF m 265 #[.val (.int p0), .val (.long q1), .second, .val (.int p2), .val (.int (0 : Int32)), .val (.int kind), .val (.int (5 : Int32)), .val (.int dd), .val (.ref b74), .val (.int nn), .val (.int (5 : Int32)), .unset, .unset] []))) (fun t k => XS.iload X86.here hx rfl (hb hby at_151) rfl (st92 _ (XS.iload X92.here hx rfl (hb hby at_154) rfl (XS.istore X92.here hx rfl (hb hby at_156) rfl (l' := #[.val (.int p0), .val (.long q1), .second, .val (.int p2), .val (.int (0 : Int32)), .val (.int kind), .val (.int (5 : Int32)), .val (.int dd), .val (.ref b74), .val (.int nn), .val (.int (5 : Int32)), .unset, .unset]) rfl (XS.goto X92.here hx rfl (pc0 := 158) (pc' := 265) rfl (hb hby at_158) (by decide) (by decide) k))))) ?_
          exact cut265 _ X92 N92 (h92) ((0 : Int32)) (kind) ((5 : Int32)) (dd) (nn) ((5 : Int32)) (b74) (k74) ((97 : Int32)) (dd) ((108 : Int32)) ((111 : Int32)) ((119 : Int32)) (dd) e92 (O92) (K92) (C92) (by decide) (Vu91) (⟨(by decide), (by decide)⟩) (⟨(own_ch_of hv_dd).1, (own_ch_of hv_dd).2⟩) (⟨(by decide), (by decide)⟩) (⟨(by decide), (by decide)⟩) (⟨(by decide), (by decide)⟩) (⟨(own_ch_of hv_dd).1, (own_ch_of hv_dd).2⟩)
        ·
          rw [hs]
          obtain ⟨clu93, Aru93, qu93, Su93, Ngu93, Hau93, Gau93⟩ := id Vu85
          have hinu93 : ¬ ((2 : Int32) < 0 ∨ clu93.slots.size ≤ ((2 : Int32)).toNatClampNeg) := inb_of Su93 ⟨by decide, by decide⟩
          obtain ⟨T94, h94, X94, e94, W94, st94⟩ := stC X86 hx hZ e86 Aru93 (j := (2 : Int32)) hinu93 (g := (mkF m 153 #[.val (.int p0), .val (.long q1), .second, .val (.int p2), .val (.int (0 : Int32)), .val (.int kind), .val (.int (5 : Int32)), .val (.int dd), .val (.ref b74), .val (.int nn), .unset, .unset, .unset] [(.int dd), (.int (2 : Int32)), (.ref b74)])) rfl rfl (hb hby at_153)
          have Vu93 : Arv Z h94 b74 k74 .char (6 : Int32) [(.int (97 : Int32)), (.int (108 : Int32)), (.int (nar .char dd)), (.int (111 : Int32)), (.int (119 : Int32)), (.int dd)] (.int (0 : Int32)) := Arv.set Aru93 qu93 Su93 Ngu93 Hau93 Gau93 (fits_nar_char _) W94 2 rfl (Nat.le_of_ble_eq_true rfl)
          rw [show nar .char dd = dd from (own_ch_of hv_dd).1] at Vu93
          have Sf94_b74 := Safe.wr W94 Sf86_b74 C86.1 Sf86_b74
          have C94 := CHr.trans C86 (CHr.wr W94 Sf86_b74 C86.1)
          have O94 := Old.wr O86 W94 g_b74
          have N94 := Fr.snoc X94 N86 g_b74
          have K94 := Keep.wr K86 W94 (Or.inr sz_b74)
          refine own_by (W' := (T94.setTop (mkF m 265 #[.val (.int p0), .val (.long q1), .second, .val (.int p2), .val (.int (0 : Int32)), .val (.int kind), .val (.int (5 : Int32)), .val (.int dd), .val (.ref b74), .val (.int nn), .val (.int (5 : Int32)), .unset, .unset] []))) (fun t k => XS.iload X86.here hx rfl (hb hby at_151) rfl (st94 _ (XS.iload X94.here hx rfl (hb hby at_154) rfl (XS.istore X94.here hx rfl (hb hby at_156) rfl (l' := #[.val (.int p0), .val (.long q1), .second, .val (.int p2), .val (.int (0 : Int32)), .val (.int kind), .val (.int (5 : Int32)), .val (.int dd), .val (.ref b74), .val (.int nn), .val (.int (5 : Int32)), .unset, .unset]) rfl (XS.goto X94.here hx rfl (pc0 := 158) (pc' := 265) rfl (hb hby at_158) (by decide) (by decide) k))))) ?_
          exact cut265 _ X94 N94 (h94) ((0 : Int32)) (kind) ((5 : Int32)) (dd) (nn) ((5 : Int32)) (b74) (k74) ((97 : Int32)) ((108 : Int32)) (dd) ((111 : Int32)) ((119 : Int32)) (dd) e94 (O94) (K94) (C94) (by decide) (Vu93) (⟨(by decide), (by decide)⟩) (⟨(by decide), (by decide)⟩) (⟨(own_ch_of hv_dd).1, (own_ch_of hv_dd).2⟩) (⟨(by decide), (by decide)⟩) (⟨(by decide), (by decide)⟩) (⟨(own_ch_of hv_dd).1, (own_ch_of hv_dd).2⟩)
        ·
          rw [hs]
          obtain ⟨clu95, Aru95, qu95, Su95, Ngu95, Hau95, Gau95⟩ := id Vu85
          have hinu95 : ¬ ((3 : Int32) < 0 ∨ clu95.slots.size ≤ ((3 : Int32)).toNatClampNeg) := inb_of Su95 ⟨by decide, by decide⟩
          obtain ⟨T96, h96, X96, e96, W96, st96⟩ := stC X86 hx hZ e86 Aru95 (j := (3 : Int32)) hinu95 (g := (mkF m 153 #[.val (.int p0), .val (.long q1), .second, .val (.int p2), .val (.int (0 : Int32)), .val (.int kind), .val (.int (5 : Int32)), .val (.int dd), .val (.ref b74), .val (.int nn), .unset, .unset, .unset] [(.int dd), (.int (3 : Int32)), (.ref b74)])) rfl rfl (hb hby at_153)
          have Vu95 : Arv Z h96 b74 k74 .char (6 : Int32) [(.int (97 : Int32)), (.int (108 : Int32)), (.int (108 : Int32)), (.int (nar .char dd)), (.int (119 : Int32)), (.int dd)] (.int (0 : Int32)) := Arv.set Aru95 qu95 Su95 Ngu95 Hau95 Gau95 (fits_nar_char _) W96 3 rfl (Nat.le_of_ble_eq_true rfl)
          rw [show nar .char dd = dd from (own_ch_of hv_dd).1] at Vu95
          have Sf96_b74 := Safe.wr W96 Sf86_b74 C86.1 Sf86_b74
          have C96 := CHr.trans C86 (CHr.wr W96 Sf86_b74 C86.1)
          have O96 := Old.wr O86 W96 g_b74
          have N96 := Fr.snoc X96 N86 g_b74
          have K96 := Keep.wr K86 W96 (Or.inr sz_b74)
          refine own_by (W' := (T96.setTop (mkF m 265 #[.val (.int p0), .val (.long q1), .second, .val (.int p2), .val (.int (0 : Int32)), .val (.int kind), .val (.int (5 : Int32)), .val (.int dd), .val (.ref b74), .val (.int nn), .val (.int (5 : Int32)), .unset, .unset] []))) (fun t k => XS.iload X86.here hx rfl (hb hby at_151) rfl (st96 _ (XS.iload X96.here hx rfl (hb hby at_154) rfl (XS.istore X96.here hx rfl (hb hby at_156) rfl (l' := #[.val (.int p0), .val (.long q1), .second, .val (.int p2), .val (.int (0 : Int32)), .val (.int kind), .val (.int (5 : Int32)), .val (.int dd), .val (.ref b74), .val (.int nn), .val (.int (5 : Int32)), .unset, .unset]) rfl (XS.goto X96.here hx rfl (pc0 := 158) (pc' := 265) rfl (hb hby at_158) (by decide) (by decide) k))))) ?_
          exact cut265 _ X96 N96 (h96) ((0 : Int32)) (kind) ((5 : Int32)) (dd) (nn) ((5 : Int32)) (b74) (k74) ((97 : Int32)) ((108 : Int32)) ((108 : Int32)) (dd) ((119 : Int32)) (dd) e96 (O96) (K96) (C96) (by decide) (Vu95) (⟨(by decide), (by decide)⟩) (⟨(by decide), (by decide)⟩) (⟨(by decide), (by decide)⟩) (⟨(own_ch_of hv_dd).1, (own_ch_of hv_dd).2⟩) (⟨(by decide), (by decide)⟩) (⟨(own_ch_of hv_dd).1, (own_ch_of hv_dd).2⟩)
        ·
          rw [hs]
          obtain ⟨clu97, Aru97, qu97, Su97, Ngu97, Hau97, Gau97⟩ := id Vu85
          have hinu97 : ¬ ((4 : Int32) < 0 ∨ clu97.slots.size ≤ ((4 : Int32)).toNatClampNeg) := inb_of Su97 ⟨by decide, by decide⟩
          obtain ⟨T98, h98, X98, e98, W98, st98⟩ := stC X86 hx hZ e86 Aru97 (j := (4 : Int32)) hinu97 (g := (mkF m 153 #[.val (.int p0), .val (.long q1), .second, .val (.int p2), .val (.int (0 : Int32)), .val (.int kind), .val (.int (5 : Int32)), .val (.int dd), .val (.ref b74), .val (.int nn), .unset, .unset, .unset] [(.int dd), (.int (4 : Int32)), (.ref b74)])) rfl rfl (hb hby at_153)
          have Vu97 : Arv Z h98 b74 k74 .char (6 : Int32) [(.int (97 : Int32)), (.int (108 : Int32)), (.int (108 : Int32)), (.int (111 : Int32)), (.int (nar .char dd)), (.int dd)] (.int (0 : Int32)) := Arv.set Aru97 qu97 Su97 Ngu97 Hau97 Gau97 (fits_nar_char _) W98 4 rfl (Nat.le_of_ble_eq_true rfl)
          rw [show nar .char dd = dd from (own_ch_of hv_dd).1] at Vu97
          have Sf98_b74 := Safe.wr W98 Sf86_b74 C86.1 Sf86_b74
          have C98 := CHr.trans C86 (CHr.wr W98 Sf86_b74 C86.1)
          have O98 := Old.wr O86 W98 g_b74
          have N98 := Fr.snoc X98 N86 g_b74
          have K98 := Keep.wr K86 W98 (Or.inr sz_b74)
          refine own_by (W' := (T98.setTop (mkF m 265 #[.val (.int p0), .val (.long q1), .second, .val (.int p2), .val (.int (0 : Int32)), .val (.int kind), .val (.int (5 : Int32)), .val (.int dd), .val (.ref b74), .val (.int nn), .val (.int (5 : Int32)), .unset, .unset] []))) (fun t k => XS.iload X86.here hx rfl (hb hby at_151) rfl (st98 _ (XS.iload X98.here hx rfl (hb hby at_154) rfl (XS.istore X98.here hx rfl (hb hby at_156) rfl (l' := #[.val (.int p0), .val (.long q1), .second, .val (.int p2), .val (.int (0 : Int32)), .val (.int kind), .val (.int (5 : Int32)), .val (.int dd), .val (.ref b74), .val (.int nn), .val (.int (5 : Int32)), .unset, .unset]) rfl (XS.goto X98.here hx rfl (pc0 := 158) (pc' := 265) rfl (hb hby at_158) (by decide) (by decide) k))))) ?_
          exact cut265 _ X98 N98 (h98) ((0 : Int32)) (kind) ((5 : Int32)) (dd) (nn) ((5 : Int32)) (b74) (k74) ((97 : Int32)) ((108 : Int32)) ((108 : Int32)) ((111 : Int32)) (dd) (dd) e98 (O98) (K98) (C98) (by decide) (Vu97) (⟨(by decide), (by decide)⟩) (⟨(by decide), (by decide)⟩) (⟨(by decide), (by decide)⟩) (⟨(by decide), (by decide)⟩) (⟨(own_ch_of hv_dd).1, (own_ch_of hv_dd).2⟩) (⟨(own_ch_of hv_dd).1, (own_ch_of hv_dd).2⟩)
      ·
        refine own_by (W' := (T86.setTop (mkF m 164 #[.val (.int p0), .val (.long q1), .second, .val (.int p2), .val (.int (0 : Int32)), .val (.int kind), .val (.int (5 : Int32)), .val (.int dd), .val (.ref b74), .val (.int nn), .unset, .unset, .unset] [(.int (2 : Int32)), (.int kind)]))) (fun t k => XS.icmpYes X86.here hx rfl (pc0 := 141) (pc' := 161) rfl (hb hby at_141) rfl (feq hc88).2 (by decide) (by decide) (XS.iload X86.here hx rfl (hb hby at_161) rfl (XS.iconst X86.here hx rfl (hb hby at_163) k))) ?_
        by_cases hc99 : kind = (2 : Int32)
        ·
          refine own_by (W' := (T86.setTop (mkF m 265 #[.val (.int p0), .val (.long q1), .second, .val (.int p2), .val (.int (0 : Int32)), .val (.int kind), .val (.int (5 : Int32)), .val (.int dd), .val (.ref b74), .val (.int nn), .val (.int (nn % (7 : Int32))), .unset, .unset] []))) (fun t k => XS.icmpNo X86.here hx rfl (hb hby at_164) rfl (teq hc99).2 (XS.iload X86.here hx rfl (hb hby at_167) rfl (XS.bipush X86.here hx rfl (hb hby at_169) (iremM X86 hx rfl (hb hby at_171) rfl (by decide) (XS.istore X86.here hx rfl (hb hby at_172) rfl (l' := #[.val (.int p0), .val (.long q1), .second, .val (.int p2), .val (.int (0 : Int32)), .val (.int kind), .val (.int (5 : Int32)), .val (.int dd), .val (.ref b74), .val (.int nn), .val (.int (nn % (7 : Int32))), .unset, .unset]) rfl (XS.goto X86.here hx rfl (pc0 := 174) (pc' := 265) rfl (hb hby at_174) (by decide) (by decide) k)))))) ?_
          exact cut265 _ X86 N86 (h86) ((0 : Int32)) (kind) ((5 : Int32)) (dd) (nn) ((nn % (7 : Int32))) (b74) (k74) ((97 : Int32)) ((108 : Int32)) ((108 : Int32)) ((111 : Int32)) ((119 : Int32)) (dd) e86 (O86) (K86) (C86) (own_rem7 hv_nn) (Vu85) (⟨(by decide), (by decide)⟩) (⟨(by decide), (by decide)⟩) (⟨(by decide), (by decide)⟩) (⟨(by decide), (by decide)⟩) (⟨(by decide), (by decide)⟩) (⟨(own_ch_of hv_dd).1, (own_ch_of hv_dd).2⟩)
        ·
          refine own_by (W' := (T86.setTop (mkF m 185 #[.val (.int p0), .val (.long q1), .second, .val (.int p2), .val (.int (0 : Int32)), .val (.int kind), .val (.int (5 : Int32)), .val (.int dd), .val (.ref b74), .val (.int nn), .unset, .unset, .unset] [(.long (q1 &&& (255 : Int64))), (.int (0 : Int32)), (.ref b74)]))) (fun t k => XS.icmpYes X86.here hx rfl (pc0 := 164) (pc' := 177) rfl (hb hby at_164) rfl (feq hc99).2 (by decide) (by decide) (XS.aload X86.here hx rfl (hb hby at_177) rfl rfl (XS.iconst X86.here hx rfl (hb hby at_179) (XS.lloadN X86.here hx rfl (hb hby at_180) rfl ((X86.ldc2Long hx hown (mvT hZ (own_w hw 0)) (g := (mkF m 181 #[.val (.int p0), .val (.long q1), .second, .val (.int p2), .val (.int (0 : Int32)), .val (.int kind), .val (.int (5 : Int32)), .val (.int dd), .val (.ref b74), .val (.int nn), .unset, .unset, .unset] [(.long q1), (.int (0 : Int32)), (.ref b74)])) rfl (hb hby at_181)) _ (XS.land X86.here hx rfl (hb hby at_184) rfl k)))))) ?_
          refine own_by (W' := (T86.setTop (mkF m 187 #[.val (.int p0), .val (.long q1), .second, .val (.int p2), .val (.int (0 : Int32)), .val (.int kind), .val (.int (5 : Int32)), .val (.int dd), .val (.ref b74), .val (.int nn), .unset, .unset, .unset] [(.int (((q1 &&& (255 : Int64)).toInt32).toUInt32.toUInt16.toUInt32.toInt32)), (.int (0 : Int32)), (.ref b74)]))) (fun t k => XS.l2i X86.here hx rfl (hb hby at_185) rfl (XS.i2c X86.here hx rfl (hb hby at_186) rfl k)) ?_
          generalize hv_v100 : (((q1 &&& (255 : Int64)).toInt32).toUInt32.toUInt16.toUInt32.toInt32) = v100
          obtain ⟨clu101, Aru101, qu101, Su101, Ngu101, Hau101, Gau101⟩ := id Vu85
          have hinu101 : ¬ ((0 : Int32) < 0 ∨ clu101.slots.size ≤ ((0 : Int32)).toNatClampNeg) := inb_of Su101 ⟨by decide, by decide⟩
          obtain ⟨T102, h102, X102, e102, W102, st102⟩ := stC X86 hx hZ e86 Aru101 (j := (0 : Int32)) hinu101 (g := (mkF m 187 #[.val (.int p0), .val (.long q1), .second, .val (.int p2), .val (.int (0 : Int32)), .val (.int kind), .val (.int (5 : Int32)), .val (.int dd), .val (.ref b74), .val (.int nn), .unset, .unset, .unset] [(.int v100), (.int (0 : Int32)), (.ref b74)])) rfl rfl (hb hby at_187)
          have Vu101 : Arv Z h102 b74 k74 .char (6 : Int32) [(.int (nar .char v100)), (.int (108 : Int32)), (.int (108 : Int32)), (.int (111 : Int32)), (.int (119 : Int32)), (.int dd)] (.int (0 : Int32)) := Arv.set Aru101 qu101 Su101 Ngu101 Hau101 Gau101 (fits_nar_char _) W102 0 rfl (Nat.le_of_ble_eq_true rfl)
          rw [show nar .char v100 = v100 from (own_ch_of hv_v100).1] at Vu101
          have Sf102_b74 := Safe.wr W102 Sf86_b74 C86.1 Sf86_b74
          have C102 := CHr.trans C86 (CHr.wr W102 Sf86_b74 C86.1)
          have O102 := Old.wr O86 W102 g_b74
          have N102 := Fr.snoc X102 N86 g_b74
          have K102 := Keep.wr K86 W102 (Or.inr sz_b74)
          refine own_by (W' := (T102.setTop (mkF m 195 #[.val (.int p0), .val (.long q1), .second, .val (.int p2), .val (.int (0 : Int32)), .val (.int kind), .val (.int (5 : Int32)), .val (.int dd), .val (.ref b74), .val (.int nn), .unset, .unset, .unset] [(.long ((q1.toUInt64 >>> ((8 : Int32) &&& 0x3f).toInt64.toUInt64).toInt64)), (.int (1 : Int32)), (.ref b74)]))) (fun t k => st102 _ (XS.aload X102.here hx rfl (hb hby at_188) rfl rfl (XS.iconst X102.here hx rfl (hb hby at_190) (XS.lloadN X102.here hx rfl (hb hby at_191) rfl (XS.bipush X102.here hx rfl (hb hby at_192) (XS.lushr X102.here hx rfl (hb hby at_194) rfl k)))))) ?_
          refine own_by (W' := (T102.setTop (mkF m 201 #[.val (.int p0), .val (.long q1), .second, .val (.int p2), .val (.int (0 : Int32)), .val (.int kind), .val (.int (5 : Int32)), .val (.int dd), .val (.ref b74), .val (.int nn), .unset, .unset, .unset] [(.int (((((q1.toUInt64 >>> ((8 : Int32) &&& 0x3f).toInt64.toUInt64).toInt64) &&& (255 : Int64)).toInt32).toUInt32.toUInt16.toUInt32.toInt32)), (.int (1 : Int32)), (.ref b74)]))) (fun t k => (X102.ldc2Long hx hown (mvT hZ (own_w hw 0)) (g := (mkF m 195 #[.val (.int p0), .val (.long q1), .second, .val (.int p2), .val (.int (0 : Int32)), .val (.int kind), .val (.int (5 : Int32)), .val (.int dd), .val (.ref b74), .val (.int nn), .unset, .unset, .unset] [(.long ((q1.toUInt64 >>> ((8 : Int32) &&& 0x3f).toInt64.toUInt64).toInt64)), (.int (1 : Int32)), (.ref b74)])) rfl (hb hby at_195)) _ (XS.land X102.here hx rfl (hb hby at_198) rfl (XS.l2i X102.here hx rfl (hb hby at_199) rfl (XS.i2c X102.here hx rfl (hb hby at_200) rfl k)))) ?_
          generalize hv_v103 : (((((q1.toUInt64 >>> ((8 : Int32) &&& 0x3f).toInt64.toUInt64).toInt64) &&& (255 : Int64)).toInt32).toUInt32.toUInt16.toUInt32.toInt32) = v103
          obtain ⟨clu104, Aru104, qu104, Su104, Ngu104, Hau104, Gau104⟩ := id Vu101
          have hinu104 : ¬ ((1 : Int32) < 0 ∨ clu104.slots.size ≤ ((1 : Int32)).toNatClampNeg) := inb_of Su104 ⟨by decide, by decide⟩
          obtain ⟨T105, h105, X105, e105, W105, st105⟩ := stC X102 hx hZ e102 Aru104 (j := (1 : Int32)) hinu104 (g := (mkF m 201 #[.val (.int p0), .val (.long q1), .second, .val (.int p2), .val (.int (0 : Int32)), .val (.int kind), .val (.int (5 : Int32)), .val (.int dd), .val (.ref b74), .val (.int nn), .unset, .unset, .unset] [(.int v103), (.int (1 : Int32)), (.ref b74)])) rfl rfl (hb hby at_201)
          have Vu104 : Arv Z h105 b74 k74 .char (6 : Int32) [(.int v100), (.int (nar .char v103)), (.int (108 : Int32)), (.int (111 : Int32)), (.int (119 : Int32)), (.int dd)] (.int (0 : Int32)) := Arv.set Aru104 qu104 Su104 Ngu104 Hau104 Gau104 (fits_nar_char _) W105 1 rfl (Nat.le_of_ble_eq_true rfl)
          rw [show nar .char v103 = v103 from (own_ch_of hv_v103).1] at Vu104
          have Sf105_b74 := Safe.wr W105 Sf102_b74 C102.1 Sf102_b74
          have C105 := CHr.trans C102 (CHr.wr W105 Sf102_b74 C102.1)
          have O105 := Old.wr O102 W105 g_b74
          have N105 := Fr.snoc X105 N102 g_b74
          have K105 := Keep.wr K102 W105 (Or.inr sz_b74)
          refine own_by (W' := (T105.setTop (mkF m 209 #[.val (.int p0), .val (.long q1), .second, .val (.int p2), .val (.int (0 : Int32)), .val (.int kind), .val (.int (5 : Int32)), .val (.int dd), .val (.ref b74), .val (.int nn), .unset, .unset, .unset] [(.long ((q1.toUInt64 >>> ((16 : Int32) &&& 0x3f).toInt64.toUInt64).toInt64)), (.int (2 : Int32)), (.ref b74)]))) (fun t k => st105 _ (XS.aload X105.here hx rfl (hb hby at_202) rfl rfl (XS.iconst X105.here hx rfl (hb hby at_204) (XS.lloadN X105.here hx rfl (hb hby at_205) rfl (XS.bipush X105.here hx rfl (hb hby at_206) (XS.lushr X105.here hx rfl (hb hby at_208) rfl k)))))) ?_
          refine own_by (W' := (T105.setTop (mkF m 215 #[.val (.int p0), .val (.long q1), .second, .val (.int p2), .val (.int (0 : Int32)), .val (.int kind), .val (.int (5 : Int32)), .val (.int dd), .val (.ref b74), .val (.int nn), .unset, .unset, .unset] [(.int (((((q1.toUInt64 >>> ((16 : Int32) &&& 0x3f).toInt64.toUInt64).toInt64) &&& (255 : Int64)).toInt32).toUInt32.toUInt16.toUInt32.toInt32)), (.int (2 : Int32)), (.ref b74)]))) (fun t k => (X105.ldc2Long hx hown (mvT hZ (own_w hw 0)) (g := (mkF m 209 #[.val (.int p0), .val (.long q1), .second, .val (.int p2), .val (.int (0 : Int32)), .val (.int kind), .val (.int (5 : Int32)), .val (.int dd), .val (.ref b74), .val (.int nn), .unset, .unset, .unset] [(.long ((q1.toUInt64 >>> ((16 : Int32) &&& 0x3f).toInt64.toUInt64).toInt64)), (.int (2 : Int32)), (.ref b74)])) rfl (hb hby at_209)) _ (XS.land X105.here hx rfl (hb hby at_212) rfl (XS.l2i X105.here hx rfl (hb hby at_213) rfl (XS.i2c X105.here hx rfl (hb hby at_214) rfl k)))) ?_
          generalize hv_v106 : (((((q1.toUInt64 >>> ((16 : Int32) &&& 0x3f).toInt64.toUInt64).toInt64) &&& (255 : Int64)).toInt32).toUInt32.toUInt16.toUInt32.toInt32) = v106
          obtain ⟨clu107, Aru107, qu107, Su107, Ngu107, Hau107, Gau107⟩ := id Vu104
          have hinu107 : ¬ ((2 : Int32) < 0 ∨ clu107.slots.size ≤ ((2 : Int32)).toNatClampNeg) := inb_of Su107 ⟨by decide, by decide⟩
          obtain ⟨T108, h108, X108, e108, W108, st108⟩ := stC X105 hx hZ e105 Aru107 (j := (2 : Int32)) hinu107 (g := (mkF m 215 #[.val (.int p0), .val (.long q1), .second, .val (.int p2), .val (.int (0 : Int32)), .val (.int kind), .val (.int (5 : Int32)), .val (.int dd), .val (.ref b74), .val (.int nn), .unset, .unset, .unset] [(.int v106), (.int (2 : Int32)), (.ref b74)])) rfl rfl (hb hby at_215)
          have Vu107 : Arv Z h108 b74 k74 .char (6 : Int32) [(.int v100), (.int v103), (.int (nar .char v106)), (.int (111 : Int32)), (.int (119 : Int32)), (.int dd)] (.int (0 : Int32)) := Arv.set Aru107 qu107 Su107 Ngu107 Hau107 Gau107 (fits_nar_char _) W108 2 rfl (Nat.le_of_ble_eq_true rfl)
          rw [show nar .char v106 = v106 from (own_ch_of hv_v106).1] at Vu107
          have Sf108_b74 := Safe.wr W108 Sf105_b74 C105.1 Sf105_b74
          have C108 := CHr.trans C105 (CHr.wr W108 Sf105_b74 C105.1)
          have O108 := Old.wr O105 W108 g_b74
          have N108 := Fr.snoc X108 N105 g_b74
          have K108 := Keep.wr K105 W108 (Or.inr sz_b74)
          refine own_by (W' := (T108.setTop (mkF m 223 #[.val (.int p0), .val (.long q1), .second, .val (.int p2), .val (.int (0 : Int32)), .val (.int kind), .val (.int (5 : Int32)), .val (.int dd), .val (.ref b74), .val (.int nn), .unset, .unset, .unset] [(.long ((q1.toUInt64 >>> ((24 : Int32) &&& 0x3f).toInt64.toUInt64).toInt64)), (.int (3 : Int32)), (.ref b74)]))) (fun t k => st108 _ (XS.aload X108.here hx rfl (hb hby at_216) rfl rfl (XS.iconst X108.here hx rfl (hb hby at_218) (XS.lloadN X108.here hx rfl (hb hby at_219) rfl (XS.bipush X108.here hx rfl (hb hby at_220) (XS.lushr X108.here hx rfl (hb hby at_222) rfl k)))))) ?_
          refine own_by (W' := (T108.setTop (mkF m 229 #[.val (.int p0), .val (.long q1), .second, .val (.int p2), .val (.int (0 : Int32)), .val (.int kind), .val (.int (5 : Int32)), .val (.int dd), .val (.ref b74), .val (.int nn), .unset, .unset, .unset] [(.int (((((q1.toUInt64 >>> ((24 : Int32) &&& 0x3f).toInt64.toUInt64).toInt64) &&& (255 : Int64)).toInt32).toUInt32.toUInt16.toUInt32.toInt32)), (.int (3 : Int32)), (.ref b74)]))) (fun t k => (X108.ldc2Long hx hown (mvT hZ (own_w hw 0)) (g := (mkF m 223 #[.val (.int p0), .val (.long q1), .second, .val (.int p2), .val (.int (0 : Int32)), .val (.int kind), .val (.int (5 : Int32)), .val (.int dd), .val (.ref b74), .val (.int nn), .unset, .unset, .unset] [(.long ((q1.toUInt64 >>> ((24 : Int32) &&& 0x3f).toInt64.toUInt64).toInt64)), (.int (3 : Int32)), (.ref b74)])) rfl (hb hby at_223)) _ (XS.land X108.here hx rfl (hb hby at_226) rfl (XS.l2i X108.here hx rfl (hb hby at_227) rfl (XS.i2c X108.here hx rfl (hb hby at_228) rfl k)))) ?_
          generalize hv_v109 : (((((q1.toUInt64 >>> ((24 : Int32) &&& 0x3f).toInt64.toUInt64).toInt64) &&& (255 : Int64)).toInt32).toUInt32.toUInt16.toUInt32.toInt32) = v109
          obtain ⟨clu110, Aru110, qu110, Su110, Ngu110, Hau110, Gau110⟩ := id Vu107
          have hinu110 : ¬ ((3 : Int32) < 0 ∨ clu110.slots.size ≤ ((3 : Int32)).toNatClampNeg) := inb_of Su110 ⟨by decide, by decide⟩
          obtain ⟨T111, h111, X111, e111, W111, st111⟩ := stC X108 hx hZ e108 Aru110 (j := (3 : Int32)) hinu110 (g := (mkF m 229 #[.val (.int p0), .val (.long q1), .second, .val (.int p2), .val (.int (0 : Int32)), .val (.int kind), .val (.int (5 : Int32)), .val (.int dd), .val (.ref b74), .val (.int nn), .unset, .unset, .unset] [(.int v109), (.int (3 : Int32)), (.ref b74)])) rfl rfl (hb hby at_229)
          have Vu110 : Arv Z h111 b74 k74 .char (6 : Int32) [(.int v100), (.int v103), (.int v106), (.int (nar .char v109)), (.int (119 : Int32)), (.int dd)] (.int (0 : Int32)) := Arv.set Aru110 qu110 Su110 Ngu110 Hau110 Gau110 (fits_nar_char _) W111 3 rfl (Nat.le_of_ble_eq_true rfl)
          rw [show nar .char v109 = v109 from (own_ch_of hv_v109).1] at Vu110
          have Sf111_b74 := Safe.wr W111 Sf108_b74 C108.1 Sf108_b74
          have C111 := CHr.trans C108 (CHr.wr W111 Sf108_b74 C108.1)
          have O111 := Old.wr O108 W111 g_b74
          have N111 := Fr.snoc X111 N108 g_b74
          have K111 := Keep.wr K108 W111 (Or.inr sz_b74)
          refine own_by (W' := (T111.setTop (mkF m 237 #[.val (.int p0), .val (.long q1), .second, .val (.int p2), .val (.int (0 : Int32)), .val (.int kind), .val (.int (5 : Int32)), .val (.int dd), .val (.ref b74), .val (.int nn), .unset, .unset, .unset] [(.long ((q1.toUInt64 >>> ((32 : Int32) &&& 0x3f).toInt64.toUInt64).toInt64)), (.int (4 : Int32)), (.ref b74)]))) (fun t k => st111 _ (XS.aload X111.here hx rfl (hb hby at_230) rfl rfl (XS.iconst X111.here hx rfl (hb hby at_232) (XS.lloadN X111.here hx rfl (hb hby at_233) rfl (XS.bipush X111.here hx rfl (hb hby at_234) (XS.lushr X111.here hx rfl (hb hby at_236) rfl k)))))) ?_
          refine own_by (W' := (T111.setTop (mkF m 243 #[.val (.int p0), .val (.long q1), .second, .val (.int p2), .val (.int (0 : Int32)), .val (.int kind), .val (.int (5 : Int32)), .val (.int dd), .val (.ref b74), .val (.int nn), .unset, .unset, .unset] [(.int (((((q1.toUInt64 >>> ((32 : Int32) &&& 0x3f).toInt64.toUInt64).toInt64) &&& (255 : Int64)).toInt32).toUInt32.toUInt16.toUInt32.toInt32)), (.int (4 : Int32)), (.ref b74)]))) (fun t k => (X111.ldc2Long hx hown (mvT hZ (own_w hw 0)) (g := (mkF m 237 #[.val (.int p0), .val (.long q1), .second, .val (.int p2), .val (.int (0 : Int32)), .val (.int kind), .val (.int (5 : Int32)), .val (.int dd), .val (.ref b74), .val (.int nn), .unset, .unset, .unset] [(.long ((q1.toUInt64 >>> ((32 : Int32) &&& 0x3f).toInt64.toUInt64).toInt64)), (.int (4 : Int32)), (.ref b74)])) rfl (hb hby at_237)) _ (XS.land X111.here hx rfl (hb hby at_240) rfl (XS.l2i X111.here hx rfl (hb hby at_241) rfl (XS.i2c X111.here hx rfl (hb hby at_242) rfl k)))) ?_
          generalize hv_v112 : (((((q1.toUInt64 >>> ((32 : Int32) &&& 0x3f).toInt64.toUInt64).toInt64) &&& (255 : Int64)).toInt32).toUInt32.toUInt16.toUInt32.toInt32) = v112
          obtain ⟨clu113, Aru113, qu113, Su113, Ngu113, Hau113, Gau113⟩ := id Vu110
          have hinu113 : ¬ ((4 : Int32) < 0 ∨ clu113.slots.size ≤ ((4 : Int32)).toNatClampNeg) := inb_of Su113 ⟨by decide, by decide⟩
          obtain ⟨T114, h114, X114, e114, W114, st114⟩ := stC X111 hx hZ e111 Aru113 (j := (4 : Int32)) hinu113 (g := (mkF m 243 #[.val (.int p0), .val (.long q1), .second, .val (.int p2), .val (.int (0 : Int32)), .val (.int kind), .val (.int (5 : Int32)), .val (.int dd), .val (.ref b74), .val (.int nn), .unset, .unset, .unset] [(.int v112), (.int (4 : Int32)), (.ref b74)])) rfl rfl (hb hby at_243)
          have Vu113 : Arv Z h114 b74 k74 .char (6 : Int32) [(.int v100), (.int v103), (.int v106), (.int v109), (.int (nar .char v112)), (.int dd)] (.int (0 : Int32)) := Arv.set Aru113 qu113 Su113 Ngu113 Hau113 Gau113 (fits_nar_char _) W114 4 rfl (Nat.le_of_ble_eq_true rfl)
          rw [show nar .char v112 = v112 from (own_ch_of hv_v112).1] at Vu113
          have Sf114_b74 := Safe.wr W114 Sf111_b74 C111.1 Sf111_b74
          have C114 := CHr.trans C111 (CHr.wr W114 Sf111_b74 C111.1)
          have O114 := Old.wr O111 W114 g_b74
          have N114 := Fr.snoc X114 N111 g_b74
          have K114 := Keep.wr K111 W114 (Or.inr sz_b74)
          refine own_by (W' := (T114.setTop (mkF m 251 #[.val (.int p0), .val (.long q1), .second, .val (.int p2), .val (.int (0 : Int32)), .val (.int kind), .val (.int (5 : Int32)), .val (.int dd), .val (.ref b74), .val (.int nn), .unset, .unset, .unset] [(.long ((q1.toUInt64 >>> ((40 : Int32) &&& 0x3f).toInt64.toUInt64).toInt64)), (.int (5 : Int32)), (.ref b74)]))) (fun t k => st114 _ (XS.aload X114.here hx rfl (hb hby at_244) rfl rfl (XS.iconst X114.here hx rfl (hb hby at_246) (XS.lloadN X114.here hx rfl (hb hby at_247) rfl (XS.bipush X114.here hx rfl (hb hby at_248) (XS.lushr X114.here hx rfl (hb hby at_250) rfl k)))))) ?_
          refine own_by (W' := (T114.setTop (mkF m 257 #[.val (.int p0), .val (.long q1), .second, .val (.int p2), .val (.int (0 : Int32)), .val (.int kind), .val (.int (5 : Int32)), .val (.int dd), .val (.ref b74), .val (.int nn), .unset, .unset, .unset] [(.int (((((q1.toUInt64 >>> ((40 : Int32) &&& 0x3f).toInt64.toUInt64).toInt64) &&& (255 : Int64)).toInt32).toUInt32.toUInt16.toUInt32.toInt32)), (.int (5 : Int32)), (.ref b74)]))) (fun t k => (X114.ldc2Long hx hown (mvT hZ (own_w hw 0)) (g := (mkF m 251 #[.val (.int p0), .val (.long q1), .second, .val (.int p2), .val (.int (0 : Int32)), .val (.int kind), .val (.int (5 : Int32)), .val (.int dd), .val (.ref b74), .val (.int nn), .unset, .unset, .unset] [(.long ((q1.toUInt64 >>> ((40 : Int32) &&& 0x3f).toInt64.toUInt64).toInt64)), (.int (5 : Int32)), (.ref b74)])) rfl (hb hby at_251)) _ (XS.land X114.here hx rfl (hb hby at_254) rfl (XS.l2i X114.here hx rfl (hb hby at_255) rfl (XS.i2c X114.here hx rfl (hb hby at_256) rfl k)))) ?_
          generalize hv_v115 : (((((q1.toUInt64 >>> ((40 : Int32) &&& 0x3f).toInt64.toUInt64).toInt64) &&& (255 : Int64)).toInt32).toUInt32.toUInt16.toUInt32.toInt32) = v115
          obtain ⟨clu116, Aru116, qu116, Su116, Ngu116, Hau116, Gau116⟩ := id Vu113
          have hinu116 : ¬ ((5 : Int32) < 0 ∨ clu116.slots.size ≤ ((5 : Int32)).toNatClampNeg) := inb_of Su116 ⟨by decide, by decide⟩
          obtain ⟨T117, h117, X117, e117, W117, st117⟩ := stC X114 hx hZ e114 Aru116 (j := (5 : Int32)) hinu116 (g := (mkF m 257 #[.val (.int p0), .val (.long q1), .second, .val (.int p2), .val (.int (0 : Int32)), .val (.int kind), .val (.int (5 : Int32)), .val (.int dd), .val (.ref b74), .val (.int nn), .unset, .unset, .unset] [(.int v115), (.int (5 : Int32)), (.ref b74)])) rfl rfl (hb hby at_257)
          have Vu116 : Arv Z h117 b74 k74 .char (6 : Int32) [(.int v100), (.int v103), (.int v106), (.int v109), (.int v112), (.int (nar .char v115))] (.int (0 : Int32)) := Arv.set Aru116 qu116 Su116 Ngu116 Hau116 Gau116 (fits_nar_char _) W117 5 rfl (Nat.le_of_ble_eq_true rfl)
          rw [show nar .char v115 = v115 from (own_ch_of hv_v115).1] at Vu116
          have Sf117_b74 := Safe.wr W117 Sf114_b74 C114.1 Sf114_b74
          have C117 := CHr.trans C114 (CHr.wr W117 Sf114_b74 C114.1)
          have O117 := Old.wr O114 W117 g_b74
          have N117 := Fr.snoc X117 N114 g_b74
          have K117 := Keep.wr K114 W117 (Or.inr sz_b74)
          refine own_by (W' := (T117.setTop (mkF m 265 #[.val (.int p0), .val (.long q1), .second, .val (.int p2), .val (.int (0 : Int32)), .val (.int kind), .val (.int (5 : Int32)), .val (.int dd), .val (.ref b74), .val (.int nn), .val (.int (nn % (7 : Int32))), .unset, .unset] []))) (fun t k => st117 _ (XS.iload X117.here hx rfl (hb hby at_258) rfl (XS.bipush X117.here hx rfl (hb hby at_260) (iremM X117 hx rfl (hb hby at_262) rfl (by decide) (XS.istore X117.here hx rfl (hb hby at_263) rfl (l' := #[.val (.int p0), .val (.long q1), .second, .val (.int p2), .val (.int (0 : Int32)), .val (.int kind), .val (.int (5 : Int32)), .val (.int dd), .val (.ref b74), .val (.int nn), .val (.int (nn % (7 : Int32))), .unset, .unset]) rfl k))))) ?_
          exact cut265 _ X117 N117 (h117) ((0 : Int32)) (kind) ((5 : Int32)) (dd) (nn) ((nn % (7 : Int32))) (b74) (k74) (v100) (v103) (v106) (v109) (v112) (v115) e117 (O117) (K117) (C117) (own_rem7 hv_nn) (Vu116) (⟨(own_ch_of hv_v100).1, (own_ch_of hv_v100).2⟩) (⟨(own_ch_of hv_v103).1, (own_ch_of hv_v103).2⟩) (⟨(own_ch_of hv_v106).1, (own_ch_of hv_v106).2⟩) (⟨(own_ch_of hv_v109).1, (own_ch_of hv_v109).2⟩) (⟨(own_ch_of hv_v112).1, (own_ch_of hv_v112).2⟩) (⟨(own_ch_of hv_v115).1, (own_ch_of hv_v115).2⟩)
  ·
    refine own_by (W' := (s₁.setTop (mkF m 15 #[.val (.int p0), .val (.long q1), .second, .val (.int p2), .val (.int (1 : Int32)), .unset, .unset, .unset, .unset, .unset, .unset, .unset, .unset] [(.int (1 : Int32)), (.int p0)]))) (fun t k => XS.ifNo X0.here hx rfl (hb hby at_3) rfl ((if0 _ _).trans (feq hc73).1) (XS.iconst X0.here hx rfl (hb hby at_6) (XS.goto X0.here hx rfl (pc0 := 7) (pc' := 11) rfl (hb hby at_7) (by decide) (by decide) (XS.istore X0.here hx rfl (hb hby at_11) rfl (l' := #[.val (.int p0), .val (.long q1), .second, .val (.int p2), .val (.int (1 : Int32)), .unset, .unset, .unset, .unset, .unset, .unset, .unset, .unset]) rfl (XS.iloadN X0.here hx rfl (hb hby at_13) rfl (XS.iconst X0.here hx rfl (hb hby at_14) k)))))) ?_
    refine own_by (W' := (s₁.setTop (mkF m 20 #[.val (.int p0), .val (.long q1), .second, .val (.int p2), .val (.int (1 : Int32)), .val (.int (((p0.toUInt32 >>> ((1 : Int32) &&& 31).toUInt32).toInt32) &&& (3 : Int32))), .unset, .unset, .unset, .unset, .unset, .unset, .unset] []))) (fun t k => XS.iushr X0.here hx rfl (hb hby at_15) rfl (XS.iconst X0.here hx rfl (hb hby at_16) (XS.iand X0.here hx rfl (hb hby at_17) rfl (XS.istore X0.here hx rfl (hb hby at_18) rfl (l' := #[.val (.int p0), .val (.long q1), .second, .val (.int p2), .val (.int (1 : Int32)), .val (.int (((p0.toUInt32 >>> ((1 : Int32) &&& 31).toUInt32).toInt32) &&& (3 : Int32))), .unset, .unset, .unset, .unset, .unset, .unset, .unset]) rfl k)))) ?_
    generalize hv_kind : (((p0.toUInt32 >>> ((1 : Int32) &&& 31).toUInt32).toInt32) &&& (3 : Int32)) = kind
    refine own_by (W' := (s₁.setTop (mkF m 34 #[.val (.int p0), .val (.long q1), .second, .val (.int p2), .val (.int (1 : Int32)), .val (.int kind), .val (.int (6 : Int32)), .unset, .unset, .unset, .unset, .unset, .unset] [(.long q1)]))) (fun t k => XS.iload X0.here hx rfl (hb hby at_20) rfl (XS.ifNo X0.here hx rfl (hb hby at_22) rfl ((if0 _ _).trans (feq (by decide : ¬ ((1 : Int32) = (0 : Int32)))).1) (XS.bipush X0.here hx rfl (hb hby at_25) (XS.goto X0.here hx rfl (pc0 := 27) (pc' := 31) rfl (hb hby at_27) (by decide) (by decide) (XS.istore X0.here hx rfl (hb hby at_31) rfl (l' := #[.val (.int p0), .val (.long q1), .second, .val (.int p2), .val (.int (1 : Int32)), .val (.int kind), .val (.int (6 : Int32)), .unset, .unset, .unset, .unset, .unset, .unset]) rfl (XS.lloadN X0.here hx rfl (hb hby at_33) rfl k)))))) ?_
    refine own_by (W' := (s₁.setTop (mkF m 42 #[.val (.int p0), .val (.long q1), .second, .val (.int p2), .val (.int (1 : Int32)), .val (.int kind), .val (.int (6 : Int32)), .val (.int (((q1 &&& (255 : Int64)).toInt32).toUInt32.toUInt16.toUInt32.toInt32)), .unset, .unset, .unset, .unset, .unset] []))) (fun t k => (X0.ldc2Long hx hown (mvT hZ (own_w hw 0)) (g := (mkF m 34 #[.val (.int p0), .val (.long q1), .second, .val (.int p2), .val (.int (1 : Int32)), .val (.int kind), .val (.int (6 : Int32)), .unset, .unset, .unset, .unset, .unset, .unset] [(.long q1)])) rfl (hb hby at_34)) _ (XS.land X0.here hx rfl (hb hby at_37) rfl (XS.l2i X0.here hx rfl (hb hby at_38) rfl (XS.i2c X0.here hx rfl (hb hby at_39) rfl (XS.istore X0.here hx rfl (hb hby at_40) rfl (l' := #[.val (.int p0), .val (.long q1), .second, .val (.int p2), .val (.int (1 : Int32)), .val (.int kind), .val (.int (6 : Int32)), .val (.int (((q1 &&& (255 : Int64)).toInt32).toUInt32.toUInt16.toUInt32.toInt32)), .unset, .unset, .unset, .unset, .unset]) rfl k))))) ?_
    generalize hv_dd : (((q1 &&& (255 : Int64)).toInt32).toUInt32.toUInt16.toUInt32.toInt32) = dd
    obtain ⟨T118, h118, k118, X118, e118, E118, A118, st118⟩ := newP X0 hx hZ (own_w hw 1) e0 (g := (mkF m 49 #[.val (.int p0), .val (.long q1), .second, .val (.int p2), .val (.int (1 : Int32)), .val (.int kind), .val (.int (6 : Int32)), .val (.int dd), .unset, .unset, .unset, .unset, .unset] [(.int (6 : Int32))])) rfl (hb hby at_49) rfl (by decide) (cap := 6) (by decide) (by decide) (by decide) (by decide)
    obtain ⟨b118, g118⟩ : ∃ z, z = h0.size := ⟨_, rfl⟩
    rw [← g118] at A118 st118
    have g_b118 : n0 ≤ b118 := Nat.le_trans (own_le O0) (Nat.le_of_eq g118.symm)
    have sz_b118 : h0.size ≤ b118 := Nat.le_trans (Keep.refl h0 []).1 (Nat.le_of_eq g118.symm)
    have Sf118_b118 : Safe Z consts_1 s.vm _ b118 := Safe.ext E118 C0.1 (Safe.new (Nat.le_of_eq g118.symm))
    have C118 := CHr.trans C0 (CHr.ext E118 C0.1)
    have O118 := O0.ext E118
    have K118 := Keep.ext (Keep.refl h0 []) E118
    have V_b118 : Arv Z h118 b118 k118 .char (6 : Int32) [(.int (0 : Int32)), (.int (0 : Int32)), (.int (0 : Int32)), (.int (0 : Int32)), (.int (0 : Int32)), (.int (0 : Int32))] (.int (0 : Int32)) := (Arv.new A118 (by decide)).pad (pad_rep [] (.int (0 : Int32)) 6)
    refine own_by (W' := (T118.setTop (mkF m 53 #[.val (.int p0), .val (.long q1), .second, .val (.int p2), .val (.int (1 : Int32)), .val (.int kind), .val (.int (6 : Int32)), .val (.int dd), .unset, .unset, .unset, .unset, .unset] [(.int (0 : Int32)), (.ref b118), (.ref b118)]))) (fun t k => XS.iload X0.here hx rfl (hb hby at_42) rfl (XS.ifNo X0.here hx rfl (hb hby at_44) rfl ((if0 _ _).trans (feq (by decide : ¬ ((1 : Int32) = (0 : Int32)))).1) (XS.bipush X0.here hx rfl (hb hby at_47) (st118 _ (XS.dup X118.here hx rfl (hb hby at_51) rfl rfl (XS.iconst X118.here hx rfl (hb hby at_52) k)))))) ?_
    obtain ⟨clu119, Aru119, qu119, Su119, Ngu119, Hau119, Gau119⟩ := id V_b118
    have hinu119 : ¬ ((0 : Int32) < 0 ∨ clu119.slots.size ≤ ((0 : Int32)).toNatClampNeg) := inb_of Su119 ⟨by decide, by decide⟩
    obtain ⟨T120, h120, X120, e120, W120, st120⟩ := stC X118 hx hZ e118 Aru119 (j := (0 : Int32)) hinu119 (g := (mkF m 55 #[.val (.int p0), .val (.long q1), .second, .val (.int p2), .val (.int (1 : Int32)), .val (.int kind), .val (.int (6 : Int32)), .val (.int dd), .unset, .unset, .unset, .unset, .unset] [(.int (102 : Int32)), (.int (0 : Int32)), (.ref b118), (.ref b118)])) rfl rfl (hb hby at_55)
    have Vu119 : Arv Z h120 b118 k118 .char (6 : Int32) [(.int (nar .char (102 : Int32))), (.int (0 : Int32)), (.int (0 : Int32)), (.int (0 : Int32)), (.int (0 : Int32)), (.int (0 : Int32))] (.int (0 : Int32)) := Arv.set Aru119 qu119 Su119 Ngu119 Hau119 Gau119 (fits_nar_char _) W120 0 rfl (Nat.le_of_ble_eq_true rfl)
    rw [show nar .char (102 : Int32) = (102 : Int32) from (by decide)] at Vu119
    have Sf120_b118 := Safe.wr W120 Sf118_b118 C118.1 Sf118_b118
    have C120 := CHr.trans C118 (CHr.wr W120 Sf118_b118 C118.1)
    have O120 := Old.wr O118 W120 g_b118
    have N120 := Fr.snoc X120 N0 g_b118
    have K120 := Keep.wr K118 W120 (Or.inr sz_b118)
    obtain ⟨clu121, Aru121, qu121, Su121, Ngu121, Hau121, Gau121⟩ := id Vu119
    have hinu121 : ¬ ((1 : Int32) < 0 ∨ clu121.slots.size ≤ ((1 : Int32)).toNatClampNeg) := inb_of Su121 ⟨by decide, by decide⟩
    obtain ⟨T122, h122, X122, e122, W122, st122⟩ := stC X120 hx hZ e120 Aru121 (j := (1 : Int32)) hinu121 (g := (mkF m 60 #[.val (.int p0), .val (.long q1), .second, .val (.int p2), .val (.int (1 : Int32)), .val (.int kind), .val (.int (6 : Int32)), .val (.int dd), .unset, .unset, .unset, .unset, .unset] [(.int (111 : Int32)), (.int (1 : Int32)), (.ref b118), (.ref b118)])) rfl rfl (hb hby at_60)
    have Vu121 : Arv Z h122 b118 k118 .char (6 : Int32) [(.int (102 : Int32)), (.int (nar .char (111 : Int32))), (.int (0 : Int32)), (.int (0 : Int32)), (.int (0 : Int32)), (.int (0 : Int32))] (.int (0 : Int32)) := Arv.set Aru121 qu121 Su121 Ngu121 Hau121 Gau121 (fits_nar_char _) W122 1 rfl (Nat.le_of_ble_eq_true rfl)
    rw [show nar .char (111 : Int32) = (111 : Int32) from (by decide)] at Vu121
    have Sf122_b118 := Safe.wr W122 Sf120_b118 C120.1 Sf120_b118
    have C122 := CHr.trans C120 (CHr.wr W122 Sf120_b118 C120.1)
    have O122 := Old.wr O120 W122 g_b118
    have N122 := Fr.snoc X122 N120 g_b118
    have K122 := Keep.wr K120 W122 (Or.inr sz_b118)
    refine own_by (W' := (T122.setTop (mkF m 61 #[.val (.int p0), .val (.long q1), .second, .val (.int p2), .val (.int (1 : Int32)), .val (.int kind), .val (.int (6 : Int32)), .val (.int dd), .unset, .unset, .unset, .unset, .unset] [(.ref b118)]))) (fun t k => XS.bipush X118.here hx rfl (hb hby at_53) (st120 _ (XS.dup X120.here hx rfl (hb hby at_56) rfl rfl (XS.iconst X120.here hx rfl (hb hby at_57) (XS.bipush X120.here hx rfl (hb hby at_58) (st122 _ k)))))) ?_
    obtain ⟨clu123, Aru123, qu123, Su123, Ngu123, Hau123, Gau123⟩ := id Vu121
    have hinu123 : ¬ ((2 : Int32) < 0 ∨ clu123.slots.size ≤ ((2 : Int32)).toNatClampNeg) := inb_of Su123 ⟨by decide, by decide⟩
    obtain ⟨T124, h124, X124, e124, W124, st124⟩ := stC X122 hx hZ e122 Aru123 (j := (2 : Int32)) hinu123 (g := (mkF m 65 #[.val (.int p0), .val (.long q1), .second, .val (.int p2), .val (.int (1 : Int32)), .val (.int kind), .val (.int (6 : Int32)), .val (.int dd), .unset, .unset, .unset, .unset, .unset] [(.int (114 : Int32)), (.int (2 : Int32)), (.ref b118), (.ref b118)])) rfl rfl (hb hby at_65)
    have Vu123 : Arv Z h124 b118 k118 .char (6 : Int32) [(.int (102 : Int32)), (.int (111 : Int32)), (.int (nar .char (114 : Int32))), (.int (0 : Int32)), (.int (0 : Int32)), (.int (0 : Int32))] (.int (0 : Int32)) := Arv.set Aru123 qu123 Su123 Ngu123 Hau123 Gau123 (fits_nar_char _) W124 2 rfl (Nat.le_of_ble_eq_true rfl)
    rw [show nar .char (114 : Int32) = (114 : Int32) from (by decide)] at Vu123
    have Sf124_b118 := Safe.wr W124 Sf122_b118 C122.1 Sf122_b118
    have C124 := CHr.trans C122 (CHr.wr W124 Sf122_b118 C122.1)
    have O124 := Old.wr O122 W124 g_b118
    have N124 := Fr.snoc X124 N122 g_b118
    have K124 := Keep.wr K122 W124 (Or.inr sz_b118)
    refine own_by (W' := (T124.setTop (mkF m 68 #[.val (.int p0), .val (.long q1), .second, .val (.int p2), .val (.int (1 : Int32)), .val (.int kind), .val (.int (6 : Int32)), .val (.int dd), .unset, .unset, .unset, .unset, .unset] [(.int (3 : Int32)), (.ref b118), (.ref b118)]))) (fun t k => XS.dup X122.here hx rfl (hb hby at_61) rfl rfl (XS.iconst X122.here hx rfl (hb hby at_62) (XS.bipush X122.here hx rfl (hb hby at_63) (st124 _ (XS.dup X124.here hx rfl (hb hby at_66) rfl rfl (XS.iconst X124.here hx rfl (hb hby at_67) k)))))) ?_
    obtain ⟨clu125, Aru125, qu125, Su125, Ngu125, Hau125, Gau125⟩ := id Vu123
    have hinu125 : ¬ ((3 : Int32) < 0 ∨ clu125.slots.size ≤ ((3 : Int32)).toNatClampNeg) := inb_of Su125 ⟨by decide, by decide⟩
    obtain ⟨T126, h126, X126, e126, W126, st126⟩ := stC X124 hx hZ e124 Aru125 (j := (3 : Int32)) hinu125 (g := (mkF m 70 #[.val (.int p0), .val (.long q1), .second, .val (.int p2), .val (.int (1 : Int32)), .val (.int kind), .val (.int (6 : Int32)), .val (.int dd), .unset, .unset, .unset, .unset, .unset] [(.int (98 : Int32)), (.int (3 : Int32)), (.ref b118), (.ref b118)])) rfl rfl (hb hby at_70)
    have Vu125 : Arv Z h126 b118 k118 .char (6 : Int32) [(.int (102 : Int32)), (.int (111 : Int32)), (.int (114 : Int32)), (.int (nar .char (98 : Int32))), (.int (0 : Int32)), (.int (0 : Int32))] (.int (0 : Int32)) := Arv.set Aru125 qu125 Su125 Ngu125 Hau125 Gau125 (fits_nar_char _) W126 3 rfl (Nat.le_of_ble_eq_true rfl)
    rw [show nar .char (98 : Int32) = (98 : Int32) from (by decide)] at Vu125
    have Sf126_b118 := Safe.wr W126 Sf124_b118 C124.1 Sf124_b118
    have C126 := CHr.trans C124 (CHr.wr W126 Sf124_b118 C124.1)
    have O126 := Old.wr O124 W126 g_b118
    have N126 := Fr.snoc X126 N124 g_b118
    have K126 := Keep.wr K124 W126 (Or.inr sz_b118)
    obtain ⟨clu127, Aru127, qu127, Su127, Ngu127, Hau127, Gau127⟩ := id Vu125
    have hinu127 : ¬ ((4 : Int32) < 0 ∨ clu127.slots.size ≤ ((4 : Int32)).toNatClampNeg) := inb_of Su127 ⟨by decide, by decide⟩
    obtain ⟨T128, h128, X128, e128, W128, st128⟩ := stC X126 hx hZ e126 Aru127 (j := (4 : Int32)) hinu127 (g := (mkF m 75 #[.val (.int p0), .val (.long q1), .second, .val (.int p2), .val (.int (1 : Int32)), .val (.int kind), .val (.int (6 : Int32)), .val (.int dd), .unset, .unset, .unset, .unset, .unset] [(.int (105 : Int32)), (.int (4 : Int32)), (.ref b118), (.ref b118)])) rfl rfl (hb hby at_75)
    have Vu127 : Arv Z h128 b118 k118 .char (6 : Int32) [(.int (102 : Int32)), (.int (111 : Int32)), (.int (114 : Int32)), (.int (98 : Int32)), (.int (nar .char (105 : Int32))), (.int (0 : Int32))] (.int (0 : Int32)) := Arv.set Aru127 qu127 Su127 Ngu127 Hau127 Gau127 (fits_nar_char _) W128 4 rfl (Nat.le_of_ble_eq_true rfl)
    rw [show nar .char (105 : Int32) = (105 : Int32) from (by decide)] at Vu127
    have Sf128_b118 := Safe.wr W128 Sf126_b118 C126.1 Sf126_b118
    have C128 := CHr.trans C126 (CHr.wr W128 Sf126_b118 C126.1)
    have O128 := Old.wr O126 W128 g_b118
    have N128 := Fr.snoc X128 N126 g_b118
    have K128 := Keep.wr K126 W128 (Or.inr sz_b118)
    refine own_by (W' := (T128.setTop (mkF m 76 #[.val (.int p0), .val (.long q1), .second, .val (.int p2), .val (.int (1 : Int32)), .val (.int kind), .val (.int (6 : Int32)), .val (.int dd), .unset, .unset, .unset, .unset, .unset] [(.ref b118)]))) (fun t k => XS.bipush X124.here hx rfl (hb hby at_68) (st126 _ (XS.dup X126.here hx rfl (hb hby at_71) rfl rfl (XS.iconst X126.here hx rfl (hb hby at_72) (XS.bipush X126.here hx rfl (hb hby at_73) (st128 _ k)))))) ?_
    obtain ⟨clu129, Aru129, qu129, Su129, Ngu129, Hau129, Gau129⟩ := id Vu127
    have hinu129 : ¬ ((5 : Int32) < 0 ∨ clu129.slots.size ≤ ((5 : Int32)).toNatClampNeg) := inb_of Su129 ⟨by decide, by decide⟩
    obtain ⟨T130, h130, X130, e130, W130, st130⟩ := stC X128 hx hZ e128 Aru129 (j := (5 : Int32)) hinu129 (g := (mkF m 80 #[.val (.int p0), .val (.long q1), .second, .val (.int p2), .val (.int (1 : Int32)), .val (.int kind), .val (.int (6 : Int32)), .val (.int dd), .unset, .unset, .unset, .unset, .unset] [(.int (100 : Int32)), (.int (5 : Int32)), (.ref b118), (.ref b118)])) rfl rfl (hb hby at_80)
    have Vu129 : Arv Z h130 b118 k118 .char (6 : Int32) [(.int (102 : Int32)), (.int (111 : Int32)), (.int (114 : Int32)), (.int (98 : Int32)), (.int (105 : Int32)), (.int (nar .char (100 : Int32)))] (.int (0 : Int32)) := Arv.set Aru129 qu129 Su129 Ngu129 Hau129 Gau129 (fits_nar_char _) W130 5 rfl (Nat.le_of_ble_eq_true rfl)
    rw [show nar .char (100 : Int32) = (100 : Int32) from (by decide)] at Vu129
    have Sf130_b118 := Safe.wr W130 Sf128_b118 C128.1 Sf128_b118
    have C130 := CHr.trans C128 (CHr.wr W130 Sf128_b118 C128.1)
    have O130 := Old.wr O128 W130 g_b118
    have N130 := Fr.snoc X130 N128 g_b118
    have K130 := Keep.wr K128 W130 (Or.inr sz_b118)
    refine own_by (W' := (T130.setTop (mkF m 120 #[.val (.int p0), .val (.long q1), .second, .val (.int p2), .val (.int (1 : Int32)), .val (.int kind), .val (.int (6 : Int32)), .val (.int dd), .val (.ref b118), .unset, .unset, .unset, .unset] []))) (fun t k => XS.dup X128.here hx rfl (hb hby at_76) rfl rfl (XS.iconst X128.here hx rfl (hb hby at_77) (XS.bipush X128.here hx rfl (hb hby at_78) (st130 _ (XS.goto X130.here hx rfl (pc0 := 81) (pc' := 118) rfl (hb hby at_81) (by decide) (by decide) (XS.astore X130.here hx rfl (hb hby at_118) rfl rfl (l' := #[.val (.int p0), .val (.long q1), .second, .val (.int p2), .val (.int (1 : Int32)), .val (.int kind), .val (.int (6 : Int32)), .val (.int dd), .val (.ref b118), .unset, .unset, .unset, .unset]) rfl k)))))) ?_
    refine own_by (W' := (T130.setTop (mkF m 126 #[.val (.int p0), .val (.long q1), .second, .val (.int p2), .val (.int (1 : Int32)), .val (.int kind), .val (.int (6 : Int32)), .val (.int dd), .val (.ref b118), .val (.int (p2 &&& (2147483647 : Int32))), .unset, .unset, .unset] []))) (fun t k => XS.iloadN X130.here hx rfl (hb hby at_120) rfl ((X130.ldcInt hx hown (mvT hZ (own_w hw 2)) (g := (mkF m 121 #[.val (.int p0), .val (.long q1), .second, .val (.int p2), .val (.int (1 : Int32)), .val (.int kind), .val (.int (6 : Int32)), .val (.int dd), .val (.ref b118), .unset, .unset, .unset, .unset] [(.int p2)])) rfl (hb hby at_121)) _ (XS.iand X130.here hx rfl (hb hby at_123) rfl (XS.istore X130.here hx rfl (hb hby at_124) rfl (l' := #[.val (.int p0), .val (.long q1), .second, .val (.int p2), .val (.int (1 : Int32)), .val (.int kind), .val (.int (6 : Int32)), .val (.int dd), .val (.ref b118), .val (.int (p2 &&& (2147483647 : Int32))), .unset, .unset, .unset]) rfl k)))) ?_
    generalize hv_nn : (p2 &&& (2147483647 : Int32)) = nn
    refine own_by (W' := (T130.setTop (mkF m 128 #[.val (.int p0), .val (.long q1), .second, .val (.int p2), .val (.int (1 : Int32)), .val (.int kind), .val (.int (6 : Int32)), .val (.int dd), .val (.ref b118), .val (.int nn), .unset, .unset, .unset] [(.int kind)]))) (fun t k => XS.iload X130.here hx rfl (hb hby at_126) rfl k) ?_
    by_cases hc131 : kind = (0 : Int32)
    ·
      refine own_by (W' := (T130.setTop (mkF m 265 #[.val (.int p0), .val (.long q1), .second, .val (.int p2), .val (.int (1 : Int32)), .val (.int kind), .val (.int (6 : Int32)), .val (.int dd), .val (.ref b118), .val (.int nn), .val (.int (6 : Int32)), .unset, .unset] []))) (fun t k => XS.ifNo X130.here hx rfl (hb hby at_128) rfl ((if0 _ _).trans (teq hc131).2) (XS.iload X130.here hx rfl (hb hby at_131) rfl (XS.istore X130.here hx rfl (hb hby at_133) rfl (l' := #[.val (.int p0), .val (.long q1), .second, .val (.int p2), .val (.int (1 : Int32)), .val (.int kind), .val (.int (6 : Int32)), .val (.int dd), .val (.ref b118), .val (.int nn), .val (.int (6 : Int32)), .unset, .unset]) rfl (XS.goto X130.here hx rfl (pc0 := 135) (pc' := 265) rfl (hb hby at_135) (by decide) (by decide) k)))) ?_
      exact cut265 _ X130 N130 (h130) ((1 : Int32)) (kind) ((6 : Int32)) (dd) (nn) ((6 : Int32)) (b118) (k118) ((102 : Int32)) ((111 : Int32)) ((114 : Int32)) ((98 : Int32)) ((105 : Int32)) ((100 : Int32)) e130 (O130) (K130) (C130) (by decide) (Vu129) (⟨(by decide), (by decide)⟩) (⟨(by decide), (by decide)⟩) (⟨(by decide), (by decide)⟩) (⟨(by decide), (by decide)⟩) (⟨(by decide), (by decide)⟩) (⟨(by decide), (by decide)⟩)
    ·
      refine own_by (W' := (T130.setTop (mkF m 141 #[.val (.int p0), .val (.long q1), .second, .val (.int p2), .val (.int (1 : Int32)), .val (.int kind), .val (.int (6 : Int32)), .val (.int dd), .val (.ref b118), .val (.int nn), .unset, .unset, .unset] [(.int (1 : Int32)), (.int kind)]))) (fun t k => XS.ifYes X130.here hx rfl (pc0 := 128) (pc' := 138) rfl (hb hby at_128) rfl ((if0 _ _).trans (feq hc131).2) (by decide) (by decide) (XS.iload X130.here hx rfl (hb hby at_138) rfl (XS.iconst X130.here hx rfl (hb hby at_140) k))) ?_
      by_cases hc132 : kind = (1 : Int32)
      ·
        refine own_by (W' := (T130.setTop (mkF m 151 #[.val (.int p0), .val (.long q1), .second, .val (.int p2), .val (.int (1 : Int32)), .val (.int kind), .val (.int (6 : Int32)), .val (.int dd), .val (.ref b118), .val (.int nn), .unset, .unset, .unset] [(.int (nn % (6 : Int32))), (.ref b118)]))) (fun t k => XS.icmpNo X130.here hx rfl (hb hby at_141) rfl (teq hc132).2 (XS.aload X130.here hx rfl (hb hby at_144) rfl rfl (XS.iload X130.here hx rfl (hb hby at_146) rfl (XS.iload X130.here hx rfl (hb hby at_148) rfl (iremM X130 hx rfl (hb hby at_150) rfl (by decide) k))))) ?_
        rcases own_rem6 hv_nn with hs | hs | hs | hs | hs | hs
        ·
          rw [hs]
          obtain ⟨clu133, Aru133, qu133, Su133, Ngu133, Hau133, Gau133⟩ := id Vu129
          have hinu133 : ¬ ((0 : Int32) < 0 ∨ clu133.slots.size ≤ ((0 : Int32)).toNatClampNeg) := inb_of Su133 ⟨by decide, by decide⟩
          obtain ⟨T134, h134, X134, e134, W134, st134⟩ := stC X130 hx hZ e130 Aru133 (j := (0 : Int32)) hinu133 (g := (mkF m 153 #[.val (.int p0), .val (.long q1), .second, .val (.int p2), .val (.int (1 : Int32)), .val (.int kind), .val (.int (6 : Int32)), .val (.int dd), .val (.ref b118), .val (.int nn), .unset, .unset, .unset] [(.int dd), (.int (0 : Int32)), (.ref b118)])) rfl rfl (hb hby at_153)
          have Vu133 : Arv Z h134 b118 k118 .char (6 : Int32) [(.int (nar .char dd)), (.int (111 : Int32)), (.int (114 : Int32)), (.int (98 : Int32)), (.int (105 : Int32)), (.int (100 : Int32))] (.int (0 : Int32)) := Arv.set Aru133 qu133 Su133 Ngu133 Hau133 Gau133 (fits_nar_char _) W134 0 rfl (Nat.le_of_ble_eq_true rfl)
          rw [show nar .char dd = dd from (own_ch_of hv_dd).1] at Vu133
          have Sf134_b118 := Safe.wr W134 Sf130_b118 C130.1 Sf130_b118
          have C134 := CHr.trans C130 (CHr.wr W134 Sf130_b118 C130.1)
          have O134 := Old.wr O130 W134 g_b118
          have N134 := Fr.snoc X134 N130 g_b118
          have K134 := Keep.wr K130 W134 (Or.inr sz_b118)
          refine own_by (W' := (T134.setTop (mkF m 265 #[.val (.int p0), .val (.long q1), .second, .val (.int p2), .val (.int (1 : Int32)), .val (.int kind), .val (.int (6 : Int32)), .val (.int dd), .val (.ref b118), .val (.int nn), .val (.int (6 : Int32)), .unset, .unset] []))) (fun t k => XS.iload X130.here hx rfl (hb hby at_151) rfl (st134 _ (XS.iload X134.here hx rfl (hb hby at_154) rfl (XS.istore X134.here hx rfl (hb hby at_156) rfl (l' := #[.val (.int p0), .val (.long q1), .second, .val (.int p2), .val (.int (1 : Int32)), .val (.int kind), .val (.int (6 : Int32)), .val (.int dd), .val (.ref b118), .val (.int nn), .val (.int (6 : Int32)), .unset, .unset]) rfl (XS.goto X134.here hx rfl (pc0 := 158) (pc' := 265) rfl (hb hby at_158) (by decide) (by decide) k))))) ?_
          exact cut265 _ X134 N134 (h134) ((1 : Int32)) (kind) ((6 : Int32)) (dd) (nn) ((6 : Int32)) (b118) (k118) (dd) ((111 : Int32)) ((114 : Int32)) ((98 : Int32)) ((105 : Int32)) ((100 : Int32)) e134 (O134) (K134) (C134) (by decide) (Vu133) (⟨(own_ch_of hv_dd).1, (own_ch_of hv_dd).2⟩) (⟨(by decide), (by decide)⟩) (⟨(by decide), (by decide)⟩) (⟨(by decide), (by decide)⟩) (⟨(by decide), (by decide)⟩) (⟨(by decide), (by decide)⟩)
        ·
          rw [hs]
          obtain ⟨clu135, Aru135, qu135, Su135, Ngu135, Hau135, Gau135⟩ := id Vu129
          have hinu135 : ¬ ((1 : Int32) < 0 ∨ clu135.slots.size ≤ ((1 : Int32)).toNatClampNeg) := inb_of Su135 ⟨by decide, by decide⟩
          obtain ⟨T136, h136, X136, e136, W136, st136⟩ := stC X130 hx hZ e130 Aru135 (j := (1 : Int32)) hinu135 (g := (mkF m 153 #[.val (.int p0), .val (.long q1), .second, .val (.int p2), .val (.int (1 : Int32)), .val (.int kind), .val (.int (6 : Int32)), .val (.int dd), .val (.ref b118), .val (.int nn), .unset, .unset, .unset] [(.int dd), (.int (1 : Int32)), (.ref b118)])) rfl rfl (hb hby at_153)
          have Vu135 : Arv Z h136 b118 k118 .char (6 : Int32) [(.int (102 : Int32)), (.int (nar .char dd)), (.int (114 : Int32)), (.int (98 : Int32)), (.int (105 : Int32)), (.int (100 : Int32))] (.int (0 : Int32)) := Arv.set Aru135 qu135 Su135 Ngu135 Hau135 Gau135 (fits_nar_char _) W136 1 rfl (Nat.le_of_ble_eq_true rfl)
          rw [show nar .char dd = dd from (own_ch_of hv_dd).1] at Vu135
          have Sf136_b118 := Safe.wr W136 Sf130_b118 C130.1 Sf130_b118
          have C136 := CHr.trans C130 (CHr.wr W136 Sf130_b118 C130.1)
          have O136 := Old.wr O130 W136 g_b118
          have N136 := Fr.snoc X136 N130 g_b118
          have K136 := Keep.wr K130 W136 (Or.inr sz_b118)
          refine own_by (W' := (T136.setTop (mkF m 265 #[.val (.int p0), .val (.long q1), .second, .val (.int p2), .val (.int (1 : Int32)), .val (.int kind), .val (.int (6 : Int32)), .val (.int dd), .val (.ref b118), .val (.int nn), .val (.int (6 : Int32)), .unset, .unset] []))) (fun t k => XS.iload X130.here hx rfl (hb hby at_151) rfl (st136 _ (XS.iload X136.here hx rfl (hb hby at_154) rfl (XS.istore X136.here hx rfl (hb hby at_156) rfl (l' := #[.val (.int p0), .val (.long q1), .second, .val (.int p2), .val (.int (1 : Int32)), .val (.int kind), .val (.int (6 : Int32)), .val (.int dd), .val (.ref b118), .val (.int nn), .val (.int (6 : Int32)), .unset, .unset]) rfl (XS.goto X136.here hx rfl (pc0 := 158) (pc' := 265) rfl (hb hby at_158) (by decide) (by decide) k))))) ?_
          exact cut265 _ X136 N136 (h136) ((1 : Int32)) (kind) ((6 : Int32)) (dd) (nn) ((6 : Int32)) (b118) (k118) ((102 : Int32)) (dd) ((114 : Int32)) ((98 : Int32)) ((105 : Int32)) ((100 : Int32)) e136 (O136) (K136) (C136) (by decide) (Vu135) (⟨(by decide), (by decide)⟩) (⟨(own_ch_of hv_dd).1, (own_ch_of hv_dd).2⟩) (⟨(by decide), (by decide)⟩) (⟨(by decide), (by decide)⟩) (⟨(by decide), (by decide)⟩) (⟨(by decide), (by decide)⟩)
        ·
          rw [hs]
          obtain ⟨clu137, Aru137, qu137, Su137, Ngu137, Hau137, Gau137⟩ := id Vu129
          have hinu137 : ¬ ((2 : Int32) < 0 ∨ clu137.slots.size ≤ ((2 : Int32)).toNatClampNeg) := inb_of Su137 ⟨by decide, by decide⟩
          obtain ⟨T138, h138, X138, e138, W138, st138⟩ := stC X130 hx hZ e130 Aru137 (j := (2 : Int32)) hinu137 (g := (mkF m 153 #[.val (.int p0), .val (.long q1), .second, .val (.int p2), .val (.int (1 : Int32)), .val (.int kind), .val (.int (6 : Int32)), .val (.int dd), .val (.ref b118), .val (.int nn), .unset, .unset, .unset] [(.int dd), (.int (2 : Int32)), (.ref b118)])) rfl rfl (hb hby at_153)
          have Vu137 : Arv Z h138 b118 k118 .char (6 : Int32) [(.int (102 : Int32)), (.int (111 : Int32)), (.int (nar .char dd)), (.int (98 : Int32)), (.int (105 : Int32)), (.int (100 : Int32))] (.int (0 : Int32)) := Arv.set Aru137 qu137 Su137 Ngu137 Hau137 Gau137 (fits_nar_char _) W138 2 rfl (Nat.le_of_ble_eq_true rfl)
          rw [show nar .char dd = dd from (own_ch_of hv_dd).1] at Vu137
          have Sf138_b118 := Safe.wr W138 Sf130_b118 C130.1 Sf130_b118
          have C138 := CHr.trans C130 (CHr.wr W138 Sf130_b118 C130.1)
          have O138 := Old.wr O130 W138 g_b118
          have N138 := Fr.snoc X138 N130 g_b118
          have K138 := Keep.wr K130 W138 (Or.inr sz_b118)
          refine own_by (W' := (T138.setTop (mkF m 265 #[.val (.int p0), .val (.long q1), .second, .val (.int p2), .val (.int (1 : Int32)), .val (.int kind), .val (.int (6 : Int32)), .val (.int dd), .val (.ref b118), .val (.int nn), .val (.int (6 : Int32)), .unset, .unset] []))) (fun t k => XS.iload X130.here hx rfl (hb hby at_151) rfl (st138 _ (XS.iload X138.here hx rfl (hb hby at_154) rfl (XS.istore X138.here hx rfl (hb hby at_156) rfl (l' := #[.val (.int p0), .val (.long q1), .second, .val (.int p2), .val (.int (1 : Int32)), .val (.int kind), .val (.int (6 : Int32)), .val (.int dd), .val (.ref b118), .val (.int nn), .val (.int (6 : Int32)), .unset, .unset]) rfl (XS.goto X138.here hx rfl (pc0 := 158) (pc' := 265) rfl (hb hby at_158) (by decide) (by decide) k))))) ?_
          exact cut265 _ X138 N138 (h138) ((1 : Int32)) (kind) ((6 : Int32)) (dd) (nn) ((6 : Int32)) (b118) (k118) ((102 : Int32)) ((111 : Int32)) (dd) ((98 : Int32)) ((105 : Int32)) ((100 : Int32)) e138 (O138) (K138) (C138) (by decide) (Vu137) (⟨(by decide), (by decide)⟩) (⟨(by decide), (by decide)⟩) (⟨(own_ch_of hv_dd).1, (own_ch_of hv_dd).2⟩) (⟨(by decide), (by decide)⟩) (⟨(by decide), (by decide)⟩) (⟨(by decide), (by decide)⟩)
        ·
          rw [hs]
          obtain ⟨clu139, Aru139, qu139, Su139, Ngu139, Hau139, Gau139⟩ := id Vu129
          have hinu139 : ¬ ((3 : Int32) < 0 ∨ clu139.slots.size ≤ ((3 : Int32)).toNatClampNeg) := inb_of Su139 ⟨by decide, by decide⟩
          obtain ⟨T140, h140, X140, e140, W140, st140⟩ := stC X130 hx hZ e130 Aru139 (j := (3 : Int32)) hinu139 (g := (mkF m 153 #[.val (.int p0), .val (.long q1), .second, .val (.int p2), .val (.int (1 : Int32)), .val (.int kind), .val (.int (6 : Int32)), .val (.int dd), .val (.ref b118), .val (.int nn), .unset, .unset, .unset] [(.int dd), (.int (3 : Int32)), (.ref b118)])) rfl rfl (hb hby at_153)
          have Vu139 : Arv Z h140 b118 k118 .char (6 : Int32) [(.int (102 : Int32)), (.int (111 : Int32)), (.int (114 : Int32)), (.int (nar .char dd)), (.int (105 : Int32)), (.int (100 : Int32))] (.int (0 : Int32)) := Arv.set Aru139 qu139 Su139 Ngu139 Hau139 Gau139 (fits_nar_char _) W140 3 rfl (Nat.le_of_ble_eq_true rfl)
          rw [show nar .char dd = dd from (own_ch_of hv_dd).1] at Vu139
          have Sf140_b118 := Safe.wr W140 Sf130_b118 C130.1 Sf130_b118
          have C140 := CHr.trans C130 (CHr.wr W140 Sf130_b118 C130.1)
          have O140 := Old.wr O130 W140 g_b118
          have N140 := Fr.snoc X140 N130 g_b118
          have K140 := Keep.wr K130 W140 (Or.inr sz_b118)
          refine own_by (W' := (T140.setTop (mkF m 265 #[.val (.int p0), .val (.long q1), .second, .val (.int p2), .val (.int (1 : Int32)), .val (.int kind), .val (.int (6 : Int32)), .val (.int dd), .val (.ref b118), .val (.int nn), .val (.int (6 : Int32)), .unset, .unset] []))) (fun t k => XS.iload X130.here hx rfl (hb hby at_151) rfl (st140 _ (XS.iload X140.here hx rfl (hb hby at_154) rfl (XS.istore X140.here hx rfl (hb hby at_156) rfl (l' := #[.val (.int p0), .val (.long q1), .second, .val (.int p2), .val (.int (1 : Int32)), .val (.int kind), .val (.int (6 : Int32)), .val (.int dd), .val (.ref b118), .val (.int nn), .val (.int (6 : Int32)), .unset, .unset]) rfl (XS.goto X140.here hx rfl (pc0 := 158) (pc' := 265) rfl (hb hby at_158) (by decide) (by decide) k))))) ?_
          exact cut265 _ X140 N140 (h140) ((1 : Int32)) (kind) ((6 : Int32)) (dd) (nn) ((6 : Int32)) (b118) (k118) ((102 : Int32)) ((111 : Int32)) ((114 : Int32)) (dd) ((105 : Int32)) ((100 : Int32)) e140 (O140) (K140) (C140) (by decide) (Vu139) (⟨(by decide), (by decide)⟩) (⟨(by decide), (by decide)⟩) (⟨(by decide), (by decide)⟩) (⟨(own_ch_of hv_dd).1, (own_ch_of hv_dd).2⟩) (⟨(by decide), (by decide)⟩) (⟨(by decide), (by decide)⟩)
        ·
          rw [hs]
          obtain ⟨clu141, Aru141, qu141, Su141, Ngu141, Hau141, Gau141⟩ := id Vu129
          have hinu141 : ¬ ((4 : Int32) < 0 ∨ clu141.slots.size ≤ ((4 : Int32)).toNatClampNeg) := inb_of Su141 ⟨by decide, by decide⟩
          obtain ⟨T142, h142, X142, e142, W142, st142⟩ := stC X130 hx hZ e130 Aru141 (j := (4 : Int32)) hinu141 (g := (mkF m 153 #[.val (.int p0), .val (.long q1), .second, .val (.int p2), .val (.int (1 : Int32)), .val (.int kind), .val (.int (6 : Int32)), .val (.int dd), .val (.ref b118), .val (.int nn), .unset, .unset, .unset] [(.int dd), (.int (4 : Int32)), (.ref b118)])) rfl rfl (hb hby at_153)
          have Vu141 : Arv Z h142 b118 k118 .char (6 : Int32) [(.int (102 : Int32)), (.int (111 : Int32)), (.int (114 : Int32)), (.int (98 : Int32)), (.int (nar .char dd)), (.int (100 : Int32))] (.int (0 : Int32)) := Arv.set Aru141 qu141 Su141 Ngu141 Hau141 Gau141 (fits_nar_char _) W142 4 rfl (Nat.le_of_ble_eq_true rfl)
          rw [show nar .char dd = dd from (own_ch_of hv_dd).1] at Vu141
          have Sf142_b118 := Safe.wr W142 Sf130_b118 C130.1 Sf130_b118
          have C142 := CHr.trans C130 (CHr.wr W142 Sf130_b118 C130.1)
          have O142 := Old.wr O130 W142 g_b118
          have N142 := Fr.snoc X142 N130 g_b118
          have K142 := Keep.wr K130 W142 (Or.inr sz_b118)
          refine own_by (W' := (T142.setTop (mkF m 265 #[.val (.int p0), .val (.long q1), .second, .val (.int p2), .val (.int (1 : Int32)), .val (.int kind), .val (.int (6 : Int32)), .val (.int dd), .val (.ref b118), .val (.int nn), .val (.int (6 : Int32)), .unset, .unset] []))) (fun t k => XS.iload X130.here hx rfl (hb hby at_151) rfl (st142 _ (XS.iload X142.here hx rfl (hb hby at_154) rfl (XS.istore X142.here hx rfl (hb hby at_156) rfl (l' := #[.val (.int p0), .val (.long q1), .second, .val (.int p2), .val (.int (1 : Int32)), .val (.int kind), .val (.int (6 : Int32)), .val (.int dd), .val (.ref b118), .val (.int nn), .val (.int (6 : Int32)), .unset, .unset]) rfl (XS.goto X142.here hx rfl (pc0 := 158) (pc' := 265) rfl (hb hby at_158) (by decide) (by decide) k))))) ?_
          exact cut265 _ X142 N142 (h142) ((1 : Int32)) (kind) ((6 : Int32)) (dd) (nn) ((6 : Int32)) (b118) (k118) ((102 : Int32)) ((111 : Int32)) ((114 : Int32)) ((98 : Int32)) (dd) ((100 : Int32)) e142 (O142) (K142) (C142) (by decide) (Vu141) (⟨(by decide), (by decide)⟩) (⟨(by decide), (by decide)⟩) (⟨(by decide), (by decide)⟩) (⟨(by decide), (by decide)⟩) (⟨(own_ch_of hv_dd).1, (own_ch_of hv_dd).2⟩) (⟨(by decide), (by decide)⟩)
        ·
          rw [hs]
          obtain ⟨clu143, Aru143, qu143, Su143, Ngu143, Hau143, Gau143⟩ := id Vu129
          have hinu143 : ¬ ((5 : Int32) < 0 ∨ clu143.slots.size ≤ ((5 : Int32)).toNatClampNeg) := inb_of Su143 ⟨by decide, by decide⟩
          obtain ⟨T144, h144, X144, e144, W144, st144⟩ := stC X130 hx hZ e130 Aru143 (j := (5 : Int32)) hinu143 (g := (mkF m 153 #[.val (.int p0), .val (.long q1), .second, .val (.int p2), .val (.int (1 : Int32)), .val (.int kind), .val (.int (6 : Int32)), .val (.int dd), .val (.ref b118), .val (.int nn), .unset, .unset, .unset] [(.int dd), (.int (5 : Int32)), (.ref b118)])) rfl rfl (hb hby at_153)
          have Vu143 : Arv Z h144 b118 k118 .char (6 : Int32) [(.int (102 : Int32)), (.int (111 : Int32)), (.int (114 : Int32)), (.int (98 : Int32)), (.int (105 : Int32)), (.int (nar .char dd))] (.int (0 : Int32)) := Arv.set Aru143 qu143 Su143 Ngu143 Hau143 Gau143 (fits_nar_char _) W144 5 rfl (Nat.le_of_ble_eq_true rfl)
          rw [show nar .char dd = dd from (own_ch_of hv_dd).1] at Vu143
          have Sf144_b118 := Safe.wr W144 Sf130_b118 C130.1 Sf130_b118
          have C144 := CHr.trans C130 (CHr.wr W144 Sf130_b118 C130.1)
          have O144 := Old.wr O130 W144 g_b118
          have N144 := Fr.snoc X144 N130 g_b118
          have K144 := Keep.wr K130 W144 (Or.inr sz_b118)
          refine own_by (W' := (T144.setTop (mkF m 265 #[.val (.int p0), .val (.long q1), .second, .val (.int p2), .val (.int (1 : Int32)), .val (.int kind), .val (.int (6 : Int32)), .val (.int dd), .val (.ref b118), .val (.int nn), .val (.int (6 : Int32)), .unset, .unset] []))) (fun t k => XS.iload X130.here hx rfl (hb hby at_151) rfl (st144 _ (XS.iload X144.here hx rfl (hb hby at_154) rfl (XS.istore X144.here hx rfl (hb hby at_156) rfl (l' := #[.val (.int p0), .val (.long q1), .second, .val (.int p2), .val (.int (1 : Int32)), .val (.int kind), .val (.int (6 : Int32)), .val (.int dd), .val (.ref b118), .val (.int nn), .val (.int (6 : Int32)), .unset, .unset]) rfl (XS.goto X144.here hx rfl (pc0 := 158) (pc' := 265) rfl (hb hby at_158) (by decide) (by decide) k))))) ?_
          exact cut265 _ X144 N144 (h144) ((1 : Int32)) (kind) ((6 : Int32)) (dd) (nn) ((6 : Int32)) (b118) (k118) ((102 : Int32)) ((111 : Int32)) ((114 : Int32)) ((98 : Int32)) ((105 : Int32)) (dd) e144 (O144) (K144) (C144) (by decide) (Vu143) (⟨(by decide), (by decide)⟩) (⟨(by decide), (by decide)⟩) (⟨(by decide), (by decide)⟩) (⟨(by decide), (by decide)⟩) (⟨(by decide), (by decide)⟩) (⟨(own_ch_of hv_dd).1, (own_ch_of hv_dd).2⟩)
      ·
        refine own_by (W' := (T130.setTop (mkF m 164 #[.val (.int p0), .val (.long q1), .second, .val (.int p2), .val (.int (1 : Int32)), .val (.int kind), .val (.int (6 : Int32)), .val (.int dd), .val (.ref b118), .val (.int nn), .unset, .unset, .unset] [(.int (2 : Int32)), (.int kind)]))) (fun t k => XS.icmpYes X130.here hx rfl (pc0 := 141) (pc' := 161) rfl (hb hby at_141) rfl (feq hc132).2 (by decide) (by decide) (XS.iload X130.here hx rfl (hb hby at_161) rfl (XS.iconst X130.here hx rfl (hb hby at_163) k))) ?_
        by_cases hc145 : kind = (2 : Int32)
        ·
          refine own_by (W' := (T130.setTop (mkF m 265 #[.val (.int p0), .val (.long q1), .second, .val (.int p2), .val (.int (1 : Int32)), .val (.int kind), .val (.int (6 : Int32)), .val (.int dd), .val (.ref b118), .val (.int nn), .val (.int (nn % (7 : Int32))), .unset, .unset] []))) (fun t k => XS.icmpNo X130.here hx rfl (hb hby at_164) rfl (teq hc145).2 (XS.iload X130.here hx rfl (hb hby at_167) rfl (XS.bipush X130.here hx rfl (hb hby at_169) (iremM X130 hx rfl (hb hby at_171) rfl (by decide) (XS.istore X130.here hx rfl (hb hby at_172) rfl (l' := #[.val (.int p0), .val (.long q1), .second, .val (.int p2), .val (.int (1 : Int32)), .val (.int kind), .val (.int (6 : Int32)), .val (.int dd), .val (.ref b118), .val (.int nn), .val (.int (nn % (7 : Int32))), .unset, .unset]) rfl (XS.goto X130.here hx rfl (pc0 := 174) (pc' := 265) rfl (hb hby at_174) (by decide) (by decide) k)))))) ?_
          exact cut265 _ X130 N130 (h130) ((1 : Int32)) (kind) ((6 : Int32)) (dd) (nn) ((nn % (7 : Int32))) (b118) (k118) ((102 : Int32)) ((111 : Int32)) ((114 : Int32)) ((98 : Int32)) ((105 : Int32)) ((100 : Int32)) e130 (O130) (K130) (C130) (own_rem7 hv_nn) (Vu129) (⟨(by decide), (by decide)⟩) (⟨(by decide), (by decide)⟩) (⟨(by decide), (by decide)⟩) (⟨(by decide), (by decide)⟩) (⟨(by decide), (by decide)⟩) (⟨(by decide), (by decide)⟩)
        ·
          refine own_by (W' := (T130.setTop (mkF m 185 #[.val (.int p0), .val (.long q1), .second, .val (.int p2), .val (.int (1 : Int32)), .val (.int kind), .val (.int (6 : Int32)), .val (.int dd), .val (.ref b118), .val (.int nn), .unset, .unset, .unset] [(.long (q1 &&& (255 : Int64))), (.int (0 : Int32)), (.ref b118)]))) (fun t k => XS.icmpYes X130.here hx rfl (pc0 := 164) (pc' := 177) rfl (hb hby at_164) rfl (feq hc145).2 (by decide) (by decide) (XS.aload X130.here hx rfl (hb hby at_177) rfl rfl (XS.iconst X130.here hx rfl (hb hby at_179) (XS.lloadN X130.here hx rfl (hb hby at_180) rfl ((X130.ldc2Long hx hown (mvT hZ (own_w hw 0)) (g := (mkF m 181 #[.val (.int p0), .val (.long q1), .second, .val (.int p2), .val (.int (1 : Int32)), .val (.int kind), .val (.int (6 : Int32)), .val (.int dd), .val (.ref b118), .val (.int nn), .unset, .unset, .unset] [(.long q1), (.int (0 : Int32)), (.ref b118)])) rfl (hb hby at_181)) _ (XS.land X130.here hx rfl (hb hby at_184) rfl k)))))) ?_
          refine own_by (W' := (T130.setTop (mkF m 187 #[.val (.int p0), .val (.long q1), .second, .val (.int p2), .val (.int (1 : Int32)), .val (.int kind), .val (.int (6 : Int32)), .val (.int dd), .val (.ref b118), .val (.int nn), .unset, .unset, .unset] [(.int (((q1 &&& (255 : Int64)).toInt32).toUInt32.toUInt16.toUInt32.toInt32)), (.int (0 : Int32)), (.ref b118)]))) (fun t k => XS.l2i X130.here hx rfl (hb hby at_185) rfl (XS.i2c X130.here hx rfl (hb hby at_186) rfl k)) ?_
          generalize hv_v146 : (((q1 &&& (255 : Int64)).toInt32).toUInt32.toUInt16.toUInt32.toInt32) = v146
          obtain ⟨clu147, Aru147, qu147, Su147, Ngu147, Hau147, Gau147⟩ := id Vu129
          have hinu147 : ¬ ((0 : Int32) < 0 ∨ clu147.slots.size ≤ ((0 : Int32)).toNatClampNeg) := inb_of Su147 ⟨by decide, by decide⟩
          obtain ⟨T148, h148, X148, e148, W148, st148⟩ := stC X130 hx hZ e130 Aru147 (j := (0 : Int32)) hinu147 (g := (mkF m 187 #[.val (.int p0), .val (.long q1), .second, .val (.int p2), .val (.int (1 : Int32)), .val (.int kind), .val (.int (6 : Int32)), .val (.int dd), .val (.ref b118), .val (.int nn), .unset, .unset, .unset] [(.int v146), (.int (0 : Int32)), (.ref b118)])) rfl rfl (hb hby at_187)
          have Vu147 : Arv Z h148 b118 k118 .char (6 : Int32) [(.int (nar .char v146)), (.int (111 : Int32)), (.int (114 : Int32)), (.int (98 : Int32)), (.int (105 : Int32)), (.int (100 : Int32))] (.int (0 : Int32)) := Arv.set Aru147 qu147 Su147 Ngu147 Hau147 Gau147 (fits_nar_char _) W148 0 rfl (Nat.le_of_ble_eq_true rfl)
          rw [show nar .char v146 = v146 from (own_ch_of hv_v146).1] at Vu147
          have Sf148_b118 := Safe.wr W148 Sf130_b118 C130.1 Sf130_b118
          have C148 := CHr.trans C130 (CHr.wr W148 Sf130_b118 C130.1)
          have O148 := Old.wr O130 W148 g_b118
          have N148 := Fr.snoc X148 N130 g_b118
          have K148 := Keep.wr K130 W148 (Or.inr sz_b118)
          refine own_by (W' := (T148.setTop (mkF m 195 #[.val (.int p0), .val (.long q1), .second, .val (.int p2), .val (.int (1 : Int32)), .val (.int kind), .val (.int (6 : Int32)), .val (.int dd), .val (.ref b118), .val (.int nn), .unset, .unset, .unset] [(.long ((q1.toUInt64 >>> ((8 : Int32) &&& 0x3f).toInt64.toUInt64).toInt64)), (.int (1 : Int32)), (.ref b118)]))) (fun t k => st148 _ (XS.aload X148.here hx rfl (hb hby at_188) rfl rfl (XS.iconst X148.here hx rfl (hb hby at_190) (XS.lloadN X148.here hx rfl (hb hby at_191) rfl (XS.bipush X148.here hx rfl (hb hby at_192) (XS.lushr X148.here hx rfl (hb hby at_194) rfl k)))))) ?_
          refine own_by (W' := (T148.setTop (mkF m 201 #[.val (.int p0), .val (.long q1), .second, .val (.int p2), .val (.int (1 : Int32)), .val (.int kind), .val (.int (6 : Int32)), .val (.int dd), .val (.ref b118), .val (.int nn), .unset, .unset, .unset] [(.int (((((q1.toUInt64 >>> ((8 : Int32) &&& 0x3f).toInt64.toUInt64).toInt64) &&& (255 : Int64)).toInt32).toUInt32.toUInt16.toUInt32.toInt32)), (.int (1 : Int32)), (.ref b118)]))) (fun t k => (X148.ldc2Long hx hown (mvT hZ (own_w hw 0)) (g := (mkF m 195 #[.val (.int p0), .val (.long q1), .second, .val (.int p2), .val (.int (1 : Int32)), .val (.int kind), .val (.int (6 : Int32)), .val (.int dd), .val (.ref b118), .val (.int nn), .unset, .unset, .unset] [(.long ((q1.toUInt64 >>> ((8 : Int32) &&& 0x3f).toInt64.toUInt64).toInt64)), (.int (1 : Int32)), (.ref b118)])) rfl (hb hby at_195)) _ (XS.land X148.here hx rfl (hb hby at_198) rfl (XS.l2i X148.here hx rfl (hb hby at_199) rfl (XS.i2c X148.here hx rfl (hb hby at_200) rfl k)))) ?_
          generalize hv_v149 : (((((q1.toUInt64 >>> ((8 : Int32) &&& 0x3f).toInt64.toUInt64).toInt64) &&& (255 : Int64)).toInt32).toUInt32.toUInt16.toUInt32.toInt32) = v149
          obtain ⟨clu150, Aru150, qu150, Su150, Ngu150, Hau150, Gau150⟩ := id Vu147
          have hinu150 : ¬ ((1 : Int32) < 0 ∨ clu150.slots.size ≤ ((1 : Int32)).toNatClampNeg) := inb_of Su150 ⟨by decide, by decide⟩
          obtain ⟨T151, h151, X151, e151, W151, st151⟩ := stC X148 hx hZ e148 Aru150 (j := (1 : Int32)) hinu150 (g := (mkF m 201 #[.val (.int p0), .val (.long q1), .second, .val (.int p2), .val (.int (1 : Int32)), .val (.int kind), .val (.int (6 : Int32)), .val (.int dd), .val (.ref b118), .val (.int nn), .unset, .unset, .unset] [(.int v149), (.int (1 : Int32)), (.ref b118)])) rfl rfl (hb hby at_201)
          have Vu150 : Arv Z h151 b118 k118 .char (6 : Int32) [(.int v146), (.int (nar .char v149)), (.int (114 : Int32)), (.int (98 : Int32)), (.int (105 : Int32)), (.int (100 : Int32))] (.int (0 : Int32)) := Arv.set Aru150 qu150 Su150 Ngu150 Hau150 Gau150 (fits_nar_char _) W151 1 rfl (Nat.le_of_ble_eq_true rfl)
          rw [show nar .char v149 = v149 from (own_ch_of hv_v149).1] at Vu150
          have Sf151_b118 := Safe.wr W151 Sf148_b118 C148.1 Sf148_b118
          have C151 := CHr.trans C148 (CHr.wr W151 Sf148_b118 C148.1)
          have O151 := Old.wr O148 W151 g_b118
          have N151 := Fr.snoc X151 N148 g_b118
          have K151 := Keep.wr K148 W151 (Or.inr sz_b118)
          refine own_by (W' := (T151.setTop (mkF m 209 #[.val (.int p0), .val (.long q1), .second, .val (.int p2), .val (.int (1 : Int32)), .val (.int kind), .val (.int (6 : Int32)), .val (.int dd), .val (.ref b118), .val (.int nn), .unset, .unset, .unset] [(.long ((q1.toUInt64 >>> ((16 : Int32) &&& 0x3f).toInt64.toUInt64).toInt64)), (.int (2 : Int32)), (.ref b118)]))) (fun t k => st151 _ (XS.aload X151.here hx rfl (hb hby at_202) rfl rfl (XS.iconst X151.here hx rfl (hb hby at_204) (XS.lloadN X151.here hx rfl (hb hby at_205) rfl (XS.bipush X151.here hx rfl (hb hby at_206) (XS.lushr X151.here hx rfl (hb hby at_208) rfl k)))))) ?_
          refine own_by (W' := (T151.setTop (mkF m 215 #[.val (.int p0), .val (.long q1), .second, .val (.int p2), .val (.int (1 : Int32)), .val (.int kind), .val (.int (6 : Int32)), .val (.int dd), .val (.ref b118), .val (.int nn), .unset, .unset, .unset] [(.int (((((q1.toUInt64 >>> ((16 : Int32) &&& 0x3f).toInt64.toUInt64).toInt64) &&& (255 : Int64)).toInt32).toUInt32.toUInt16.toUInt32.toInt32)), (.int (2 : Int32)), (.ref b118)]))) (fun t k => (X151.ldc2Long hx hown (mvT hZ (own_w hw 0)) (g := (mkF m 209 #[.val (.int p0), .val (.long q1), .second, .val (.int p2), .val (.int (1 : Int32)), .val (.int kind), .val (.int (6 : Int32)), .val (.int dd), .val (.ref b118), .val (.int nn), .unset, .unset, .unset] [(.long ((q1.toUInt64 >>> ((16 : Int32) &&& 0x3f).toInt64.toUInt64).toInt64)), (.int (2 : Int32)), (.ref b118)])) rfl (hb hby at_209)) _ (XS.land X151.here hx rfl (hb hby at_212) rfl (XS.l2i X151.here hx rfl (hb hby at_213) rfl (XS.i2c X151.here hx rfl (hb hby at_214) rfl k)))) ?_
          generalize hv_v152 : (((((q1.toUInt64 >>> ((16 : Int32) &&& 0x3f).toInt64.toUInt64).toInt64) &&& (255 : Int64)).toInt32).toUInt32.toUInt16.toUInt32.toInt32) = v152
          obtain ⟨clu153, Aru153, qu153, Su153, Ngu153, Hau153, Gau153⟩ := id Vu150
          have hinu153 : ¬ ((2 : Int32) < 0 ∨ clu153.slots.size ≤ ((2 : Int32)).toNatClampNeg) := inb_of Su153 ⟨by decide, by decide⟩
          obtain ⟨T154, h154, X154, e154, W154, st154⟩ := stC X151 hx hZ e151 Aru153 (j := (2 : Int32)) hinu153 (g := (mkF m 215 #[.val (.int p0), .val (.long q1), .second, .val (.int p2), .val (.int (1 : Int32)), .val (.int kind), .val (.int (6 : Int32)), .val (.int dd), .val (.ref b118), .val (.int nn), .unset, .unset, .unset] [(.int v152), (.int (2 : Int32)), (.ref b118)])) rfl rfl (hb hby at_215)
          have Vu153 : Arv Z h154 b118 k118 .char (6 : Int32) [(.int v146), (.int v149), (.int (nar .char v152)), (.int (98 : Int32)), (.int (105 : Int32)), (.int (100 : Int32))] (.int (0 : Int32)) := Arv.set Aru153 qu153 Su153 Ngu153 Hau153 Gau153 (fits_nar_char _) W154 2 rfl (Nat.le_of_ble_eq_true rfl)
          rw [show nar .char v152 = v152 from (own_ch_of hv_v152).1] at Vu153
          have Sf154_b118 := Safe.wr W154 Sf151_b118 C151.1 Sf151_b118
          have C154 := CHr.trans C151 (CHr.wr W154 Sf151_b118 C151.1)
          have O154 := Old.wr O151 W154 g_b118
          have N154 := Fr.snoc X154 N151 g_b118
          have K154 := Keep.wr K151 W154 (Or.inr sz_b118)
          refine own_by (W' := (T154.setTop (mkF m 223 #[.val (.int p0), .val (.long q1), .second, .val (.int p2), .val (.int (1 : Int32)), .val (.int kind), .val (.int (6 : Int32)), .val (.int dd), .val (.ref b118), .val (.int nn), .unset, .unset, .unset] [(.long ((q1.toUInt64 >>> ((24 : Int32) &&& 0x3f).toInt64.toUInt64).toInt64)), (.int (3 : Int32)), (.ref b118)]))) (fun t k => st154 _ (XS.aload X154.here hx rfl (hb hby at_216) rfl rfl (XS.iconst X154.here hx rfl (hb hby at_218) (XS.lloadN X154.here hx rfl (hb hby at_219) rfl (XS.bipush X154.here hx rfl (hb hby at_220) (XS.lushr X154.here hx rfl (hb hby at_222) rfl k)))))) ?_
          refine own_by (W' := (T154.setTop (mkF m 229 #[.val (.int p0), .val (.long q1), .second, .val (.int p2), .val (.int (1 : Int32)), .val (.int kind), .val (.int (6 : Int32)), .val (.int dd), .val (.ref b118), .val (.int nn), .unset, .unset, .unset] [(.int (((((q1.toUInt64 >>> ((24 : Int32) &&& 0x3f).toInt64.toUInt64).toInt64) &&& (255 : Int64)).toInt32).toUInt32.toUInt16.toUInt32.toInt32)), (.int (3 : Int32)), (.ref b118)]))) (fun t k => (X154.ldc2Long hx hown (mvT hZ (own_w hw 0)) (g := (mkF m 223 #[.val (.int p0), .val (.long q1), .second, .val (.int p2), .val (.int (1 : Int32)), .val (.int kind), .val (.int (6 : Int32)), .val (.int dd), .val (.ref b118), .val (.int nn), .unset, .unset, .unset] [(.long ((q1.toUInt64 >>> ((24 : Int32) &&& 0x3f).toInt64.toUInt64).toInt64)), (.int (3 : Int32)), (.ref b118)])) rfl (hb hby at_223)) _ (XS.land X154.here hx rfl (hb hby at_226) rfl (XS.l2i X154.here hx rfl (hb hby at_227) rfl (XS.i2c X154.here hx rfl (hb hby at_228) rfl k)))) ?_
          generalize hv_v155 : (((((q1.toUInt64 >>> ((24 : Int32) &&& 0x3f).toInt64.toUInt64).toInt64) &&& (255 : Int64)).toInt32).toUInt32.toUInt16.toUInt32.toInt32) = v155
          obtain ⟨clu156, Aru156, qu156, Su156, Ngu156, Hau156, Gau156⟩ := id Vu153
          have hinu156 : ¬ ((3 : Int32) < 0 ∨ clu156.slots.size ≤ ((3 : Int32)).toNatClampNeg) := inb_of Su156 ⟨by decide, by decide⟩
          obtain ⟨T157, h157, X157, e157, W157, st157⟩ := stC X154 hx hZ e154 Aru156 (j := (3 : Int32)) hinu156 (g := (mkF m 229 #[.val (.int p0), .val (.long q1), .second, .val (.int p2), .val (.int (1 : Int32)), .val (.int kind), .val (.int (6 : Int32)), .val (.int dd), .val (.ref b118), .val (.int nn), .unset, .unset, .unset] [(.int v155), (.int (3 : Int32)), (.ref b118)])) rfl rfl (hb hby at_229)
          have Vu156 : Arv Z h157 b118 k118 .char (6 : Int32) [(.int v146), (.int v149), (.int v152), (.int (nar .char v155)), (.int (105 : Int32)), (.int (100 : Int32))] (.int (0 : Int32)) := Arv.set Aru156 qu156 Su156 Ngu156 Hau156 Gau156 (fits_nar_char _) W157 3 rfl (Nat.le_of_ble_eq_true rfl)
          rw [show nar .char v155 = v155 from (own_ch_of hv_v155).1] at Vu156
          have Sf157_b118 := Safe.wr W157 Sf154_b118 C154.1 Sf154_b118
          have C157 := CHr.trans C154 (CHr.wr W157 Sf154_b118 C154.1)
          have O157 := Old.wr O154 W157 g_b118
          have N157 := Fr.snoc X157 N154 g_b118
          have K157 := Keep.wr K154 W157 (Or.inr sz_b118)
          refine own_by (W' := (T157.setTop (mkF m 237 #[.val (.int p0), .val (.long q1), .second, .val (.int p2), .val (.int (1 : Int32)), .val (.int kind), .val (.int (6 : Int32)), .val (.int dd), .val (.ref b118), .val (.int nn), .unset, .unset, .unset] [(.long ((q1.toUInt64 >>> ((32 : Int32) &&& 0x3f).toInt64.toUInt64).toInt64)), (.int (4 : Int32)), (.ref b118)]))) (fun t k => st157 _ (XS.aload X157.here hx rfl (hb hby at_230) rfl rfl (XS.iconst X157.here hx rfl (hb hby at_232) (XS.lloadN X157.here hx rfl (hb hby at_233) rfl (XS.bipush X157.here hx rfl (hb hby at_234) (XS.lushr X157.here hx rfl (hb hby at_236) rfl k)))))) ?_
          refine own_by (W' := (T157.setTop (mkF m 243 #[.val (.int p0), .val (.long q1), .second, .val (.int p2), .val (.int (1 : Int32)), .val (.int kind), .val (.int (6 : Int32)), .val (.int dd), .val (.ref b118), .val (.int nn), .unset, .unset, .unset] [(.int (((((q1.toUInt64 >>> ((32 : Int32) &&& 0x3f).toInt64.toUInt64).toInt64) &&& (255 : Int64)).toInt32).toUInt32.toUInt16.toUInt32.toInt32)), (.int (4 : Int32)), (.ref b118)]))) (fun t k => (X157.ldc2Long hx hown (mvT hZ (own_w hw 0)) (g := (mkF m 237 #[.val (.int p0), .val (.long q1), .second, .val (.int p2), .val (.int (1 : Int32)), .val (.int kind), .val (.int (6 : Int32)), .val (.int dd), .val (.ref b118), .val (.int nn), .unset, .unset, .unset] [(.long ((q1.toUInt64 >>> ((32 : Int32) &&& 0x3f).toInt64.toUInt64).toInt64)), (.int (4 : Int32)), (.ref b118)])) rfl (hb hby at_237)) _ (XS.land X157.here hx rfl (hb hby at_240) rfl (XS.l2i X157.here hx rfl (hb hby at_241) rfl (XS.i2c X157.here hx rfl (hb hby at_242) rfl k)))) ?_
          generalize hv_v158 : (((((q1.toUInt64 >>> ((32 : Int32) &&& 0x3f).toInt64.toUInt64).toInt64) &&& (255 : Int64)).toInt32).toUInt32.toUInt16.toUInt32.toInt32) = v158
          obtain ⟨clu159, Aru159, qu159, Su159, Ngu159, Hau159, Gau159⟩ := id Vu156
          have hinu159 : ¬ ((4 : Int32) < 0 ∨ clu159.slots.size ≤ ((4 : Int32)).toNatClampNeg) := inb_of Su159 ⟨by decide, by decide⟩
          obtain ⟨T160, h160, X160, e160, W160, st160⟩ := stC X157 hx hZ e157 Aru159 (j := (4 : Int32)) hinu159 (g := (mkF m 243 #[.val (.int p0), .val (.long q1), .second, .val (.int p2), .val (.int (1 : Int32)), .val (.int kind), .val (.int (6 : Int32)), .val (.int dd), .val (.ref b118), .val (.int nn), .unset, .unset, .unset] [(.int v158), (.int (4 : Int32)), (.ref b118)])) rfl rfl (hb hby at_243)
          have Vu159 : Arv Z h160 b118 k118 .char (6 : Int32) [(.int v146), (.int v149), (.int v152), (.int v155), (.int (nar .char v158)), (.int (100 : Int32))] (.int (0 : Int32)) := Arv.set Aru159 qu159 Su159 Ngu159 Hau159 Gau159 (fits_nar_char _) W160 4 rfl (Nat.le_of_ble_eq_true rfl)
          rw [show nar .char v158 = v158 from (own_ch_of hv_v158).1] at Vu159
          have Sf160_b118 := Safe.wr W160 Sf157_b118 C157.1 Sf157_b118
          have C160 := CHr.trans C157 (CHr.wr W160 Sf157_b118 C157.1)
          have O160 := Old.wr O157 W160 g_b118
          have N160 := Fr.snoc X160 N157 g_b118
          have K160 := Keep.wr K157 W160 (Or.inr sz_b118)
          refine own_by (W' := (T160.setTop (mkF m 251 #[.val (.int p0), .val (.long q1), .second, .val (.int p2), .val (.int (1 : Int32)), .val (.int kind), .val (.int (6 : Int32)), .val (.int dd), .val (.ref b118), .val (.int nn), .unset, .unset, .unset] [(.long ((q1.toUInt64 >>> ((40 : Int32) &&& 0x3f).toInt64.toUInt64).toInt64)), (.int (5 : Int32)), (.ref b118)]))) (fun t k => st160 _ (XS.aload X160.here hx rfl (hb hby at_244) rfl rfl (XS.iconst X160.here hx rfl (hb hby at_246) (XS.lloadN X160.here hx rfl (hb hby at_247) rfl (XS.bipush X160.here hx rfl (hb hby at_248) (XS.lushr X160.here hx rfl (hb hby at_250) rfl k)))))) ?_
          refine own_by (W' := (T160.setTop (mkF m 257 #[.val (.int p0), .val (.long q1), .second, .val (.int p2), .val (.int (1 : Int32)), .val (.int kind), .val (.int (6 : Int32)), .val (.int dd), .val (.ref b118), .val (.int nn), .unset, .unset, .unset] [(.int (((((q1.toUInt64 >>> ((40 : Int32) &&& 0x3f).toInt64.toUInt64).toInt64) &&& (255 : Int64)).toInt32).toUInt32.toUInt16.toUInt32.toInt32)), (.int (5 : Int32)), (.ref b118)]))) (fun t k => (X160.ldc2Long hx hown (mvT hZ (own_w hw 0)) (g := (mkF m 251 #[.val (.int p0), .val (.long q1), .second, .val (.int p2), .val (.int (1 : Int32)), .val (.int kind), .val (.int (6 : Int32)), .val (.int dd), .val (.ref b118), .val (.int nn), .unset, .unset, .unset] [(.long ((q1.toUInt64 >>> ((40 : Int32) &&& 0x3f).toInt64.toUInt64).toInt64)), (.int (5 : Int32)), (.ref b118)])) rfl (hb hby at_251)) _ (XS.land X160.here hx rfl (hb hby at_254) rfl (XS.l2i X160.here hx rfl (hb hby at_255) rfl (XS.i2c X160.here hx rfl (hb hby at_256) rfl k)))) ?_
          generalize hv_v161 : (((((q1.toUInt64 >>> ((40 : Int32) &&& 0x3f).toInt64.toUInt64).toInt64) &&& (255 : Int64)).toInt32).toUInt32.toUInt16.toUInt32.toInt32) = v161
          obtain ⟨clu162, Aru162, qu162, Su162, Ngu162, Hau162, Gau162⟩ := id Vu159
          have hinu162 : ¬ ((5 : Int32) < 0 ∨ clu162.slots.size ≤ ((5 : Int32)).toNatClampNeg) := inb_of Su162 ⟨by decide, by decide⟩
          obtain ⟨T163, h163, X163, e163, W163, st163⟩ := stC X160 hx hZ e160 Aru162 (j := (5 : Int32)) hinu162 (g := (mkF m 257 #[.val (.int p0), .val (.long q1), .second, .val (.int p2), .val (.int (1 : Int32)), .val (.int kind), .val (.int (6 : Int32)), .val (.int dd), .val (.ref b118), .val (.int nn), .unset, .unset, .unset] [(.int v161), (.int (5 : Int32)), (.ref b118)])) rfl rfl (hb hby at_257)
          have Vu162 : Arv Z h163 b118 k118 .char (6 : Int32) [(.int v146), (.int v149), (.int v152), (.int v155), (.int v158), (.int (nar .char v161))] (.int (0 : Int32)) := Arv.set Aru162 qu162 Su162 Ngu162 Hau162 Gau162 (fits_nar_char _) W163 5 rfl (Nat.le_of_ble_eq_true rfl)
          rw [show nar .char v161 = v161 from (own_ch_of hv_v161).1] at Vu162
          have Sf163_b118 := Safe.wr W163 Sf160_b118 C160.1 Sf160_b118
          have C163 := CHr.trans C160 (CHr.wr W163 Sf160_b118 C160.1)
          have O163 := Old.wr O160 W163 g_b118
          have N163 := Fr.snoc X163 N160 g_b118
          have K163 := Keep.wr K160 W163 (Or.inr sz_b118)
          refine own_by (W' := (T163.setTop (mkF m 265 #[.val (.int p0), .val (.long q1), .second, .val (.int p2), .val (.int (1 : Int32)), .val (.int kind), .val (.int (6 : Int32)), .val (.int dd), .val (.ref b118), .val (.int nn), .val (.int (nn % (7 : Int32))), .unset, .unset] []))) (fun t k => st163 _ (XS.iload X163.here hx rfl (hb hby at_258) rfl (XS.bipush X163.here hx rfl (hb hby at_260) (iremM X163 hx rfl (hb hby at_262) rfl (by decide) (XS.istore X163.here hx rfl (hb hby at_263) rfl (l' := #[.val (.int p0), .val (.long q1), .second, .val (.int p2), .val (.int (1 : Int32)), .val (.int kind), .val (.int (6 : Int32)), .val (.int dd), .val (.ref b118), .val (.int nn), .val (.int (nn % (7 : Int32))), .unset, .unset]) rfl k))))) ?_
          exact cut265 _ X163 N163 (h163) ((1 : Int32)) (kind) ((6 : Int32)) (dd) (nn) ((nn % (7 : Int32))) (b118) (k118) (v146) (v149) (v152) (v155) (v158) (v161) e163 (O163) (K163) (C163) (own_rem7 hv_nn) (Vu162) (⟨(own_ch_of hv_v146).1, (own_ch_of hv_v146).2⟩) (⟨(own_ch_of hv_v149).1, (own_ch_of hv_v149).2⟩) (⟨(own_ch_of hv_v152).1, (own_ch_of hv_v152).2⟩) (⟨(own_ch_of hv_v155).1, (own_ch_of hv_v155).2⟩) (⟨(own_ch_of hv_v158).1, (own_ch_of hv_v158).2⟩) (⟨(own_ch_of hv_v161).1, (own_ch_of hv_v161).2⟩)
set_option maxRecDepth 65536 in
set_option maxHeartbeats 40000000 in
theorem comes_1 {Post : Tables → Env → Array Value → State → Outcome → State → Prop} (hpost : ∀ tb e args s v u, (limb_1_1.after args s (.returned v) u = true ∧ limb_1_2.after args s (.returned v) u = true ∧ True) → ReturnedEndW s (.returned v) u (Jvm.fieldLocs frame_1_writes args s ++ Jvm.arrayLocs frame_1_arrays args s ++ Jvm.staticLocs frame_1_statics s) 24 3200 → Post tb e args s (.returned v) u) :
    ArmFor flags0 classFile x code maxLocals ret World_1 tables_1 room_1 Calls_1 rest_1 Pre_1 Post := by
  intro l hfl _ _ p e ha hc hk s m args below hf hA hF happ hP
  obtain ⟨hcalls, hrest, hpre⟩ := hP
  obtain ⟨-, -, -, hnamed, -, -, -, hat⟩ := (Spec.applies_iff hf).mp happ
  obtain ⟨hg, hn⟩ := and_e (Cond.before_iff.mp (show (Jvm.Cond.and given_1 narrow_1).before args s = true from hpre))
  obtain ⟨ga1, gb1⟩ := and_e hg
  obtain ⟨ga2, gb2⟩ := and_e gb1
  obtain ⟨ga3, gb3⟩ := and_e gb2
  obtain ⟨w0, w1, w2, rfl⟩ : ∃ w0 w1 w2 : Value, args = #[w0, w1, w2] := by
    have hs : args.size = 3 := by simpa [Cond.value, given_1] using ga1
    obtain ⟨L⟩ := args
    match L, hs with
    | [w0, w1, w2], _ => exact ⟨w0, w1, w2, rfl⟩
  have hw := fun d (hd : d ∈ tables_1) => atoms_spec (ws := Jvm.Cond.code x code maxLocals ret :: tables_1) hat d (List.mem_cons_of_mem _ hd)
  have hfit : Fit s := fun {y c} hc i hi => by
    obtain ⟨ha, rfl⟩ := Array.getElem?_eq_some_iff.mp hc
    have q := List.all_eq_true.mp ((Array.all_eq_true_iff_forall_mem.mp hF) _ (Array.getElem_mem ha)) i (List.mem_range.mpr hi)
    simpa [Array.getElem?_eq_getElem hi] using q
  obtain ⟨hsets, hown0⟩ := atoms_of _ (rest_1_c_eq ▸ (show rest_1_c.before _ s = true from hrest))
  have hr0 := Cond.before_iff.mp hown0
  obtain ⟨i0, ei0⟩ := is_v ga2
  obtain rfl : w0 = (.int i0) := Option.some.inj ei0
  obtain ⟨i1, ei1⟩ := isL_v ga3
  obtain rfl : w1 = (.long i1) := Option.some.inj ei1
  obtain ⟨i2, ei2⟩ := is_v gb3
  obtain rfl : w2 = (.int i2) := Option.some.inj ei2
  obtain ⟨ga4, gb4⟩ := and_e hn
  obtain ⟨ga5, gb5⟩ := and_e gb4
  obtain ⟨ga6, gb6⟩ := and_e gb5
  obtain ⟨ga7, gb7⟩ := and_e gb6
  obtain ⟨ga8, gb8⟩ := and_e gb7
  obtain ⟨ga9, gb9⟩ := and_e gb8
  obtain ⟨ga10, gb10⟩ := and_e gb9
  obtain ⟨ga11, gb11⟩ := and_e gb10
  obtain ⟨ga12, gb12⟩ := and_e gb11
  obtain ⟨ga13, gb13⟩ := and_e gb12
  obtain ⟨ga14, gb14⟩ := and_e gb13
  obtain ⟨ga15, gb15⟩ := and_e gb14
  obtain ⟨ga16, gb16⟩ := and_e gb15
  obtain ⟨ga17, gb17⟩ := and_e gb16
  obtain ⟨ga18, gb18⟩ := and_e gb17
  obtain ⟨ga19, gb19⟩ := and_e gb18
  obtain ⟨ga20, gb20⟩ := and_e gb19
  obtain ⟨ga21, gb21⟩ := and_e gb20
  obtain ⟨ga22, gb22⟩ := and_e gb21
  obtain ⟨ga23, gb23⟩ := and_e gb22
  obtain ⟨ga24, gb24⟩ := and_e gb23
  obtain ⟨ga25, gb25⟩ := and_e gb24
  obtain ⟨ga26, gb26⟩ := and_e gb25
  obtain ⟨ga27, gb27⟩ := and_e gb26
  obtain ⟨ga28, gb28⟩ := and_e gb27
  obtain ⟨cs, ev_cs⟩ := is_v (Cond.before_iff.mp (hsets _ (List.mem_of_getElem? (i := 1) rfl)))
  have Sx_cs := Sta.start ev_cs (Or.inl (hsets _ (List.mem_of_getElem? (i := 0) rfl)))
  have n_cs : ¬ cs = (0 : Int32) := gotF (Cond.eq_ints ev_cs (Term.int_eval 0)) (not_v (Cond.before_iff.mp (hsets _ (List.mem_of_getElem? (i := 2) rfl))))
  obtain ⟨wALLOW, ev_wALLOW, Sx_wALLOW, Ex_wALLOW⟩ := own_sta ga4 (Or.inr ⟨(own_w hw 50), (own_w hw 51)⟩)
  obtain ⟨wFORBID, ev_wFORBID, Sx_wFORBID, Ex_wFORBID⟩ := own_sta ga9 (Or.inr ⟨(own_w hw 50), (own_w hw 67)⟩)
  obtain ⟨wV, ev_wV, Sx_wV, Ex_wV⟩ := own_sta ga6 (Or.inl (own_w hw 68))
  obtain ⟨cl_wV, Ar_wV⟩ := Arr.start ev_wV ga5
  obtain ⟨lt_wV, le_wV⟩ := own_len ev_wV Ar_wV ga7
  have Vx_wV : Arv s s.heap wV cl_wV.cls (.object "com/example/claviger/claviger/engine/Effect") (2 : Int32) [(.ref wALLOW), (.ref wFORBID)] .null := Arv.start hfit Ar_wV lt_wV le_wV (by decide) rfl ⟨own_elem ev_wV Ar_wV ev_wALLOW ga8, own_elem ev_wV Ar_wV ev_wFORBID ga10, trivial⟩
  obtain ⟨tALLOW, evt_ALLOW⟩ := exa_v ga11
  have Fx_ALLOW_word := Fld.start ((fld_at ev_wALLOW).symm.trans evt_ALLOW)
  have Ext_ALLOW := Exa.start evt_ALLOW ga11
  obtain ⟨tb_ALLOW, evb_ALLOW⟩ := arr_v ga13
  obtain ⟨cb_ALLOW, Ab_ALLOW⟩ := Arr.start evb_ALLOW ga13
  obtain ⟨lt_ALLOW, le_ALLOW⟩ := own_len evb_ALLOW Ab_ALLOW ga14
  have T_ALLOW : own_St s s.heap tALLOW (5 : Int32) [(.int (97 : Int32)), (.int (108 : Int32)), (.int (108 : Int32)), (.int (111 : Int32)), (.int (119 : Int32))] := ⟨Ext_ALLOW, own_fldI evt_ALLOW ga12, tb_ALLOW, cb_ALLOW.cls, Fld.start ((fld_at evt_ALLOW).symm.trans evb_ALLOW), Arv.start hfit Ab_ALLOW lt_ALLOW le_ALLOW (by decide) rfl ⟨own_elemI evb_ALLOW Ab_ALLOW ga19, own_elemI evb_ALLOW Ab_ALLOW ga20, own_elemI evb_ALLOW Ab_ALLOW ga21, own_elemI evb_ALLOW Ab_ALLOW ga22, own_elemI evb_ALLOW Ab_ALLOW ga23, trivial⟩⟩
  obtain ⟨tFORBID, evt_FORBID⟩ := exa_v ga15
  have Fx_FORBID_word := Fld.start ((fld_at ev_wFORBID).symm.trans evt_FORBID)
  have Ext_FORBID := Exa.start evt_FORBID ga15
  obtain ⟨tb_FORBID, evb_FORBID⟩ := arr_v ga17
  obtain ⟨cb_FORBID, Ab_FORBID⟩ := Arr.start evb_FORBID ga17
  obtain ⟨lt_FORBID, le_FORBID⟩ := own_len evb_FORBID Ab_FORBID ga18
  have T_FORBID : own_St s s.heap tFORBID (6 : Int32) [(.int (102 : Int32)), (.int (111 : Int32)), (.int (114 : Int32)), (.int (98 : Int32)), (.int (105 : Int32)), (.int (100 : Int32))] := ⟨Ext_FORBID, own_fldI evt_FORBID ga16, tb_FORBID, cb_FORBID.cls, Fld.start ((fld_at evt_FORBID).symm.trans evb_FORBID), Arv.start hfit Ab_FORBID lt_FORBID le_FORBID (by decide) rfl ⟨own_elemI evb_FORBID Ab_FORBID ga24, own_elemI evb_FORBID Ab_FORBID ga25, own_elemI evb_FORBID Ab_FORBID ga26, own_elemI evb_FORBID Ab_FORBID ga27, own_elemI evb_FORBID Ab_FORBID ga28, own_elemI evb_FORBID Ab_FORBID gb28, trivial⟩⟩
  have hCHs : CHv s consts_1 s.vm s.heap := CHv.start (own_EW hw) (fun q hq => hcalls.1 q hq) (own_cw hsets) (own_w hw 25) (own_w hw 8)
  obtain ⟨n, o, h1, h2, h3, _, L, rfl, ⟨rfl, N⟩, -, hq⟩ := rmL l s _ hw tables_1 i0 i1 i2 wALLOW wFORBID tALLOW tFORBID wV cl_wV.cls cs s.heap s.heap.size (Nat.le_refl _) (Old.start s) ⟨Sx_wALLOW, Ex_wALLOW, Sx_wFORBID, Ex_wFORBID, Fx_ALLOW_word, T_ALLOW, Ext_ALLOW, Fx_FORBID_word, T_FORBID, Ext_FORBID, Sx_wV, Ex_wV, Vx_wV, Sx_cs, n_cs⟩ p e ha hc hk s m _ below hf ((Spec.applies_iff_loose hf).mp happ).1 ⟨rfl, State.Warmed39.refl s, rfl, hCHs⟩ trivial
  refine ⟨n, _, h1, h2, h3, hpost _ _ _ _ _ _ ⟨Cond.after_iff.mpr rfl, Cond.after_iff.mpr (eq_i res_at (Term.int_eval (1)) rfl), trivial⟩ ⟨hq.1, hq.2.1, hq.2.2.1, (hq.2.2.2.sift fun y hy => Or.inr (N y hy)).mono (by decide) (by decide)⟩⟩
theorem main_1_1 : Claimed_1_1 := comes_1 fun _ _ _ _ _ _ h hF => ⟨h.1, hF⟩
theorem main_1_2 : Claimed_1_2 := comes_1 fun _ _ _ _ _ _ h hF => ⟨h.2.1, hF⟩
end Jvm.Pilot.@@N@@
namespace Jvm.Pilot.@@N@@
open Jvm Jvm.ClassFile Sem Op Lib Jvm.Free Jvm.Stand Jvm.Pilot.@@N@@.Jvm.D
/-! MADE BY PROGRAM (witnessworld.py) out of the Statement's table words and the real class files: 22 classes; the members and pool entries that the words name. The judged class is class 1, her method 1. -/
namespace start1
open Jvm.ClassFile
def u (s : String) : CpInfo := .utf8 (stringToUtf16 s)
/-- a pool by its gaps: so many unusable entries, then the entry; so many at the end -/
def gap : Nat → List CpInfo → List CpInfo
  | 0, r => r
  | n + 1, r => .unusable :: gap n r
def poolList (es : List (Nat × CpInfo)) (last : Nat) : List CpInfo := es.foldr (fun e r => gap e.1 (e.2 :: r)) (gap last [])
def pool (es : List (Nat × CpInfo)) (last : Nat) : Array CpInfo := ⟨poolList es last⟩
def fileOf (pool : Array CpInfo) (this : Nat) (attrs : Array Attribute := #[]) (ms : Array MethodInfo := #[]) (fl : Nat := 33) (sup : Nat := 0) (ifs : Array Nat := #[]) (fds : Array FieldInfo := #[]) : ClassFile where
  minorVersion := 0
  majorVersion := 65
  constantPool := pool
  accessFlags := fl
  thisClass := this
  superClass := sup
  interfaces := ifs
  fields := fds
  methods := ms
  attributes := attrs
def plain (name : String) (sup : Option ClassId) : Class where
  name := name
  kind := .ordinary
  loader := none
  accessFlags := 33
  super := sup
  interfaces := #[]
  cf := none
  fields := #[]
  methods := #[]
  instanceTypes := #[]
  staticTypes := #[]
  resolved := #[]
  callSites := []
  init := .initialized
  statics := none
  mirror := none

def pool0 : Array CpInfo := pool [(5, u "<init>"), (0, u "()V"), (1, .class_ 10), (1, u "java/lang/Object"), (85, u "clone"), (0, u "()Ljava/lang/Object;")] 26

def k0c0 : Code := { maxStack := 0, maxLocals := 1, code := object_method_1_code, exceptionTable := #[], attributes := #[] }
def k0m0 : Method := { name := "<init>", desc := "()V", sig := { parameters := [], returnType := none }, accessFlags := 1, code := some k0c0 }
def k0m1 : Method := { name := "clone", desc := "()Ljava/lang/Object;", sig := { parameters := [], returnType := some (.object "java/lang/Object") }, accessFlags := 260, code := none }
/-- java/lang/Object -/
def k0 : Class := { plain "java/lang/Object" none with
  accessFlags := 33
  interfaces := #[]
  cf := some (fileOf pool0 8 #[] #[{ accessFlags := 1, nameIndex := 5, descriptorIndex := 6, attributes := #[] }, { accessFlags := 260, nameIndex := 96, descriptorIndex := 97, attributes := #[] }] 33 0 #[] #[])
  fields := #[]
  methods := #[k0m0, k0m1]
  instanceTypes := #[]
  staticTypes := #[]
  resolved := Array.replicate 124 none
  statics := none }

def pool1 : Array CpInfo := pool [(2, .class_ 4), (1, u "java/lang/Object"), (0, u "<init>"), (0, u "()V"), (0, .long 255), (1, .integer 2147483647), (0, .methodref 11 12), (0, .class_ 13), (0, .nameAndType 14 15), (0, u "com/example/claviger/claviger/engine/EffectNamedPinLaw"), (0, u "make"), (0, u "([CI)Ljava/lang/String;"), (0, .string 17), (0, u "allow"), (0, .methodref 19 20), (0, .class_ 21), (0, .nameAndType 22 23), (0, u "java/lang/String"), (0, u "equals"), (0, u "(Ljava/lang/Object;)Z"), (0, .fieldref 25 26), (0, .class_ 27), (0, .nameAndType 28 29), (0, u "com/example/claviger/claviger/engine/Effect"), (0, u "ALLOW"), (0, u "Lcom/example/claviger/claviger/engine/Effect;"), (0, .string 31), (0, u "forbid"), (0, .fieldref 25 33), (0, .nameAndType 34 29), (0, u "FORBID"), (0, .methodref 25 36), (0, .nameAndType 37 38), (0, u "named"), (0, u "(Ljava/lang/String;)Lcom/example/claviger/claviger/engine/Effect;"), (0, .methodref 19 40), (0, .nameAndType 5 41), (0, u "([C)V"), (2, u "law"), (0, u "(IJI)Z")] 5

def k1m0 : Method := { name := "<init>", desc := "()V", sig := { parameters := [], returnType := none }, accessFlags := 1, code := none }
def k1c1 : Code := { maxStack := 6, maxLocals := 13, code := code, exceptionTable := #[], attributes := #[] }
def k1m1 : Method := { name := "law", desc := "(IJI)Z", sig := { parameters := [.int, .long, .int], returnType := some .boolean }, accessFlags := 9, code := some k1c1 }
def k1c2 : Code := { maxStack := 7, maxLocals := 2, code := method_3_code, exceptionTable := #[], attributes := #[] }
def k1m2 : Method := { name := "make", desc := "([CI)Ljava/lang/String;", sig := { parameters := [(.array .char), .int], returnType := some (.object "java/lang/String") }, accessFlags := 10, code := some k1c2 }
/-- com/example/claviger/claviger/engine/EffectNamedPinLaw -/
def k1 : Class := { plain "com/example/claviger/claviger/engine/EffectNamedPinLaw" (some 0) with
  accessFlags := 49
  interfaces := #[]
  cf := some (fileOf pool1 11 #[] #[{ accessFlags := 1, nameIndex := 5, descriptorIndex := 6, attributes := #[] }, { accessFlags := 9, nameIndex := 44, descriptorIndex := 45, attributes := #[] }, { accessFlags := 10, nameIndex := 14, descriptorIndex := 15, attributes := #[] }] 49 2 #[] #[])
  fields := #[]
  methods := #[k1m0, k1m1, k1m2]
  instanceTypes := #[]
  staticTypes := #[]
  resolved := Array.replicate 51 none
  statics := none }

def pool2 : Array CpInfo := pool [(1, .class_ 2), (0, u "java/io/Serializable"), (0, .class_ 4), (0, u "java/lang/Object")] 2

/-- java/io/Serializable -/
def k2 : Class := { plain "java/io/Serializable" (some 0) with
  accessFlags := 1537
  interfaces := #[]
  cf := some (fileOf pool2 1 #[] #[] 1537 3 #[] #[])
  fields := #[]
  methods := #[]
  instanceTypes := #[]
  staticTypes := #[]
  resolved := Array.replicate 7 none
  statics := none }

def pool3 : Array CpInfo := pool [(1, .class_ 2), (0, u "java/lang/Comparable"), (0, .class_ 4), (0, u "java/lang/Object")] 7

/-- java/lang/Comparable -/
def k3 : Class := { plain "java/lang/Comparable" (some 0) with
  accessFlags := 1537
  interfaces := #[]
  cf := some (fileOf pool3 1 #[] #[] 1537 3 #[] #[])
  fields := #[]
  methods := #[]
  instanceTypes := #[]
  staticTypes := #[]
  resolved := Array.replicate 12 none
  statics := none }

def pool4 : Array CpInfo := pool [(2, .class_ 4), (1, u "java/lang/CharSequence"), (42, .class_ 48), (0, u "java/lang/CharSequence$1CodePointIterator"), (10, .class_ 60), (0, u "java/lang/CharSequence$1CharIterator"), (5, .class_ 67), (0, u "java/lang/Object")] 63

/-- java/lang/CharSequence -/
def k4 : Class := { plain "java/lang/CharSequence" (some 0) with
  accessFlags := 1537
  interfaces := #[]
  cf := some (fileOf pool4 2 #[.nestMembers #[47, 59]] #[] 1537 66 #[] #[])
  fields := #[]
  methods := #[]
  instanceTypes := #[]
  staticTypes := #[]
  resolved := Array.replicate 131 none
  statics := none }

def pool5 : Array CpInfo := pool [(1, .class_ 2), (0, u "java/lang/constant/Constable"), (0, .class_ 4), (0, u "java/lang/Object")] 6

/-- java/lang/constant/Constable -/
def k5 : Class := { plain "java/lang/constant/Constable" (some 0) with
  accessFlags := 1537
  interfaces := #[]
  cf := some (fileOf pool5 1 #[] #[] 1537 3 #[] #[])
  fields := #[]
  methods := #[]
  instanceTypes := #[]
  staticTypes := #[]
  resolved := Array.replicate 11 none
  statics := none }

def pool6 : Array CpInfo := pool [(1, .class_ 2), (0, u "java/lang/constant/ConstantDesc"), (0, .class_ 4), (0, u "java/lang/Object")] 32

/-- java/lang/constant/ConstantDesc -/
def k6 : Class := { plain "java/lang/constant/ConstantDesc" (some 0) with
  accessFlags := 1537
  interfaces := #[]
  cf := some (fileOf pool6 1 #[] #[] 1537 3 #[] #[])
  fields := #[]
  methods := #[]
  instanceTypes := #[]
  staticTypes := #[]
  resolved := Array.replicate 37 none
  statics := none }

def pool7 : Array CpInfo := pool [(1, .methodref 2 3), (0, .class_ 4), (0, .nameAndType 5 6), (0, u "java/lang/Object"), (0, u "<init>"), (0, u "()V"), (0, .string 8), (0, u ""), (0, .fieldref 10 11), (0, .class_ 12), (0, .nameAndType 13 14), (0, u "java/lang/String"), (0, u "value"), (0, u "[B"), (0, .fieldref 10 16), (0, .nameAndType 17 18), (0, u "coder"), (0, u "B"), (2, u "hash"), (0, u "I"), (2, u "hashIsZero"), (0, u "Z"), (0, .methodref 10 28), (0, .nameAndType 5 29), (0, u "([CIILjava/lang/Void;)V"), (8, .fieldref 10 39), (0, .nameAndType 40 26), (0, u "COMPACT_STRINGS"), (1, .class_ 44), (1, u "java/lang/StringUTF16"), (0, u "compress"), (1, .methodref 42 48), (0, .nameAndType 49 50), (0, u "coderFromArrayLen"), (0, u "([BI)B"), (56, .class_ 109), (1, u "java/lang/StringLatin1"), (67, .methodref 42 178), (0, .nameAndType 45 179), (0, u "([CII)[B"), (361, .methodref 107 542), (0, .nameAndType 543 544), (0, u "equals"), (0, u "([B[B)Z"), (28, u "(Ljava/lang/Object;)Z"), (1, .class_ 576), (0, u "java/lang/CharSequence"), (22, u "CASE_INSENSITIVE_ORDER"), (0, u "Ljava/util/Comparator;"), (409, u "([C)V"), (90, u "serialPersistentFields"), (0, u "[Ljava/io/ObjectStreamField;"), (0, .class_ 1104), (0, u "java/lang/String$CaseInsensitiveComparator"), (1, .class_ 1107), (0, u "java/io/Serializable"), (0, .class_ 1109), (0, u "java/lang/Comparable"), (0, .class_ 1111), (0, u "java/lang/constant/Constable"), (0, .class_ 1113), (0, u "java/lang/constant/ConstantDesc"), (2, u "serialVersionUID"), (0, u "J"), (3, u "REPL"), (0, u "C"), (2, u "LATIN1"), (1, u "UTF16")] 323

def k7m0 : Method := { name := "<init>", desc := "()V", sig := { parameters := [], returnType := none }, accessFlags := 1, code := none }
def k7c1 : Code := { maxStack := 5, maxLocals := 2, code := jdk_42_method_3_code, exceptionTable := #[], attributes := #[] }
def k7m1 : Method := { name := "<init>", desc := "([C)V", sig := { parameters := [(.array .char)], returnType := none }, accessFlags := 1, code := some k7c1 }
def k7c2 : Code := { maxStack := 2, maxLocals := 3, code := jdk_42_method_66_code, exceptionTable := #[], attributes := #[] }
def k7m2 : Method := { name := "equals", desc := "(Ljava/lang/Object;)Z", sig := { parameters := [(.object "java/lang/Object")], returnType := some .boolean }, accessFlags := 1, code := some k7c2 }
def k7c3 : Code := { maxStack := 4, maxLocals := 6, code := jdk_42_method_149_code, exceptionTable := #[], attributes := #[] }
def k7m3 : Method := { name := "<init>", desc := "([CIILjava/lang/Void;)V", sig := { parameters := [(.array .char), .int, .int, (.object "java/lang/Void")], returnType := none }, accessFlags := 2, code := some k7c3 }
/-- java/lang/String -/
def k7 : Class := { plain "java/lang/String" (some 0) with
  accessFlags := 49
  interfaces := #[2, 3, 4, 5, 6]
  cf := some (fileOf pool7 10 #[.nestMembers #[1103]] #[{ accessFlags := 1, nameIndex := 5, descriptorIndex := 6, attributes := #[] }, { accessFlags := 1, nameIndex := 5, descriptorIndex := 1010, attributes := #[] }, { accessFlags := 1, nameIndex := 543, descriptorIndex := 573, attributes := #[] }, { accessFlags := 2, nameIndex := 5, descriptorIndex := 29, attributes := #[] }] 49 2 #[1106, 1108, 575, 1110, 1112] #[{ accessFlags := 18, nameIndex := 13, descriptorIndex := 14, attributes := #[] }, { accessFlags := 18, nameIndex := 17, descriptorIndex := 18, attributes := #[] }, { accessFlags := 2, nameIndex := 21, descriptorIndex := 22, attributes := #[] }, { accessFlags := 2, nameIndex := 25, descriptorIndex := 26, attributes := #[] }, { accessFlags := 26, nameIndex := 1116, descriptorIndex := 1117, attributes := #[] }, { accessFlags := 24, nameIndex := 40, descriptorIndex := 26, attributes := #[] }, { accessFlags := 26, nameIndex := 1101, descriptorIndex := 1102, attributes := #[] }, { accessFlags := 26, nameIndex := 1121, descriptorIndex := 1122, attributes := #[] }, { accessFlags := 25, nameIndex := 599, descriptorIndex := 600, attributes := #[] }, { accessFlags := 24, nameIndex := 1125, descriptorIndex := 18, attributes := #[] }, { accessFlags := 24, nameIndex := 1127, descriptorIndex := 18, attributes := #[] }])
  fields := #[{ name := "value", type := (.array .byte), accessFlags := 18, slot := 0, constantValue := 0 }, { name := "coder", type := .byte, accessFlags := 18, slot := 1, constantValue := 0 }, { name := "hash", type := .int, accessFlags := 2, slot := 2, constantValue := 0 }, { name := "hashIsZero", type := .boolean, accessFlags := 2, slot := 3, constantValue := 0 }, { name := "serialVersionUID", type := .long, accessFlags := 26, slot := 0, constantValue := 0 }, { name := "COMPACT_STRINGS", type := .boolean, accessFlags := 24, slot := 1, constantValue := 0 }, { name := "serialPersistentFields", type := (.array (.object "java/io/ObjectStreamField")), accessFlags := 26, slot := 2, constantValue := 0 }, { name := "REPL", type := .char, accessFlags := 26, slot := 3, constantValue := 0 }, { name := "CASE_INSENSITIVE_ORDER", type := (.object "java/util/Comparator"), accessFlags := 25, slot := 4, constantValue := 0 }, { name := "LATIN1", type := .byte, accessFlags := 24, slot := 5, constantValue := 0 }, { name := "UTF16", type := .byte, accessFlags := 24, slot := 6, constantValue := 0 }]
  methods := #[k7m0, k7m1, k7m2, k7m3]
  instanceTypes := #[(.array .byte), .byte, .int, .boolean]
  staticTypes := #[.long, .boolean, (.array (.object "java/io/ObjectStreamField")), .char, (.object "java/util/Comparator"), .byte, .byte]
  resolved := Array.replicate 1451 none
  statics := some 0 }

def pool8 : Array CpInfo := pool [(6, .class_ 8), (1, u "java/lang/Object"), (0, u "<init>"), (0, u "()V"), (1, .class_ 14), (1, u "java/lang/StringUTF16"), (31, u "$assertionsDisabled"), (0, u "Z"), (13, u "HI_BYTE_SHIFT"), (0, u "I"), (2, u "LO_BYTE_SHIFT"), (49, .methodref 12 116), (0, .nameAndType 117 118), (0, u "compress"), (0, u "([CI[BII)I"), (3, u "([CII)[B"), (138, u "coderFromArrayLen"), (0, u "([BI)B"), (106, .class_ 371), (1, u "java/lang/StringUTF16$LinesSpliterator"), (58, u "MAX_LENGTH"), (196, .class_ 628), (0, u "java/lang/StringUTF16$CodePointsSpliterator"), (0, .class_ 630), (0, u "java/lang/StringUTF16$CharsSpliterator")] 4

def k8m0 : Method := { name := "<init>", desc := "()V", sig := { parameters := [], returnType := none }, accessFlags := 0, code := none }
def k8c1 : Code := { maxStack := 2, maxLocals := 2, code := jdk_52_method_15_code, exceptionTable := #[], attributes := #[] }
def k8m1 : Method := { name := "coderFromArrayLen", desc := "([BI)B", sig := { parameters := [(.array .byte), .int], returnType := some .byte }, accessFlags := 8, code := some k8c1 }
def k8c2 : Code := { maxStack := 5, maxLocals := 6, code := jdk_52_method_16_code, exceptionTable := #[], attributes := #[] }
def k8m2 : Method := { name := "compress", desc := "([CII)[B", sig := { parameters := [(.array .char), .int, .int], returnType := some (.array .byte) }, accessFlags := 9, code := some k8c2 }
def k8c3 : Code := { maxStack := 3, maxLocals := 7, code := jdk_52_method_21_code, exceptionTable := #[], attributes := #[] }
def k8m3 : Method := { name := "compress", desc := "([CI[BII)I", sig := { parameters := [(.array .char), .int, (.array .byte), .int, .int], returnType := some .int }, accessFlags := 9, code := some k8c3 }
/-- java/lang/StringUTF16 -/
def k8 : Class := { plain "java/lang/StringUTF16" (some 0) with
  accessFlags := 48
  interfaces := #[]
  cf := some (fileOf pool8 12 #[.nestMembers #[627, 629, 369]] #[{ accessFlags := 0, nameIndex := 9, descriptorIndex := 10, attributes := #[] }, { accessFlags := 8, nameIndex := 261, descriptorIndex := 262, attributes := #[] }, { accessFlags := 9, nameIndex := 117, descriptorIndex := 122, attributes := #[] }, { accessFlags := 9, nameIndex := 117, descriptorIndex := 118, attributes := #[] }] 48 6 #[] #[{ accessFlags := 26, nameIndex := 61, descriptorIndex := 62, attributes := #[] }, { accessFlags := 26, nameIndex := 65, descriptorIndex := 62, attributes := #[] }, { accessFlags := 24, nameIndex := 430, descriptorIndex := 62, attributes := #[] }, { accessFlags := 4120, nameIndex := 46, descriptorIndex := 47, attributes := #[] }])
  fields := #[{ name := "HI_BYTE_SHIFT", type := .int, accessFlags := 26, slot := 0, constantValue := 0 }, { name := "LO_BYTE_SHIFT", type := .int, accessFlags := 26, slot := 1, constantValue := 0 }, { name := "MAX_LENGTH", type := .int, accessFlags := 24, slot := 2, constantValue := 0 }, { name := "$assertionsDisabled", type := .boolean, accessFlags := 4120, slot := 3, constantValue := 0 }]
  methods := #[k8m0, k8m1, k8m2, k8m3]
  instanceTypes := #[]
  staticTypes := #[.int, .int, .int, .boolean]
  resolved := Array.replicate 635 none
  statics := none }

def pool9 : Array CpInfo := pool [(4, .class_ 6), (1, u "java/lang/Object"), (0, u "<init>"), (0, u "()V"), (5, .class_ 16), (1, u "java/lang/StringLatin1"), (104, u "$assertionsDisabled"), (0, u "Z"), (98, .class_ 223), (1, u "java/lang/StringLatin1$LinesSpliterator"), (57, u "equals"), (0, u "([B[B)Z"), (107, .class_ 391), (0, u "java/lang/StringLatin1$CharsSpliterator")] 3

def k9m0 : Method := { name := "<init>", desc := "()V", sig := { parameters := [], returnType := none }, accessFlags := 0, code := none }
def k9c1 : Code := { maxStack := 3, maxLocals := 3, code := jdk_43_method_13_code, exceptionTable := #[], attributes := #[] }
def k9m1 : Method := { name := "equals", desc := "([B[B)Z", sig := { parameters := [(.array .byte), (.array .byte)], returnType := some .boolean }, accessFlags := 9, code := some k9c1 }
/-- java/lang/StringLatin1 -/
def k9 : Class := { plain "java/lang/StringLatin1" (some 0) with
  accessFlags := 48
  interfaces := #[]
  cf := some (fileOf pool9 14 #[.nestMembers #[390, 221]] #[{ accessFlags := 0, nameIndex := 7, descriptorIndex := 8, attributes := #[] }, { accessFlags := 9, nameIndex := 281, descriptorIndex := 282, attributes := #[] }] 48 4 #[] #[{ accessFlags := 4120, nameIndex := 121, descriptorIndex := 122, attributes := #[] }])
  fields := #[{ name := "$assertionsDisabled", type := .boolean, accessFlags := 4120, slot := 0, constantValue := 0 }]
  methods := #[k9m0, k9m1]
  instanceTypes := #[]
  staticTypes := #[.boolean]
  resolved := Array.replicate 395 none
  statics := none }

def pool10 : Array CpInfo := pool [(2, .class_ 4), (1, u "java/lang/Enum"), (0, u "name"), (0, u "Ljava/lang/String;"), (2, u "ordinal"), (0, u "I"), (1, .class_ 14), (1, u "java/lang/Object"), (4, u "hash"), (86, .class_ 108), (1, u "java/lang/Enum$EnumDesc"), (2, .class_ 112), (0, u "java/lang/constant/Constable"), (0, .class_ 114), (0, u "java/lang/Comparable"), (0, .class_ 116), (0, u "java/io/Serializable")] 87

/-- java/lang/Enum -/
def k10 : Class := { plain "java/lang/Enum" (some 0) with
  accessFlags := 1057
  interfaces := #[5, 3, 2]
  cf := some (fileOf pool10 2 #[.nestMembers #[106]] #[] 1057 12 #[111, 113, 115] #[{ accessFlags := 18, nameIndex := 5, descriptorIndex := 6, attributes := #[] }, { accessFlags := 18, nameIndex := 9, descriptorIndex := 10, attributes := #[] }, { accessFlags := 2, nameIndex := 19, descriptorIndex := 10, attributes := #[] }])
  fields := #[{ name := "name", type := (.object "java/lang/String"), accessFlags := 18, slot := 0, constantValue := 0 }, { name := "ordinal", type := .int, accessFlags := 18, slot := 1, constantValue := 0 }, { name := "hash", type := .int, accessFlags := 2, slot := 2, constantValue := 0 }]
  methods := #[]
  instanceTypes := #[(.object "java/lang/String"), .int, .int]
  staticTypes := #[]
  resolved := Array.replicate 204 none
  statics := none }

def pool11 : Array CpInfo := pool [(1, .class_ 2), (0, u "com/example/claviger/claviger/engine/Effect"), (2, u "ALLOW"), (0, u "Lcom/example/claviger/claviger/engine/Effect;"), (2, u "FORBID"), (0, .fieldref 1 11), (0, .nameAndType 12 13), (0, u "$VALUES"), (0, u "[Lcom/example/claviger/claviger/engine/Effect;"), (0, .methodref 15 16), (0, .class_ 13), (0, .nameAndType 17 18), (0, u "clone"), (0, u "()Ljava/lang/Object;"), (1, .class_ 22), (1, u "java/lang/Enum"), (6, .fieldref 1 30), (0, .nameAndType 31 32), (0, u "word"), (0, u "Ljava/lang/String;"), (0, .methodref 1 34), (0, .nameAndType 35 36), (0, u "values"), (0, u "()[Lcom/example/claviger/claviger/engine/Effect;"), (0, .methodref 38 39), (0, .class_ 40), (0, .nameAndType 41 42), (0, u "java/lang/String"), (0, u "equals"), (0, u "(Ljava/lang/Object;)Z"), (14, u "(Ljava/lang/String;)Lcom/example/claviger/claviger/engine/Effect;"), (5, u "named")] 6

def k11c0 : Code := { maxStack := 1, maxLocals := 0, code := prog_8_method_1_code, exceptionTable := #[], attributes := #[] }
def k11m0 : Method := { name := "values", desc := "()[Lcom/example/claviger/claviger/engine/Effect;", sig := { parameters := [], returnType := some (.array (.object "com/example/claviger/claviger/engine/Effect")) }, accessFlags := 9, code := some k11c0 }
def k11c1 : Code := { maxStack := 2, maxLocals := 5, code := prog_8_method_5_code, exceptionTable := #[], attributes := #[] }
def k11m1 : Method := { name := "named", desc := "(Ljava/lang/String;)Lcom/example/claviger/claviger/engine/Effect;", sig := { parameters := [(.object "java/lang/String")], returnType := some (.object "com/example/claviger/claviger/engine/Effect") }, accessFlags := 9, code := some k11c1 }
/-- com/example/claviger/claviger/engine/Effect -/
def k11 : Class := { plain "com/example/claviger/claviger/engine/Effect" (some 10) with
  accessFlags := 16433
  interfaces := #[]
  cf := some (fileOf pool11 1 #[] #[{ accessFlags := 9, nameIndex := 35, descriptorIndex := 36, attributes := #[] }, { accessFlags := 9, nameIndex := 63, descriptorIndex := 57, attributes := #[] }] 16433 20 #[] #[{ accessFlags := 16409, nameIndex := 5, descriptorIndex := 6, attributes := #[] }, { accessFlags := 16409, nameIndex := 9, descriptorIndex := 6, attributes := #[] }, { accessFlags := 18, nameIndex := 31, descriptorIndex := 32, attributes := #[] }, { accessFlags := 4122, nameIndex := 12, descriptorIndex := 13, attributes := #[] }])
  fields := #[{ name := "ALLOW", type := (.object "com/example/claviger/claviger/engine/Effect"), accessFlags := 16409, slot := 0, constantValue := 0 }, { name := "FORBID", type := (.object "com/example/claviger/claviger/engine/Effect"), accessFlags := 16409, slot := 1, constantValue := 0 }, { name := "word", type := (.object "java/lang/String"), accessFlags := 18, slot := 3, constantValue := 0 }, { name := "$VALUES", type := (.array (.object "com/example/claviger/claviger/engine/Effect")), accessFlags := 4122, slot := 2, constantValue := 0 }]
  methods := #[k11m0, k11m1]
  instanceTypes := #[(.object "java/lang/String"), .int, .int, (.object "java/lang/String")]
  staticTypes := #[(.object "com/example/claviger/claviger/engine/Effect"), (.object "com/example/claviger/claviger/engine/Effect"), (.array (.object "com/example/claviger/claviger/engine/Effect"))]
  resolved := Array.replicate 70 none
  statics := some 1 }

def pool12 : Array CpInfo := pool [(1, .class_ 2), (0, u "java/lang/Cloneable"), (0, .class_ 4), (0, u "java/lang/Object")] 2

/-- java/lang/Cloneable -/
def k12 : Class := { plain "java/lang/Cloneable" (some 0) with
  accessFlags := 1537
  interfaces := #[]
  cf := some (fileOf pool12 1 #[] #[] 1537 3 #[] #[])
  fields := #[]
  methods := #[]
  instanceTypes := #[]
  staticTypes := #[]
  resolved := Array.replicate 7 none
  statics := none }

def pool13 : Array CpInfo := pool [(2, .class_ 4), (1, u "java/lang/Object"), (0, u "<init>"), (0, u "()V"), (17, .class_ 26), (1, u "jdk/internal/util/Preconditions"), (28, .class_ 56), (0, u "jdk/internal/util/Preconditions$4"), (57, .class_ 115), (0, u "jdk/internal/util/Preconditions$1"), (7, u "SIOOBE_FORMATTER"), (0, u "Ljava/util/function/BiFunction;"), (0, .class_ 126), (0, u "jdk/internal/util/Preconditions$2"), (3, u "AIOOBE_FORMATTER"), (0, .class_ 132), (0, u "jdk/internal/util/Preconditions$3"), (3, u "IOOBE_FORMATTER")] 57

def k13m0 : Method := { name := "<init>", desc := "()V", sig := { parameters := [], returnType := none }, accessFlags := 1, code := none }
/-- jdk/internal/util/Preconditions -/
def k13 : Class := { plain "jdk/internal/util/Preconditions" (some 0) with
  accessFlags := 33
  interfaces := #[]
  cf := some (fileOf pool13 24 #[.nestMembers #[55, 131, 125, 114]] #[{ accessFlags := 1, nameIndex := 5, descriptorIndex := 6, attributes := #[] }] 33 2 #[] #[{ accessFlags := 25, nameIndex := 123, descriptorIndex := 124, attributes := #[] }, { accessFlags := 25, nameIndex := 130, descriptorIndex := 124, attributes := #[] }, { accessFlags := 25, nameIndex := 136, descriptorIndex := 124, attributes := #[] }])
  fields := #[{ name := "SIOOBE_FORMATTER", type := (.object "java/util/function/BiFunction"), accessFlags := 25, slot := 0, constantValue := 0 }, { name := "AIOOBE_FORMATTER", type := (.object "java/util/function/BiFunction"), accessFlags := 25, slot := 1, constantValue := 0 }, { name := "IOOBE_FORMATTER", type := (.object "java/util/function/BiFunction"), accessFlags := 25, slot := 2, constantValue := 0 }]
  methods := #[k13m0]
  instanceTypes := #[]
  staticTypes := #[(.object "java/util/function/BiFunction"), (.object "java/util/function/BiFunction"), (.object "java/util/function/BiFunction")]
  resolved := Array.replicate 194 none
  statics := some 2 }

def pool14 : Array CpInfo := pool [(9, u "<init>"), (6, .class_ 18), (1, u "java/lang/Object"), (0, u "()V"), (1, .class_ 23), (1, u "jdk/internal/util/ArraysSupport"), (0, u "LOG2_ARRAY_LONG_INDEX_SCALE"), (0, u "I"), (2, u "U"), (0, u "Ljdk/internal/misc/Unsafe;"), (8, u "BIG_ENDIAN"), (0, u "Z"), (8, u "LOG2_BYTE_BIT_SIZE"), (4, u "LOG2_ARRAY_INT_INDEX_SCALE"), (54, u "JLA"), (0, u "Ljdk/internal/access/JavaLangAccess;"), (11, u "LOG2_ARRAY_BOOLEAN_INDEX_SCALE"), (9, u "LOG2_ARRAY_BYTE_INDEX_SCALE"), (5, u "LOG2_ARRAY_CHAR_INDEX_SCALE"), (5, u "LOG2_ARRAY_SHORT_INDEX_SCALE"), (18, u "LOG2_ARRAY_FLOAT_INDEX_SCALE"), (24, u "LOG2_ARRAY_DOUBLE_INDEX_SCALE"), (89, u "T_BOOLEAN"), (2, u "T_CHAR"), (1, u "T_FLOAT"), (1, u "T_DOUBLE"), (1, u "T_BYTE"), (1, u "T_SHORT"), (1, u "T_INT"), (1, u "T_LONG"), (1, u "SOFT_MAX_ARRAY_LENGTH")] 83

def k14m0 : Method := { name := "<init>", desc := "()V", sig := { parameters := [], returnType := none }, accessFlags := 2, code := none }
/-- jdk/internal/util/ArraysSupport -/
def k14 : Class := { plain "jdk/internal/util/ArraysSupport" (some 0) with
  accessFlags := 33
  interfaces := #[]
  cf := some (fileOf pool14 21 #[] #[{ accessFlags := 2, nameIndex := 9, descriptorIndex := 19, attributes := #[] }] 33 16 #[] #[{ accessFlags := 24, nameIndex := 28, descriptorIndex := 29, attributes := #[] }, { accessFlags := 26, nameIndex := 38, descriptorIndex := 39, attributes := #[] }, { accessFlags := 25, nameIndex := 121, descriptorIndex := 25, attributes := #[] }, { accessFlags := 25, nameIndex := 131, descriptorIndex := 25, attributes := #[] }, { accessFlags := 25, nameIndex := 137, descriptorIndex := 25, attributes := #[] }, { accessFlags := 25, nameIndex := 143, descriptorIndex := 25, attributes := #[] }, { accessFlags := 25, nameIndex := 53, descriptorIndex := 25, attributes := #[] }, { accessFlags := 25, nameIndex := 24, descriptorIndex := 25, attributes := #[] }, { accessFlags := 25, nameIndex := 162, descriptorIndex := 25, attributes := #[] }, { accessFlags := 25, nameIndex := 187, descriptorIndex := 25, attributes := #[] }, { accessFlags := 26, nameIndex := 48, descriptorIndex := 25, attributes := #[] }, { accessFlags := 25, nameIndex := 277, descriptorIndex := 25, attributes := #[] }, { accessFlags := 25, nameIndex := 280, descriptorIndex := 25, attributes := #[] }, { accessFlags := 25, nameIndex := 282, descriptorIndex := 25, attributes := #[] }, { accessFlags := 25, nameIndex := 284, descriptorIndex := 25, attributes := #[] }, { accessFlags := 25, nameIndex := 286, descriptorIndex := 25, attributes := #[] }, { accessFlags := 25, nameIndex := 288, descriptorIndex := 25, attributes := #[] }, { accessFlags := 25, nameIndex := 290, descriptorIndex := 25, attributes := #[] }, { accessFlags := 25, nameIndex := 292, descriptorIndex := 25, attributes := #[] }, { accessFlags := 26, nameIndex := 108, descriptorIndex := 109, attributes := #[] }, { accessFlags := 25, nameIndex := 294, descriptorIndex := 25, attributes := #[] }])
  fields := #[{ name := "U", type := (.object "jdk/internal/misc/Unsafe"), accessFlags := 24, slot := 0, constantValue := 0 }, { name := "BIG_ENDIAN", type := .boolean, accessFlags := 26, slot := 1, constantValue := 0 }, { name := "LOG2_ARRAY_BOOLEAN_INDEX_SCALE", type := .int, accessFlags := 25, slot := 2, constantValue := 0 }, { name := "LOG2_ARRAY_BYTE_INDEX_SCALE", type := .int, accessFlags := 25, slot := 3, constantValue := 0 }, { name := "LOG2_ARRAY_CHAR_INDEX_SCALE", type := .int, accessFlags := 25, slot := 4, constantValue := 0 }, { name := "LOG2_ARRAY_SHORT_INDEX_SCALE", type := .int, accessFlags := 25, slot := 5, constantValue := 0 }, { name := "LOG2_ARRAY_INT_INDEX_SCALE", type := .int, accessFlags := 25, slot := 6, constantValue := 0 }, { name := "LOG2_ARRAY_LONG_INDEX_SCALE", type := .int, accessFlags := 25, slot := 7, constantValue := 0 }, { name := "LOG2_ARRAY_FLOAT_INDEX_SCALE", type := .int, accessFlags := 25, slot := 8, constantValue := 0 }, { name := "LOG2_ARRAY_DOUBLE_INDEX_SCALE", type := .int, accessFlags := 25, slot := 9, constantValue := 0 }, { name := "LOG2_BYTE_BIT_SIZE", type := .int, accessFlags := 26, slot := 10, constantValue := 0 }, { name := "T_BOOLEAN", type := .int, accessFlags := 25, slot := 11, constantValue := 0 }, { name := "T_CHAR", type := .int, accessFlags := 25, slot := 12, constantValue := 0 }, { name := "T_FLOAT", type := .int, accessFlags := 25, slot := 13, constantValue := 0 }, { name := "T_DOUBLE", type := .int, accessFlags := 25, slot := 14, constantValue := 0 }, { name := "T_BYTE", type := .int, accessFlags := 25, slot := 15, constantValue := 0 }, { name := "T_SHORT", type := .int, accessFlags := 25, slot := 16, constantValue := 0 }, { name := "T_INT", type := .int, accessFlags := 25, slot := 17, constantValue := 0 }, { name := "T_LONG", type := .int, accessFlags := 25, slot := 18, constantValue := 0 }, { name := "JLA", type := (.object "jdk/internal/access/JavaLangAccess"), accessFlags := 26, slot := 19, constantValue := 0 }, { name := "SOFT_MAX_ARRAY_LENGTH", type := .int, accessFlags := 25, slot := 20, constantValue := 0 }]
  methods := #[k14m0]
  instanceTypes := #[]
  staticTypes := #[(.object "jdk/internal/misc/Unsafe"), .boolean, .int, .int, .int, .int, .int, .int, .int, .int, .int, .int, .int, .int, .int, .int, .int, .int, .int, (.object "jdk/internal/access/JavaLangAccess"), .int]
  resolved := Array.replicate 378 none
  statics := none }

/-- the primitive byte -/
def k15 : Class := { plain "byte" none with kind := .primitive 'B', accessFlags := 0x411 }
/-- [B -/
def k16 : Class := { plain "[B" (some 0) with kind := .array 15 .byte, interfaces := #[12, 2], accessFlags := 1041 }

/-- the primitive char -/
def k17 : Class := { plain "char" none with kind := .primitive 'C', accessFlags := 0x411 }
/-- [C -/
def k18 : Class := { plain "[C" (some 0) with kind := .array 17 .char, interfaces := #[12, 2], accessFlags := 1041 }

/-- the primitive int -/
def k19 : Class := { plain "int" none with kind := .primitive 'I', accessFlags := 0x411 }
/-- [I -/
def k20 : Class := { plain "[I" (some 0) with kind := .array 19 .int, interfaces := #[12, 2], accessFlags := 1041 }

/-- [Lcom/example/claviger/claviger/engine/Effect; -/
def k21 : Class := { plain "[Lcom/example/claviger/claviger/engine/Effect;" (some 0) with kind := .array 11 (.object "com/example/claviger/claviger/engine/Effect"), interfaces := #[12, 2], accessFlags := 1041 }

def heap : Heap := #[{ cls := 7, slots := #[.long 0, .int 1, .null, .int 0, .null, .int 0, .int 0], vm := .statics 7 },
  { cls := 11, slots := #[.ref 8, .ref 9, .ref 3], vm := .statics 11 },
  { cls := 13, slots := #[.null, .null, .null], vm := .statics 13 },
  { cls := 21, slots := #[.ref 8, .ref 9], vm := .none },
  { cls := 16, slots := #[.int 97, .int 108, .int 108, .int 111, .int 119], vm := .none },
  { cls := 16, slots := #[.int 102, .int 111, .int 114, .int 98, .int 105, .int 100], vm := .none },
  { cls := 7, slots := #[.ref 4, .int 0, .int 0, .int 0], vm := .none },
  { cls := 7, slots := #[.ref 5, .int 0, .int 0, .int 0], vm := .none },
  { cls := 11, slots := #[.null, .int 0, .int 0, .ref 6], vm := .none },
  { cls := 11, slots := #[.null, .int 0, .int 0, .ref 7], vm := .none }]
def classes : Array Class := #[k0, k1, k2, k3, k4, k5, k6, k7, k8, k9, k10, k11, k12, k13, k14, k15, k16, k17, k18, k19, k20, k21]
def interned : List (Array UInt16 × Addr) := []
def slotsUsed : Nat := 42
def theMethod : MethodId := ⟨1, 1⟩
def args0 : Array Value := #[.int 1, .long 66, .int 3]
def aboutOver (below : List Frame) : State where
  vm := { classes := classes, interned := interned.toArray }
  heap := heap
  slotsUsed := slotsUsed
  threads := #[{ frames := .invoking theMethod args0 :: below }]
def below0 : List Frame := [.native { method := ⟨0, 0⟩, args := #[] }]
def about1 : State := aboutOver below0
def p0 : Program := .bare "" "" ""
def e0 : Env := launch0.env 0 0 0
theorem w_frames : about1.frames = Frame.invoking theMethod args0 :: below0 := rfl
set_option maxRecDepth 65536 in
theorem w_args : argsFit about1.vm theMethod args0 = true := by decide +kernel
set_option maxRecDepth 65536 in
theorem w_heap : heapFits about1 = true := by decide +kernel
set_option maxRecDepth 65536 in
theorem w_runnable : about1.curStatus? = some .runnable := by decide +kernel
set_option maxRecDepth 65536 in
theorem w_alone : about1.alone = true := by decide +kernel
set_option maxRecDepth 65536 in
theorem w_named : about1.methodNamed? x = some theMethod := by decide +kernel
set_option maxRecDepth 65536 in
theorem w_hears : about1.hears theMethod below0 = true := by decide +kernel
set_option maxRecDepth 65536 in
theorem w_ripe : about1.ripe theMethod args0 below0 = true := by decide +kernel
theorem w_running : about1.status = .running := rfl
set_option maxRecDepth 65536 in
theorem w_room : about1.hasRoom e0.platform room_1 = true :=
  launch0.hasRoom_least _ room_1 (by decide +kernel) (by decide +kernel) (by decide +kernel) (by decide +kernel) (by decide +kernel) (by decide +kernel)
theorem allAtoms_all (ts : List Jvm.Cond) (a : Array Jvm.Value) (st : Jvm.State) : (allAtoms ts).before a st = ts.all (fun c => c.before a st) := by
  induction ts with
  | nil => rfl
  | cons c t ih =>
    show (Jvm.Cond.and c (allAtoms t)).before a st = _
    rw [Jvm.Cond.before_and, ih, List.all_cons]
def words1 : List Jvm.Cond := Jvm.Cond.code x code maxLocals ret :: tables_1
/-- a 'code' word, met by the world's own term for the bytes: nothing is compared byte by byte -/
theorem code_word {y : MethodName} {bytes : ByteArray} {mx : Nat} {rt : Option FieldType} {a : Array Value} {s : State} {m : MethodId} {meth : Method} {c : Code} (h1 : s.methodNamed? y = some m) (h2 : s.vm.method? m = some meth) (h3 : meth.code = some c) (h4 : c.code = bytes)
    (h5 : (c.maxLocals == mx && c.exceptionTable.isEmpty && decide (c.maxStack ≤ mostOperands) && decide (meth.sig.returnType = rt) && !meth.locks && decide (parseMethodDescriptor y.desc = some meth.sig)) = true) : (Jvm.Cond.code y bytes mx rt).before a s = true := by
  simp only [Bool.and_eq_true, beq_iff_eq, Bool.not_eq_true', decide_eq_true_eq] at h5
  obtain ⟨⟨⟨⟨⟨g1, g2⟩, g3⟩, g4⟩, g5⟩, g6⟩ := h5
  simp [Cond.before, Cond.holds, Cond.value, h1, h2, h3, h4, g1, g2, g3, g4, g5, g6]
def isCode : Jvm.Cond → Bool
  | .code _ _ _ _ => true
  | _ => false
theorem all_split {L : List Jvm.Cond} {P : Jvm.Cond → Bool} (h1 : L.all (fun c => isCode c || P c) = true) (h2 : ∀ c ∈ L.filter isCode, P c = true) : L.all P = true := by
  refine List.all_eq_true.mpr fun c hc => ?_
  have h := List.all_eq_true.mp h1 c hc
  rcases Bool.eq_false_or_eq_true (isCode c) with hi | hi
  · exact h2 c (List.mem_filter.mpr ⟨hc, hi⟩)
  · simpa [hi] using h
set_option maxRecDepth 65536 in
theorem w_c0 : (Jvm.Cond.code x code maxLocals ret).before args0 about1 = true := code_word (m := ⟨1, 1⟩) (meth := k1m1) (c := k1c1) (by decide +kernel) rfl rfl rfl (by decide +kernel)
set_option maxRecDepth 65536 in
theorem w_c1 : (Jvm.Cond.code ({ cls := "com/example/claviger/claviger/engine/EffectNamedPinLaw", name := "make", desc := "([CI)Ljava/lang/String;" } : Jvm.MethodName) method_3_code (2 : Nat) (Option.some (Jvm.ClassFile.FieldType.object "java/lang/String"))).before args0 about1 = true := code_word (m := ⟨1, 2⟩) (meth := k1m2) (c := k1c2) (by decide +kernel) rfl rfl rfl (by decide +kernel)
set_option maxRecDepth 65536 in
theorem w_c2 : (Jvm.Cond.code ({ cls := "java/lang/String", name := "<init>", desc := "([C)V" } : Jvm.MethodName) jdk_42_method_3_code (2 : Nat) (Option.none : Option Jvm.ClassFile.FieldType)).before args0 about1 = true := code_word (m := ⟨7, 1⟩) (meth := k7m1) (c := k7c1) (by decide +kernel) rfl rfl rfl (by decide +kernel)
set_option maxRecDepth 65536 in
theorem w_c3 : (Jvm.Cond.code ({ cls := "java/lang/String", name := "<init>", desc := "([CIILjava/lang/Void;)V" } : Jvm.MethodName) jdk_42_method_149_code (6 : Nat) (Option.none : Option Jvm.ClassFile.FieldType)).before args0 about1 = true := code_word (m := ⟨7, 3⟩) (meth := k7m3) (c := k7c3) (by decide +kernel) rfl rfl rfl (by decide +kernel)
set_option maxRecDepth 65536 in
theorem w_c4 : (Jvm.Cond.code ({ cls := "java/lang/Object", name := "<init>", desc := "()V" } : Jvm.MethodName) object_method_1_code (1 : Nat) (Option.none : Option Jvm.ClassFile.FieldType)).before args0 about1 = true := code_word (m := ⟨0, 0⟩) (meth := k0m0) (c := k0c0) (by decide +kernel) rfl rfl rfl (by decide +kernel)
set_option maxRecDepth 65536 in
theorem w_c5 : (Jvm.Cond.code ({ cls := "java/lang/StringUTF16", name := "compress", desc := "([CII)[B" } : Jvm.MethodName) jdk_52_method_16_code (6 : Nat) (Option.some (Jvm.ClassFile.FieldType.array Jvm.ClassFile.FieldType.byte))).before args0 about1 = true := code_word (m := ⟨8, 2⟩) (meth := k8m2) (c := k8c2) (by decide +kernel) rfl rfl rfl (by decide +kernel)
set_option maxRecDepth 65536 in
theorem w_c6 : (Jvm.Cond.code ({ cls := "java/lang/StringUTF16", name := "compress", desc := "([CI[BII)I" } : Jvm.MethodName) jdk_52_method_21_code (7 : Nat) (Option.some Jvm.ClassFile.FieldType.int)).before args0 about1 = true := code_word (m := ⟨8, 3⟩) (meth := k8m3) (c := k8c3) (by decide +kernel) rfl rfl rfl (by decide +kernel)
set_option maxRecDepth 65536 in
theorem w_c7 : (Jvm.Cond.code ({ cls := "java/lang/StringUTF16", name := "coderFromArrayLen", desc := "([BI)B" } : Jvm.MethodName) jdk_52_method_15_code (2 : Nat) (Option.some Jvm.ClassFile.FieldType.byte)).before args0 about1 = true := code_word (m := ⟨8, 1⟩) (meth := k8m1) (c := k8c1) (by decide +kernel) rfl rfl rfl (by decide +kernel)
set_option maxRecDepth 65536 in
theorem w_c8 : (Jvm.Cond.code ({ cls := "java/lang/String", name := "equals", desc := "(Ljava/lang/Object;)Z" } : Jvm.MethodName) jdk_42_method_66_code (3 : Nat) (Option.some Jvm.ClassFile.FieldType.boolean)).before args0 about1 = true := code_word (m := ⟨7, 2⟩) (meth := k7m2) (c := k7c2) (by decide +kernel) rfl rfl rfl (by decide +kernel)
set_option maxRecDepth 65536 in
theorem w_c9 : (Jvm.Cond.code ({ cls := "java/lang/StringLatin1", name := "equals", desc := "([B[B)Z" } : Jvm.MethodName) jdk_43_method_13_code (3 : Nat) (Option.some Jvm.ClassFile.FieldType.boolean)).before args0 about1 = true := code_word (m := ⟨9, 1⟩) (meth := k9m1) (c := k9c1) (by decide +kernel) rfl rfl rfl (by decide +kernel)
set_option maxRecDepth 65536 in
theorem w_c10 : (Jvm.Cond.code ({ cls := "com/example/claviger/claviger/engine/Effect", name := "named", desc := "(Ljava/lang/String;)Lcom/example/claviger/claviger/engine/Effect;" } : Jvm.MethodName) prog_8_method_5_code (5 : Nat) (Option.some (Jvm.ClassFile.FieldType.object "com/example/claviger/claviger/engine/Effect"))).before args0 about1 = true := code_word (m := ⟨11, 1⟩) (meth := k11m1) (c := k11c1) (by decide +kernel) rfl rfl rfl (by decide +kernel)
set_option maxRecDepth 65536 in
theorem w_c11 : (Jvm.Cond.code ({ cls := "com/example/claviger/claviger/engine/Effect", name := "values", desc := "()[Lcom/example/claviger/claviger/engine/Effect;" } : Jvm.MethodName) prog_8_method_1_code (0 : Nat) (Option.some (Jvm.ClassFile.FieldType.array (Jvm.ClassFile.FieldType.object "com/example/claviger/claviger/engine/Effect")))).before args0 about1 = true := code_word (m := ⟨11, 0⟩) (meth := k11m0) (c := k11c0) (by decide +kernel) rfl rfl rfl (by decide +kernel)
def codes1 : List Jvm.Cond := [Jvm.Cond.code x code maxLocals ret, Jvm.Cond.code ({ cls := "com/example/claviger/claviger/engine/EffectNamedPinLaw", name := "make", desc := "([CI)Ljava/lang/String;" } : Jvm.MethodName) method_3_code (2 : Nat) (Option.some (Jvm.ClassFile.FieldType.object "java/lang/String")), Jvm.Cond.code ({ cls := "java/lang/String", name := "<init>", desc := "([C)V" } : Jvm.MethodName) jdk_42_method_3_code (2 : Nat) (Option.none : Option Jvm.ClassFile.FieldType), Jvm.Cond.code ({ cls := "java/lang/String", name := "<init>", desc := "([CIILjava/lang/Void;)V" } : Jvm.MethodName) jdk_42_method_149_code (6 : Nat) (Option.none : Option Jvm.ClassFile.FieldType), Jvm.Cond.code ({ cls := "java/lang/Object", name := "<init>", desc := "()V" } : Jvm.MethodName) object_method_1_code (1 : Nat) (Option.none : Option Jvm.ClassFile.FieldType), Jvm.Cond.code ({ cls := "java/lang/StringUTF16", name := "compress", desc := "([CII)[B" } : Jvm.MethodName) jdk_52_method_16_code (6 : Nat) (Option.some (Jvm.ClassFile.FieldType.array Jvm.ClassFile.FieldType.byte)), Jvm.Cond.code ({ cls := "java/lang/StringUTF16", name := "compress", desc := "([CI[BII)I" } : Jvm.MethodName) jdk_52_method_21_code (7 : Nat) (Option.some Jvm.ClassFile.FieldType.int), Jvm.Cond.code ({ cls := "java/lang/StringUTF16", name := "coderFromArrayLen", desc := "([BI)B" } : Jvm.MethodName) jdk_52_method_15_code (2 : Nat) (Option.some Jvm.ClassFile.FieldType.byte), Jvm.Cond.code ({ cls := "java/lang/String", name := "equals", desc := "(Ljava/lang/Object;)Z" } : Jvm.MethodName) jdk_42_method_66_code (3 : Nat) (Option.some Jvm.ClassFile.FieldType.boolean), Jvm.Cond.code ({ cls := "java/lang/StringLatin1", name := "equals", desc := "([B[B)Z" } : Jvm.MethodName) jdk_43_method_13_code (3 : Nat) (Option.some Jvm.ClassFile.FieldType.boolean), Jvm.Cond.code ({ cls := "com/example/claviger/claviger/engine/Effect", name := "named", desc := "(Ljava/lang/String;)Lcom/example/claviger/claviger/engine/Effect;" } : Jvm.MethodName) prog_8_method_5_code (5 : Nat) (Option.some (Jvm.ClassFile.FieldType.object "com/example/claviger/claviger/engine/Effect")), Jvm.Cond.code ({ cls := "com/example/claviger/claviger/engine/Effect", name := "values", desc := "()[Lcom/example/claviger/claviger/engine/Effect;" } : Jvm.MethodName) prog_8_method_1_code (0 : Nat) (Option.some (Jvm.ClassFile.FieldType.array (Jvm.ClassFile.FieldType.object "com/example/claviger/claviger/engine/Effect")))]
set_option maxRecDepth 65536 in
theorem codes_eq : words1.filter isCode = codes1 := rfl
theorem w_codes : ∀ c ∈ words1.filter isCode, c.before args0 about1 = true := by
  rw [codes_eq]
  intro c hc
  simp only [codes1, List.mem_cons, List.not_mem_nil, or_false] at hc
  rcases hc with rfl | rfl | rfl | rfl | rfl | rfl | rfl | rfl | rfl | rfl | rfl | rfl
  · exact w_c0
  · exact w_c1
  · exact w_c2
  · exact w_c3
  · exact w_c4
  · exact w_c5
  · exact w_c6
  · exact w_c7
  · exact w_c8
  · exact w_c9
  · exact w_c10
  · exact w_c11
set_option maxRecDepth 65536 in
theorem w_t1 : (words1.take 24).all (fun c => isCode c || c.before args0 about1) = true := by decide +kernel
set_option maxRecDepth 65536 in
theorem w_t2 : ((words1.drop 24).take 24).all (fun c => isCode c || c.before args0 about1) = true := by decide +kernel
set_option maxRecDepth 65536 in
theorem w_t3 : (((words1.drop 24).drop 24).take 24).all (fun c => isCode c || c.before args0 about1) = true := by decide +kernel
set_option maxRecDepth 65536 in
theorem w_t4 : (((words1.drop 24).drop 24).drop 24).all (fun c => isCode c || c.before args0 about1) = true := by decide +kernel
theorem w_tables : (allAtoms (Jvm.Cond.code x code maxLocals ret :: tables_1)).before args0 about1 = true := by
  rw [allAtoms_all]
  show words1.all (fun c => c.before args0 about1) = true
  refine all_split ?_ w_codes
  rw [← List.take_append_drop 24 words1, List.all_append, w_t1, ← List.take_append_drop 24 (words1.drop 24), List.all_append, w_t2, ← List.take_append_drop 24 ((words1.drop 24).drop 24), List.all_append, w_t3, w_t4]
  rfl
set_option maxRecDepth 65536 in
theorem w_rest : rest_1_c.before args0 about1 = true := by decide +kernel
set_option maxRecDepth 65536 in
theorem w_case : (Jvm.Cond.and given_1 narrow_1).before args0 about1 = true := by decide +kernel
set_option maxRecDepth 65536 in
theorem w_consts : constsHeld consts_1 about1 := Jvm.Lit.constsHeldB_iff.mp (by decide +kernel)
theorem w_applies : (headSpec (Jvm.Cond.code x code maxLocals ret :: tables_1) room_1).applies x e0.platform about1 = true :=
  (Spec.applies_iff w_frames).mpr ⟨w_running, w_runnable, w_alone, w_named, w_hears, w_ripe, w_room, w_tables⟩
theorem atStart : AtStart classFile x code maxLocals ret World_1 tables_1 room_1 Calls_1 rest_1 Pre_1 launch0 p0 e0 about1 theMethod args0 below0 :=
  ⟨lists_1, trivial, launch0.admits_env _ _ _, launch0.least_env, fairChoices_fair.cas, fairChoices_fair.clock, w_frames, w_args, w_heap, w_applies, ⟨w_consts, trivial⟩, w_rest, w_case⟩
end start1
theorem witness_1 : WitnessClaimed_1 := ⟨start1.p0, start1.e0, start1.about1, start1.theMethod, start1.args0, start1.below0, start1.atStart⟩
end Jvm.Pilot.@@N@@
