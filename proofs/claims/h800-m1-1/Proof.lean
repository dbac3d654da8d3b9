import JvmDerived
import JvmDerived.Pilot.@@N@@Statement
import JvmDerived.Pilot.@@N@@Code
set_option linter.unusedVariables false
set_option linter.unusedSimpArgs false
@@BLOCK:NumsL.lean.txt@@
namespace Jvm.Pilot.@@N@@
open Jvm Jvm.ClassFile Sem Op Lib Jvm.Free Jvm.Stand Jvm.LawKit Jvm.RoadKit Bundle Jvm.Pilot.@@N@@.Jvm.D
/-- from the state W the run comes to an end of which K holds -/
abbrev own_Gl (p : Program) (e : Env) (below : List Frame) (K : Outcome → State → Prop) (W : State) : Prop := ∃ s₂ o, Steps p.tables e below W s₂ ∧ s₂.status = .running ∧ Ended s₂ below o ∧ K o s₂
theorem own_by {p : Program} {e : Env} {below : List Frame} {K : Outcome → State → Prop} {W W' : State} (st : ∀ t, Steps p.tables e below W' t → Steps p.tables e below W t) (h : own_Gl p e below K W') : own_Gl p e below K W := by
  obtain ⟨s₂, o, h1, h2⟩ := h; exact ⟨s₂, o, st _ h1, h2⟩
theorem own_tr {p : Program} {e : Env} {below : List Frame} {K : Outcome → State → Prop} {W W' : State} (st : Steps p.tables e below W W') (h : own_Gl p e below K W') : own_Gl p e below K W := own_by (fun _ k => st.trans k) h
theorem own_w {Z : State} {a0 : Array Value} (hw : ∀ d ∈ tables_1, d.before a0 Z = true) (i : Nat) {d : Jvm.Cond} (h : tables_1[i]? = some d := by rfl) : d.before a0 Z = true := hw _ (List.mem_of_getElem? h)
theorem own_cat1 {v : Value} (h : v.isRef = true) : v.category = 1 := by cases v <;> first | rfl | cases h
theorem own_le {Z : State} {n0 : Nat} {h : Heap} (O : Old Z n0 h) : n0 ≤ h.size := O.1 ▸ O.2.1
theorem own_lclt {x y : Int64} (h : x < y) : ifCond.holds .lt (lcmpW x y) = true ∧ ifCond.holds .ge (lcmpW x y) = false := by
  have h1 : ¬ x > y := fun q => by rw [Int64.lt_iff_toInt_lt] at h; have q' : y < x := q; rw [Int64.lt_iff_toInt_lt] at q'; omega
  have h2 : ¬ x = y := fun q => by subst q; rw [Int64.lt_iff_toInt_lt] at h; omega
  rw [lcmpW, if_neg h1, if_neg h2]; exact ⟨by decide, by decide⟩
theorem own_lcnlt {x y : Int64} (h : ¬ x < y) : ifCond.holds .lt (lcmpW x y) = false ∧ ifCond.holds .ge (lcmpW x y) = true := by
  by_cases h1 : x > y
  · rw [lcmpW, if_pos h1]; exact ⟨by decide, by decide⟩
  · have h2 : x = y := by
      have q1 : ¬ y < x := h1
      rw [Int64.lt_iff_toInt_lt] at h q1; exact Int64.toInt_inj.mp (by omega)
    rw [lcmpW, if_neg h1, if_pos h2]; exact ⟨by decide, by decide⟩
theorem own_lcgt {x y : Int64} (h : y < x) : ifCond.holds .gt (lcmpW x y) = true ∧ ifCond.holds .le (lcmpW x y) = false := by
  have h1 : x > y := h
  rw [lcmpW, if_pos h1]; exact ⟨by decide, by decide⟩
theorem own_lcngt {x y : Int64} (h : ¬ y < x) : ifCond.holds .gt (lcmpW x y) = false ∧ ifCond.holds .le (lcmpW x y) = true := by
  have h1 : ¬ x > y := h
  rw [lcmpW, if_neg h1]
  by_cases h2 : x = y
  · rw [if_pos h2]; exact ⟨by decide, by decide⟩
  · rw [if_neg h2]; exact ⟨by decide, by decide⟩
theorem own_lceq {x y : Int64} (h : x = y) : ifCond.holds .eq (lcmpW x y) = true ∧ ifCond.holds .ne (lcmpW x y) = false := by
  subst h
  have h1 : ¬ x > x := fun q => by have q' : x < x := q; rw [Int64.lt_iff_toInt_lt] at q'; omega
  rw [lcmpW, if_neg h1, if_pos rfl]; exact ⟨by decide, by decide⟩
theorem own_lcne {x y : Int64} (h : ¬ x = y) : ifCond.holds .eq (lcmpW x y) = false ∧ ifCond.holds .ne (lcmpW x y) = true := by
  by_cases h1 : x > y
  · rw [lcmpW, if_pos h1]; exact ⟨by decide, by decide⟩
  · rw [lcmpW, if_neg h1, if_neg h]; exact ⟨by decide, by decide⟩
theorem own_sta {Z : State} {args : Array Value} {C n d K : String} (h : (Jvm.Cond.exactly (Jvm.Term.static C n d) K).value args Z none Z [] = some true) (hi : (Jvm.Cond.initializedFor C n d).before args Z = true ∨ ((Jvm.Cond.initialized C).before args Z = true ∧ (Jvm.Cond.laysStatic C n d).before args Z = true)) :
    ∃ a, (Jvm.Term.static C n d).eval args Z none [] Z = some (.ref a) ∧ Sta Z Z.heap C n d (.ref a) ∧ Exa Z Z.heap a K := by
  obtain ⟨a, ev⟩ := exa_v h
  exact ⟨a, ev, Sta.start ev hi, Exa.start ev h⟩
theorem own_fldI {Z : State} {args : Array Value} {t : Jvm.Term} {a : Addr} {C n d : String} {k : Int32} (ev : t.eval args Z none [] Z = some (.ref a)) (h : (Jvm.Cond.eq (Jvm.Term.field t C n d) (Jvm.Term.int k)).value args Z none Z [] = some true) : Fld Z Z.heap a C n d (.int k) := by
  obtain ⟨x, y, hx, hy, -, -⟩ := cmp_v (Or.inl h)
  cases Option.some.inj ((Term.int_eval k).symm.trans hy)
  refine Fld.start ?_
  rw [← fld_at ev, hx]
  cases x <;> simp_all [Cond.value, Term.eval]
theorem own_fldJ {Z : State} {args : Array Value} {t : Jvm.Term} {a : Addr} {C n d : String} {k : Int64} (ev : t.eval args Z none [] Z = some (.ref a)) (h : (Jvm.Cond.eq (Jvm.Term.field t C n d) (Jvm.Term.long k)).value args Z none Z [] = some true) : Fld Z Z.heap a C n d (.long k) := by
  obtain ⟨x, y, hx, hy, -, -⟩ := cmp_v (Or.inl h)
  have hy' : (Jvm.Term.long k).eval args Z none [] Z = some (.long k) := by simp [Term.eval]
  cases Option.some.inj (hy'.symm.trans hy)
  refine Fld.start ?_
  rw [← fld_at ev, hx]
  cases x <;> simp_all [Cond.value, Term.eval]
theorem own_len {Z : State} {args : Array Value} {t : Jvm.Term} {a : Addr} {cl : Cell} {ty : FieldType} {n : Int32} (ev : t.eval args Z none [] Z = some (.ref a)) (A : Arr Z Z.heap a cl ty) (h : (Jvm.Cond.eq (Jvm.Term.length t) (Jvm.Term.int n)).value args Z none Z [] = some true) : cl.slots.size < 2 ^ 31 ∧ cl.slots.size.toInt32 = n := by
  have ha : Z.arrayAt? a = some cl := Arr.fin (U := Z) (Vm.Alike.refl _) A
  by_cases hq : cl.slots.size < 2 ^ 31
  · refine ⟨hq, ?_⟩
    have e1 := len_f (args := args) (first := Z) (o := none) (idx := []) ev ha hq
    simpa [Cond.value, e1, Term.int_eval] using h
  · exfalso
    obtain ⟨x, y, hx, -⟩ := cmp_v (Or.inl h)
    simp [Term.eval, ev, ha] at hx
    omega
theorem own_elem {Z : State} {args : Array Value} {t u : Jvm.Term} {a w : Addr} {cl : Cell} {ty : FieldType} {j : Int32} (ev : t.eval args Z none [] Z = some (.ref a)) (A : Arr Z Z.heap a cl ty) (evu : u.eval args Z none [] Z = some (.ref w)) (h : (Jvm.Cond.eq (Jvm.Term.elem t (Jvm.Term.int j)) u).value args Z none Z [] = some true) : cl.slots[j.toNatClampNeg]? = some (.ref w) := by
  obtain ⟨x, y, hx, hy, k1, k2⟩ := cmp_v (Or.inl h)
  cases Option.some.inj (evu.symm.trans hy)
  have q := (elem_in hx ev (Term.int_eval j) A.1).2
  rw [q]
  cases x <;> simp [Cond.value, hx, evu] at h ⊢
  exact h
def own_Wd (Z : State) (cs : Int32) : Prop := Sta Z Z.heap "java/lang/String" "COMPACT_STRINGS" "Z" (.int cs) ∧ ¬ cs = (0 : Int32)
theorem own_wS {Z : State} {a0 : Array Value} (hw : ∀ d ∈ tables_1, d.before a0 Z = true) : ∀ a ∈ Bundle.stringAtoms, a.before a0 Z = true := by
  intro d hd
  simp only [Bundle.stringAtoms, List.mem_cons, List.not_mem_nil, or_false] at hd
  rcases hd with rfl | rfl | rfl | rfl | rfl | rfl | rfl
  · exact own_w hw 9
  · exact own_w hw 17
  · exact own_w hw 21
  · exact own_w hw 30
  · exact own_w hw 32
  · exact own_w hw 38
  · exact own_w hw 39
/-- a String of one byte -/
def own_S1 (Z : State) (h : Heap) (a : Addr) (x : Int32) : Prop := Exa Z h a "java/lang/String" ∧ Fld Z h a "java/lang/String" "coder" "B" (.int (0 : Int32)) ∧ ∃ (b : Addr) (k : ClassId), Fld Z h a "java/lang/String" "value" "[B" (.ref b) ∧ Arv Z h b k .byte (1 : Int32) [(.int x)] (.int (0 : Int32))
theorem own_S1.ext {Z : State} {h h' : Heap} {a : Addr} {x : Int32} (F : own_S1 Z h a x) (E : Ext h h') : own_S1 Z h' a x := by
  obtain ⟨h1, h2, b, k, h3, h4⟩ := F
  exact ⟨h1.ext E, h2.ext E, b, k, h3.ext E, h4.ext E⟩
theorem own_S1.keep0 {Z : State} {h h' : Heap} {a : Addr} {x : Int32} (F : own_S1 Z h a x) (K : Keep h h' []) : own_S1 Z h' a x := by
  obtain ⟨h1, h2, b, k, h3, h4⟩ := F
  exact ⟨h1.keep K, h2.keep K nin0, b, k, h3.keep K nin0, h4.keep K nin0⟩
theorem own_S1.keep1 {Z : State} {h h' : Heap} {a u : Addr} {x : Int32} {a0 : Array Value} {U : String} {k0 : Nat} (F : own_S1 Z h a x) (K : Keep h h' [u]) (E : Exa Z h u U) (wi : (Jvm.Cond.instantiable U k0).before a0 Z = true) (hn : "java/lang/String" ≠ U) : own_S1 Z h' a x := by
  obtain ⟨h1, h2, b, k, h3, h4⟩ := F
  have n1 : a ≠ u := ne_exa h1 E hn
  have n2 : b ≠ u := by
    obtain ⟨cl, A, -⟩ := id h4
    exact (ne_arr E wi A).symm
  exact ⟨h1.keep K, h2.keep K (ninS n1 nin0), b, k, h3.keep K (ninS n1 nin0), h4.keep K (ninS n2 nin0)⟩
theorem own_fldeq {Z : State} {h : Heap} {a : Addr} {C n d : String} {v w : Value} (F : Fld Z h a C n d v) (G : Fld Z h a C n d w) : v = w := by
  obtain ⟨c1, cf, k, i, f, h1, h2, -, -, -, -, h7⟩ := F
  obtain ⟨c2, cf', k', i', f', g1, g2, -, -, -, -, g7⟩ := G
  cases h1.symm.trans g1
  cases h2.symm.trans g2
  exact Option.some.inj (h7.symm.trans g7)
theorem own_S1.inj {Z : State} {h : Heap} {a : Addr} {x y : Int32} (F : own_S1 Z h a x) (G : own_S1 Z h a y) : x = y := by
  obtain ⟨-, -, b, k, h3, cl, A, -, S, -, H, -⟩ := F
  obtain ⟨-, -, b', k', g3, cl', A', -, S', -, H', -⟩ := G
  cases own_fldeq h3 g3
  cases A.1.symm.trans A'.1
  have e1 := H 0 (by rw [S]; decide)
  have e2 := H' 0 (by rw [S']; decide)
  cases e1.symm.trans e2
  rfl
def own_eq (x y : Int32) : Int32 := if x = y then (1 : Int32) else (0 : Int32)
/-- a sign's byte, as a String of that sign holds it -/
def own_b (p : Int32) : Int32 := nar .byte (((p &&& (255 : Int32)).toUInt32.toUInt16.toUInt32.toInt32).toInt8.toInt32)
/-- an int of 0 to 255 -/
def own_lo (x : Int32) : Prop := x &&& (255 : Int32) = x
theorem own_lo_and (x : Int32) : own_lo (x &&& (255 : Int32)) := by
  unfold own_lo
  rw [Int32.and_assoc, Int32.and_self]
theorem own_lo_of {x y : Int32} (h : (x &&& (255 : Int32)) = y) : own_lo y := h ▸ own_lo_and x
theorem own_lonat {x : Int32} (h : own_lo x) : ∃ n : Fin 256, x = Int32.ofNat n.val := by
  have e : (x &&& (255 : Int32)).toInt = x.toInt % 2 ^ 8 := Jvm.Kit.i32_mask x 255 (k := 8) (by decide) (by decide)
  rw [h] at e
  refine ⟨⟨x.toInt.toNat, by omega⟩, Int32.toInt_inj.mp ?_⟩
  rw [Int32.toInt_ofNat_of_lt (by show x.toInt.toNat < _; omega)]
  show x.toInt = (x.toInt.toNat : Int)
  omega
theorem own_back : ∀ n : Fin 256, (own_b (Int32.ofNat n.val)) &&& (255 : Int32) = Int32.ofNat n.val := by decide +kernel
theorem own_binj {x y : Int32} (hx : own_lo x) (hy : own_lo y) : own_b x = own_b y ↔ x = y := by
  refine ⟨fun h => ?_, fun h => by rw [h]⟩
  obtain ⟨n, rfl⟩ := own_lonat hx
  obtain ⟨k, rfl⟩ := own_lonat hy
  rw [← own_back n, ← own_back k, h]
theorem own_c256 : ∀ n : Fin 256, ¬ (255 : Int32) < ((Int32.ofNat n.val).toUInt32.toUInt16.toUInt32.toInt32) := by decide +kernel
theorem own_c255 (p : Int32) : ¬ (255 : Int32) < ((p &&& (255 : Int32)).toUInt32.toUInt16.toUInt32.toInt32) := by
  obtain ⟨n, e⟩ := own_lonat (own_lo_and p)
  rw [e]; exact own_c256 n
theorem own_NSroot {Z : State} {a0 : Array Value} {O K : String} {t : ClassId} (w : (Jvm.Cond.noSuperclass O).before a0 Z = true) (g1 : Z.vm.findClass K = some t) (hn : O ≠ K) : NS Z O K := by
  obtain ⟨c, k, h1, h2, h3, -, -⟩ := Cond.noSuperclass_spec w
  have ne := ids_ne h1 g1 hn
  refine ⟨c, t, h1, g1, fun fuel => ?_⟩
  cases fuel with
  | zero => rfl
  | succ f => simp [Vm.isSubclassAux, ne, h2, h3]
theorem own_NSno {Z : State} {a0 : Array Value} {C S K : String} {kn : Nat} (w : (Jvm.Cond.superclass C S).before a0 Z = true) (wk : (Jvm.Cond.instantiable K kn).before a0 Z = true) (n : NS Z C K) (hn : C ≠ K) : ∃ c t, Z.vm.findClass C = some c ∧ Z.vm.findClass K = some t ∧ Z.vm.assignable c t = false := by
  obtain ⟨c, t, h0, g0, n3⟩ := n
  obtain ⟨p, k, kp, h1, h2, h3, h4, h5, -, h7⟩ := Cond.superclass_spec h0 w
  obtain ⟨t', k', g1, g2, g3, g4, -⟩ := Cond.instantiable_spec wk
  cases g0.symm.trans g1
  have g5 : k'.isInterface = false := by
    cases hq : k'.isInterface <;> simp [hq] at g4 ⊢
  have ne := ids_ne h0 g0 hn
  refine ⟨c, t, h0, g0, ?_⟩
  show Z.vm.assignableAux (255 + 1) c t = false
  simp [Vm.assignableAux, ne, h2, g2, h5, g3, g5, Vm.isSubclass, n3]
theorem own_noStr {Z : State} {a0 : Array Value} (hw : ∀ d ∈ tables_1, d.before a0 Z = true) : ∃ c t, Z.vm.findClass "java/lang/String" = some c ∧ Z.vm.findClass "com/example/claviger/claviger/engine/SeatHolding$Use" = some t ∧ Z.vm.assignable c t = false := by
  have wk := (own_w hw 1)
  obtain ⟨t, k, g1, -⟩ := Cond.instantiable_spec wk
  exact own_NSno (own_w hw 68) wk (NS.step (own_w hw 68) (own_NSroot (own_w hw 69) g1 (by decide)) (by decide)) (by decide)

theorem djdk_43_3_0 : decode jdk_43_method_3_code 0 = .ok (.iload_n 0, 1) := by decide +kernel
theorem djdk_43_3_1 : decode jdk_43_method_3_code 1 = .ok (.sipush 255, 3) := by decide +kernel
theorem djdk_43_3_4 : decode jdk_43_method_3_code 4 = .ok (.if_icmp .gt 7, 3) := by decide +kernel
theorem djdk_43_3_7 : decode jdk_43_method_3_code 7 = .ok (.iconst 1, 1) := by decide +kernel
theorem djdk_43_3_8 : decode jdk_43_method_3_code 8 = .ok (.goto 4, 3) := by decide +kernel
theorem djdk_43_3_12 : decode jdk_43_method_3_code 12 = .ok (.ireturn, 1) := by decide +kernel
theorem pn_java_lang_StringLatin1 : plainName "java/lang/StringLatin1" = true := by first | (simp [plainName, overriddenIn]; done) | decide +kernel
theorem efC (m : MethodId) (p0 : Int32) : entryFrame m #[(.int p0)] 1 = mkF m 0 #[.val (.int p0)] [] := by first | (simp [entryFrame, mkF, argsToLocals, Value.category]; done) | rfl
def QC (Z : State) (p0 : Int32) (h0 : Heap) (n0 : Nat) (v : Option Value) (h : Heap) (L : List Loc) : Prop := v = some (.int (1 : Int32)) ∧ Fr n0 L ∧ h = h0
abbrev own_KC (Z : State) (p0 : Int32) (h0 : Heap) (n0 : Nat) (s : State) : Outcome → State → Prop := fun o U' => ∃ v L, o = .returned v ∧ QC Z p0 h0 n0 v U'.heap L ∧ FrameEnd s o U' L ({ frames := 0, cells := 0, slots := 0, locals := 0 } : Room).cells ({ frames := 0, cells := 0, slots := 0, locals := 0 } : Room).slots
set_option maxRecDepth 65536 in
set_option maxHeartbeats 40000000 in
theorem rmC (l : Launch) (Z : State) (a0 : Array Value) (hw : ∀ d ∈ tables_1, d.before a0 Z = true) (ws : List Jvm.Cond) (p0 : Int32) (h0 : Heap) (n0 : Nat) (Z0 : n0 ≤ h0.size) (hc : ¬ (255 : Int32) < p0) :
    MetFree l (⟨"java/lang/StringLatin1", "canEncode", "(C)Z"⟩ : MethodName) (head1 (Jvm.Cond.code (⟨"java/lang/StringLatin1", "canEncode", "(C)Z"⟩ : MethodName) jdk_43_method_3_code 1 (some .boolean) :: ws) ({ frames := 0, cells := 0, slots := 0, locals := 0 } : Room)) (fun a U => a = #[(.int p0)] ∧ Z.Warmed39 U.vm ∧ U.heap = h0) (fun _ _ _ _ _ => True) (fun _ U o U' => ∃ v L, o = .returned v ∧ QC Z p0 h0 n0 v U'.heap L ∧ FrameEnd U o U' L ({ frames := 0, cells := 0, slots := 0, locals := 0 } : Room).cells ({ frames := 0, cells := 0, slots := 0, locals := 0 } : Room).slots) := by
  refine MetFree.of_bodySF (plainFor_of_name pn_java_lang_StringLatin1) hisR ?_
  intro p e s m args below meth c s₁ Bd hml0 hP hK
  obtain ⟨rfl, hZ, hh⟩ := hP
  have hx := Bd.exec
  have hby := Bd.bytes
  have hml : c.maxLocals = 1 := hml0
  have hown : s.vm.findClass "java/lang/StringLatin1" = some m.cls := findClass_of_methodNamed Bd.named
  have hnm := (name_of_methodNamed Bd.named Bd.method).1
  have X0 : Stand p l e ({ frames := 0, cells := 0, slots := 0, locals := 0 } : Room) s m #[(.int p0)] below meth c s₁ [] 0 0 := Stand.of_body Bd
  have e0 : s₁.heap = h0 := by rw [← hh, Bd.state]; rfl
  have N0 := Fr.nil n0
  refine own_by (p := p) (e := e) (below := below) (K := own_KC Z p0 h0 n0 s) (W' := s₁.setTop (mkF m 0 #[.val (.int p0)] [])) (fun t k => castTop (efC m p0) k) ?_
  obtain ⟨fs, hr, hrun, hended, hW, hsame⟩ := X0.leave (v := some (.int (1 : Int32))) (fun h => by rw [Bd.returns] at h; cases h)
  refine own_by (W' := (s₁.setTop (mkF m 12 #[.val (.int p0)] [(.int (1 : Int32))]))) (fun t k => XS.iloadN X0.here hx rfl (hb hby djdk_43_3_0) rfl (XS.sipush X0.here hx rfl (hb hby djdk_43_3_1) (XS.icmpNo X0.here hx rfl (hb hby djdk_43_3_4) rfl (flt hc).2.2.1 (XS.iconst X0.here hx rfl (hb hby djdk_43_3_7) (XS.goto X0.here hx rfl (pc0 := 8) (pc' := 12) rfl (hb hby djdk_43_3_8) (by decide) (by decide) k))))) ?_
  refine ⟨_, _, retOut X0 hx Bd.returns rfl (Or.inl ⟨rfl, Or.inr (Or.inl rfl), _, rfl⟩) (hb hby djdk_43_3_12) hr, hrun, hended, _, _, rfl, ?_, ⟨_, rfl⟩, hW, hsame.mono (by decide) (by decide)⟩
  exact ⟨rfl, N0, e0⟩
theorem djdk_43_46_0 : decode jdk_43_method_46_code 0 = .ok (.iconst 1, 1) := by decide +kernel
theorem djdk_43_46_1 : decode jdk_43_method_46_code 1 = .ok (.newarray .byte, 2) := by decide +kernel
theorem djdk_43_46_3 : decode jdk_43_method_46_code 3 = .ok (.dup, 1) := by decide +kernel
theorem djdk_43_46_4 : decode jdk_43_method_46_code 4 = .ok (.iconst 0, 1) := by decide +kernel
theorem djdk_43_46_5 : decode jdk_43_method_46_code 5 = .ok (.iload_n 0, 1) := by decide +kernel
theorem djdk_43_46_6 : decode jdk_43_method_46_code 6 = .ok (.i2b, 1) := by decide +kernel
theorem djdk_43_46_7 : decode jdk_43_method_46_code 7 = .ok (.bastore, 1) := by decide +kernel
theorem djdk_43_46_8 : decode jdk_43_method_46_code 8 = .ok (.areturn, 1) := by decide +kernel
theorem efB (m : MethodId) (p0 : Int32) : entryFrame m #[(.int p0)] 1 = mkF m 0 #[.val (.int p0)] [] := by first | (simp [entryFrame, mkF, argsToLocals, Value.category]; done) | rfl
def QB (Z : State) (p0 : Int32) (h0 : Heap) (n0 : Nat) (v : Option Value) (h : Heap) (L : List Loc) : Prop := ∃ (q : Addr) (kq : ClassId), v = some (.ref q) ∧ Fr n0 L ∧ Keep h0 h [] ∧ h0.size ≤ q ∧ Arv Z h q kq .byte (1 : Int32) [(.int (nar .byte (p0.toInt8.toInt32)))] (.int (0 : Int32))
abbrev own_KB (Z : State) (p0 : Int32) (h0 : Heap) (n0 : Nat) (s : State) : Outcome → State → Prop := fun o U' => ∃ v L, o = .returned v ∧ QB Z p0 h0 n0 v U'.heap L ∧ FrameEnd s o U' L ({ frames := 0, cells := 1, slots := 1, locals := 0 } : Room).cells ({ frames := 0, cells := 1, slots := 1, locals := 0 } : Room).slots
set_option maxRecDepth 65536 in
set_option maxHeartbeats 40000000 in
theorem rmB (l : Launch) (Z : State) (a0 : Array Value) (hw : ∀ d ∈ tables_1, d.before a0 Z = true) (ws : List Jvm.Cond) (p0 : Int32) (h0 : Heap) (n0 : Nat) (Z0 : n0 ≤ h0.size) (O0 : Old Z n0 h0) :
    MetFree l (⟨"java/lang/StringLatin1", "toBytes", "(C)[B"⟩ : MethodName) (head1 (Jvm.Cond.code (⟨"java/lang/StringLatin1", "toBytes", "(C)[B"⟩ : MethodName) jdk_43_method_46_code 1 (some (.array .byte)) :: ws) ({ frames := 0, cells := 1, slots := 1, locals := 0 } : Room)) (fun a U => a = #[(.int p0)] ∧ Z.Warmed39 U.vm ∧ U.heap = h0) (fun _ _ _ _ _ => True) (fun _ U o U' => ∃ v L, o = .returned v ∧ QB Z p0 h0 n0 v U'.heap L ∧ FrameEnd U o U' L ({ frames := 0, cells := 1, slots := 1, locals := 0 } : Room).cells ({ frames := 0, cells := 1, slots := 1, locals := 0 } : Room).slots) := by
  refine MetFree.of_bodySF (plainFor_of_name pn_java_lang_StringLatin1) hisR ?_
  intro p e s m args below meth c s₁ Bd hml0 hP hK
  obtain ⟨rfl, hZ, hh⟩ := hP
  have hx := Bd.exec
  have hby := Bd.bytes
  have hml : c.maxLocals = 1 := hml0
  have hown : s.vm.findClass "java/lang/StringLatin1" = some m.cls := findClass_of_methodNamed Bd.named
  have hnm := (name_of_methodNamed Bd.named Bd.method).1
  have X0 : Stand p l e ({ frames := 0, cells := 1, slots := 1, locals := 0 } : Room) s m #[(.int p0)] below meth c s₁ [] 0 0 := Stand.of_body Bd
  have e0 : s₁.heap = h0 := by rw [← hh, Bd.state]; rfl
  have N0 := Fr.nil n0
  refine own_by (p := p) (e := e) (below := below) (K := own_KB Z p0 h0 n0 s) (W' := s₁.setTop (mkF m 0 #[.val (.int p0)] [])) (fun t k => castTop (efB m p0) k) ?_
  obtain ⟨T21, h21, k21, X21, e21, E21, A21, st21⟩ := newP X0 hx hZ (own_w hw 21) e0 (g := (mkF m 1 #[.val (.int p0)] [(.int (1 : Int32))])) rfl (hb hby djdk_43_46_1) rfl (by decide) (cap := 1) (by decide) (by decide) (by decide) (by decide)
  obtain ⟨b21, g21⟩ : ∃ z, z = h0.size := ⟨_, rfl⟩
  rw [← g21] at A21 st21
  have g_b21 : n0 ≤ b21 := Nat.le_trans (own_le O0) (Nat.le_of_eq g21.symm)
  have sz_b21 : h0.size ≤ b21 := Nat.le_trans (Keep.refl h0 []).1 (Nat.le_of_eq g21.symm)
  have O21 := O0.ext E21
  have K21 := Keep.ext (Keep.refl h0 []) E21
  have V_b21 : Arv Z h21 b21 k21 .byte (1 : Int32) [(.int (0 : Int32))] (.int (0 : Int32)) := (Arv.new A21 (by decide)).pad (pad_rep [] (.int (0 : Int32)) 1)
  refine own_by (W' := (T21.setTop (mkF m 7 #[.val (.int p0)] [(.int (p0.toInt8.toInt32)), (.int (0 : Int32)), (.ref b21), (.ref b21)]))) (fun t k => XS.iconst X0.here hx rfl (hb hby djdk_43_46_0) (st21 _ (XS.dup X21.here hx rfl (hb hby djdk_43_46_3) rfl rfl (XS.iconst X21.here hx rfl (hb hby djdk_43_46_4) (XS.iloadN X21.here hx rfl (hb hby djdk_43_46_5) rfl (XS.i2b X21.here hx rfl (hb hby djdk_43_46_6) rfl k)))))) ?_
  obtain ⟨clu22, Aru22, qu22, Su22, Ngu22, Hau22, Gau22⟩ := id V_b21
  have hinu22 : ¬ ((0 : Int32) < 0 ∨ clu22.slots.size ≤ ((0 : Int32)).toNatClampNeg) := inb_of Su22 ⟨by decide, by decide⟩
  obtain ⟨T23, h23, X23, e23, W23, st23⟩ := stB X21 hx hZ e21 Aru22 (j := (0 : Int32)) hinu22 (g := (mkF m 7 #[.val (.int p0)] [(.int (p0.toInt8.toInt32)), (.int (0 : Int32)), (.ref b21), (.ref b21)])) rfl rfl (hb hby djdk_43_46_7)
  have Vu22 : Arv Z h23 b21 k21 .byte (1 : Int32) [(.int (nar .byte (p0.toInt8.toInt32)))] (.int (0 : Int32)) := Arv.set Aru22 qu22 Su22 Ngu22 Hau22 Gau22 (fits_nar_byte _) W23 0 rfl (Nat.le_of_ble_eq_true rfl)
  have O23 := Old.wr O21 W23 g_b21
  have N23 := Fr.snoc X23 N0 g_b21
  have K23 := Keep.wr K21 W23 (Or.inr sz_b21)
  obtain ⟨fs, hr, hrun, hended, hW, hsame⟩ := X23.leave (v := some (.ref b21)) (fun h => by rw [Bd.returns] at h; cases h)
  refine own_by (W' := (T23.setTop (mkF m 8 #[.val (.int p0)] [(.ref b21)]))) (fun t k => st23 _ k) ?_
  refine ⟨_, _, retOut X23 hx Bd.returns rfl (Or.inr (Or.inr (Or.inr (Or.inr ⟨rfl, rfl, rfl⟩)))) (hb hby djdk_43_46_8) hr, hrun, hended, _, _, rfl, ?_, ⟨_, rfl⟩, hW, hsame.mono (by decide) (by decide)⟩
  show QB Z p0 h0 n0 _ T23.heap _
  rw [e23]
  exact ⟨_, _, rfl, N23, K23, sz_b21, Vu22⟩
theorem djdk_42_151_0 : decode jdk_42_method_151_code 0 = .ok (.aload_n 0, 1) := by decide +kernel
theorem djdk_42_151_1 : decode jdk_42_method_151_code 1 = .ok (.invokespecial 1, 3) := by decide +kernel
theorem djdk_42_151_4 : decode jdk_42_method_151_code 4 = .ok (.aload_n 0, 1) := by decide +kernel
theorem djdk_42_151_5 : decode jdk_42_method_151_code 5 = .ok (.aload_n 1, 1) := by decide +kernel
theorem djdk_42_151_6 : decode jdk_42_method_151_code 6 = .ok (.putfield 9, 3) := by decide +kernel
theorem djdk_42_151_9 : decode jdk_42_method_151_code 9 = .ok (.aload_n 0, 1) := by decide +kernel
theorem djdk_42_151_10 : decode jdk_42_method_151_code 10 = .ok (.iload_n 2, 1) := by decide +kernel
theorem djdk_42_151_11 : decode jdk_42_method_151_code 11 = .ok (.putfield 15, 3) := by decide +kernel
theorem djdk_42_151_14 : decode jdk_42_method_151_code 14 = .ok (.return_, 1) := by decide +kernel
theorem pn_java_lang_String : plainName "java/lang/String" = true := by first | (simp [plainName, overriddenIn]; done) | decide +kernel
theorem efS (m : MethodId) (r0 : Addr) (r1 : Addr) : entryFrame m #[(.ref r0), (.ref r1), (.int (0 : Int32))] 3 = mkF m 0 #[.val (.ref r0), .val (.ref r1), .val (.int (0 : Int32))] [] := by first | (simp [entryFrame, mkF, argsToLocals, Value.category]; done) | rfl
def QS (Z : State) (r0 : Addr) (r1 : Addr) (h0 : Heap) (n0 : Nat) (v : Option Value) (h : Heap) (L : List Loc) : Prop := v = none ∧ Fr n0 L ∧ Keep h0 h [r0] ∧ Exa Z h r0 "java/lang/String" ∧ Fld Z h r0 "java/lang/String" "value" "[B" (.ref r1) ∧ Fld Z h r0 "java/lang/String" "coder" "B" (.int (0 : Int32))
abbrev own_KS (Z : State) (r0 : Addr) (r1 : Addr) (h0 : Heap) (n0 : Nat) (s : State) : Outcome → State → Prop := fun o U' => ∃ v L, o = .returned v ∧ QS Z r0 r1 h0 n0 v U'.heap L ∧ FrameEnd s o U' L ({ frames := 1, cells := 0, slots := 0, locals := 12 } : Room).cells ({ frames := 1, cells := 0, slots := 0, locals := 12 } : Room).slots
set_option maxRecDepth 65536 in
set_option maxHeartbeats 40000000 in
theorem rmS (l : Launch) (Z : State) (a0 : Array Value) (hw : ∀ d ∈ tables_1, d.before a0 Z = true) (ws : List Jvm.Cond) (r0 : Addr) (r1 : Addr) (h0 : Heap) (n0 : Nat) (Z0 : n0 ≤ h0.size) (O0 : Old Z n0 h0) (E0 : Exa Z h0 r0 "java/lang/String") (g_r0 : n0 ≤ r0) (F_value : Fld Z h0 r0 "java/lang/String" "value" "[B" .null) (F_coder : Fld Z h0 r0 "java/lang/String" "coder" "B" (.int (0 : Int32))) :
    MetFree l (⟨"java/lang/String", "<init>", "([BB)V"⟩ : MethodName) (head1 (Jvm.Cond.code (⟨"java/lang/String", "<init>", "([BB)V"⟩ : MethodName) jdk_42_method_151_code 3 none :: ws) ({ frames := 1, cells := 0, slots := 0, locals := 12 } : Room)) (fun a U => a = #[(.ref r0), (.ref r1), (.int (0 : Int32))] ∧ Z.Warmed39 U.vm ∧ U.heap = h0) (fun _ _ _ _ _ => True) (fun _ U o U' => ∃ v L, o = .returned v ∧ QS Z r0 r1 h0 n0 v U'.heap L ∧ FrameEnd U o U' L ({ frames := 1, cells := 0, slots := 0, locals := 12 } : Room).cells ({ frames := 1, cells := 0, slots := 0, locals := 12 } : Room).slots) := by
  refine MetFree.of_bodySF (plainFor_of_name pn_java_lang_String) hisR ?_
  intro p e s m args below meth c s₁ Bd hml0 hP hK
  obtain ⟨rfl, hZ, hh⟩ := hP
  have hx := Bd.exec
  have hby := Bd.bytes
  have hml : c.maxLocals = 3 := hml0
  have hown : s.vm.findClass "java/lang/String" = some m.cls := findClass_of_methodNamed Bd.named
  have hnm := (name_of_methodNamed Bd.named Bd.method).1
  have X0 : Stand p l e ({ frames := 1, cells := 0, slots := 0, locals := 12 } : Room) s m #[(.ref r0), (.ref r1), (.int (0 : Int32))] below meth c s₁ [] 0 0 := Stand.of_body Bd
  have e0 : s₁.heap = h0 := by rw [← hh, Bd.state]; rfl
  have N0 := Fr.nil n0
  refine own_by (p := p) (e := e) (below := below) (K := own_KS Z r0 r1 h0 n0 s) (W' := s₁.setTop (mkF m 0 #[.val (.ref r0), .val (.ref r1), .val (.int (0 : Int32))] [])) (fun t k => castTop (efS m r0 r1) k) ?_
  obtain ⟨T21, X21, e21, st21⟩ := initO X0 hx hZ hown (own_w hw 26) (own_w hw 27) (own_w hw 28) e0 (g := (mkF m 1 #[.val (.ref r0), .val (.ref r1), .val (.int (0 : Int32))] [(.ref r0)])) rfl (by rw [hml]; rfl) rfl (hb hby djdk_42_151_1) (by decide) (W := 0) (by show 2 * 0 + _ ≤ _; exact Nat.le_of_eq rfl) (by decide)
  obtain ⟨T22, h22, X22, e22, W22, st22⟩ := putF X21 hx hZ hown (host := "") (Or.inl (own_w hw 29)) Via.refl e21 F_value E0 (Or.inr ⟨(own_w hw 30), rfl, hnm⟩) (own_w hw 17) (ty := (.array .byte)) (by decide) rfl rfl (g := (mkF m 6 #[.val (.ref r0), .val (.ref r1), .val (.int (0 : Int32))] [(.ref r1), (.ref r0)])) rfl rfl (hb hby djdk_42_151_6)
  have Fw22 := F_value.same W22
  have O22 := Old.wr O0 W22 g_r0
  have N22 := Fr.snoc X22 N0 g_r0
  have K22 := Keep.wr (Keep.refl h0 [r0]) W22 (Or.inl (List.mem_of_getElem? (i := 0) rfl))
  refine own_by (W' := (T22.setTop (mkF m 10 #[.val (.ref r0), .val (.ref r1), .val (.int (0 : Int32))] [(.ref r0)]))) (fun t k => XS.aloadN X0.here hx rfl (hb hby djdk_42_151_0) rfl rfl (st21 _ (XS.aloadN X21.here hx rfl (hb hby djdk_42_151_4) rfl rfl (XS.aloadN X21.here hx rfl (hb hby djdk_42_151_5) rfl rfl (st22 _ (XS.aloadN X22.here hx rfl (hb hby djdk_42_151_9) rfl rfl k)))))) ?_
  obtain ⟨T23, h23, X23, e23, W23, st23⟩ := putFN X22 hx hZ hown (own_w hw 31) Via.refl e22 (F_coder.other W22 (Or.inr (slot_ne (Or.inr (own_w hw 32)) (Or.inr (own_w hw 30)) (by decide) (t := .byte) (t' := (.array .byte)) (by decide) (by decide)))) (E0.wr W22) (Or.inr ⟨(own_w hw 32), rfl, hnm⟩) (own_w hw 17) (ty := .byte) (v' := .int (0 : Int32)) (by decide) rfl (by decide) (g := (mkF m 11 #[.val (.ref r0), .val (.ref r1), .val (.int (0 : Int32))] [(.int (0 : Int32)), (.ref r0)])) rfl rfl (hb hby djdk_42_151_11)
  have Fw23 := (F_coder.other W22 (Or.inr (slot_ne (Or.inr (own_w hw 32)) (Or.inr (own_w hw 30)) (by decide) (t := .byte) (t' := (.array .byte)) (by decide) (by decide)))).same W23
  have O23 := Old.wr O22 W23 g_r0
  have N23 := Fr.snoc X23 N22 g_r0
  have K23 := Keep.wr K22 W23 (Or.inl (List.mem_of_getElem? (i := 0) rfl))
  obtain ⟨fs, hr, hrun, hended, hW, hsame⟩ := X23.leave (v := none) (fun _ => rfl)
  refine own_by (W' := (T23.setTop (mkF m 14 #[.val (.ref r0), .val (.ref r1), .val (.int (0 : Int32))] []))) (fun t k => XS.iloadN X22.here hx rfl (hb hby djdk_42_151_10) rfl (st23 _ k)) ?_
  refine ⟨_, _, X23.returnOut hx Bd.returns (hb hby djdk_42_151_14) hr, hrun, hended, _, _, rfl, ?_, ⟨_, rfl⟩, hW, hsame.mono (by decide) (by decide)⟩
  show QS Z r0 r1 h0 n0 _ T23.heap _
  rw [e23]
  exact ⟨rfl, N23, K23, ((E0.wr W22).wr W23), (Fw22.other W23 (Or.inr (slot_ne (Or.inr (own_w hw 30)) (Or.inr (own_w hw 32)) (by decide) (t := (.array .byte)) (t' := .byte) (by decide) (by decide)))), Fw23⟩
theorem pd_1 : parseMethodDescriptor "(C)Z" = some ⟨[.char], some .boolean⟩ := by decide +kernel
theorem pd_2 : parseMethodDescriptor "(C)[B" = some ⟨[.char], some (.array .byte)⟩ := by decide +kernel
theorem pd_3 : parseMethodDescriptor "([BB)V" = some ⟨[(.array .byte), .byte], none⟩ := by decide +kernel
theorem djdk_42_139_0 : decode jdk_42_method_139_code 0 = .ok (.getstatic 38, 3) := by decide +kernel
theorem djdk_42_139_3 : decode jdk_42_method_139_code 3 = .ok (.ifCond .eq 23, 3) := by decide +kernel
theorem djdk_42_139_6 : decode jdk_42_method_139_code 6 = .ok (.iload_n 0, 1) := by decide +kernel
theorem djdk_42_139_7 : decode jdk_42_method_139_code 7 = .ok (.invokestatic 1015, 3) := by decide +kernel
theorem djdk_42_139_10 : decode jdk_42_method_139_code 10 = .ok (.ifCond .eq 16, 3) := by decide +kernel
theorem djdk_42_139_13 : decode jdk_42_method_139_code 13 = .ok (.new 10, 3) := by decide +kernel
theorem djdk_42_139_16 : decode jdk_42_method_139_code 16 = .ok (.dup, 1) := by decide +kernel
theorem djdk_42_139_17 : decode jdk_42_method_139_code 17 = .ok (.iload_n 0, 1) := by decide +kernel
theorem djdk_42_139_18 : decode jdk_42_method_139_code 18 = .ok (.invokestatic 1018, 3) := by decide +kernel
theorem djdk_42_139_21 : decode jdk_42_method_139_code 21 = .ok (.iconst 0, 1) := by decide +kernel
theorem djdk_42_139_22 : decode jdk_42_method_139_code 22 = .ok (.invokespecial 209, 3) := by decide +kernel
theorem djdk_42_139_25 : decode jdk_42_method_139_code 25 = .ok (.areturn, 1) := by decide +kernel
theorem efV (m : MethodId) (p0 : Int32) : entryFrame m #[(.int p0)] 1 = mkF m 0 #[.val (.int p0)] [] := by first | (simp [entryFrame, mkF, argsToLocals, Value.category]; done) | rfl
def QV (Z : State) (p0 : Int32) (cs : Int32) (h0 : Heap) (n0 : Nat) (v : Option Value) (h : Heap) (L : List Loc) : Prop := ∃ q : Addr, v = some (.ref q) ∧ Fr n0 L ∧ Keep h0 h [] ∧ h0.size ≤ q ∧ own_S1 Z h q (nar .byte (p0.toInt8.toInt32))
abbrev own_KV (Z : State) (p0 : Int32) (cs : Int32) (h0 : Heap) (n0 : Nat) (s : State) : Outcome → State → Prop := fun o U' => ∃ v L, o = .returned v ∧ QV Z p0 cs h0 n0 v U'.heap L ∧ FrameEnd s o U' L ({ frames := 2, cells := 2, slots := 5, locals := 27 } : Room).cells ({ frames := 2, cells := 2, slots := 5, locals := 27 } : Room).slots
set_option maxRecDepth 65536 in
set_option maxHeartbeats 40000000 in
theorem rmV (l : Launch) (Z : State) (a0 : Array Value) (hw : ∀ d ∈ tables_1, d.before a0 Z = true) (ws : List Jvm.Cond) (p0 : Int32) (cs : Int32) (h0 : Heap) (n0 : Nat) (Z0 : n0 ≤ h0.size) (O0 : Old Z n0 h0) (HW : own_Wd Z cs) (hc : ¬ (255 : Int32) < p0) :
    MetFree l (⟨"java/lang/String", "valueOf", "(C)Ljava/lang/String;"⟩ : MethodName) (head1 (Jvm.Cond.code (⟨"java/lang/String", "valueOf", "(C)Ljava/lang/String;"⟩ : MethodName) jdk_42_method_139_code 1 (some (.object "java/lang/String")) :: ws) ({ frames := 2, cells := 2, slots := 5, locals := 27 } : Room)) (fun a U => a = #[(.int p0)] ∧ Z.Warmed39 U.vm ∧ U.heap = h0) (fun _ _ _ _ _ => True) (fun _ U o U' => ∃ v L, o = .returned v ∧ QV Z p0 cs h0 n0 v U'.heap L ∧ FrameEnd U o U' L ({ frames := 2, cells := 2, slots := 5, locals := 27 } : Room).cells ({ frames := 2, cells := 2, slots := 5, locals := 27 } : Room).slots) := by
  refine MetFree.of_bodySF (plainFor_of_name pn_java_lang_String) hisR ?_
  intro p e s m args below meth c s₁ Bd hml0 hP hK
  obtain ⟨rfl, hZ, hh⟩ := hP
  have hx := Bd.exec
  have hby := Bd.bytes
  have hml : c.maxLocals = 1 := hml0
  have hown : s.vm.findClass "java/lang/String" = some m.cls := findClass_of_methodNamed Bd.named
  have hnm := (name_of_methodNamed Bd.named Bd.method).1
  have X0 : Stand p l e ({ frames := 2, cells := 2, slots := 5, locals := 27 } : Room) s m #[(.int p0)] below meth c s₁ [] 0 0 := Stand.of_body Bd
  have e0 : s₁.heap = h0 := by rw [← hh, Bd.state]; rfl
  have N0 := Fr.nil n0
  refine own_by (p := p) (e := e) (below := below) (K := own_KV Z p0 cs h0 n0 s) (W' := s₁.setTop (mkF m 0 #[.val (.int p0)] [])) (fun t k => castTop (efV m p0) k) ?_
  obtain ⟨T21, X21, e21, st21⟩ := getS (host := "") X0 hx hZ hown (own_w hw 11) Via.refl e0 (HW.1.ext O0.2) (g := (mkF m 0 #[.val (.int p0)] [])) rfl (hb hby djdk_42_139_0)
  obtain ⟨_, _, ⟨T22, L22, k22, n22⟩, -, X22, ⟨Lc22, hQ22, l22, y22, z22⟩, st22⟩ := Jvm.LawKit.callS X21 hx (y := (⟨"java/lang/StringLatin1", "canEncode", "(C)Z"⟩ : MethodName)) hown (mvT hZ (own_w hw 12)) (mvT hZ (own_w hw 13)) (mvT hZ (own_w hw 14)) (mvT hZ (own_w hw 15)) (by decide) (backOf (W := 0) (rmC l Z a0 hw [] p0 h0 n0 Z0 hc) hZ (own_w hw 15) (own_w hw 14) (by decide) (by decide)) (g := (mkF m 7 #[.val (.int p0)] [(.int p0)])) rfl (by rw [hml]; rfl) (argsL := [(.int p0)]) (rest := []) (lenOf pd_1 rfl) rfl (by show 2 * 0 + _ ≤ _; exact Nat.le_of_eq rfl) (hb hby djdk_42_139_7) (fun _ _ => ⟨rfl, e21, (by decide : 0 + 0 ≤ _), (by decide : 0 + 0 ≤ _)⟩)
  dsimp only [Pt.U, Pt.locs, Pt.cells, Pt.slots] at X22 l22 y22 z22 st22 hQ22
  subst l22 y22 z22
  obtain ⟨rfl, N22q, e22⟩ := hQ22
  have N22 := Fr.app N0 N22q
  obtain ⟨T23, h23, X23, e23, E23, A23, D23, -, st23⟩ := newO X22 hx hZ hown (own_w hw 16) (own_w hw 17) (own_w hw 9) e22 (g := (mkF m 13 #[.val (.int p0)] [])) rfl (hb hby djdk_42_139_13) (by decide) (by decide)
  obtain ⟨b23, g23⟩ : ∃ z, z = h0.size := ⟨_, rfl⟩
  rw [← g23] at A23 D23 st23
  have g_b23 : n0 ≤ b23 := Nat.le_trans (own_le O0) (Nat.le_of_eq g23.symm)
  have sz_b23 : h0.size ≤ b23 := Nat.le_trans (Keep.refl h0 []).1 (Nat.le_of_eq g23.symm)
  have O23 := O0.ext E23
  have K23 := Keep.ext (Keep.refl h0 []) E23
  have F_value_b23 : Fld Z h23 b23 "java/lang/String" "value" "[B" .null := D23 (Or.inr (own_w hw 30)) (ty := (.array .byte)) (by decide)
  have F_coder_b23 : Fld Z h23 b23 "java/lang/String" "coder" "B" (.int (0 : Int32)) := D23 (Or.inr (own_w hw 32)) (ty := .byte) (by decide)
  refine own_by (W' := (T23.setTop (mkF m 16 #[.val (.int p0)] [(.ref b23)]))) (fun t k => st21 _ (XS.ifNo X21.here hx rfl (hb hby djdk_42_139_3) rfl ((if0 _ _).trans (feq HW.2).1) (XS.iloadN X21.here hx rfl (hb hby djdk_42_139_6) rfl (st22 _ (XS.ifNo X22.here hx rfl (hb hby djdk_42_139_10) rfl ((if0 _ _).trans (feq (by decide : ¬ ((1 : Int32) = (0 : Int32)))).1) (st23 _ k)))))) ?_
  obtain ⟨_, _, ⟨T24, L24, k24, n24⟩, -, X24, ⟨Lc24, hQ24, l24, y24, z24⟩, st24⟩ := Jvm.LawKit.callS X23 hx (y := (⟨"java/lang/StringLatin1", "toBytes", "(C)[B"⟩ : MethodName)) hown (mvT hZ (own_w hw 18)) (mvT hZ (own_w hw 19)) (mvT hZ (own_w hw 14)) (mvT hZ (own_w hw 20)) (by decide) (backOf (W := 2) (rmB l Z a0 hw [] p0 h23 n0 (own_le O23) O23) hZ (own_w hw 20) (own_w hw 14) (by decide) (by decide)) (g := (mkF m 18 #[.val (.int p0)] [(.int p0), (.ref b23), (.ref b23)])) rfl (by rw [hml]; rfl) (argsL := [(.int p0)]) (rest := [(.ref b23), (.ref b23)]) (lenOf pd_2 rfl) rfl (by show 2 * 0 + _ ≤ _; exact Nat.le_of_eq rfl) (hb hby djdk_42_139_18) (fun _ _ => ⟨rfl, e23, (by decide : 1 + 1 ≤ _), (by decide : 4 + 1 ≤ _)⟩)
  dsimp only [Pt.U, Pt.locs, Pt.cells, Pt.slots] at X24 l24 y24 z24 st24 hQ24
  subst l24 y24 z24
  obtain ⟨fb24, kb24, rfl, N24q, Kq24, hsz24, Vq24⟩ := hQ24
  have ne_b23_fb24 : b23 ≠ fb24 := Nat.ne_of_lt (Nat.lt_of_lt_of_le A23.lt hsz24)
  have O24 := Old.keep O23 Kq24 all0
  have K24 := Keep.trans K23 Kq24 all0
  have N24 := Fr.app N22 N24q
  obtain ⟨_, _, ⟨T25, L25, k25, n25⟩, -, X25, ⟨Lc25, hQ25, l25, y25, z25⟩, st25⟩ := X24.specialBack hx (y := (⟨"java/lang/String", "<init>", "([BB)V"⟩ : MethodName)) rfl hown (mvT hZ (own_w hw 22)) (mvT hZ (own_w hw 23)) (mvT hZ (own_w hw 25)) (by decide) (backOf (W := 1) (rmS l Z a0 hw [] b23 fb24 T24.heap n0 (own_le O24) O24 (A23.keep Kq24) g_b23 (F_value_b23.keep Kq24 nin0) (F_coder_b23.keep Kq24 nin0)) hZ (own_w hw 25) (own_w hw 9) (by decide) (by decide)) (g := (mkF m 22 #[.val (.int p0)] [(.int (0 : Int32)), (.ref fb24), (.ref b23), (.ref b23)])) rfl (by rw [hml]; rfl) (Steps.refl _) (a := b23) (argsL := [(.ref fb24), (.int (0 : Int32))]) (rest := [(.ref b23)]) (lenOf pd_3 rfl) rfl (by show 2 * 0 + _ ≤ _; exact Nat.le_of_eq rfl) (hb hby djdk_42_139_22) (fun _ _ => ⟨rfl, rfl, (by decide : 2 + 0 ≤ _), (by decide : 5 + 0 ≤ _)⟩)
  dsimp only [Pt.U, Pt.locs, Pt.cells, Pt.slots] at X25 l25 y25 z25 st25 hQ25
  subst l25 y25 z25
  obtain ⟨rfl, N25q, Kq25, Eq25, Fv25, Fc25⟩ := hQ25
  have O25 := Old.keep O24 Kq25 (allS g_b23 all0)
  have K25 := Keep.trans K24 Kq25 (allS (Or.inr sz_b23) all0)
  have N25 := Fr.app N24 N25q
  obtain ⟨fs, hr, hrun, hended, hW, hsame⟩ := X25.leave (v := some (.ref b23)) (fun h => by rw [Bd.returns] at h; cases h)
  refine own_by (W' := (T25.setTop (mkF m 25 #[.val (.int p0)] [(.ref b23)]))) (fun t k => XS.dup X23.here hx rfl (hb hby djdk_42_139_16) rfl rfl (XS.iloadN X23.here hx rfl (hb hby djdk_42_139_17) rfl (st24 _ (XS.iconst X24.here hx rfl (hb hby djdk_42_139_21) (Steps.trans st25 k))))) ?_
  refine ⟨_, _, retOut X25 hx Bd.returns rfl (Or.inr (Or.inr (Or.inr (Or.inr ⟨rfl, rfl, rfl⟩)))) (hb hby djdk_42_139_25) hr, hrun, hended, _, _, rfl, ?_, ⟨_, rfl⟩, hW, hsame.mono (by decide) (by decide)⟩
  show QV Z p0 cs h0 n0 _ T25.heap _
  exact ⟨_, rfl, N25, K25, sz_b23, Eq25, Fc25, _, _, Fv25, (Vq24.keep Kq25 (ninS ne_b23_fb24.symm nin0))⟩
theorem pd_4 : parseMethodDescriptor "(C)Ljava/lang/String;" = some ⟨[.char], some (.object "java/lang/String")⟩ := by decide +kernel
theorem dmethod_2_0 : decode method_2_code 0 = .ok (.iload_n 0, 1) := by decide +kernel
theorem dmethod_2_1 : decode method_2_code 1 = .ok (.sipush 255, 3) := by decide +kernel
theorem dmethod_2_4 : decode method_2_code 4 = .ok (.iand, 1) := by decide +kernel
theorem dmethod_2_5 : decode method_2_code 5 = .ok (.i2c, 1) := by decide +kernel
theorem dmethod_2_6 : decode method_2_code 6 = .ok (.invokestatic 7, 3) := by decide +kernel
theorem dmethod_2_9 : decode method_2_code 9 = .ok (.areturn, 1) := by decide +kernel
theorem pn_com_example_claviger_claviger_engine_UseEqualsPinLaw : plainName "com/example/claviger/claviger/engine/UseEqualsPinLaw" = true := by first | (simp [plainName, overriddenIn]; done) | decide +kernel
theorem efs (m : MethodId) (p0 : Int32) : entryFrame m #[(.int p0)] 1 = mkF m 0 #[.val (.int p0)] [] := by first | (simp [entryFrame, mkF, argsToLocals, Value.category]; done) | rfl
def Qs (Z : State) (p0 : Int32) (cs : Int32) (h0 : Heap) (n0 : Nat) (v : Option Value) (h : Heap) (L : List Loc) : Prop := ∃ q : Addr, v = some (.ref q) ∧ Fr n0 L ∧ Keep h0 h [] ∧ h0.size ≤ q ∧ own_S1 Z h q (own_b p0)
abbrev own_Ks (Z : State) (p0 : Int32) (cs : Int32) (h0 : Heap) (n0 : Nat) (s : State) : Outcome → State → Prop := fun o U' => ∃ v L, o = .returned v ∧ Qs Z p0 cs h0 n0 v U'.heap L ∧ FrameEnd s o U' L ({ frames := 3, cells := 2, slots := 5, locals := 39 } : Room).cells ({ frames := 3, cells := 2, slots := 5, locals := 39 } : Room).slots
set_option maxRecDepth 65536 in
set_option maxHeartbeats 40000000 in
theorem rms (l : Launch) (Z : State) (a0 : Array Value) (hw : ∀ d ∈ tables_1, d.before a0 Z = true) (ws : List Jvm.Cond) (p0 : Int32) (cs : Int32) (h0 : Heap) (n0 : Nat) (Z0 : n0 ≤ h0.size) (O0 : Old Z n0 h0) (HW : own_Wd Z cs) :
    MetFree l (⟨"com/example/claviger/claviger/engine/UseEqualsPinLaw", "s", "(I)Ljava/lang/String;"⟩ : MethodName) (head1 (Jvm.Cond.code (⟨"com/example/claviger/claviger/engine/UseEqualsPinLaw", "s", "(I)Ljava/lang/String;"⟩ : MethodName) method_2_code 1 (some (.object "java/lang/String")) :: ws) ({ frames := 3, cells := 2, slots := 5, locals := 39 } : Room)) (fun a U => a = #[(.int p0)] ∧ Z.Warmed39 U.vm ∧ U.heap = h0) (fun _ _ _ _ _ => True) (fun _ U o U' => ∃ v L, o = .returned v ∧ Qs Z p0 cs h0 n0 v U'.heap L ∧ FrameEnd U o U' L ({ frames := 3, cells := 2, slots := 5, locals := 39 } : Room).cells ({ frames := 3, cells := 2, slots := 5, locals := 39 } : Room).slots) := by
  refine MetFree.of_bodySF (plainFor_of_name pn_com_example_claviger_claviger_engine_UseEqualsPinLaw) hisR ?_
  intro p e s m args below meth c s₁ Bd hml0 hP hK
  obtain ⟨rfl, hZ, hh⟩ := hP
  have hx := Bd.exec
  have hby := Bd.bytes
  have hml : c.maxLocals = 1 := hml0
  have hown : s.vm.findClass "com/example/claviger/claviger/engine/UseEqualsPinLaw" = some m.cls := findClass_of_methodNamed Bd.named
  have hnm := (name_of_methodNamed Bd.named Bd.method).1
  have X0 : Stand p l e ({ frames := 3, cells := 2, slots := 5, locals := 39 } : Room) s m #[(.int p0)] below meth c s₁ [] 0 0 := Stand.of_body Bd
  have e0 : s₁.heap = h0 := by rw [← hh, Bd.state]; rfl
  have N0 := Fr.nil n0
  refine own_by (p := p) (e := e) (below := below) (K := own_Ks Z p0 cs h0 n0 s) (W' := s₁.setTop (mkF m 0 #[.val (.int p0)] [])) (fun t k => castTop (efs m p0) k) ?_
  obtain ⟨_, _, ⟨T21, L21, k21, n21⟩, -, X21, ⟨Lc21, hQ21, l21, y21, z21⟩, st21⟩ := Jvm.LawKit.callS X0 hx (y := (⟨"java/lang/String", "valueOf", "(C)Ljava/lang/String;"⟩ : MethodName)) hown (mvT hZ (own_w hw 7)) (mvT hZ (own_w hw 8)) (mvT hZ (own_w hw 9)) (mvT hZ (own_w hw 10)) (by decide) (backOf (W := 0) (rmV l Z a0 hw [] ((p0 &&& (255 : Int32)).toUInt32.toUInt16.toUInt32.toInt32) cs h0 n0 Z0 O0 HW (own_c255 _)) hZ (own_w hw 10) (own_w hw 9) (by decide) (by decide)) (g := (mkF m 6 #[.val (.int p0)] [(.int ((p0 &&& (255 : Int32)).toUInt32.toUInt16.toUInt32.toInt32))])) rfl (by rw [hml]; rfl) (argsL := [(.int ((p0 &&& (255 : Int32)).toUInt32.toUInt16.toUInt32.toInt32))]) (rest := []) (lenOf pd_4 rfl) rfl (by show 2 * 0 + _ ≤ _; exact Nat.le_of_eq rfl) (hb hby dmethod_2_6) (fun _ _ => ⟨rfl, e0, (by decide : 0 + 2 ≤ _), (by decide : 0 + 5 ≤ _)⟩)
  dsimp only [Pt.U, Pt.locs, Pt.cells, Pt.slots] at X21 l21 y21 z21 st21 hQ21
  subst l21 y21 z21
  obtain ⟨fb21, rfl, N21q, Kq21, hsz21, Tq21⟩ := hQ21
  have sz_fb21 : h0.size ≤ fb21 := Nat.le_trans (Keep.refl h0 []).1 hsz21
  have O21 := Old.keep O0 Kq21 all0
  have K21 := Keep.trans (Keep.refl h0 []) Kq21 all0
  have N21 := Fr.app N0 N21q
  obtain ⟨fs, hr, hrun, hended, hW, hsame⟩ := X21.leave (v := some (.ref fb21)) (fun h => by rw [Bd.returns] at h; cases h)
  refine own_by (W' := (T21.setTop (mkF m 9 #[.val (.int p0)] [(.ref fb21)]))) (fun t k => XS.iloadN X0.here hx rfl (hb hby dmethod_2_0) rfl (XS.sipush X0.here hx rfl (hb hby dmethod_2_1) (XS.iand X0.here hx rfl (hb hby dmethod_2_4) rfl (XS.i2c X0.here hx rfl (hb hby dmethod_2_5) rfl (st21 _ k))))) ?_
  refine ⟨_, _, retOut X21 hx Bd.returns rfl (Or.inr (Or.inr (Or.inr (Or.inr ⟨rfl, rfl, rfl⟩)))) (hb hby dmethod_2_9) hr, hrun, hended, _, _, rfl, ?_, ⟨_, rfl⟩, hW, hsame.mono (by decide) (by decide)⟩
  show Qs Z p0 cs h0 n0 _ T21.heap _
  exact ⟨_, rfl, N21, K21, sz_fb21, Tq21⟩
theorem djdk_31_11_0 : decode jdk_31_method_11_code 0 = .ok (.aload_n 0, 1) := by decide +kernel
theorem djdk_31_11_1 : decode jdk_31_method_11_code 1 = .ok (.ifnonnull 12, 3) := by decide +kernel
theorem djdk_31_11_13 : decode jdk_31_method_11_code 13 = .ok (.aload_n 0, 1) := by decide +kernel
theorem djdk_31_11_14 : decode jdk_31_method_11_code 14 = .ok (.areturn, 1) := by decide +kernel
theorem pn_java_util_Objects : plainName "java/util/Objects" = true := by first | (simp [plainName, overriddenIn]; done) | decide +kernel
theorem efN (m : MethodId) (r0 : Addr) (r1 : Addr) : entryFrame m #[(.ref r0), (.ref r1)] 2 = mkF m 0 #[.val (.ref r0), .val (.ref r1)] [] := by first | (simp [entryFrame, mkF, argsToLocals, Value.category]; done) | rfl
def QN (Z : State) (r0 : Addr) (r1 : Addr) (h0 : Heap) (n0 : Nat) (v : Option Value) (h : Heap) (L : List Loc) : Prop := v = some (.ref r0) ∧ Fr n0 L ∧ h = h0
abbrev own_KN (Z : State) (r0 : Addr) (r1 : Addr) (h0 : Heap) (n0 : Nat) (s : State) : Outcome → State → Prop := fun o U' => ∃ v L, o = .returned v ∧ QN Z r0 r1 h0 n0 v U'.heap L ∧ FrameEnd s o U' L ({ frames := 0, cells := 0, slots := 0, locals := 0 } : Room).cells ({ frames := 0, cells := 0, slots := 0, locals := 0 } : Room).slots
set_option maxRecDepth 65536 in
set_option maxHeartbeats 40000000 in
theorem rmN (l : Launch) (Z : State) (a0 : Array Value) (hw : ∀ d ∈ tables_1, d.before a0 Z = true) (ws : List Jvm.Cond) (r0 : Addr) (r1 : Addr) (h0 : Heap) (n0 : Nat) (Z0 : n0 ≤ h0.size) :
    MetFree l (⟨"java/util/Objects", "requireNonNull", "(Ljava/lang/Object;Ljava/lang/String;)Ljava/lang/Object;"⟩ : MethodName) (head1 (Jvm.Cond.code (⟨"java/util/Objects", "requireNonNull", "(Ljava/lang/Object;Ljava/lang/String;)Ljava/lang/Object;"⟩ : MethodName) jdk_31_method_11_code 2 (some (.object "java/lang/Object")) :: ws) ({ frames := 0, cells := 0, slots := 0, locals := 0 } : Room)) (fun a U => a = #[(.ref r0), (.ref r1)] ∧ Z.Warmed39 U.vm ∧ U.heap = h0) (fun _ _ _ _ _ => True) (fun _ U o U' => ∃ v L, o = .returned v ∧ QN Z r0 r1 h0 n0 v U'.heap L ∧ FrameEnd U o U' L ({ frames := 0, cells := 0, slots := 0, locals := 0 } : Room).cells ({ frames := 0, cells := 0, slots := 0, locals := 0 } : Room).slots) := by
  refine MetFree.of_bodySF (plainFor_of_name pn_java_util_Objects) hisR ?_
  intro p e s m args below meth c s₁ Bd hml0 hP hK
  obtain ⟨rfl, hZ, hh⟩ := hP
  have hx := Bd.exec
  have hby := Bd.bytes
  have hml : c.maxLocals = 2 := hml0
  have hown : s.vm.findClass "java/util/Objects" = some m.cls := findClass_of_methodNamed Bd.named
  have hnm := (name_of_methodNamed Bd.named Bd.method).1
  have X0 : Stand p l e ({ frames := 0, cells := 0, slots := 0, locals := 0 } : Room) s m #[(.ref r0), (.ref r1)] below meth c s₁ [] 0 0 := Stand.of_body Bd
  have e0 : s₁.heap = h0 := by rw [← hh, Bd.state]; rfl
  have N0 := Fr.nil n0
  refine own_by (p := p) (e := e) (below := below) (K := own_KN Z r0 r1 h0 n0 s) (W' := s₁.setTop (mkF m 0 #[.val (.ref r0), .val (.ref r1)] [])) (fun t k => castTop (efN m r0 r1) k) ?_
  obtain ⟨fs, hr, hrun, hended, hW, hsame⟩ := X0.leave (v := some (.ref r0)) (fun h => by rw [Bd.returns] at h; cases h)
  refine own_by (W' := (s₁.setTop (mkF m 14 #[.val (.ref r0), .val (.ref r1)] [(.ref r0)]))) (fun t k => XS.aloadN X0.here hx rfl (hb hby djdk_31_11_0) rfl rfl (XS.ifnonnullYes X0.here hx rfl (pc0 := 1) (pc' := 13) rfl (hb hby djdk_31_11_1) rfl (by decide) (by decide) (XS.aloadN X0.here hx rfl (hb hby djdk_31_11_13) rfl rfl k))) ?_
  refine ⟨_, _, retOut X0 hx Bd.returns rfl (Or.inr (Or.inr (Or.inr (Or.inr ⟨rfl, rfl, rfl⟩)))) (hb hby djdk_31_11_14) hr, hrun, hended, _, _, rfl, ?_, ⟨_, rfl⟩, hW, hsame.mono (by decide) (by decide)⟩
  exact ⟨rfl, N0, e0⟩
theorem pd_5 : parseMethodDescriptor "(Ljava/lang/Object;Ljava/lang/String;)Ljava/lang/Object;" = some ⟨[(.object "java/lang/Object"), (.object "java/lang/String")], some (.object "java/lang/Object")⟩ := by decide +kernel
theorem dprog_27_1_0 : decode prog_27_method_1_code 0 = .ok (.aload_n 0, 1) := by decide +kernel
theorem dprog_27_1_1 : decode prog_27_method_1_code 1 = .ok (.invokespecial 1, 3) := by decide +kernel
theorem dprog_27_1_4 : decode prog_27_method_1_code 4 = .ok (.aload_n 0, 1) := by decide +kernel
theorem dprog_27_1_5 : decode prog_27_method_1_code 5 = .ok (.aload_n 1, 1) := by decide +kernel
theorem dprog_27_1_6 : decode prog_27_method_1_code 6 = .ok (.ldc 7, 2) := by decide +kernel
theorem dprog_27_1_8 : decode prog_27_method_1_code 8 = .ok (.invokestatic 9, 3) := by decide +kernel
theorem dprog_27_1_11 : decode prog_27_method_1_code 11 = .ok (.checkcast 15, 3) := by decide +kernel
theorem dprog_27_1_14 : decode prog_27_method_1_code 14 = .ok (.putfield 17, 3) := by decide +kernel
theorem dprog_27_1_17 : decode prog_27_method_1_code 17 = .ok (.aload_n 0, 1) := by decide +kernel
theorem dprog_27_1_18 : decode prog_27_method_1_code 18 = .ok (.aload_n 2, 1) := by decide +kernel
theorem dprog_27_1_19 : decode prog_27_method_1_code 19 = .ok (.ldc 22, 2) := by decide +kernel
theorem dprog_27_1_21 : decode prog_27_method_1_code 21 = .ok (.invokestatic 9, 3) := by decide +kernel
theorem dprog_27_1_24 : decode prog_27_method_1_code 24 = .ok (.checkcast 15, 3) := by decide +kernel
theorem dprog_27_1_27 : decode prog_27_method_1_code 27 = .ok (.putfield 24, 3) := by decide +kernel
theorem dprog_27_1_30 : decode prog_27_method_1_code 30 = .ok (.aload_n 0, 1) := by decide +kernel
theorem dprog_27_1_31 : decode prog_27_method_1_code 31 = .ok (.aload_n 3, 1) := by decide +kernel
theorem dprog_27_1_32 : decode prog_27_method_1_code 32 = .ok (.ldc 26, 2) := by decide +kernel
theorem dprog_27_1_34 : decode prog_27_method_1_code 34 = .ok (.invokestatic 9, 3) := by decide +kernel
theorem dprog_27_1_37 : decode prog_27_method_1_code 37 = .ok (.checkcast 15, 3) := by decide +kernel
theorem dprog_27_1_40 : decode prog_27_method_1_code 40 = .ok (.putfield 28, 3) := by decide +kernel
theorem dprog_27_1_43 : decode prog_27_method_1_code 43 = .ok (.return_, 1) := by decide +kernel
theorem pn_com_example_claviger_claviger_engine_SeatHolding_Use : plainName "com/example/claviger/claviger/engine/SeatHolding$Use" = true := by first | (simp [plainName, overriddenIn]; done) | decide +kernel
theorem efU (m : MethodId) (r0 : Addr) (r1 : Addr) (r2 : Addr) (r3 : Addr) : entryFrame m #[(.ref r0), (.ref r1), (.ref r2), (.ref r3)] 4 = mkF m 0 #[.val (.ref r0), .val (.ref r1), .val (.ref r2), .val (.ref r3)] [] := by first | (simp [entryFrame, mkF, argsToLocals, Value.category]; done) | rfl
def QU (Z : State) (r0 : Addr) (r1 : Addr) (r2 : Addr) (r3 : Addr) (h0 : Heap) (n0 : Nat) (v : Option Value) (h : Heap) (L : List Loc) : Prop := v = none ∧ Fr n0 L ∧ Keep h0 h [r0] ∧ Exa Z h r0 "com/example/claviger/claviger/engine/SeatHolding$Use" ∧ Fld Z h r0 "com/example/claviger/claviger/engine/SeatHolding$Use" "connection" "Ljava/lang/String;" (.ref r1) ∧ Fld Z h r0 "com/example/claviger/claviger/engine/SeatHolding$Use" "process" "Ljava/lang/String;" (.ref r2) ∧ Fld Z h r0 "com/example/claviger/claviger/engine/SeatHolding$Use" "need" "Ljava/lang/String;" (.ref r3)
abbrev own_KU (Z : State) (r0 : Addr) (r1 : Addr) (r2 : Addr) (r3 : Addr) (h0 : Heap) (n0 : Nat) (s : State) : Outcome → State → Prop := fun o U' => ∃ v L, o = .returned v ∧ QU Z r0 r1 r2 r3 h0 n0 v U'.heap L ∧ ReturnedEndW s o U' L ({ frames := 1, cells := 6, slots := 96, locals := 14 } : Room).cells ({ frames := 1, cells := 6, slots := 96, locals := 14 } : Room).slots
set_option maxRecDepth 65536 in
set_option maxHeartbeats 40000000 in
theorem rmU (l : Launch) (Z : State) (a0 : Array Value) (hw : ∀ d ∈ tables_1, d.before a0 Z = true) (ws : List Jvm.Cond) (r0 : Addr) (r1 : Addr) (r2 : Addr) (r3 : Addr) (h0 : Heap) (n0 : Nat) (Z0 : n0 ≤ h0.size) (O0 : Old Z n0 h0) (E0 : Exa Z h0 r0 "com/example/claviger/claviger/engine/SeatHolding$Use") (g_r0 : n0 ≤ r0) (F_connection : Fld Z h0 r0 "com/example/claviger/claviger/engine/SeatHolding$Use" "connection" "Ljava/lang/String;" .null) (F_process : Fld Z h0 r0 "com/example/claviger/claviger/engine/SeatHolding$Use" "process" "Ljava/lang/String;" .null) (F_need : Fld Z h0 r0 "com/example/claviger/claviger/engine/SeatHolding$Use" "need" "Ljava/lang/String;" .null) (E1 : Exa Z h0 r1 "java/lang/String") (E2 : Exa Z h0 r2 "java/lang/String") (E3 : Exa Z h0 r3 "java/lang/String") :
    MetFree l (⟨"com/example/claviger/claviger/engine/SeatHolding$Use", "<init>", "(Ljava/lang/String;Ljava/lang/String;Ljava/lang/String;)V"⟩ : MethodName) (head1 (Jvm.Cond.code (⟨"com/example/claviger/claviger/engine/SeatHolding$Use", "<init>", "(Ljava/lang/String;Ljava/lang/String;Ljava/lang/String;)V"⟩ : MethodName) prog_27_method_1_code 4 none :: ws) ({ frames := 1, cells := 6, slots := 96, locals := 14 } : Room)) (fun a U => a = #[(.ref r0), (.ref r1), (.ref r2), (.ref r3)] ∧ Z.Warmed39 U.vm ∧ U.heap = h0) (fun _ _ _ _ _ => True) (fun _ U o U' => ∃ v L, o = .returned v ∧ QU Z r0 r1 r2 r3 h0 n0 v U'.heap L ∧ ReturnedEndW U o U' L ({ frames := 1, cells := 6, slots := 96, locals := 14 } : Room).cells ({ frames := 1, cells := 6, slots := 96, locals := 14 } : Room).slots) := by
  refine MetFree.of_bodySF (plainFor_of_name pn_com_example_claviger_claviger_engine_SeatHolding_Use) hisR ?_
  intro p e s m args below meth c s₁ Bd hml0 hP hK
  obtain ⟨rfl, hZ, hh⟩ := hP
  have hx := Bd.exec
  have hby := Bd.bytes
  have hml : c.maxLocals = 4 := hml0
  have hown : s.vm.findClass "com/example/claviger/claviger/engine/SeatHolding$Use" = some m.cls := findClass_of_methodNamed Bd.named
  have hnm := (name_of_methodNamed Bd.named Bd.method).1
  have X0 : Stand p l e ({ frames := 1, cells := 6, slots := 96, locals := 14 } : Room) (s.setVm s.vm) m #[(.ref r0), (.ref r1), (.ref r2), (.ref r3)] below meth c s₁ [] 0 0 := Stand.of_body Bd
  have e0 : s₁.heap = h0 := by rw [← hh, Bd.state]; rfl
  have N0 := Fr.nil n0
  have hS0 : s.Since s.vm h0.size := (State.WarmedH.refl s).since _
  refine own_by (p := p) (e := e) (below := below) (K := own_KU Z r0 r1 r2 r3 h0 n0 s) (W' := s₁.setTop (mkF m 0 #[.val (.ref r0), .val (.ref r1), .val (.ref r2), .val (.ref r3)] [])) (fun t k => castTop (efU m r0 r1 r2 r3) k) ?_
  obtain ⟨T21, X21, e21, st21⟩ := initO X0 hx hZ hown (own_w hw 36) (own_w hw 27) (own_w hw 28) e0 (g := (mkF m 1 #[.val (.ref r0), .val (.ref r1), .val (.ref r2), .val (.ref r3)] [(.ref r0)])) rfl (by rw [hml]; rfl) rfl (hb hby dprog_27_1_1) (by decide) (W := 0) (by show 2 * 0 + _ ≤ _; exact Nat.le_of_eq rfl) (by decide)
  obtain ⟨a22, T22, h22, k22, X22, e22, E22, hS22, hk22, hZ22, hown22, st22⟩ := ldcS (s := s) (vm0 := s.vm) X21 hx hZ hown (own_w hw 37) (own_wS hw) e21 hS0 (Nat.le_refl _) (g := (mkF m 6 #[.val (.ref r0), .val (.ref r1), .val (.ref r2), .val (.ref r3)] [(.ref r1), (.ref r0)])) rfl (hb hby dprog_27_1_6) (n := 40) (by decide +kernel) (by decide) (by decide) (by decide)
  have O22 := O0.ext E22
  have K22 := Keep.ext (Keep.refl h0 [r0]) E22
  obtain ⟨_, _, ⟨T23, L23, k23, n23⟩, -, X23, ⟨Lc23, hQ23, l23, y23, z23⟩, st23⟩ := Jvm.LawKit.callS X22 hx (y := (⟨"java/util/Objects", "requireNonNull", "(Ljava/lang/Object;Ljava/lang/String;)Ljava/lang/Object;"⟩ : MethodName)) hown22 (mvT hZ22 (own_w hw 40)) (mvT hZ22 (own_w hw 41)) (mvT hZ22 (own_w hw 42)) (mvT hZ22 (own_w hw 43)) (by decide) (backOf (W := 1) (rmN l Z a0 hw [] r1 a22 h22 n0 (own_le O22) ) hZ22 (own_w hw 43) (own_w hw 42) (by decide) (by decide)) (g := (mkF m 8 #[.val (.ref r0), .val (.ref r1), .val (.ref r2), .val (.ref r3)] [(.ref a22), (.ref r1), (.ref r0)])) rfl (by rw [hml]; rfl) (argsL := [(.ref r1), (.ref a22)]) (rest := [(.ref r0)]) (lenOf pd_5 rfl) rfl (by show 2 * 0 + _ ≤ _; exact Nat.le_of_eq rfl) (hb hby dprog_27_1_8) (fun _ _ => ⟨rfl, e22, (by decide : 2 + 0 ≤ _), (by decide : 44 + 0 ≤ _)⟩)
  dsimp only [Pt.U, Pt.locs, Pt.cells, Pt.slots] at X23 l23 y23 z23 st23 hQ23
  subst l23 y23 z23
  obtain ⟨rfl, N23q, e23⟩ := hQ23
  have N23 := Fr.app N0 N23q
  refine own_by (W' := (T23.setTop (mkF m 11 #[.val (.ref r0), .val (.ref r1), .val (.ref r2), .val (.ref r3)] [(.ref r1), (.ref r0)]))) (fun t k => XS.aloadN X0.here hx rfl (hb hby dprog_27_1_0) rfl rfl (st21 _ (XS.aloadN X21.here hx rfl (hb hby dprog_27_1_4) rfl rfl (XS.aloadN X21.here hx rfl (hb hby dprog_27_1_5) rfl rfl (st22 _ (st23 _ k)))))) ?_
  obtain ⟨T24, X24, e24, st24⟩ := castY X23 hx hZ22 hown22 (own_w hw 44) e23 (Ins.self (E1.ext E22)) (g := (mkF m 11 #[.val (.ref r0), .val (.ref r1), .val (.ref r2), .val (.ref r3)] [(.ref r1), (.ref r0)])) rfl rfl (hb hby dprog_27_1_11)
  obtain ⟨T25, h25, X25, e25, W25, st25⟩ := putF X24 hx hZ22 hown22 (host := "") (Or.inl (own_w hw 45)) Via.refl e24 (F_connection.ext E22) (E0.ext E22) (Or.inr ⟨(own_w hw 46), rfl, hnm⟩) (own_w hw 1) (ty := (.object "java/lang/String")) (by decide) rfl rfl (g := (mkF m 14 #[.val (.ref r0), .val (.ref r1), .val (.ref r2), .val (.ref r3)] [(.ref r1), (.ref r0)])) rfl rfl (hb hby dprog_27_1_14)
  have Fw25 := (F_connection.ext E22).same W25
  have O25 := Old.wr O22 W25 g_r0
  have N25 := Fr.snoc X25 N23 g_r0
  have K25 := Keep.wr K22 W25 (Or.inl (List.mem_of_getElem? (i := 0) rfl))
  obtain ⟨a26, T26, h26, k26, X26, e26, E26, hS26, hk26, hZ26, hown26, st26⟩ := ldcS (s := s) (vm0 := T22.vm) X25 hx hZ22 hown22 (own_w hw 47) (own_wS hw) e25 hS22 (Nat.le_trans hk22 (Keep.of_wr W25).1) (g := (mkF m 19 #[.val (.ref r0), .val (.ref r1), .val (.ref r2), .val (.ref r3)] [(.ref r2), (.ref r0)])) rfl (hb hby dprog_27_1_19) (n := 28) (by decide +kernel) (by decide) (by decide) (by decide)
  have O26 := O25.ext E26
  have K26 := Keep.ext K25 E26
  obtain ⟨_, _, ⟨T27, L27, k27, n27⟩, -, X27, ⟨Lc27, hQ27, l27, y27, z27⟩, st27⟩ := Jvm.LawKit.callS X26 hx (y := (⟨"java/util/Objects", "requireNonNull", "(Ljava/lang/Object;Ljava/lang/String;)Ljava/lang/Object;"⟩ : MethodName)) hown26 (mvT hZ26 (own_w hw 40)) (mvT hZ26 (own_w hw 41)) (mvT hZ26 (own_w hw 42)) (mvT hZ26 (own_w hw 43)) (by decide) (backOf (W := 1) (rmN l Z a0 hw [] r2 a26 h26 n0 (own_le O26) ) hZ26 (own_w hw 43) (own_w hw 42) (by decide) (by decide)) (g := (mkF m 21 #[.val (.ref r0), .val (.ref r1), .val (.ref r2), .val (.ref r3)] [(.ref a26), (.ref r2), (.ref r0)])) rfl (by rw [hml]; rfl) (argsL := [(.ref r2), (.ref a26)]) (rest := [(.ref r0)]) (lenOf pd_5 rfl) rfl (by show 2 * 0 + _ ≤ _; exact Nat.le_of_eq rfl) (hb hby dprog_27_1_21) (fun _ _ => ⟨rfl, e26, (by decide : 4 + 0 ≤ _), (by decide : 76 + 0 ≤ _)⟩)
  dsimp only [Pt.U, Pt.locs, Pt.cells, Pt.slots] at X27 l27 y27 z27 st27 hQ27
  subst l27 y27 z27
  obtain ⟨rfl, N27q, e27⟩ := hQ27
  have N27 := Fr.app N25 N27q
  refine own_by (W' := (T27.setTop (mkF m 24 #[.val (.ref r0), .val (.ref r1), .val (.ref r2), .val (.ref r3)] [(.ref r2), (.ref r0)]))) (fun t k => st24 _ (st25 _ (XS.aloadN X25.here hx rfl (hb hby dprog_27_1_17) rfl rfl (XS.aloadN X25.here hx rfl (hb hby dprog_27_1_18) rfl rfl (st26 _ (st27 _ k)))))) ?_
  obtain ⟨T28, X28, e28, st28⟩ := castY X27 hx hZ26 hown26 (own_w hw 44) e27 (Ins.self (((E2.ext E22).wr W25).ext E26)) (g := (mkF m 24 #[.val (.ref r0), .val (.ref r1), .val (.ref r2), .val (.ref r3)] [(.ref r2), (.ref r0)])) rfl rfl (hb hby dprog_27_1_24)
  obtain ⟨T29, h29, X29, e29, W29, st29⟩ := putF X28 hx hZ26 hown26 (host := "") (Or.inl (own_w hw 48)) Via.refl e28 (((F_process.ext E22).other W25 (Or.inr (slot_ne (Or.inr (own_w hw 49)) (Or.inr (own_w hw 46)) (by decide) (t := (.object "java/lang/String")) (t' := (.object "java/lang/String")) (by decide) (by decide)))).ext E26) (((E0.ext E22).wr W25).ext E26) (Or.inr ⟨(own_w hw 49), rfl, hnm⟩) (own_w hw 1) (ty := (.object "java/lang/String")) (by decide) rfl rfl (g := (mkF m 27 #[.val (.ref r0), .val (.ref r1), .val (.ref r2), .val (.ref r3)] [(.ref r2), (.ref r0)])) rfl rfl (hb hby dprog_27_1_27)
  have Fw29 := (((F_process.ext E22).other W25 (Or.inr (slot_ne (Or.inr (own_w hw 49)) (Or.inr (own_w hw 46)) (by decide) (t := (.object "java/lang/String")) (t' := (.object "java/lang/String")) (by decide) (by decide)))).ext E26).same W29
  have O29 := Old.wr O26 W29 g_r0
  have N29 := Fr.snoc X29 N27 g_r0
  have K29 := Keep.wr K26 W29 (Or.inl (List.mem_of_getElem? (i := 0) rfl))
  obtain ⟨a30, T30, h30, k30, X30, e30, E30, hS30, hk30, hZ30, hown30, st30⟩ := ldcS (s := s) (vm0 := T26.vm) X29 hx hZ26 hown26 (own_w hw 50) (own_wS hw) e29 hS26 (Nat.le_trans hk26 (Keep.of_wr W29).1) (g := (mkF m 32 #[.val (.ref r0), .val (.ref r1), .val (.ref r2), .val (.ref r3)] [(.ref r3), (.ref r0)])) rfl (hb hby dprog_27_1_32) (n := 16) (by decide +kernel) (by decide) (by decide) (by decide)
  have O30 := O29.ext E30
  have K30 := Keep.ext K29 E30
  obtain ⟨_, _, ⟨T31, L31, k31, n31⟩, -, X31, ⟨Lc31, hQ31, l31, y31, z31⟩, st31⟩ := Jvm.LawKit.callS X30 hx (y := (⟨"java/util/Objects", "requireNonNull", "(Ljava/lang/Object;Ljava/lang/String;)Ljava/lang/Object;"⟩ : MethodName)) hown30 (mvT hZ30 (own_w hw 40)) (mvT hZ30 (own_w hw 41)) (mvT hZ30 (own_w hw 42)) (mvT hZ30 (own_w hw 43)) (by decide) (backOf (W := 1) (rmN l Z a0 hw [] r3 a30 h30 n0 (own_le O30) ) hZ30 (own_w hw 43) (own_w hw 42) (by decide) (by decide)) (g := (mkF m 34 #[.val (.ref r0), .val (.ref r1), .val (.ref r2), .val (.ref r3)] [(.ref a30), (.ref r3), (.ref r0)])) rfl (by rw [hml]; rfl) (argsL := [(.ref r3), (.ref a30)]) (rest := [(.ref r0)]) (lenOf pd_5 rfl) rfl (by show 2 * 0 + _ ≤ _; exact Nat.le_of_eq rfl) (hb hby dprog_27_1_34) (fun _ _ => ⟨rfl, e30, (by decide : 6 + 0 ≤ _), (by decide : 96 + 0 ≤ _)⟩)
  dsimp only [Pt.U, Pt.locs, Pt.cells, Pt.slots] at X31 l31 y31 z31 st31 hQ31
  subst l31 y31 z31
  obtain ⟨rfl, N31q, e31⟩ := hQ31
  have N31 := Fr.app N29 N31q
  refine own_by (W' := (T31.setTop (mkF m 37 #[.val (.ref r0), .val (.ref r1), .val (.ref r2), .val (.ref r3)] [(.ref r3), (.ref r0)]))) (fun t k => st28 _ (st29 _ (XS.aloadN X29.here hx rfl (hb hby dprog_27_1_30) rfl rfl (XS.aloadN X29.here hx rfl (hb hby dprog_27_1_31) rfl rfl (st30 _ (st31 _ k)))))) ?_
  obtain ⟨T32, X32, e32, st32⟩ := castY X31 hx hZ30 hown30 (own_w hw 44) e31 (Ins.self (((((E3.ext E22).wr W25).ext E26).wr W29).ext E30)) (g := (mkF m 37 #[.val (.ref r0), .val (.ref r1), .val (.ref r2), .val (.ref r3)] [(.ref r3), (.ref r0)])) rfl rfl (hb hby dprog_27_1_37)
  obtain ⟨T33, h33, X33, e33, W33, st33⟩ := putF X32 hx hZ30 hown30 (host := "") (Or.inl (own_w hw 51)) Via.refl e32 (((((F_need.ext E22).other W25 (Or.inr (slot_ne (Or.inr (own_w hw 52)) (Or.inr (own_w hw 46)) (by decide) (t := (.object "java/lang/String")) (t' := (.object "java/lang/String")) (by decide) (by decide)))).ext E26).other W29 (Or.inr (slot_ne (Or.inr (own_w hw 52)) (Or.inr (own_w hw 49)) (by decide) (t := (.object "java/lang/String")) (t' := (.object "java/lang/String")) (by decide) (by decide)))).ext E30) (((((E0.ext E22).wr W25).ext E26).wr W29).ext E30) (Or.inr ⟨(own_w hw 52), rfl, hnm⟩) (own_w hw 1) (ty := (.object "java/lang/String")) (by decide) rfl rfl (g := (mkF m 40 #[.val (.ref r0), .val (.ref r1), .val (.ref r2), .val (.ref r3)] [(.ref r3), (.ref r0)])) rfl rfl (hb hby dprog_27_1_40)
  have Fw33 := (((((F_need.ext E22).other W25 (Or.inr (slot_ne (Or.inr (own_w hw 52)) (Or.inr (own_w hw 46)) (by decide) (t := (.object "java/lang/String")) (t' := (.object "java/lang/String")) (by decide) (by decide)))).ext E26).other W29 (Or.inr (slot_ne (Or.inr (own_w hw 52)) (Or.inr (own_w hw 49)) (by decide) (t := (.object "java/lang/String")) (t' := (.object "java/lang/String")) (by decide) (by decide)))).ext E30).same W33
  have O33 := Old.wr O30 W33 g_r0
  have N33 := Fr.snoc X33 N31 g_r0
  have K33 := Keep.wr K30 W33 (Or.inl (List.mem_of_getElem? (i := 0) rfl))
  obtain ⟨fs, hr, hrun, hended, hEnd⟩ := Jvm.Stand.leaveW (s := s) (vm₁ := T30.vm) X33 hS30 (by rw [e33]; exact (Nat.le_trans hk30 (Keep.of_wr W33).1)) (v := none) (fun _ => rfl)
  refine own_by (W' := (T33.setTop (mkF m 43 #[.val (.ref r0), .val (.ref r1), .val (.ref r2), .val (.ref r3)] []))) (fun t k => st32 _ (st33 _ k)) ?_
  refine ⟨_, _, X33.returnOut hx Bd.returns (hb hby dprog_27_1_43) hr, hrun, hended, _, _, rfl, ?_, hEnd.1, hEnd.2.1, hEnd.2.2.1, hEnd.2.2.2.mono (by decide) (by decide)⟩
  show QU Z r0 r1 r2 r3 h0 n0 _ T33.heap _
  rw [e33]
  exact ⟨rfl, N33, K33, ((((((E0.ext E22).wr W25).ext E26).wr W29).ext E30).wr W33), ((((Fw25.ext E26).other W29 (Or.inr (slot_ne (Or.inr (own_w hw 46)) (Or.inr (own_w hw 49)) (by decide) (t := (.object "java/lang/String")) (t' := (.object "java/lang/String")) (by decide) (by decide)))).ext E30).other W33 (Or.inr (slot_ne (Or.inr (own_w hw 46)) (Or.inr (own_w hw 52)) (by decide) (t := (.object "java/lang/String")) (t' := (.object "java/lang/String")) (by decide) (by decide)))), ((Fw29.ext E30).other W33 (Or.inr (slot_ne (Or.inr (own_w hw 49)) (Or.inr (own_w hw 52)) (by decide) (t := (.object "java/lang/String")) (t' := (.object "java/lang/String")) (by decide) (by decide)))), Fw33⟩
theorem djdk_43_13_0 : decode jdk_43_method_13_code 0 = .ok (.aload_n 0, 1) := by decide +kernel
theorem djdk_43_13_1 : decode jdk_43_method_13_code 1 = .ok (.arraylength, 1) := by decide +kernel
theorem djdk_43_13_2 : decode jdk_43_method_13_code 2 = .ok (.aload_n 1, 1) := by decide +kernel
theorem djdk_43_13_3 : decode jdk_43_method_13_code 3 = .ok (.arraylength, 1) := by decide +kernel
theorem djdk_43_13_4 : decode jdk_43_method_13_code 4 = .ok (.if_icmp .ne 30, 3) := by decide +kernel
theorem djdk_43_13_7 : decode jdk_43_method_13_code 7 = .ok (.iconst 0, 1) := by decide +kernel
theorem djdk_43_13_8 : decode jdk_43_method_13_code 8 = .ok (.istore_n 2, 1) := by decide +kernel
theorem djdk_43_13_9 : decode jdk_43_method_13_code 9 = .ok (.iload_n 2, 1) := by decide +kernel
theorem djdk_43_13_10 : decode jdk_43_method_13_code 10 = .ok (.aload_n 0, 1) := by decide +kernel
theorem djdk_43_13_11 : decode jdk_43_method_13_code 11 = .ok (.arraylength, 1) := by decide +kernel
theorem djdk_43_13_12 : decode jdk_43_method_13_code 12 = .ok (.if_icmp .ge 20, 3) := by decide +kernel
theorem djdk_43_13_15 : decode jdk_43_method_13_code 15 = .ok (.aload_n 0, 1) := by decide +kernel
theorem djdk_43_13_16 : decode jdk_43_method_13_code 16 = .ok (.iload_n 2, 1) := by decide +kernel
theorem djdk_43_13_17 : decode jdk_43_method_13_code 17 = .ok (.baload, 1) := by decide +kernel
theorem djdk_43_13_18 : decode jdk_43_method_13_code 18 = .ok (.aload_n 1, 1) := by decide +kernel
theorem djdk_43_13_19 : decode jdk_43_method_13_code 19 = .ok (.iload_n 2, 1) := by decide +kernel
theorem djdk_43_13_20 : decode jdk_43_method_13_code 20 = .ok (.baload, 1) := by decide +kernel
theorem djdk_43_13_21 : decode jdk_43_method_13_code 21 = .ok (.if_icmp .eq 5, 3) := by decide +kernel
theorem djdk_43_13_24 : decode jdk_43_method_13_code 24 = .ok (.iconst 0, 1) := by decide +kernel
theorem djdk_43_13_25 : decode jdk_43_method_13_code 25 = .ok (.ireturn, 1) := by decide +kernel
theorem djdk_43_13_26 : decode jdk_43_method_13_code 26 = .ok (.iinc 2 1, 3) := by decide +kernel
theorem djdk_43_13_29 : decode jdk_43_method_13_code 29 = .ok (.goto (-20), 3) := by decide +kernel
theorem djdk_43_13_32 : decode jdk_43_method_13_code 32 = .ok (.iconst 1, 1) := by decide +kernel
theorem djdk_43_13_33 : decode jdk_43_method_13_code 33 = .ok (.ireturn, 1) := by decide +kernel
theorem efQ (m : MethodId) (r0 : Addr) (r1 : Addr) : entryFrame m #[(.ref r0), (.ref r1)] 3 = mkF m 0 #[.val (.ref r0), .val (.ref r1), .unset] [] := by first | (simp [entryFrame, mkF, argsToLocals, Value.category]; done) | rfl
def QQ (Z : State) (r0 : Addr) (r1 : Addr) (k0 : ClassId) (k1 : ClassId) (xb : Int32) (yb : Int32) (h0 : Heap) (n0 : Nat) (v : Option Value) (h : Heap) (L : List Loc) : Prop := v = some (.int (own_eq xb yb)) ∧ Fr n0 L ∧ h = h0
abbrev own_KQ (Z : State) (r0 : Addr) (r1 : Addr) (k0 : ClassId) (k1 : ClassId) (xb : Int32) (yb : Int32) (h0 : Heap) (n0 : Nat) (s : State) : Outcome → State → Prop := fun o U' => ∃ v L, o = .returned v ∧ QQ Z r0 r1 k0 k1 xb yb h0 n0 v U'.heap L ∧ FrameEnd s o U' L ({ frames := 0, cells := 0, slots := 0, locals := 0 } : Room).cells ({ frames := 0, cells := 0, slots := 0, locals := 0 } : Room).slots
set_option maxRecDepth 65536 in
set_option maxHeartbeats 40000000 in
theorem rmQ (l : Launch) (Z : State) (a0 : Array Value) (hw : ∀ d ∈ tables_1, d.before a0 Z = true) (ws : List Jvm.Cond) (r0 : Addr) (r1 : Addr) (k0 : ClassId) (k1 : ClassId) (xb : Int32) (yb : Int32) (h0 : Heap) (n0 : Nat) (Z0 : n0 ≤ h0.size) (V0 : Arv Z h0 r0 k0 .byte (1 : Int32) [(.int xb)] (.int (0 : Int32))) (V1 : Arv Z h0 r1 k1 .byte (1 : Int32) [(.int yb)] (.int (0 : Int32))) :
    MetFree l (⟨"java/lang/StringLatin1", "equals", "([B[B)Z"⟩ : MethodName) (head1 (Jvm.Cond.code (⟨"java/lang/StringLatin1", "equals", "([B[B)Z"⟩ : MethodName) jdk_43_method_13_code 3 (some .boolean) :: ws) ({ frames := 0, cells := 0, slots := 0, locals := 0 } : Room)) (fun a U => a = #[(.ref r0), (.ref r1)] ∧ Z.Warmed39 U.vm ∧ U.heap = h0) (fun _ _ _ _ _ => True) (fun _ U o U' => ∃ v L, o = .returned v ∧ QQ Z r0 r1 k0 k1 xb yb h0 n0 v U'.heap L ∧ FrameEnd U o U' L ({ frames := 0, cells := 0, slots := 0, locals := 0 } : Room).cells ({ frames := 0, cells := 0, slots := 0, locals := 0 } : Room).slots) := by
  refine MetFree.of_bodySF (plainFor_of_name pn_java_lang_StringLatin1) hisR ?_
  intro p e s m args below meth c s₁ Bd hml0 hP hK
  obtain ⟨rfl, hZ, hh⟩ := hP
  have hx := Bd.exec
  have hby := Bd.bytes
  have hml : c.maxLocals = 3 := hml0
  have hown : s.vm.findClass "java/lang/StringLatin1" = some m.cls := findClass_of_methodNamed Bd.named
  have hnm := (name_of_methodNamed Bd.named Bd.method).1
  have X0 : Stand p l e ({ frames := 0, cells := 0, slots := 0, locals := 0 } : Room) s m #[(.ref r0), (.ref r1)] below meth c s₁ [] 0 0 := Stand.of_body Bd
  have e0 : s₁.heap = h0 := by rw [← hh, Bd.state]; rfl
  have N0 := Fr.nil n0
  refine own_by (p := p) (e := e) (below := below) (K := own_KQ Z r0 r1 k0 k1 xb yb h0 n0 s) (W' := s₁.setTop (mkF m 0 #[.val (.ref r0), .val (.ref r1), .unset] [])) (fun t k => castTop (efQ m r0 r1) k) ?_
  obtain ⟨clu21, Aru21, qu21, Su21, Ngu21, Hau21, Gau21⟩ := id V0
  refine own_by (W' := (s₁.setTop (mkF m 2 #[.val (.ref r0), .val (.ref r1), .unset] [(.int clu21.slots.size.toInt32)]))) (fun t k => XS.aloadN X0.here hx rfl (hb hby djdk_43_13_0) rfl rfl ((X0.arraylength hx (by rw [e0]; exact Aru21.1) (State.isArrayOf_alike hZ.alike Aru21.2.1) (g := (mkF m 1 #[.val (.ref r0), .val (.ref r1), .unset] [(.ref r0)])) rfl rfl (hb hby djdk_43_13_1)) _ k)) ?_
  rw [len_of Su21 Ngu21]
  obtain ⟨clu22, Aru22, qu22, Su22, Ngu22, Hau22, Gau22⟩ := id V1
  refine own_by (W' := (s₁.setTop (mkF m 4 #[.val (.ref r0), .val (.ref r1), .unset] [(.int clu22.slots.size.toInt32), (.int (1 : Int32))]))) (fun t k => XS.aloadN X0.here hx rfl (hb hby djdk_43_13_2) rfl rfl ((X0.arraylength hx (by rw [e0]; exact Aru22.1) (State.isArrayOf_alike hZ.alike Aru22.2.1) (g := (mkF m 3 #[.val (.ref r0), .val (.ref r1), .unset] [(.ref r1), (.int (1 : Int32))])) rfl rfl (hb hby djdk_43_13_3)) _ k)) ?_
  rw [len_of Su22 Ngu22]
  obtain ⟨clu23, Aru23, qu23, Su23, Ngu23, Hau23, Gau23⟩ := id V0
  refine own_by (W' := (s₁.setTop (mkF m 12 #[.val (.ref r0), .val (.ref r1), .val (.int (0 : Int32))] [(.int clu23.slots.size.toInt32), (.int (0 : Int32))]))) (fun t k => XS.icmpNo X0.here hx rfl (hb hby djdk_43_13_4) rfl (teq (rfl : (1 : Int32) = (1 : Int32))).2 (XS.iconst X0.here hx rfl (hb hby djdk_43_13_7) (XS.istoreN X0.here hx rfl (hb hby djdk_43_13_8) rfl (l' := #[.val (.ref r0), .val (.ref r1), .val (.int (0 : Int32))]) rfl (XS.iloadN X0.here hx rfl (hb hby djdk_43_13_9) rfl (XS.aloadN X0.here hx rfl (hb hby djdk_43_13_10) rfl rfl ((X0.arraylength hx (by rw [e0]; exact Aru23.1) (State.isArrayOf_alike hZ.alike Aru23.2.1) (g := (mkF m 11 #[.val (.ref r0), .val (.ref r1), .val (.int (0 : Int32))] [(.ref r0), (.int (0 : Int32))])) rfl rfl (hb hby djdk_43_13_11)) _ k)))))) ?_
  rw [len_of Su23 Ngu23]
  obtain ⟨clu24, Aru24, qu24, Su24, Ngu24, Hau24, Gau24⟩ := id V0
  have hinu24 : ¬ ((0 : Int32) < 0 ∨ clu24.slots.size ≤ ((0 : Int32)).toNatClampNeg) := inb_of Su24 ⟨by decide, by decide⟩
  have hatu24 : clu24.slots[((0 : Int32)).toNatClampNeg]? = some (.int xb) := Has.at Hau24 hinu24 rfl
  refine own_by (W' := (s₁.setTop (mkF m 20 #[.val (.ref r0), .val (.ref r1), .val (.int (0 : Int32))] [(.int (0 : Int32)), (.ref r1), (.int xb)]))) (fun t k => XS.icmpNo X0.here hx rfl (hb hby djdk_43_13_12) rfl (tlt (by decide : (0 : Int32) < (1 : Int32))).2.1 (XS.aloadN X0.here hx rfl (hb hby djdk_43_13_15) rfl rfl (XS.iloadN X0.here hx rfl (hb hby djdk_43_13_16) rfl ((X0.baloadBytes hx (j := (0 : Int32)) (v := (.int xb)) (by rw [e0]; exact Aru24.1) (State.isArrayOf_alike hZ.alike Aru24.2.1) Aru24.2.2 hinu24 hatu24 (g := (mkF m 17 #[.val (.ref r0), .val (.ref r1), .val (.int (0 : Int32))] [(.int (0 : Int32)), (.ref r0)])) rfl rfl (hb hby djdk_43_13_17)) _ (XS.aloadN X0.here hx rfl (hb hby djdk_43_13_18) rfl rfl (XS.iloadN X0.here hx rfl (hb hby djdk_43_13_19) rfl k)))))) ?_
  obtain ⟨clu25, Aru25, qu25, Su25, Ngu25, Hau25, Gau25⟩ := id V1
  have hinu25 : ¬ ((0 : Int32) < 0 ∨ clu25.slots.size ≤ ((0 : Int32)).toNatClampNeg) := inb_of Su25 ⟨by decide, by decide⟩
  have hatu25 : clu25.slots[((0 : Int32)).toNatClampNeg]? = some (.int yb) := Has.at Hau25 hinu25 rfl
  refine own_by (W' := (s₁.setTop (mkF m 21 #[.val (.ref r0), .val (.ref r1), .val (.int (0 : Int32))] [(.int yb), (.int xb)]))) (fun t k => (X0.baloadBytes hx (j := (0 : Int32)) (v := (.int yb)) (by rw [e0]; exact Aru25.1) (State.isArrayOf_alike hZ.alike Aru25.2.1) Aru25.2.2 hinu25 hatu25 (g := (mkF m 20 #[.val (.ref r0), .val (.ref r1), .val (.int (0 : Int32))] [(.int (0 : Int32)), (.ref r1), (.int xb)])) rfl rfl (hb hby djdk_43_13_20)) _ k) ?_
  by_cases hc26 : xb = yb
  ·
    obtain ⟨clu27, Aru27, qu27, Su27, Ngu27, Hau27, Gau27⟩ := id V0
    refine own_by (W' := (s₁.setTop (mkF m 12 #[.val (.ref r0), .val (.ref r1), .val (.int (1 : Int32))] [(.int clu27.slots.size.toInt32), (.int (1 : Int32))]))) (fun t k => XS.icmpYes X0.here hx rfl (pc0 := 21) (pc' := 26) rfl (hb hby djdk_43_13_21) rfl (teq hc26).1 (by decide) (by decide) (XS.iinc X0.here hx rfl (hb hby djdk_43_13_26) rfl (l' := #[.val (.ref r0), .val (.ref r1), .val (.int (1 : Int32))]) rfl (XS.goto X0.here hx rfl (pc0 := 29) (pc' := 9) rfl (hb hby djdk_43_13_29) (by decide) (by decide) (XS.iloadN X0.here hx rfl (hb hby djdk_43_13_9) rfl (XS.aloadN X0.here hx rfl (hb hby djdk_43_13_10) rfl rfl ((X0.arraylength hx (by rw [e0]; exact Aru27.1) (State.isArrayOf_alike hZ.alike Aru27.2.1) (g := (mkF m 11 #[.val (.ref r0), .val (.ref r1), .val (.int (1 : Int32))] [(.ref r0), (.int (1 : Int32))])) rfl rfl (hb hby djdk_43_13_11)) _ k)))))) ?_
    rw [len_of Su27 Ngu27]
    obtain ⟨fs, hr, hrun, hended, hW, hsame⟩ := X0.leave (v := some (.int (1 : Int32))) (fun h => by rw [Bd.returns] at h; cases h)
    refine own_by (W' := (s₁.setTop (mkF m 33 #[.val (.ref r0), .val (.ref r1), .val (.int (1 : Int32))] [(.int (1 : Int32))]))) (fun t k => XS.icmpYes X0.here hx rfl (pc0 := 12) (pc' := 32) rfl (hb hby djdk_43_13_12) rfl (flt (by decide : ¬ ((1 : Int32) < (1 : Int32)))).2.1 (by decide) (by decide) (XS.iconst X0.here hx rfl (hb hby djdk_43_13_32) k)) ?_
    refine ⟨_, _, retOut X0 hx Bd.returns rfl (Or.inl ⟨rfl, Or.inr (Or.inl rfl), _, rfl⟩) (hb hby djdk_43_13_33) hr, hrun, hended, _, _, rfl, ?_, ⟨_, rfl⟩, hW, hsame.mono (by decide) (by decide)⟩
    refine ⟨congrArg (fun z => some (Value.int z)) ?_, N0, e0⟩
    rw [own_eq, if_pos hc26]
  ·
    obtain ⟨fs, hr, hrun, hended, hW, hsame⟩ := X0.leave (v := some (.int (0 : Int32))) (fun h => by rw [Bd.returns] at h; cases h)
    refine own_by (W' := (s₁.setTop (mkF m 25 #[.val (.ref r0), .val (.ref r1), .val (.int (0 : Int32))] [(.int (0 : Int32))]))) (fun t k => XS.icmpNo X0.here hx rfl (hb hby djdk_43_13_21) rfl (feq hc26).1 (XS.iconst X0.here hx rfl (hb hby djdk_43_13_24) k)) ?_
    refine ⟨_, _, retOut X0 hx Bd.returns rfl (Or.inl ⟨rfl, Or.inr (Or.inl rfl), _, rfl⟩) (hb hby djdk_43_13_25) hr, hrun, hended, _, _, rfl, ?_, ⟨_, rfl⟩, hW, hsame.mono (by decide) (by decide)⟩
    refine ⟨congrArg (fun z => some (Value.int z)) ?_, N0, e0⟩
    rw [own_eq, if_neg hc26]
theorem pd_6 : parseMethodDescriptor "([B[B)Z" = some ⟨[(.array .byte), (.array .byte)], some .boolean⟩ := by decide +kernel
theorem djdk_42_66_0 : decode jdk_42_method_66_code 0 = .ok (.aload_n 0, 1) := by decide +kernel
theorem djdk_42_66_1 : decode jdk_42_method_66_code 1 = .ok (.aload_n 1, 1) := by decide +kernel
theorem djdk_42_66_2 : decode jdk_42_method_66_code 2 = .ok (.if_acmp .ne 5, 3) := by decide +kernel
theorem djdk_42_66_5 : decode jdk_42_method_66_code 5 = .ok (.iconst 1, 1) := by decide +kernel
theorem djdk_42_66_6 : decode jdk_42_method_66_code 6 = .ok (.ireturn, 1) := by decide +kernel
theorem djdk_42_66_7 : decode jdk_42_method_66_code 7 = .ok (.aload_n 1, 1) := by decide +kernel
theorem djdk_42_66_8 : decode jdk_42_method_66_code 8 = .ok (.instanceof 10, 3) := by decide +kernel
theorem djdk_42_66_11 : decode jdk_42_method_66_code 11 = .ok (.ifCond .eq 43, 3) := by decide +kernel
theorem djdk_42_66_14 : decode jdk_42_method_66_code 14 = .ok (.aload_n 1, 1) := by decide +kernel
theorem djdk_42_66_15 : decode jdk_42_method_66_code 15 = .ok (.checkcast 10, 3) := by decide +kernel
theorem djdk_42_66_18 : decode jdk_42_method_66_code 18 = .ok (.astore_n 2, 1) := by decide +kernel
theorem djdk_42_66_19 : decode jdk_42_method_66_code 19 = .ok (.getstatic 38, 3) := by decide +kernel
theorem djdk_42_66_22 : decode jdk_42_method_66_code 22 = .ok (.ifCond .eq 14, 3) := by decide +kernel
theorem djdk_42_66_25 : decode jdk_42_method_66_code 25 = .ok (.aload_n 0, 1) := by decide +kernel
theorem djdk_42_66_26 : decode jdk_42_method_66_code 26 = .ok (.getfield 15, 3) := by decide +kernel
theorem djdk_42_66_29 : decode jdk_42_method_66_code 29 = .ok (.aload_n 2, 1) := by decide +kernel
theorem djdk_42_66_30 : decode jdk_42_method_66_code 30 = .ok (.getfield 15, 3) := by decide +kernel
theorem djdk_42_66_33 : decode jdk_42_method_66_code 33 = .ok (.if_icmp .ne 21, 3) := by decide +kernel
theorem djdk_42_66_36 : decode jdk_42_method_66_code 36 = .ok (.aload_n 0, 1) := by decide +kernel
theorem djdk_42_66_37 : decode jdk_42_method_66_code 37 = .ok (.getfield 9, 3) := by decide +kernel
theorem djdk_42_66_40 : decode jdk_42_method_66_code 40 = .ok (.aload_n 2, 1) := by decide +kernel
theorem djdk_42_66_41 : decode jdk_42_method_66_code 41 = .ok (.getfield 9, 3) := by decide +kernel
theorem djdk_42_66_44 : decode jdk_42_method_66_code 44 = .ok (.invokestatic 541, 3) := by decide +kernel
theorem djdk_42_66_47 : decode jdk_42_method_66_code 47 = .ok (.ifCond .eq 7, 3) := by decide +kernel
theorem djdk_42_66_50 : decode jdk_42_method_66_code 50 = .ok (.iconst 1, 1) := by decide +kernel
theorem djdk_42_66_51 : decode jdk_42_method_66_code 51 = .ok (.goto 4, 3) := by decide +kernel
theorem djdk_42_66_54 : decode jdk_42_method_66_code 54 = .ok (.iconst 0, 1) := by decide +kernel
theorem djdk_42_66_55 : decode jdk_42_method_66_code 55 = .ok (.ireturn, 1) := by decide +kernel
theorem efE (m : MethodId) (r0 : Addr) (r1 : Addr) : entryFrame m #[(.ref r0), (.ref r1)] 3 = mkF m 0 #[.val (.ref r0), .val (.ref r1), .unset] [] := by first | (simp [entryFrame, mkF, argsToLocals, Value.category]; done) | rfl
def QE (Z : State) (r0 : Addr) (r1 : Addr) (xs : Int32) (ys : Int32) (cs : Int32) (h0 : Heap) (n0 : Nat) (v : Option Value) (h : Heap) (L : List Loc) : Prop := v = some (.int (own_eq xs ys)) ∧ Fr n0 L ∧ h = h0
abbrev own_KE (Z : State) (r0 : Addr) (r1 : Addr) (xs : Int32) (ys : Int32) (cs : Int32) (h0 : Heap) (n0 : Nat) (s : State) : Outcome → State → Prop := fun o U' => ∃ v L, o = .returned v ∧ QE Z r0 r1 xs ys cs h0 n0 v U'.heap L ∧ FrameEnd s o U' L ({ frames := 1, cells := 0, slots := 0, locals := 14 } : Room).cells ({ frames := 1, cells := 0, slots := 0, locals := 14 } : Room).slots
set_option maxRecDepth 65536 in
set_option maxHeartbeats 40000000 in
theorem rmE (l : Launch) (Z : State) (a0 : Array Value) (hw : ∀ d ∈ tables_1, d.before a0 Z = true) (ws : List Jvm.Cond) (r0 : Addr) (r1 : Addr) (xs : Int32) (ys : Int32) (cs : Int32) (h0 : Heap) (n0 : Nat) (Z0 : n0 ≤ h0.size) (O0 : Old Z n0 h0) (HW : own_Wd Z cs) (T0 : own_S1 Z h0 r0 xs) (T1 : own_S1 Z h0 r1 ys) :
    MetFree l (⟨"java/lang/String", "equals", "(Ljava/lang/Object;)Z"⟩ : MethodName) (head1 (Jvm.Cond.code (⟨"java/lang/String", "equals", "(Ljava/lang/Object;)Z"⟩ : MethodName) jdk_42_method_66_code 3 (some .boolean) :: ws) ({ frames := 1, cells := 0, slots := 0, locals := 14 } : Room)) (fun a U => a = #[(.ref r0), (.ref r1)] ∧ Z.Warmed39 U.vm ∧ U.heap = h0) (fun _ _ _ _ _ => True) (fun _ U o U' => ∃ v L, o = .returned v ∧ QE Z r0 r1 xs ys cs h0 n0 v U'.heap L ∧ FrameEnd U o U' L ({ frames := 1, cells := 0, slots := 0, locals := 14 } : Room).cells ({ frames := 1, cells := 0, slots := 0, locals := 14 } : Room).slots) := by
  refine MetFree.of_bodySF (plainFor_of_name pn_java_lang_String) hisR ?_
  intro p e s m args below meth c s₁ Bd hml0 hP hK
  obtain ⟨rfl, hZ, hh⟩ := hP
  have hx := Bd.exec
  have hby := Bd.bytes
  have hml : c.maxLocals = 3 := hml0
  have hown : s.vm.findClass "java/lang/String" = some m.cls := findClass_of_methodNamed Bd.named
  have hnm := (name_of_methodNamed Bd.named Bd.method).1
  have X0 : Stand p l e ({ frames := 1, cells := 0, slots := 0, locals := 14 } : Room) s m #[(.ref r0), (.ref r1)] below meth c s₁ [] 0 0 := Stand.of_body Bd
  have e0 : s₁.heap = h0 := by rw [← hh, Bd.state]; rfl
  have N0 := Fr.nil n0
  refine own_by (p := p) (e := e) (below := below) (K := own_KE Z r0 r1 xs ys cs h0 n0 s) (W' := s₁.setTop (mkF m 0 #[.val (.ref r0), .val (.ref r1), .unset] [])) (fun t k => castTop (efE m r0 r1) k) ?_
  obtain ⟨E0, C0, q0_, k0, F0, V0⟩ := id T0
  obtain ⟨E1, C1, q1_, k1, F1, V1⟩ := id T1
  refine own_by (W' := (s₁.setTop (mkF m 2 #[.val (.ref r0), .val (.ref r1), .unset] [(.ref r1), (.ref r0)]))) (fun t k => XS.aloadN X0.here hx rfl (hb hby djdk_42_66_0) rfl rfl (XS.aloadN X0.here hx rfl (hb hby djdk_42_66_1) rfl rfl k)) ?_
  by_cases hc21 : r0 = r1
  ·
    obtain ⟨fs, hr, hrun, hended, hW, hsame⟩ := X0.leave (v := some (.int (1 : Int32))) (fun h => by rw [Bd.returns] at h; cases h)
    refine own_by (W' := (s₁.setTop (mkF m 6 #[.val (.ref r0), .val (.ref r1), .unset] [(.int (1 : Int32))]))) (fun t k => Jvm.RoadKit.acmp (g := (mkF m 2 #[.val (.ref r0), .val (.ref r1), .unset] [(.ref r1), (.ref r0)])) X0 hx rfl rfl rfl (pc0 := 2) (pc' := 5) (same := true) rfl (hb hby djdk_42_66_2) rfl (decide_eq_true (congrArg Value.ref hc21)) (by decide) (by decide) (XS.iconst X0.here hx rfl (hb hby djdk_42_66_5) k)) ?_
    refine ⟨_, _, retOut X0 hx Bd.returns rfl (Or.inl ⟨rfl, Or.inr (Or.inl rfl), _, rfl⟩) (hb hby djdk_42_66_6) hr, hrun, hended, _, _, rfl, ?_, ⟨_, rfl⟩, hW, hsame.mono (by decide) (by decide)⟩
    refine ⟨congrArg (fun z => some (Value.int z)) ?_, N0, e0⟩
    have hxy := own_S1.inj T0 (hc21 ▸ T1)
    rw [own_eq, if_pos hxy]
  ·
    obtain ⟨T22, X22, e22, st22⟩ := instY X0 hx hZ hown (own_w hw 16) e0 (Ins.self E1) (g := (mkF m 8 #[.val (.ref r0), .val (.ref r1), .unset] [(.ref r1)])) rfl rfl (hb hby djdk_42_66_8)
    obtain ⟨T23, X23, e23, st23⟩ := castY X22 hx hZ hown (own_w hw 16) e22 (Ins.self E1) (g := (mkF m 15 #[.val (.ref r0), .val (.ref r1), .unset] [(.ref r1)])) rfl rfl (hb hby djdk_42_66_15)
    refine own_by (W' := (T23.setTop (mkF m 18 #[.val (.ref r0), .val (.ref r1), .unset] [(.ref r1)]))) (fun t k => Jvm.RoadKit.acmp (g := (mkF m 2 #[.val (.ref r0), .val (.ref r1), .unset] [(.ref r1), (.ref r0)])) X0 hx rfl rfl rfl (pc0 := 2) (pc' := 7) (same := false) rfl (hb hby djdk_42_66_2) rfl (decide_eq_false fun q => hc21 (Value.ref.inj q)) (by decide) (by decide) (XS.aloadN X0.here hx rfl (hb hby djdk_42_66_7) rfl rfl (st22 _ (XS.ifNo X22.here hx rfl (hb hby djdk_42_66_11) rfl ((if0 _ _).trans (feq (by decide : ¬ ((1 : Int32) = (0 : Int32)))).1) (XS.aloadN X22.here hx rfl (hb hby djdk_42_66_14) rfl rfl (st23 _ k)))))) ?_
    obtain ⟨T24, X24, e24, st24⟩ := getS (host := "") X23 hx hZ hown (own_w hw 11) Via.refl e23 (HW.1.ext O0.2) (g := (mkF m 19 #[.val (.ref r0), .val (.ref r1), .val (.ref r1)] [])) rfl (hb hby djdk_42_66_19)
    obtain ⟨T25, X25, e25, st25⟩ := getF X24 hx hZ hown (host := "") (Or.inl (own_w hw 31)) Via.refl e24 C0 (g := (mkF m 26 #[.val (.ref r0), .val (.ref r1), .val (.ref r1)] [(.ref r0)])) rfl rfl (hb hby djdk_42_66_26)
    refine own_by (W' := (T25.setTop (mkF m 30 #[.val (.ref r0), .val (.ref r1), .val (.ref r1)] [(.ref r1), (.int (0 : Int32))]))) (fun t k => XS.astoreN X23.here hx rfl (hb hby djdk_42_66_18) rfl rfl (l' := #[.val (.ref r0), .val (.ref r1), .val (.ref r1)]) rfl (st24 _ (XS.ifNo X24.here hx rfl (hb hby djdk_42_66_22) rfl ((if0 _ _).trans (feq HW.2).1) (XS.aloadN X24.here hx rfl (hb hby djdk_42_66_25) rfl rfl (st25 _ (XS.aloadN X25.here hx rfl (hb hby djdk_42_66_29) rfl rfl k)))))) ?_
    obtain ⟨T26, X26, e26, st26⟩ := getF X25 hx hZ hown (host := "") (Or.inl (own_w hw 31)) Via.refl e25 C1 (g := (mkF m 30 #[.val (.ref r0), .val (.ref r1), .val (.ref r1)] [(.ref r1), (.int (0 : Int32))])) rfl rfl (hb hby djdk_42_66_30)
    obtain ⟨T27, X27, e27, st27⟩ := getF X26 hx hZ hown (host := "") (Or.inl (own_w hw 29)) Via.refl e26 F0 (g := (mkF m 37 #[.val (.ref r0), .val (.ref r1), .val (.ref r1)] [(.ref r0)])) rfl rfl (hb hby djdk_42_66_37)
    obtain ⟨T28, X28, e28, st28⟩ := getF X27 hx hZ hown (host := "") (Or.inl (own_w hw 29)) Via.refl e27 F1 (g := (mkF m 41 #[.val (.ref r0), .val (.ref r1), .val (.ref r1)] [(.ref r1), (.ref q0_)])) rfl rfl (hb hby djdk_42_66_41)
    refine own_by (W' := (T28.setTop (mkF m 44 #[.val (.ref r0), .val (.ref r1), .val (.ref r1)] [(.ref q1_), (.ref q0_)]))) (fun t k => st26 _ (XS.icmpNo X26.here hx rfl (hb hby djdk_42_66_33) rfl (teq (rfl : (0 : Int32) = (0 : Int32))).2 (XS.aloadN X26.here hx rfl (hb hby djdk_42_66_36) rfl rfl (st27 _ (XS.aloadN X27.here hx rfl (hb hby djdk_42_66_40) rfl rfl (st28 _ k)))))) ?_
    obtain ⟨_, _, ⟨T29, L29, k29, n29⟩, -, X29, ⟨Lc29, hQ29, l29, y29, z29⟩, st29⟩ := Jvm.LawKit.callS X28 hx (y := (⟨"java/lang/StringLatin1", "equals", "([B[B)Z"⟩ : MethodName)) hown (mvT hZ (own_w hw 65)) (mvT hZ (own_w hw 66)) (mvT hZ (own_w hw 14)) (mvT hZ (own_w hw 67)) (by decide) (backOf (W := 0) (rmQ l Z a0 hw [] q0_ q1_ k0 k1 xs ys h0 n0 Z0 V0 V1) hZ (own_w hw 67) (own_w hw 14) (by decide) (by decide)) (g := (mkF m 44 #[.val (.ref r0), .val (.ref r1), .val (.ref r1)] [(.ref q1_), (.ref q0_)])) rfl (by rw [hml]; rfl) (argsL := [(.ref q0_), (.ref q1_)]) (rest := []) (lenOf pd_6 rfl) rfl (by show 2 * 0 + _ ≤ _; exact Nat.le_of_eq rfl) (hb hby djdk_42_66_44) (fun _ _ => ⟨rfl, e28, (by decide : 0 + 0 ≤ _), (by decide : 0 + 0 ≤ _)⟩)
    dsimp only [Pt.U, Pt.locs, Pt.cells, Pt.slots] at X29 l29 y29 z29 st29 hQ29
    subst l29 y29 z29
    obtain ⟨rfl, N29q, e29⟩ := hQ29
    have N29 := Fr.app N0 N29q
    refine own_by (W' := (T29.setTop (mkF m 47 #[.val (.ref r0), .val (.ref r1), .val (.ref r1)] [(.int (own_eq xs ys))]))) (fun t k => st29 _ k) ?_
    by_cases hc30 : (own_eq xs ys) = (0 : Int32)
    ·
      obtain ⟨fs, hr, hrun, hended, hW, hsame⟩ := X29.leave (v := some (.int (0 : Int32))) (fun h => by rw [Bd.returns] at h; cases h)
      refine own_by (W' := (T29.setTop (mkF m 55 #[.val (.ref r0), .val (.ref r1), .val (.ref r1)] [(.int (0 : Int32))]))) (fun t k => XS.ifYes X29.here hx rfl (pc0 := 47) (pc' := 54) rfl (hb hby djdk_42_66_47) rfl ((if0 _ _).trans (teq hc30).1) (by decide) (by decide) (XS.iconst X29.here hx rfl (hb hby djdk_42_66_54) k)) ?_
      refine ⟨_, _, retOut X29 hx Bd.returns rfl (Or.inl ⟨rfl, Or.inr (Or.inl rfl), _, rfl⟩) (hb hby djdk_42_66_55) hr, hrun, hended, _, _, rfl, ?_, ⟨_, rfl⟩, hW, hsame.mono (by decide) (by decide)⟩
      refine ⟨congrArg (fun z => some (Value.int z)) ?_, N29, e29⟩
      rw [own_eq] at hc30 ⊢
      split at hc30 <;> simp_all
    ·
      obtain ⟨fs, hr, hrun, hended, hW, hsame⟩ := X29.leave (v := some (.int (1 : Int32))) (fun h => by rw [Bd.returns] at h; cases h)
      refine own_by (W' := (T29.setTop (mkF m 55 #[.val (.ref r0), .val (.ref r1), .val (.ref r1)] [(.int (1 : Int32))]))) (fun t k => XS.ifNo X29.here hx rfl (hb hby djdk_42_66_47) rfl ((if0 _ _).trans (feq hc30).1) (XS.iconst X29.here hx rfl (hb hby djdk_42_66_50) (XS.goto X29.here hx rfl (pc0 := 51) (pc' := 55) rfl (hb hby djdk_42_66_51) (by decide) (by decide) k))) ?_
      refine ⟨_, _, retOut X29 hx Bd.returns rfl (Or.inl ⟨rfl, Or.inr (Or.inl rfl), _, rfl⟩) (hb hby djdk_42_66_55) hr, hrun, hended, _, _, rfl, ?_, ⟨_, rfl⟩, hW, hsame.mono (by decide) (by decide)⟩
      refine ⟨congrArg (fun z => some (Value.int z)) ?_, N29, e29⟩
      rw [own_eq] at hc30 ⊢
      split at hc30 <;> simp_all
theorem dprog_27_5_0 : decode prog_27_method_5_code 0 = .ok (.aload_n 0, 1) := by decide +kernel
theorem dprog_27_5_1 : decode prog_27_method_5_code 1 = .ok (.aload_n 1, 1) := by decide +kernel
theorem dprog_27_5_2 : decode prog_27_method_5_code 2 = .ok (.if_acmp .ne 5, 3) := by decide +kernel
theorem dprog_27_5_5 : decode prog_27_method_5_code 5 = .ok (.iconst 1, 1) := by decide +kernel
theorem dprog_27_5_6 : decode prog_27_method_5_code 6 = .ok (.ireturn, 1) := by decide +kernel
theorem efu1 (m : MethodId) (r0 : Addr) : entryFrame m #[(.ref r0), (.ref r0)] 3 = mkF m 0 #[.val (.ref r0), .val (.ref r0), .unset] [] := by first | (simp [entryFrame, mkF, argsToLocals, Value.category]; done) | rfl
def Qu1 (Z : State) (r0 : Addr) (h0 : Heap) (n0 : Nat) (v : Option Value) (h : Heap) (L : List Loc) : Prop := v = some (.int (1 : Int32)) ∧ Fr n0 L ∧ h = h0
abbrev own_Ku1 (Z : State) (r0 : Addr) (h0 : Heap) (n0 : Nat) (s : State) : Outcome → State → Prop := fun o U' => ∃ v L, o = .returned v ∧ Qu1 Z r0 h0 n0 v U'.heap L ∧ FrameEnd s o U' L ({ frames := 0, cells := 0, slots := 0, locals := 0 } : Room).cells ({ frames := 0, cells := 0, slots := 0, locals := 0 } : Room).slots
set_option maxRecDepth 65536 in
set_option maxHeartbeats 40000000 in
theorem rmu1 (l : Launch) (Z : State) (a0 : Array Value) (hw : ∀ d ∈ tables_1, d.before a0 Z = true) (ws : List Jvm.Cond) (r0 : Addr) (h0 : Heap) (n0 : Nat) (Z0 : n0 ≤ h0.size) :
    MetFree l (⟨"com/example/claviger/claviger/engine/SeatHolding$Use", "equals", "(Ljava/lang/Object;)Z"⟩ : MethodName) (head1 (Jvm.Cond.code (⟨"com/example/claviger/claviger/engine/SeatHolding$Use", "equals", "(Ljava/lang/Object;)Z"⟩ : MethodName) prog_27_method_5_code 3 (some .boolean) :: ws) ({ frames := 0, cells := 0, slots := 0, locals := 0 } : Room)) (fun a U => a = #[(.ref r0), (.ref r0)] ∧ Z.Warmed39 U.vm ∧ U.heap = h0) (fun _ _ _ _ _ => True) (fun _ U o U' => ∃ v L, o = .returned v ∧ Qu1 Z r0 h0 n0 v U'.heap L ∧ FrameEnd U o U' L ({ frames := 0, cells := 0, slots := 0, locals := 0 } : Room).cells ({ frames := 0, cells := 0, slots := 0, locals := 0 } : Room).slots) := by
  refine MetFree.of_bodySF (plainFor_of_name pn_com_example_claviger_claviger_engine_SeatHolding_Use) hisR ?_
  intro p e s m args below meth c s₁ Bd hml0 hP hK
  obtain ⟨rfl, hZ, hh⟩ := hP
  have hx := Bd.exec
  have hby := Bd.bytes
  have hml : c.maxLocals = 3 := hml0
  have hown : s.vm.findClass "com/example/claviger/claviger/engine/SeatHolding$Use" = some m.cls := findClass_of_methodNamed Bd.named
  have hnm := (name_of_methodNamed Bd.named Bd.method).1
  have X0 : Stand p l e ({ frames := 0, cells := 0, slots := 0, locals := 0 } : Room) s m #[(.ref r0), (.ref r0)] below meth c s₁ [] 0 0 := Stand.of_body Bd
  have e0 : s₁.heap = h0 := by rw [← hh, Bd.state]; rfl
  have N0 := Fr.nil n0
  refine own_by (p := p) (e := e) (below := below) (K := own_Ku1 Z r0 h0 n0 s) (W' := s₁.setTop (mkF m 0 #[.val (.ref r0), .val (.ref r0), .unset] [])) (fun t k => castTop (efu1 m r0) k) ?_
  obtain ⟨fs, hr, hrun, hended, hW, hsame⟩ := X0.leave (v := some (.int (1 : Int32))) (fun h => by rw [Bd.returns] at h; cases h)
  refine own_by (W' := (s₁.setTop (mkF m 6 #[.val (.ref r0), .val (.ref r0), .unset] [(.int (1 : Int32))]))) (fun t k => XS.aloadN X0.here hx rfl (hb hby dprog_27_5_0) rfl rfl (XS.aloadN X0.here hx rfl (hb hby dprog_27_5_1) rfl rfl (Jvm.RoadKit.acmp (g := (mkF m 2 #[.val (.ref r0), .val (.ref r0), .unset] [(.ref r0), (.ref r0)])) X0 hx rfl rfl rfl (pc0 := 2) (pc' := 5) (same := true) rfl (hb hby dprog_27_5_2) rfl (decide_eq_true rfl) (by decide) (by decide) (XS.iconst X0.here hx rfl (hb hby dprog_27_5_5) k)))) ?_
  refine ⟨_, _, retOut X0 hx Bd.returns rfl (Or.inl ⟨rfl, Or.inr (Or.inl rfl), _, rfl⟩) (hb hby dprog_27_5_6) hr, hrun, hended, _, _, rfl, ?_, ⟨_, rfl⟩, hW, hsame.mono (by decide) (by decide)⟩
  exact ⟨rfl, N0, e0⟩
theorem dprog_27_5_7 : decode prog_27_method_5_code 7 = .ok (.aload_n 1, 1) := by decide +kernel
theorem dprog_27_5_8 : decode prog_27_method_5_code 8 = .ok (.instanceof 18, 3) := by decide +kernel
theorem dprog_27_5_11 : decode prog_27_method_5_code 11 = .ok (.ifCond .eq 11, 3) := by decide +kernel
theorem dprog_27_5_22 : decode prog_27_method_5_code 22 = .ok (.iconst 0, 1) := by decide +kernel
theorem dprog_27_5_23 : decode prog_27_method_5_code 23 = .ok (.ireturn, 1) := by decide +kernel
theorem efu2 (m : MethodId) (r0 : Addr) : entryFrame m #[(.ref r0), .null] 3 = mkF m 0 #[.val (.ref r0), .val .null, .unset] [] := by first | (simp [entryFrame, mkF, argsToLocals, Value.category]; done) | rfl
def Qu2 (Z : State) (r0 : Addr) (h0 : Heap) (n0 : Nat) (v : Option Value) (h : Heap) (L : List Loc) : Prop := v = some (.int (0 : Int32)) ∧ Fr n0 L ∧ h = h0
abbrev own_Ku2 (Z : State) (r0 : Addr) (h0 : Heap) (n0 : Nat) (s : State) : Outcome → State → Prop := fun o U' => ∃ v L, o = .returned v ∧ Qu2 Z r0 h0 n0 v U'.heap L ∧ FrameEnd s o U' L ({ frames := 0, cells := 0, slots := 0, locals := 0 } : Room).cells ({ frames := 0, cells := 0, slots := 0, locals := 0 } : Room).slots
set_option maxRecDepth 65536 in
set_option maxHeartbeats 40000000 in
theorem rmu2 (l : Launch) (Z : State) (a0 : Array Value) (hw : ∀ d ∈ tables_1, d.before a0 Z = true) (ws : List Jvm.Cond) (r0 : Addr) (h0 : Heap) (n0 : Nat) (Z0 : n0 ≤ h0.size) :
    MetFree l (⟨"com/example/claviger/claviger/engine/SeatHolding$Use", "equals", "(Ljava/lang/Object;)Z"⟩ : MethodName) (head1 (Jvm.Cond.code (⟨"com/example/claviger/claviger/engine/SeatHolding$Use", "equals", "(Ljava/lang/Object;)Z"⟩ : MethodName) prog_27_method_5_code 3 (some .boolean) :: ws) ({ frames := 0, cells := 0, slots := 0, locals := 0 } : Room)) (fun a U => a = #[(.ref r0), .null] ∧ Z.Warmed39 U.vm ∧ U.heap = h0) (fun _ _ _ _ _ => True) (fun _ U o U' => ∃ v L, o = .returned v ∧ Qu2 Z r0 h0 n0 v U'.heap L ∧ FrameEnd U o U' L ({ frames := 0, cells := 0, slots := 0, locals := 0 } : Room).cells ({ frames := 0, cells := 0, slots := 0, locals := 0 } : Room).slots) := by
  refine MetFree.of_bodySF (plainFor_of_name pn_com_example_claviger_claviger_engine_SeatHolding_Use) hisR ?_
  intro p e s m args below meth c s₁ Bd hml0 hP hK
  obtain ⟨rfl, hZ, hh⟩ := hP
  have hx := Bd.exec
  have hby := Bd.bytes
  have hml : c.maxLocals = 3 := hml0
  have hown : s.vm.findClass "com/example/claviger/claviger/engine/SeatHolding$Use" = some m.cls := findClass_of_methodNamed Bd.named
  have hnm := (name_of_methodNamed Bd.named Bd.method).1
  have X0 : Stand p l e ({ frames := 0, cells := 0, slots := 0, locals := 0 } : Room) s m #[(.ref r0), .null] below meth c s₁ [] 0 0 := Stand.of_body Bd
  have e0 : s₁.heap = h0 := by rw [← hh, Bd.state]; rfl
  have N0 := Fr.nil n0
  refine own_by (p := p) (e := e) (below := below) (K := own_Ku2 Z r0 h0 n0 s) (W' := s₁.setTop (mkF m 0 #[.val (.ref r0), .val .null, .unset] [])) (fun t k => castTop (efu2 m r0) k) ?_
  refine own_by (W' := (s₁.setTop (mkF m 22 #[.val (.ref r0), .val .null, .unset] []))) (fun t k => XS.aloadN X0.here hx rfl (hb hby dprog_27_5_0) rfl rfl (XS.aloadN X0.here hx rfl (hb hby dprog_27_5_1) rfl rfl (Jvm.RoadKit.acmp (g := (mkF m 2 #[.val (.ref r0), .val .null, .unset] [.null, (.ref r0)])) X0 hx rfl rfl rfl (pc0 := 2) (pc' := 7) (same := false) rfl (hb hby dprog_27_5_2) rfl (decide_eq_false nofun) (by decide) (by decide) (XS.aloadN X0.here hx rfl (hb hby dprog_27_5_7) rfl rfl ((X0.instanceofNull hx (g := (mkF m 8 #[.val (.ref r0), .val .null, .unset] [.null])) rfl rfl (hb hby dprog_27_5_8)) _ (XS.ifYes X0.here hx rfl (pc0 := 11) (pc' := 22) rfl (hb hby dprog_27_5_11) rfl ((if0 _ _).trans (teq (rfl : (0 : Int32) = (0 : Int32))).1) (by decide) (by decide) k)))))) ?_
  obtain ⟨fs, hr, hrun, hended, hW, hsame⟩ := X0.leave (v := some (.int (0 : Int32))) (fun h => by rw [Bd.returns] at h; cases h)
  refine own_by (W' := (s₁.setTop (mkF m 23 #[.val (.ref r0), .val .null, .unset] [(.int (0 : Int32))]))) (fun t k => XS.iconst X0.here hx rfl (hb hby dprog_27_5_22) k) ?_
  refine ⟨_, _, retOut X0 hx Bd.returns rfl (Or.inl ⟨rfl, Or.inr (Or.inl rfl), _, rfl⟩) (hb hby dprog_27_5_23) hr, hrun, hended, _, _, rfl, ?_, ⟨_, rfl⟩, hW, hsame.mono (by decide) (by decide)⟩
  exact ⟨rfl, N0, e0⟩
theorem efu3 (m : MethodId) (r0 : Addr) (r1 : Addr) : entryFrame m #[(.ref r0), (.ref r1)] 3 = mkF m 0 #[.val (.ref r0), .val (.ref r1), .unset] [] := by first | (simp [entryFrame, mkF, argsToLocals, Value.category]; done) | rfl
def Qu3 (Z : State) (r0 : Addr) (r1 : Addr) (h0 : Heap) (n0 : Nat) (v : Option Value) (h : Heap) (L : List Loc) : Prop := v = some (.int (0 : Int32)) ∧ Fr n0 L ∧ h = h0
abbrev own_Ku3 (Z : State) (r0 : Addr) (r1 : Addr) (h0 : Heap) (n0 : Nat) (s : State) : Outcome → State → Prop := fun o U' => ∃ v L, o = .returned v ∧ Qu3 Z r0 r1 h0 n0 v U'.heap L ∧ FrameEnd s o U' L ({ frames := 0, cells := 0, slots := 0, locals := 0 } : Room).cells ({ frames := 0, cells := 0, slots := 0, locals := 0 } : Room).slots
set_option maxRecDepth 65536 in
set_option maxHeartbeats 40000000 in
theorem rmu3 (l : Launch) (Z : State) (a0 : Array Value) (hw : ∀ d ∈ tables_1, d.before a0 Z = true) (ws : List Jvm.Cond) (r0 : Addr) (r1 : Addr) (h0 : Heap) (n0 : Nat) (Z0 : n0 ≤ h0.size) (E0 : Exa Z h0 r0 "com/example/claviger/claviger/engine/SeatHolding$Use") (E1 : Exa Z h0 r1 "java/lang/String") :
    MetFree l (⟨"com/example/claviger/claviger/engine/SeatHolding$Use", "equals", "(Ljava/lang/Object;)Z"⟩ : MethodName) (head1 (Jvm.Cond.code (⟨"com/example/claviger/claviger/engine/SeatHolding$Use", "equals", "(Ljava/lang/Object;)Z"⟩ : MethodName) prog_27_method_5_code 3 (some .boolean) :: ws) ({ frames := 0, cells := 0, slots := 0, locals := 0 } : Room)) (fun a U => a = #[(.ref r0), (.ref r1)] ∧ Z.Warmed39 U.vm ∧ U.heap = h0) (fun _ _ _ _ _ => True) (fun _ U o U' => ∃ v L, o = .returned v ∧ Qu3 Z r0 r1 h0 n0 v U'.heap L ∧ FrameEnd U o U' L ({ frames := 0, cells := 0, slots := 0, locals := 0 } : Room).cells ({ frames := 0, cells := 0, slots := 0, locals := 0 } : Room).slots) := by
  refine MetFree.of_bodySF (plainFor_of_name pn_com_example_claviger_claviger_engine_SeatHolding_Use) hisR ?_
  intro p e s m args below meth c s₁ Bd hml0 hP hK
  obtain ⟨rfl, hZ, hh⟩ := hP
  have hx := Bd.exec
  have hby := Bd.bytes
  have hml : c.maxLocals = 3 := hml0
  have hown : s.vm.findClass "com/example/claviger/claviger/engine/SeatHolding$Use" = some m.cls := findClass_of_methodNamed Bd.named
  have hnm := (name_of_methodNamed Bd.named Bd.method).1
  have X0 : Stand p l e ({ frames := 0, cells := 0, slots := 0, locals := 0 } : Room) s m #[(.ref r0), (.ref r1)] below meth c s₁ [] 0 0 := Stand.of_body Bd
  have e0 : s₁.heap = h0 := by rw [← hh, Bd.state]; rfl
  have N0 := Fr.nil n0
  refine own_by (p := p) (e := e) (below := below) (K := own_Ku3 Z r0 r1 h0 n0 s) (W' := s₁.setTop (mkF m 0 #[.val (.ref r0), .val (.ref r1), .unset] [])) (fun t k => castTop (efu3 m r0 r1) k) ?_
  obtain ⟨T21, X21, e21, st21⟩ := instNo X0 hx hZ hown (own_w hw 58) e0 E1 (own_noStr hw) (g := (mkF m 8 #[.val (.ref r0), .val (.ref r1), .unset] [(.ref r1)])) rfl rfl (hb hby dprog_27_5_8)
  refine own_by (W' := (T21.setTop (mkF m 22 #[.val (.ref r0), .val (.ref r1), .unset] []))) (fun t k => XS.aloadN X0.here hx rfl (hb hby dprog_27_5_0) rfl rfl (XS.aloadN X0.here hx rfl (hb hby dprog_27_5_1) rfl rfl (Jvm.RoadKit.acmp (g := (mkF m 2 #[.val (.ref r0), .val (.ref r1), .unset] [(.ref r1), (.ref r0)])) X0 hx rfl rfl rfl (pc0 := 2) (pc' := 7) (same := false) rfl (hb hby dprog_27_5_2) rfl (decide_eq_false fun q => (ne_exa E0 E1 (by decide)) (Value.ref.inj q)) (by decide) (by decide) (XS.aloadN X0.here hx rfl (hb hby dprog_27_5_7) rfl rfl (st21 _ (XS.ifYes X21.here hx rfl (pc0 := 11) (pc' := 22) rfl (hb hby dprog_27_5_11) rfl ((if0 _ _).trans (teq (rfl : (0 : Int32) = (0 : Int32))).1) (by decide) (by decide) k)))))) ?_
  obtain ⟨fs, hr, hrun, hended, hW, hsame⟩ := X21.leave (v := some (.int (0 : Int32))) (fun h => by rw [Bd.returns] at h; cases h)
  refine own_by (W' := (T21.setTop (mkF m 23 #[.val (.ref r0), .val (.ref r1), .unset] [(.int (0 : Int32))]))) (fun t k => XS.iconst X21.here hx rfl (hb hby dprog_27_5_22) k) ?_
  refine ⟨_, _, retOut X21 hx Bd.returns rfl (Or.inl ⟨rfl, Or.inr (Or.inl rfl), _, rfl⟩) (hb hby dprog_27_5_23) hr, hrun, hended, _, _, rfl, ?_, ⟨_, rfl⟩, hW, hsame.mono (by decide) (by decide)⟩
  exact ⟨rfl, N0, e21⟩
theorem pd_7 : parseMethodDescriptor "(Ljava/lang/Object;)Z" = some ⟨[(.object "java/lang/Object")], some .boolean⟩ := by decide +kernel
theorem dprog_27_5_14 : decode prog_27_method_5_code 14 = .ok (.aload_n 1, 1) := by decide +kernel
theorem dprog_27_5_15 : decode prog_27_method_5_code 15 = .ok (.checkcast 18, 3) := by decide +kernel
theorem dprog_27_5_18 : decode prog_27_method_5_code 18 = .ok (.astore_n 2, 1) := by decide +kernel
theorem dprog_27_5_19 : decode prog_27_method_5_code 19 = .ok (.goto 5, 3) := by decide +kernel
theorem dprog_27_5_24 : decode prog_27_method_5_code 24 = .ok (.aload_n 0, 1) := by decide +kernel
theorem dprog_27_5_25 : decode prog_27_method_5_code 25 = .ok (.getfield 17, 3) := by decide +kernel
theorem dprog_27_5_28 : decode prog_27_method_5_code 28 = .ok (.aload_n 2, 1) := by decide +kernel
theorem dprog_27_5_29 : decode prog_27_method_5_code 29 = .ok (.getfield 17, 3) := by decide +kernel
theorem dprog_27_5_32 : decode prog_27_method_5_code 32 = .ok (.invokevirtual 30, 3) := by decide +kernel
theorem dprog_27_5_35 : decode prog_27_method_5_code 35 = .ok (.ifCond .eq 35, 3) := by decide +kernel
theorem dprog_27_5_38 : decode prog_27_method_5_code 38 = .ok (.aload_n 0, 1) := by decide +kernel
theorem dprog_27_5_39 : decode prog_27_method_5_code 39 = .ok (.getfield 24, 3) := by decide +kernel
theorem dprog_27_5_42 : decode prog_27_method_5_code 42 = .ok (.aload_n 2, 1) := by decide +kernel
theorem dprog_27_5_43 : decode prog_27_method_5_code 43 = .ok (.getfield 24, 3) := by decide +kernel
theorem dprog_27_5_46 : decode prog_27_method_5_code 46 = .ok (.invokevirtual 30, 3) := by decide +kernel
theorem dprog_27_5_49 : decode prog_27_method_5_code 49 = .ok (.ifCond .eq 21, 3) := by decide +kernel
theorem dprog_27_5_52 : decode prog_27_method_5_code 52 = .ok (.aload_n 0, 1) := by decide +kernel
theorem dprog_27_5_53 : decode prog_27_method_5_code 53 = .ok (.getfield 28, 3) := by decide +kernel
theorem dprog_27_5_56 : decode prog_27_method_5_code 56 = .ok (.aload_n 2, 1) := by decide +kernel
theorem dprog_27_5_57 : decode prog_27_method_5_code 57 = .ok (.getfield 28, 3) := by decide +kernel
theorem dprog_27_5_60 : decode prog_27_method_5_code 60 = .ok (.invokevirtual 30, 3) := by decide +kernel
theorem dprog_27_5_63 : decode prog_27_method_5_code 63 = .ok (.ifCond .eq 7, 3) := by decide +kernel
theorem dprog_27_5_66 : decode prog_27_method_5_code 66 = .ok (.iconst 1, 1) := by decide +kernel
theorem dprog_27_5_67 : decode prog_27_method_5_code 67 = .ok (.goto 4, 3) := by decide +kernel
theorem dprog_27_5_70 : decode prog_27_method_5_code 70 = .ok (.iconst 0, 1) := by decide +kernel
theorem dprog_27_5_71 : decode prog_27_method_5_code 71 = .ok (.ireturn, 1) := by decide +kernel
theorem efu4 (m : MethodId) (r0 : Addr) (r1 : Addr) : entryFrame m #[(.ref r0), (.ref r1)] 3 = mkF m 0 #[.val (.ref r0), .val (.ref r1), .unset] [] := by first | (simp [entryFrame, mkF, argsToLocals, Value.category]; done) | rfl
def FU (x1 x2 x3 y1 y2 y3 : Int32) : Int32 := (if (own_eq x1 y1) = (0 : Int32) then (0 : Int32) else (if (own_eq x2 y2) = (0 : Int32) then (0 : Int32) else (if (own_eq x3 y3) = (0 : Int32) then (0 : Int32) else (1 : Int32))))
def Qu4 (Z : State) (r0 : Addr) (r1 : Addr) (s1 : Addr) (s2 : Addr) (s3 : Addr) (t1 : Addr) (t2 : Addr) (t3 : Addr) (x1 : Int32) (x2 : Int32) (x3 : Int32) (y1 : Int32) (y2 : Int32) (y3 : Int32) (cs : Int32) (h0 : Heap) (n0 : Nat) (v : Option Value) (h : Heap) (L : List Loc) : Prop := v = some (.int (FU x1 x2 x3 y1 y2 y3)) ∧ Fr n0 L ∧ h = h0
abbrev own_Ku4 (Z : State) (r0 : Addr) (r1 : Addr) (s1 : Addr) (s2 : Addr) (s3 : Addr) (t1 : Addr) (t2 : Addr) (t3 : Addr) (x1 : Int32) (x2 : Int32) (x3 : Int32) (y1 : Int32) (y2 : Int32) (y3 : Int32) (cs : Int32) (h0 : Heap) (n0 : Nat) (s : State) : Outcome → State → Prop := fun o U' => ∃ v L, o = .returned v ∧ Qu4 Z r0 r1 s1 s2 s3 t1 t2 t3 x1 x2 x3 y1 y2 y3 cs h0 n0 v U'.heap L ∧ FrameEnd s o U' L ({ frames := 2, cells := 0, slots := 0, locals := 28 } : Room).cells ({ frames := 2, cells := 0, slots := 0, locals := 28 } : Room).slots
set_option maxRecDepth 65536 in
set_option maxHeartbeats 40000000 in
theorem rmu4 (l : Launch) (Z : State) (a0 : Array Value) (hw : ∀ d ∈ tables_1, d.before a0 Z = true) (ws : List Jvm.Cond) (r0 : Addr) (r1 : Addr) (s1 : Addr) (s2 : Addr) (s3 : Addr) (t1 : Addr) (t2 : Addr) (t3 : Addr) (x1 : Int32) (x2 : Int32) (x3 : Int32) (y1 : Int32) (y2 : Int32) (y3 : Int32) (cs : Int32) (h0 : Heap) (n0 : Nat) (Z0 : n0 ≤ h0.size) (O0 : Old Z n0 h0) (HW : own_Wd Z cs) (hne : r0 ≠ r1) (E1 : Exa Z h0 r1 "com/example/claviger/claviger/engine/SeatHolding$Use") (F_r0_connection : Fld Z h0 r0 "com/example/claviger/claviger/engine/SeatHolding$Use" "connection" "Ljava/lang/String;" (.ref s1)) (F_r0_process : Fld Z h0 r0 "com/example/claviger/claviger/engine/SeatHolding$Use" "process" "Ljava/lang/String;" (.ref s2)) (F_r0_need : Fld Z h0 r0 "com/example/claviger/claviger/engine/SeatHolding$Use" "need" "Ljava/lang/String;" (.ref s3)) (F_r1_connection : Fld Z h0 r1 "com/example/claviger/claviger/engine/SeatHolding$Use" "connection" "Ljava/lang/String;" (.ref t1)) (F_r1_process : Fld Z h0 r1 "com/example/claviger/claviger/engine/SeatHolding$Use" "process" "Ljava/lang/String;" (.ref t2)) (F_r1_need : Fld Z h0 r1 "com/example/claviger/claviger/engine/SeatHolding$Use" "need" "Ljava/lang/String;" (.ref t3)) (T_s1 : own_S1 Z h0 s1 x1) (T_s2 : own_S1 Z h0 s2 x2) (T_s3 : own_S1 Z h0 s3 x3) (T_t1 : own_S1 Z h0 t1 y1) (T_t2 : own_S1 Z h0 t2 y2) (T_t3 : own_S1 Z h0 t3 y3) :
    MetFree l (⟨"com/example/claviger/claviger/engine/SeatHolding$Use", "equals", "(Ljava/lang/Object;)Z"⟩ : MethodName) (head1 (Jvm.Cond.code (⟨"com/example/claviger/claviger/engine/SeatHolding$Use", "equals", "(Ljava/lang/Object;)Z"⟩ : MethodName) prog_27_method_5_code 3 (some .boolean) :: ws) ({ frames := 2, cells := 0, slots := 0, locals := 28 } : Room)) (fun a U => a = #[(.ref r0), (.ref r1)] ∧ Z.Warmed39 U.vm ∧ U.heap = h0) (fun _ _ _ _ _ => True) (fun _ U o U' => ∃ v L, o = .returned v ∧ Qu4 Z r0 r1 s1 s2 s3 t1 t2 t3 x1 x2 x3 y1 y2 y3 cs h0 n0 v U'.heap L ∧ FrameEnd U o U' L ({ frames := 2, cells := 0, slots := 0, locals := 28 } : Room).cells ({ frames := 2, cells := 0, slots := 0, locals := 28 } : Room).slots) := by
  refine MetFree.of_bodySF (plainFor_of_name pn_com_example_claviger_claviger_engine_SeatHolding_Use) hisR ?_
  intro p e s m args below meth c s₁ Bd hml0 hP hK
  obtain ⟨rfl, hZ, hh⟩ := hP
  have hx := Bd.exec
  have hby := Bd.bytes
  have hml : c.maxLocals = 3 := hml0
  have hown : s.vm.findClass "com/example/claviger/claviger/engine/SeatHolding$Use" = some m.cls := findClass_of_methodNamed Bd.named
  have hnm := (name_of_methodNamed Bd.named Bd.method).1
  have X0 : Stand p l e ({ frames := 2, cells := 0, slots := 0, locals := 28 } : Room) s m #[(.ref r0), (.ref r1)] below meth c s₁ [] 0 0 := Stand.of_body Bd
  have e0 : s₁.heap = h0 := by rw [← hh, Bd.state]; rfl
  have N0 := Fr.nil n0
  refine own_by (p := p) (e := e) (below := below) (K := own_Ku4 Z r0 r1 s1 s2 s3 t1 t2 t3 x1 x2 x3 y1 y2 y3 cs h0 n0 s) (W' := s₁.setTop (mkF m 0 #[.val (.ref r0), .val (.ref r1), .unset] [])) (fun t k => castTop (efu4 m r0 r1) k) ?_
  obtain ⟨T21, X21, e21, st21⟩ := instY X0 hx hZ hown (own_w hw 58) e0 (Ins.self E1) (g := (mkF m 8 #[.val (.ref r0), .val (.ref r1), .unset] [(.ref r1)])) rfl rfl (hb hby dprog_27_5_8)
  refine own_by (W' := (T21.setTop (mkF m 14 #[.val (.ref r0), .val (.ref r1), .unset] []))) (fun t k => XS.aloadN X0.here hx rfl (hb hby dprog_27_5_0) rfl rfl (XS.aloadN X0.here hx rfl (hb hby dprog_27_5_1) rfl rfl (Jvm.RoadKit.acmp (g := (mkF m 2 #[.val (.ref r0), .val (.ref r1), .unset] [(.ref r1), (.ref r0)])) X0 hx rfl rfl rfl (pc0 := 2) (pc' := 7) (same := false) rfl (hb hby dprog_27_5_2) rfl (decide_eq_false fun q => hne (Value.ref.inj q)) (by decide) (by decide) (XS.aloadN X0.here hx rfl (hb hby dprog_27_5_7) rfl rfl (st21 _ (XS.ifNo X21.here hx rfl (hb hby dprog_27_5_11) rfl ((if0 _ _).trans (feq (by decide : ¬ ((1 : Int32) = (0 : Int32)))).1) k)))))) ?_
  obtain ⟨T22, X22, e22, st22⟩ := castY X21 hx hZ hown (own_w hw 58) e21 (Ins.self E1) (g := (mkF m 15 #[.val (.ref r0), .val (.ref r1), .unset] [(.ref r1)])) rfl rfl (hb hby dprog_27_5_15)
  obtain ⟨T23, X23, e23, st23⟩ := getF X22 hx hZ hown (host := "") (Or.inl (own_w hw 45)) Via.refl e22 F_r0_connection (g := (mkF m 25 #[.val (.ref r0), .val (.ref r1), .val (.ref r1)] [(.ref r0)])) rfl rfl (hb hby dprog_27_5_25)
  refine own_by (W' := (T23.setTop (mkF m 28 #[.val (.ref r0), .val (.ref r1), .val (.ref r1)] [(.ref s1)]))) (fun t k => XS.aloadN X21.here hx rfl (hb hby dprog_27_5_14) rfl rfl (st22 _ (XS.astoreN X22.here hx rfl (hb hby dprog_27_5_18) rfl rfl (l' := #[.val (.ref r0), .val (.ref r1), .val (.ref r1)]) rfl (XS.goto X22.here hx rfl (pc0 := 19) (pc' := 24) rfl (hb hby dprog_27_5_19) (by decide) (by decide) (XS.aloadN X22.here hx rfl (hb hby dprog_27_5_24) rfl rfl (st23 _ k)))))) ?_
  obtain ⟨T24, X24, e24, st24⟩ := getF X23 hx hZ hown (host := "") (Or.inl (own_w hw 45)) Via.refl e23 F_r1_connection (g := (mkF m 29 #[.val (.ref r0), .val (.ref r1), .val (.ref r1)] [(.ref r1), (.ref s1)])) rfl rfl (hb hby dprog_27_5_29)
  obtain ⟨cq25, kq25, q25a, q25b, q25c⟩ := isOf hZ e24 T_s1.1
  obtain ⟨_, _, ⟨T25, L25, k25, n25⟩, -, X25, ⟨Lc25, hQ25, l25, y25, z25⟩, st25⟩ := X24.virtualBack hx (y := (⟨"java/lang/String", "equals", "(Ljava/lang/Object;)Z"⟩ : MethodName)) (z := (⟨"java/lang/String", "equals", "(Ljava/lang/Object;)Z"⟩ : MethodName)) hown (mvT hZ (own_w hw 60)) (mvT hZ (own_w hw 61)) (notFace_of_selects (args := #[]) (mvT hZ (own_w hw 63))) (mvT hZ (own_w hw 63)) (mvT hZ (own_w hw 62)) (by decide) (backOf (W := 0) (rmE l Z a0 hw [] s1 t1 x1 y1 cs h0 n0 Z0 O0 HW T_s1 T_t1) hZ (own_w hw 64) (own_w hw 9) (by decide) (by decide)) q25a q25c (g := (mkF m 32 #[.val (.ref r0), .val (.ref r1), .val (.ref r1)] [(.ref t1), (.ref s1)])) rfl (by rw [hml]; rfl) (Steps.refl _) (argsL := [(.ref t1)]) (rest := []) (lenOf pd_7 rfl) rfl (by show 2 * 0 + _ ≤ _; exact Nat.le_of_eq rfl) (hb hby dprog_27_5_32) (fun _ _ => ⟨rfl, e24, (by decide : 0 + 0 ≤ _), (by decide : 0 + 0 ≤ _)⟩)
  dsimp only [Pt.U, Pt.locs, Pt.cells, Pt.slots] at X25 l25 y25 z25 st25 hQ25
  subst l25 y25 z25
  obtain ⟨rfl, N25q, e25⟩ := hQ25
  have N25 := Fr.app N0 N25q
  refine own_by (W' := (T25.setTop (mkF m 35 #[.val (.ref r0), .val (.ref r1), .val (.ref r1)] [(.int (own_eq x1 y1))]))) (fun t k => XS.aloadN X23.here hx rfl (hb hby dprog_27_5_28) rfl rfl (st24 _ (Steps.trans st25 k))) ?_
  by_cases hc26 : (own_eq x1 y1) = (0 : Int32)
  ·
    obtain ⟨fs, hr, hrun, hended, hW, hsame⟩ := X25.leave (v := some (.int (0 : Int32))) (fun h => by rw [Bd.returns] at h; cases h)
    refine own_by (W' := (T25.setTop (mkF m 71 #[.val (.ref r0), .val (.ref r1), .val (.ref r1)] [(.int (0 : Int32))]))) (fun t k => XS.ifYes X25.here hx rfl (pc0 := 35) (pc' := 70) rfl (hb hby dprog_27_5_35) rfl ((if0 _ _).trans (teq hc26).1) (by decide) (by decide) (XS.iconst X25.here hx rfl (hb hby dprog_27_5_70) k)) ?_
    refine ⟨_, _, retOut X25 hx Bd.returns rfl (Or.inl ⟨rfl, Or.inr (Or.inl rfl), _, rfl⟩) (hb hby dprog_27_5_71) hr, hrun, hended, _, _, rfl, ?_, ⟨_, rfl⟩, hW, hsame.mono (by decide) (by decide)⟩
    refine ⟨congrArg (fun z => some (Value.int z)) ?_, N25, e25⟩
    rw [FU, if_pos hc26]
  ·
    obtain ⟨T27, X27, e27, st27⟩ := getF X25 hx hZ hown (host := "") (Or.inl (own_w hw 48)) Via.refl e25 F_r0_process (g := (mkF m 39 #[.val (.ref r0), .val (.ref r1), .val (.ref r1)] [(.ref r0)])) rfl rfl (hb hby dprog_27_5_39)
    obtain ⟨T28, X28, e28, st28⟩ := getF X27 hx hZ hown (host := "") (Or.inl (own_w hw 48)) Via.refl e27 F_r1_process (g := (mkF m 43 #[.val (.ref r0), .val (.ref r1), .val (.ref r1)] [(.ref r1), (.ref s2)])) rfl rfl (hb hby dprog_27_5_43)
    obtain ⟨cq29, kq29, q29a, q29b, q29c⟩ := isOf hZ e28 T_s2.1
    obtain ⟨_, _, ⟨T29, L29, k29, n29⟩, -, X29, ⟨Lc29, hQ29, l29, y29, z29⟩, st29⟩ := X28.virtualBack hx (y := (⟨"java/lang/String", "equals", "(Ljava/lang/Object;)Z"⟩ : MethodName)) (z := (⟨"java/lang/String", "equals", "(Ljava/lang/Object;)Z"⟩ : MethodName)) hown (mvT hZ (own_w hw 60)) (mvT hZ (own_w hw 61)) (notFace_of_selects (args := #[]) (mvT hZ (own_w hw 63))) (mvT hZ (own_w hw 63)) (mvT hZ (own_w hw 62)) (by decide) (backOf (W := 0) (rmE l Z a0 hw [] s2 t2 x2 y2 cs h0 n0 Z0 O0 HW T_s2 T_t2) hZ (own_w hw 64) (own_w hw 9) (by decide) (by decide)) q29a q29c (g := (mkF m 46 #[.val (.ref r0), .val (.ref r1), .val (.ref r1)] [(.ref t2), (.ref s2)])) rfl (by rw [hml]; rfl) (Steps.refl _) (argsL := [(.ref t2)]) (rest := []) (lenOf pd_7 rfl) rfl (by show 2 * 0 + _ ≤ _; exact Nat.le_of_eq rfl) (hb hby dprog_27_5_46) (fun _ _ => ⟨rfl, e28, (by decide : 0 + 0 ≤ _), (by decide : 0 + 0 ≤ _)⟩)
    dsimp only [Pt.U, Pt.locs, Pt.cells, Pt.slots] at X29 l29 y29 z29 st29 hQ29
    subst l29 y29 z29
    obtain ⟨rfl, N29q, e29⟩ := hQ29
    have N29 := Fr.app N25 N29q
    refine own_by (W' := (T29.setTop (mkF m 49 #[.val (.ref r0), .val (.ref r1), .val (.ref r1)] [(.int (own_eq x2 y2))]))) (fun t k => XS.ifNo X25.here hx rfl (hb hby dprog_27_5_35) rfl ((if0 _ _).trans (feq hc26).1) (XS.aloadN X25.here hx rfl (hb hby dprog_27_5_38) rfl rfl (st27 _ (XS.aloadN X27.here hx rfl (hb hby dprog_27_5_42) rfl rfl (st28 _ (Steps.trans st29 k)))))) ?_
    by_cases hc30 : (own_eq x2 y2) = (0 : Int32)
    ·
      obtain ⟨fs, hr, hrun, hended, hW, hsame⟩ := X29.leave (v := some (.int (0 : Int32))) (fun h => by rw [Bd.returns] at h; cases h)
      refine own_by (W' := (T29.setTop (mkF m 71 #[.val (.ref r0), .val (.ref r1), .val (.ref r1)] [(.int (0 : Int32))]))) (fun t k => XS.ifYes X29.here hx rfl (pc0 := 49) (pc' := 70) rfl (hb hby dprog_27_5_49) rfl ((if0 _ _).trans (teq hc30).1) (by decide) (by decide) (XS.iconst X29.here hx rfl (hb hby dprog_27_5_70) k)) ?_
      refine ⟨_, _, retOut X29 hx Bd.returns rfl (Or.inl ⟨rfl, Or.inr (Or.inl rfl), _, rfl⟩) (hb hby dprog_27_5_71) hr, hrun, hended, _, _, rfl, ?_, ⟨_, rfl⟩, hW, hsame.mono (by decide) (by decide)⟩
      refine ⟨congrArg (fun z => some (Value.int z)) ?_, N29, e29⟩
      rw [FU, if_neg hc26, if_pos hc30]
    ·
      obtain ⟨T31, X31, e31, st31⟩ := getF X29 hx hZ hown (host := "") (Or.inl (own_w hw 51)) Via.refl e29 F_r0_need (g := (mkF m 53 #[.val (.ref r0), .val (.ref r1), .val (.ref r1)] [(.ref r0)])) rfl rfl (hb hby dprog_27_5_53)
      obtain ⟨T32, X32, e32, st32⟩ := getF X31 hx hZ hown (host := "") (Or.inl (own_w hw 51)) Via.refl e31 F_r1_need (g := (mkF m 57 #[.val (.ref r0), .val (.ref r1), .val (.ref r1)] [(.ref r1), (.ref s3)])) rfl rfl (hb hby dprog_27_5_57)
      obtain ⟨cq33, kq33, q33a, q33b, q33c⟩ := isOf hZ e32 T_s3.1
      obtain ⟨_, _, ⟨T33, L33, k33, n33⟩, -, X33, ⟨Lc33, hQ33, l33, y33, z33⟩, st33⟩ := X32.virtualBack hx (y := (⟨"java/lang/String", "equals", "(Ljava/lang/Object;)Z"⟩ : MethodName)) (z := (⟨"java/lang/String", "equals", "(Ljava/lang/Object;)Z"⟩ : MethodName)) hown (mvT hZ (own_w hw 60)) (mvT hZ (own_w hw 61)) (notFace_of_selects (args := #[]) (mvT hZ (own_w hw 63))) (mvT hZ (own_w hw 63)) (mvT hZ (own_w hw 62)) (by decide) (backOf (W := 0) (rmE l Z a0 hw [] s3 t3 x3 y3 cs h0 n0 Z0 O0 HW T_s3 T_t3) hZ (own_w hw 64) (own_w hw 9) (by decide) (by decide)) q33a q33c (g := (mkF m 60 #[.val (.ref r0), .val (.ref r1), .val (.ref r1)] [(.ref t3), (.ref s3)])) rfl (by rw [hml]; rfl) (Steps.refl _) (argsL := [(.ref t3)]) (rest := []) (lenOf pd_7 rfl) rfl (by show 2 * 0 + _ ≤ _; exact Nat.le_of_eq rfl) (hb hby dprog_27_5_60) (fun _ _ => ⟨rfl, e32, (by decide : 0 + 0 ≤ _), (by decide : 0 + 0 ≤ _)⟩)
      dsimp only [Pt.U, Pt.locs, Pt.cells, Pt.slots] at X33 l33 y33 z33 st33 hQ33
      subst l33 y33 z33
      obtain ⟨rfl, N33q, e33⟩ := hQ33
      have N33 := Fr.app N29 N33q
      refine own_by (W' := (T33.setTop (mkF m 63 #[.val (.ref r0), .val (.ref r1), .val (.ref r1)] [(.int (own_eq x3 y3))]))) (fun t k => XS.ifNo X29.here hx rfl (hb hby dprog_27_5_49) rfl ((if0 _ _).trans (feq hc30).1) (XS.aloadN X29.here hx rfl (hb hby dprog_27_5_52) rfl rfl (st31 _ (XS.aloadN X31.here hx rfl (hb hby dprog_27_5_56) rfl rfl (st32 _ (Steps.trans st33 k)))))) ?_
      by_cases hc34 : (own_eq x3 y3) = (0 : Int32)
      ·
        obtain ⟨fs, hr, hrun, hended, hW, hsame⟩ := X33.leave (v := some (.int (0 : Int32))) (fun h => by rw [Bd.returns] at h; cases h)
        refine own_by (W' := (T33.setTop (mkF m 71 #[.val (.ref r0), .val (.ref r1), .val (.ref r1)] [(.int (0 : Int32))]))) (fun t k => XS.ifYes X33.here hx rfl (pc0 := 63) (pc' := 70) rfl (hb hby dprog_27_5_63) rfl ((if0 _ _).trans (teq hc34).1) (by decide) (by decide) (XS.iconst X33.here hx rfl (hb hby dprog_27_5_70) k)) ?_
        refine ⟨_, _, retOut X33 hx Bd.returns rfl (Or.inl ⟨rfl, Or.inr (Or.inl rfl), _, rfl⟩) (hb hby dprog_27_5_71) hr, hrun, hended, _, _, rfl, ?_, ⟨_, rfl⟩, hW, hsame.mono (by decide) (by decide)⟩
        refine ⟨congrArg (fun z => some (Value.int z)) ?_, N33, e33⟩
        rw [FU, if_neg hc26, if_neg hc30, if_pos hc34]
      ·
        obtain ⟨fs, hr, hrun, hended, hW, hsame⟩ := X33.leave (v := some (.int (1 : Int32))) (fun h => by rw [Bd.returns] at h; cases h)
        refine own_by (W' := (T33.setTop (mkF m 71 #[.val (.ref r0), .val (.ref r1), .val (.ref r1)] [(.int (1 : Int32))]))) (fun t k => XS.ifNo X33.here hx rfl (hb hby dprog_27_5_63) rfl ((if0 _ _).trans (feq hc34).1) (XS.iconst X33.here hx rfl (hb hby dprog_27_5_66) (XS.goto X33.here hx rfl (pc0 := 67) (pc' := 71) rfl (hb hby dprog_27_5_67) (by decide) (by decide) k))) ?_
        refine ⟨_, _, retOut X33 hx Bd.returns rfl (Or.inl ⟨rfl, Or.inr (Or.inl rfl), _, rfl⟩) (hb hby dprog_27_5_71) hr, hrun, hended, _, _, rfl, ?_, ⟨_, rfl⟩, hW, hsame.mono (by decide) (by decide)⟩
        refine ⟨congrArg (fun z => some (Value.int z)) ?_, N33, e33⟩
        rw [FU, if_neg hc26, if_neg hc30, if_neg hc34]
theorem own_FU {a b c d e f : Int32} (ha : own_lo a) (hb : own_lo b) (hc : own_lo c) (hd : own_lo d) (he : own_lo e) (hf : own_lo f) : FU (own_b a) (own_b b) (own_b c) (own_b d) (own_b e) (own_b f) = if a = d ∧ b = e ∧ c = f then (1 : Int32) else (0 : Int32) := by
  simp only [FU, own_eq, own_binj ha hd, own_binj hb he, own_binj hc hf]
  by_cases h1 : a = d <;> by_cases h2 : b = e <;> by_cases h3 : c = f <;> simp [h1, h2, h3]

theorem pd_8 : parseMethodDescriptor "(I)Ljava/lang/String;" = some ⟨[.int], some (.object "java/lang/String")⟩ := by decide +kernel
theorem pd_9 : parseMethodDescriptor "(Ljava/lang/String;Ljava/lang/String;Ljava/lang/String;)V" = some ⟨[(.object "java/lang/String"), (.object "java/lang/String"), (.object "java/lang/String")], none⟩ := by decide +kernel
theorem efL (m : MethodId) (p0 : Int32) (p1 : Int32) (p2 : Int32) : entryFrame m #[(.int p0), (.int p1), (.int p2)] maxLocals = mkF m 0 #[.val (.int p0), .val (.int p1), .val (.int p2), .unset, .unset, .unset, .unset, .unset, .unset, .unset, .unset, .unset, .unset] [] := by first | (simp [entryFrame, mkF, argsToLocals, Value.category, maxLocals]; done) | rfl
def QL (Z : State) (p0 : Int32) (p1 : Int32) (p2 : Int32) (cs : Int32) (h0 : Heap) (n0 : Nat) (v : Option Value) (h : Heap) (L : List Loc) : Prop := v = some (.int 1) ∧ Fr n0 L
abbrev own_KL (Z : State) (p0 : Int32) (p1 : Int32) (p2 : Int32) (cs : Int32) (h0 : Heap) (n0 : Nat) (s : State) : Outcome → State → Prop := fun o U' => ∃ v L, o = .returned v ∧ QL Z p0 p1 p2 cs h0 n0 v U'.heap L ∧ ReturnedEndW s o U' L room_1.cells room_1.slots
set_option maxRecDepth 65536 in
set_option maxHeartbeats 40000000 in
theorem rmL (l : Launch) (Z : State) (a0 : Array Value) (hw : ∀ d ∈ tables_1, d.before a0 Z = true) (ws : List Jvm.Cond) (p0 : Int32) (p1 : Int32) (p2 : Int32) (cs : Int32) (h0 : Heap) (n0 : Nat) (Z0 : n0 ≤ h0.size) (O0 : Old Z n0 h0) (HW : own_Wd Z cs) :
    MetFree l x (head1 (Jvm.Cond.code x code maxLocals ret :: ws) room_1) (fun a U => a = #[(.int p0), (.int p1), (.int p2)] ∧ Z.Warmed39 U.vm ∧ U.heap = h0) (fun _ _ _ _ _ => True) (fun _ U o U' => ∃ v L, o = .returned v ∧ QL Z p0 p1 p2 cs h0 n0 v U'.heap L ∧ ReturnedEndW U o U' L room_1.cells room_1.slots) := by
  refine MetFree.of_bodySF (plainFor_of_name pn_com_example_claviger_claviger_engine_UseEqualsPinLaw) hisR ?_
  intro p e s m args below meth c s₁ Bd hml0 hP hK
  obtain ⟨rfl, hZ, hh⟩ := hP
  have hx := Bd.exec
  have hby := Bd.bytes
  have hml : c.maxLocals = 13 := hml0
  have hown : s.vm.findClass "com/example/claviger/claviger/engine/UseEqualsPinLaw" = some m.cls := findClass_of_methodNamed Bd.named
  have hnm := (name_of_methodNamed Bd.named Bd.method).1
  have X0 : Stand p l e room_1 (s.setVm s.vm) m #[(.int p0), (.int p1), (.int p2)] below meth c s₁ [] 0 0 := Stand.of_body Bd
  have e0 : s₁.heap = h0 := by rw [← hh, Bd.state]; rfl
  have N0 := Fr.nil n0
  have hS0 : s.Since s.vm h0.size := (State.WarmedH.refl s).since _
  refine own_by (p := p) (e := e) (below := below) (K := own_KL Z p0 p1 p2 cs h0 n0 s) (W' := s₁.setTop (mkF m 0 #[.val (.int p0), .val (.int p1), .val (.int p2), .unset, .unset, .unset, .unset, .unset, .unset, .unset, .unset, .unset, .unset] [])) (fun t k => castTop (efL m p0 p1 p2) k) ?_
  have cut85 : ∀ (Tc : State) {lc : List Loc} (Xc : Stand p l e room_1 (s.setVm s.vm) m #[(.int p0), (.int p1), (.int p2)] below meth c Tc lc 0 0) (Nc : Fr n0 lc) (ca : Int32) (pa : Int32) (na : Int32) (cb : Int32) (pb : Int32) (nb : Int32) (ec : Tc.heap = h0) (h_ca : own_lo ca) (h_pa : own_lo pa) (h_na : own_lo na) (h_cb : own_lo cb) (h_pb : own_lo pb) (h_nb : own_lo nb), own_Gl p e below (own_KL Z p0 p1 p2 cs h0 n0 s) (Tc.setTop (mkF m 85 #[.val (.int p0), .val (.int p1), .val (.int p2), .val (.int ca), .val (.int pa), .val (.int na), .val (.int cb), .val (.int pb), .val (.int nb), .unset, .unset, .unset, .unset] [])) := by
    intro Tc lc Xc Nc ca pa na cb pb nb ec h_ca h_pa h_na h_cb h_pb h_nb
    obtain ⟨T21, h21, X21, e21, E21, A21, D21, -, st21⟩ := newO Xc hx hZ hown (own_w hw 0) (own_w hw 1) (own_w hw 2) ec (g := (mkF m 85 #[.val (.int p0), .val (.int p1), .val (.int p2), .val (.int ca), .val (.int pa), .val (.int na), .val (.int cb), .val (.int pb), .val (.int nb), .unset, .unset, .unset, .unset] [])) rfl (hb hby at_85) (by decide) (by decide)
    obtain ⟨b21, g21⟩ : ∃ z, z = h0.size := ⟨_, rfl⟩
    rw [← g21] at A21 D21 st21
    have g_b21 : n0 ≤ b21 := Nat.le_trans (own_le O0) (Nat.le_of_eq g21.symm)
    have sz_b21 : h0.size ≤ b21 := Nat.le_trans (Keep.refl h0 []).1 (Nat.le_of_eq g21.symm)
    have O21 := O0.ext E21
    have K21 := Keep.ext (Keep.refl h0 []) E21
    have F_connection_b21 : Fld Z h21 b21 "com/example/claviger/claviger/engine/SeatHolding$Use" "connection" "Ljava/lang/String;" .null := D21 (Or.inr (own_w hw 46)) (ty := (.object "java/lang/String")) (by decide)
    have F_process_b21 : Fld Z h21 b21 "com/example/claviger/claviger/engine/SeatHolding$Use" "process" "Ljava/lang/String;" .null := D21 (Or.inr (own_w hw 49)) (ty := (.object "java/lang/String")) (by decide)
    have F_need_b21 : Fld Z h21 b21 "com/example/claviger/claviger/engine/SeatHolding$Use" "need" "Ljava/lang/String;" .null := D21 (Or.inr (own_w hw 52)) (ty := (.object "java/lang/String")) (by decide)
    obtain ⟨_, _, ⟨T22, L22, k22, n22⟩, -, X22, ⟨Lc22, hQ22, l22, y22, z22⟩, st22⟩ := Jvm.LawKit.callS X21 hx (y := (⟨"com/example/claviger/claviger/engine/UseEqualsPinLaw", "s", "(I)Ljava/lang/String;"⟩ : MethodName)) hown (mvT hZ (own_w hw 3)) (mvT hZ (own_w hw 4)) (mvT hZ (own_w hw 5)) (mvT hZ (own_w hw 6)) (by decide) (backOf (W := 2) (rms l Z a0 hw [] ca cs h21 n0 (own_le O21) O21 HW) hZ (own_w hw 6) (own_w hw 5) (by decide) (by decide)) (g := (mkF m 90 #[.val (.int p0), .val (.int p1), .val (.int p2), .val (.int ca), .val (.int pa), .val (.int na), .val (.int cb), .val (.int pb), .val (.int nb), .unset, .unset, .unset, .unset] [(.int ca), (.ref b21), (.ref b21)])) rfl (by rw [hml]; rfl) (argsL := [(.int ca)]) (rest := [(.ref b21), (.ref b21)]) (lenOf pd_8 rfl) rfl (by show 2 * 0 + _ ≤ _; exact Nat.le_of_eq rfl) (hb hby at_90) (fun _ _ => ⟨rfl, e21, (by decide : 1 + 2 ≤ _), (by decide : 3 + 5 ≤ _)⟩)
    dsimp only [Pt.U, Pt.locs, Pt.cells, Pt.slots] at X22 l22 y22 z22 st22 hQ22
    subst l22 y22 z22
    obtain ⟨fb22, rfl, N22q, Kq22, hsz22, Tq22⟩ := hQ22
    have ne_b21_fb22 : b21 ≠ fb22 := Nat.ne_of_lt (Nat.lt_of_lt_of_le A21.lt hsz22)
    have sz_fb22 : h0.size ≤ fb22 := Nat.le_trans K21.1 hsz22
    have O22 := Old.keep O21 Kq22 all0
    have K22 := Keep.trans K21 Kq22 all0
    have N22 := Fr.app Nc N22q
    obtain ⟨_, _, ⟨T23, L23, k23, n23⟩, -, X23, ⟨Lc23, hQ23, l23, y23, z23⟩, st23⟩ := Jvm.LawKit.callS X22 hx (y := (⟨"com/example/claviger/claviger/engine/UseEqualsPinLaw", "s", "(I)Ljava/lang/String;"⟩ : MethodName)) hown (mvT hZ (own_w hw 3)) (mvT hZ (own_w hw 4)) (mvT hZ (own_w hw 5)) (mvT hZ (own_w hw 6)) (by decide) (backOf (W := 3) (rms l Z a0 hw [] pa cs T22.heap n0 (own_le O22) O22 HW) hZ (own_w hw 6) (own_w hw 5) (by decide) (by decide)) (g := (mkF m 95 #[.val (.int p0), .val (.int p1), .val (.int p2), .val (.int ca), .val (.int pa), .val (.int na), .val (.int cb), .val (.int pb), .val (.int nb), .unset, .unset, .unset, .unset] [(.int pa), (.ref fb22), (.ref b21), (.ref b21)])) rfl (by rw [hml]; rfl) (argsL := [(.int pa)]) (rest := [(.ref fb22), (.ref b21), (.ref b21)]) (lenOf pd_8 rfl) rfl (by show 2 * 0 + _ ≤ _; exact Nat.le_of_eq rfl) (hb hby at_95) (fun _ _ => ⟨rfl, rfl, (by decide : 3 + 2 ≤ _), (by decide : 8 + 5 ≤ _)⟩)
    dsimp only [Pt.U, Pt.locs, Pt.cells, Pt.slots] at X23 l23 y23 z23 st23 hQ23
    subst l23 y23 z23
    obtain ⟨fb23, rfl, N23q, Kq23, hsz23, Tq23⟩ := hQ23
    have ne_b21_fb23 : b21 ≠ fb23 := Nat.ne_of_lt (Nat.lt_of_lt_of_le (A21.keep Kq22).lt hsz23)
    have ne_fb22_fb23 : fb22 ≠ fb23 := Nat.ne_of_lt (Nat.lt_of_lt_of_le Tq22.1.lt hsz23)
    have sz_fb23 : h0.size ≤ fb23 := Nat.le_trans K22.1 hsz23
    have O23 := Old.keep O22 Kq23 all0
    have K23 := Keep.trans K22 Kq23 all0
    have N23 := Fr.app N22 N23q
    refine own_by (W' := (T23.setTop (mkF m 98 #[.val (.int p0), .val (.int p1), .val (.int p2), .val (.int ca), .val (.int pa), .val (.int na), .val (.int cb), .val (.int pb), .val (.int nb), .unset, .unset, .unset, .unset] [(.ref fb23), (.ref fb22), (.ref b21), (.ref b21)]))) (fun t k => st21 _ (XS.dup X21.here hx rfl (hb hby at_88) rfl rfl (XS.iloadN X21.here hx rfl (hb hby at_89) rfl (st22 _ (XS.iload X22.here hx rfl (hb hby at_93) rfl (st23 _ k)))))) ?_
    obtain ⟨_, _, ⟨T24, L24, k24, n24⟩, -, X24, ⟨Lc24, hQ24, l24, y24, z24⟩, st24⟩ := Jvm.LawKit.callS X23 hx (y := (⟨"com/example/claviger/claviger/engine/UseEqualsPinLaw", "s", "(I)Ljava/lang/String;"⟩ : MethodName)) hown (mvT hZ (own_w hw 3)) (mvT hZ (own_w hw 4)) (mvT hZ (own_w hw 5)) (mvT hZ (own_w hw 6)) (by decide) (backOf (W := 4) (rms l Z a0 hw [] na cs T23.heap n0 (own_le O23) O23 HW) hZ (own_w hw 6) (own_w hw 5) (by decide) (by decide)) (g := (mkF m 100 #[.val (.int p0), .val (.int p1), .val (.int p2), .val (.int ca), .val (.int pa), .val (.int na), .val (.int cb), .val (.int pb), .val (.int nb), .unset, .unset, .unset, .unset] [(.int na), (.ref fb23), (.ref fb22), (.ref b21), (.ref b21)])) rfl (by rw [hml]; rfl) (argsL := [(.int na)]) (rest := [(.ref fb23), (.ref fb22), (.ref b21), (.ref b21)]) (lenOf pd_8 rfl) rfl (by show 2 * 0 + _ ≤ _; exact Nat.le_of_eq rfl) (hb hby at_100) (fun _ _ => ⟨rfl, rfl, (by decide : 5 + 2 ≤ _), (by decide : 13 + 5 ≤ _)⟩)
    dsimp only [Pt.U, Pt.locs, Pt.cells, Pt.slots] at X24 l24 y24 z24 st24 hQ24
    subst l24 y24 z24
    obtain ⟨fb24, rfl, N24q, Kq24, hsz24, Tq24⟩ := hQ24
    have ne_b21_fb24 : b21 ≠ fb24 := Nat.ne_of_lt (Nat.lt_of_lt_of_le ((A21.keep Kq22).keep Kq23).lt hsz24)
    have ne_fb22_fb24 : fb22 ≠ fb24 := Nat.ne_of_lt (Nat.lt_of_lt_of_le (Tq22.1.keep Kq23).lt hsz24)
    have ne_fb23_fb24 : fb23 ≠ fb24 := Nat.ne_of_lt (Nat.lt_of_lt_of_le Tq23.1.lt hsz24)
    have sz_fb24 : h0.size ≤ fb24 := Nat.le_trans K23.1 hsz24
    have O24 := Old.keep O23 Kq24 all0
    have K24 := Keep.trans K23 Kq24 all0
    have N24 := Fr.app N23 N24q
    obtain ⟨_, _, ⟨T25, L25, k25, n25⟩, -, X25, hs225, hg225, ⟨Lc25, hQ25, l25, y25, z25⟩, st25⟩ := X24.specialBackS hx (y := (⟨"com/example/claviger/claviger/engine/SeatHolding$Use", "<init>", "(Ljava/lang/String;Ljava/lang/String;Ljava/lang/String;)V"⟩ : MethodName)) rfl hown (mvT hZ (own_w hw 33)) (mvT hZ (own_w hw 34)) (mvT hZ (own_w hw 35)) (by decide) (backOfS (W := 1) (rmU l Z a0 hw [] b21 fb22 fb23 fb24 T24.heap n0 (own_le O24) O24 (((A21.keep Kq22).keep Kq23).keep Kq24) g_b21 (((F_connection_b21.keep Kq22 nin0).keep Kq23 nin0).keep Kq24 nin0) (((F_process_b21.keep Kq22 nin0).keep Kq23 nin0).keep Kq24 nin0) (((F_need_b21.keep Kq22 nin0).keep Kq23 nin0).keep Kq24 nin0) ((Tq22.1.keep Kq23).keep Kq24) (Tq23.1.keep Kq24) Tq24.1) hZ (own_w hw 35) (own_w hw 2) (by decide) (by decide)) (g := (mkF m 103 #[.val (.int p0), .val (.int p1), .val (.int p2), .val (.int ca), .val (.int pa), .val (.int na), .val (.int cb), .val (.int pb), .val (.int nb), .unset, .unset, .unset, .unset] [(.ref fb24), (.ref fb23), (.ref fb22), (.ref b21), (.ref b21)])) rfl (by rw [hml]; rfl) (Steps.refl _) (a := b21) (argsL := [(.ref fb22), (.ref fb23), (.ref fb24)]) (rest := [(.ref b21)]) (lenOf pd_9 rfl) rfl (by show 2 * 0 + _ ≤ _; exact Nat.le_of_eq rfl) (hb hby at_103) (fun _ _ => ⟨rfl, rfl, (by decide : 7 + 6 ≤ _), (by decide : 18 + 96 ≤ _)⟩)
    dsimp only [Pt.U, Pt.locs, Pt.cells, Pt.slots] at X25 l25 y25 z25 st25 hQ25 hs225 hg225
    subst l25 y25 z25
    have hS25 : s.Since T25.vm T25.heap.size := foldS hS0 (Nat.le_trans (Nat.le_trans (Nat.le_trans (Nat.le_trans (Nat.le_refl _) E21.1) Kq22.1) Kq23.1) Kq24.1) hs225 hg225
    have hZ25 : Z.Warmed39 (s.setVm T25.vm).vm := State.Warmed39.trans (t := (s.setVm s.vm)) hZ hs225.1
    have hown25 : (s.setVm T25.vm).vm.findClass "com/example/claviger/claviger/engine/UseEqualsPinLaw" = some m.cls := by rw [show (s.setVm T25.vm).vm = T25.vm from rfl, hs225.1.alike.findClass]; exact hown
    have Eu25 := (((A21.keep Kq22).keep Kq23).keep Kq24)
    obtain ⟨rfl, N25q, Kq25, Eq25, Fq25_connection, Fq25_process, Fq25_need⟩ := hQ25
    have O25 := Old.keep O24 Kq25 (allS g_b21 all0)
    have K25 := Keep.trans K24 Kq25 (allS (Or.inr sz_b21) all0)
    have N25 := Fr.app N24 N25q
    refine own_by (W' := (T25.setTop (mkF m 110 #[.val (.int p0), .val (.int p1), .val (.int p2), .val (.int ca), .val (.int pa), .val (.int na), .val (.int cb), .val (.int pb), .val (.int nb), .val (.ref b21), .unset, .unset, .unset] [(.int (3 : Int32)), (.int p2)]))) (fun t k => XS.iload X23.here hx rfl (hb hby at_98) rfl (st24 _ (Steps.trans st25 (XS.astore X25.here hx rfl (hb hby at_106) rfl rfl (l' := #[.val (.int p0), .val (.int p1), .val (.int p2), .val (.int ca), .val (.int pa), .val (.int na), .val (.int cb), .val (.int pb), .val (.int nb), .val (.ref b21), .unset, .unset, .unset]) rfl (XS.iloadN X25.here hx rfl (hb hby at_108) rfl (XS.iconst X25.here hx rfl (hb hby at_109) k)))))) ?_
    refine own_by (W' := (T25.setTop (mkF m 115 #[.val (.int p0), .val (.int p1), .val (.int p2), .val (.int ca), .val (.int pa), .val (.int na), .val (.int cb), .val (.int pb), .val (.int nb), .val (.ref b21), .val (.int (((p2.toUInt32 >>> ((3 : Int32) &&& 31).toUInt32).toInt32) &&& (3 : Int32))), .unset, .unset] []))) (fun t k => XS.iushr X25.here hx rfl (hb hby at_110) rfl (XS.iconst X25.here hx rfl (hb hby at_111) (XS.iand X25.here hx rfl (hb hby at_112) rfl (XS.istore X25.here hx rfl (hb hby at_113) rfl (l' := #[.val (.int p0), .val (.int p1), .val (.int p2), .val (.int ca), .val (.int pa), .val (.int na), .val (.int cb), .val (.int pb), .val (.int nb), .val (.ref b21), .val (.int (((p2.toUInt32 >>> ((3 : Int32) &&& 31).toUInt32).toInt32) &&& (3 : Int32))), .unset, .unset]) rfl k)))) ?_
    generalize hv_kind : (((p2.toUInt32 >>> ((3 : Int32) &&& 31).toUInt32).toInt32) &&& (3 : Int32)) = kind
    refine own_by (W' := (T25.setTop (mkF m 118 #[.val (.int p0), .val (.int p1), .val (.int p2), .val (.int ca), .val (.int pa), .val (.int na), .val (.int cb), .val (.int pb), .val (.int nb), .val (.ref b21), .val (.int kind), .unset, .unset] [(.int (1 : Int32)), (.int kind)]))) (fun t k => XS.iload X25.here hx rfl (hb hby at_115) rfl (XS.iconst X25.here hx rfl (hb hby at_117) k)) ?_
    by_cases hc26 : kind = (1 : Int32)
    ·
      obtain ⟨cq27, kq27, q27a, q27b, q27c⟩ := isOf hZ25 rfl Eq25
      obtain ⟨_, _, ⟨T27, L27, k27, n27⟩, -, X27, ⟨Lc27, hQ27, l27, y27, z27⟩, st27⟩ := X25.virtualBack hx (y := (⟨"com/example/claviger/claviger/engine/SeatHolding$Use", "equals", "(Ljava/lang/Object;)Z"⟩ : MethodName)) (z := (⟨"com/example/claviger/claviger/engine/SeatHolding$Use", "equals", "(Ljava/lang/Object;)Z"⟩ : MethodName)) hown25 (mvT hZ25 (own_w hw 53)) (mvT hZ25 (own_w hw 54)) (notFace_of_selects (args := #[]) (mvT hZ25 (own_w hw 56))) (mvT hZ25 (own_w hw 56)) (mvT hZ25 (own_w hw 55)) (by decide) (backOf (W := 0) (rmu1 l Z a0 hw [] b21 T25.heap n0 (own_le O25) ) hZ25 (own_w hw 57) (own_w hw 2) (by decide) (by decide)) q27a q27c (g := (mkF m 125 #[.val (.int p0), .val (.int p1), .val (.int p2), .val (.int ca), .val (.int pa), .val (.int na), .val (.int cb), .val (.int pb), .val (.int nb), .val (.ref b21), .val (.int kind), .unset, .unset] [(.ref b21), (.ref b21)])) rfl (by rw [hml]; rfl) (Steps.refl _) (argsL := [(.ref b21)]) (rest := []) (lenOf pd_7 rfl) rfl (by show 2 * 0 + _ ≤ _; exact Nat.le_of_eq rfl) (hb hby at_125) (fun _ _ => ⟨rfl, rfl, (by decide : 13 + 0 ≤ _), (by decide : 114 + 0 ≤ _)⟩)
      dsimp only [Pt.U, Pt.locs, Pt.cells, Pt.slots] at X27 l27 y27 z27 st27 hQ27
      subst l27 y27 z27
      obtain ⟨rfl, N27q, e27⟩ := hQ27
      have N27 := Fr.app N25 N27q
      obtain ⟨fs, hr, hrun, hended, hEnd⟩ := Jvm.Stand.leaveW (s := s) (vm₁ := T25.vm) X27 hS25 (by rw [e27]; exact (Nat.le_refl _)) (v := some (.int (1 : Int32))) (fun h => by rw [Bd.returns] at h; cases h)
      refine own_by (W' := (T27.setTop (mkF m 128 #[.val (.int p0), .val (.int p1), .val (.int p2), .val (.int ca), .val (.int pa), .val (.int na), .val (.int cb), .val (.int pb), .val (.int nb), .val (.ref b21), .val (.int kind), .unset, .unset] [(.int (1 : Int32))]))) (fun t k => XS.icmpNo X25.here hx rfl (hb hby at_118) rfl (teq hc26).2 (XS.aload X25.here hx rfl (hb hby at_121) rfl rfl (XS.aload X25.here hx rfl (hb hby at_123) rfl rfl (Steps.trans st27 k)))) ?_
      refine ⟨_, _, retOut X27 hx Bd.returns rfl (Or.inl ⟨rfl, Or.inr (Or.inl rfl), _, rfl⟩) (hb hby at_128) hr, hrun, hended, _, _, rfl, ?_, hEnd.1, hEnd.2.1, hEnd.2.2.1, hEnd.2.2.2.mono (by decide) (by decide)⟩
      exact ⟨rfl, N27⟩
    ·
      refine own_by (W' := (T25.setTop (mkF m 132 #[.val (.int p0), .val (.int p1), .val (.int p2), .val (.int ca), .val (.int pa), .val (.int na), .val (.int cb), .val (.int pb), .val (.int nb), .val (.ref b21), .val (.int kind), .unset, .unset] [(.int (2 : Int32)), (.int kind)]))) (fun t k => XS.icmpYes X25.here hx rfl (pc0 := 118) (pc' := 129) rfl (hb hby at_118) rfl (feq hc26).2 (by decide) (by decide) (XS.iload X25.here hx rfl (hb hby at_129) rfl (XS.iconst X25.here hx rfl (hb hby at_131) k))) ?_
      by_cases hc28 : kind = (2 : Int32)
      ·
        obtain ⟨cq29, kq29, q29a, q29b, q29c⟩ := isOf hZ25 rfl Eq25
        obtain ⟨_, _, ⟨T29, L29, k29, n29⟩, -, X29, ⟨Lc29, hQ29, l29, y29, z29⟩, st29⟩ := X25.virtualBack hx (y := (⟨"com/example/claviger/claviger/engine/SeatHolding$Use", "equals", "(Ljava/lang/Object;)Z"⟩ : MethodName)) (z := (⟨"com/example/claviger/claviger/engine/SeatHolding$Use", "equals", "(Ljava/lang/Object;)Z"⟩ : MethodName)) hown25 (mvT hZ25 (own_w hw 53)) (mvT hZ25 (own_w hw 54)) (notFace_of_selects (args := #[]) (mvT hZ25 (own_w hw 56))) (mvT hZ25 (own_w hw 56)) (mvT hZ25 (own_w hw 55)) (by decide) (backOf (W := 0) (rmu2 l Z a0 hw [] b21 T25.heap n0 (own_le O25) ) hZ25 (own_w hw 57) (own_w hw 2) (by decide) (by decide)) q29a q29c (g := (mkF m 138 #[.val (.int p0), .val (.int p1), .val (.int p2), .val (.int ca), .val (.int pa), .val (.int na), .val (.int cb), .val (.int pb), .val (.int nb), .val (.ref b21), .val (.int kind), .unset, .unset] [.null, (.ref b21)])) rfl (by rw [hml]; rfl) (Steps.refl _) (argsL := [.null]) (rest := []) (lenOf pd_7 rfl) rfl (by show 2 * 0 + _ ≤ _; exact Nat.le_of_eq rfl) (hb hby at_138) (fun _ _ => ⟨rfl, rfl, (by decide : 13 + 0 ≤ _), (by decide : 114 + 0 ≤ _)⟩)
        dsimp only [Pt.U, Pt.locs, Pt.cells, Pt.slots] at X29 l29 y29 z29 st29 hQ29
        subst l29 y29 z29
        obtain ⟨rfl, N29q, e29⟩ := hQ29
        have N29 := Fr.app N25 N29q
        refine own_by (W' := (T29.setTop (mkF m 145 #[.val (.int p0), .val (.int p1), .val (.int p2), .val (.int ca), .val (.int pa), .val (.int na), .val (.int cb), .val (.int pb), .val (.int nb), .val (.ref b21), .val (.int kind), .unset, .unset] [(.int (1 : Int32))]))) (fun t k => XS.icmpNo X25.here hx rfl (hb hby at_132) rfl (teq hc28).2 (XS.aload X25.here hx rfl (hb hby at_135) rfl rfl (XS.aconstNull X25.here hx rfl (hb hby at_137) (Steps.trans st29 (XS.ifNo X29.here hx rfl (hb hby at_141) rfl ((if0 _ _).trans (teq (rfl : (0 : Int32) = (0 : Int32))).2) (XS.iconst X29.here hx rfl (hb hby at_144) k)))))) ?_
        obtain ⟨fs, hr, hrun, hended, hEnd⟩ := Jvm.Stand.leaveW (s := s) (vm₁ := T25.vm) X29 hS25 (by rw [e29]; exact (Nat.le_refl _)) (v := some (.int (1 : Int32))) (fun h => by rw [Bd.returns] at h; cases h)
        refine own_by (W' := (T29.setTop (mkF m 149 #[.val (.int p0), .val (.int p1), .val (.int p2), .val (.int ca), .val (.int pa), .val (.int na), .val (.int cb), .val (.int pb), .val (.int nb), .val (.ref b21), .val (.int kind), .unset, .unset] [(.int (1 : Int32))]))) (fun t k => XS.goto X29.here hx rfl (pc0 := 145) (pc' := 149) rfl (hb hby at_145) (by decide) (by decide) k) ?_
        refine ⟨_, _, retOut X29 hx Bd.returns rfl (Or.inl ⟨rfl, Or.inr (Or.inl rfl), _, rfl⟩) (hb hby at_149) hr, hrun, hended, _, _, rfl, ?_, hEnd.1, hEnd.2.1, hEnd.2.2.1, hEnd.2.2.2.mono (by decide) (by decide)⟩
        exact ⟨rfl, N29⟩
      ·
        refine own_by (W' := (T25.setTop (mkF m 153 #[.val (.int p0), .val (.int p1), .val (.int p2), .val (.int ca), .val (.int pa), .val (.int na), .val (.int cb), .val (.int pb), .val (.int nb), .val (.ref b21), .val (.int kind), .unset, .unset] [(.int (3 : Int32)), (.int kind)]))) (fun t k => XS.icmpYes X25.here hx rfl (pc0 := 132) (pc' := 150) rfl (hb hby at_132) rfl (feq hc28).2 (by decide) (by decide) (XS.iload X25.here hx rfl (hb hby at_150) rfl (XS.iconst X25.here hx rfl (hb hby at_152) k))) ?_
        by_cases hc30 : kind = (3 : Int32)
        ·
          obtain ⟨_, _, ⟨T31, L31, k31, n31⟩, -, X31, ⟨Lc31, hQ31, l31, y31, z31⟩, st31⟩ := Jvm.LawKit.callS X25 hx (y := (⟨"com/example/claviger/claviger/engine/UseEqualsPinLaw", "s", "(I)Ljava/lang/String;"⟩ : MethodName)) hown25 (mvT hZ25 (own_w hw 3)) (mvT hZ25 (own_w hw 4)) (mvT hZ25 (own_w hw 5)) (mvT hZ25 (own_w hw 6)) (by decide) (backOf (W := 0) (rms l Z a0 hw [] ca cs T25.heap n0 (own_le O25) O25 HW) hZ25 (own_w hw 6) (own_w hw 5) (by decide) (by decide)) (g := (mkF m 157 #[.val (.int p0), .val (.int p1), .val (.int p2), .val (.int ca), .val (.int pa), .val (.int na), .val (.int cb), .val (.int pb), .val (.int nb), .val (.ref b21), .val (.int kind), .unset, .unset] [(.int ca)])) rfl (by rw [hml]; rfl) (argsL := [(.int ca)]) (rest := []) (lenOf pd_8 rfl) rfl (by show 2 * 0 + _ ≤ _; exact Nat.le_of_eq rfl) (hb hby at_157) (fun _ _ => ⟨rfl, rfl, (by decide : 13 + 2 ≤ _), (by decide : 114 + 5 ≤ _)⟩)
          dsimp only [Pt.U, Pt.locs, Pt.cells, Pt.slots] at X31 l31 y31 z31 st31 hQ31
          subst l31 y31 z31
          obtain ⟨fb31, rfl, N31q, Kq31, hsz31, Tq31⟩ := hQ31
          have ne_b21_fb31 : b21 ≠ fb31 := Nat.ne_of_lt (Nat.lt_of_lt_of_le Eq25.lt hsz31)
          have ne_fb22_fb31 : fb22 ≠ fb31 := Nat.ne_of_lt (Nat.lt_of_lt_of_le (((Tq22.1.keep Kq23).keep Kq24).keep Kq25).lt hsz31)
          have ne_fb23_fb31 : fb23 ≠ fb31 := Nat.ne_of_lt (Nat.lt_of_lt_of_le ((Tq23.1.keep Kq24).keep Kq25).lt hsz31)
          have ne_fb24_fb31 : fb24 ≠ fb31 := Nat.ne_of_lt (Nat.lt_of_lt_of_le (Tq24.1.keep Kq25).lt hsz31)
          have sz_fb31 : h0.size ≤ fb31 := Nat.le_trans K25.1 hsz31
          have O31 := Old.keep O25 Kq31 all0
          have K31 := Keep.trans K25 Kq31 all0
          have N31 := Fr.app N25 N31q
          refine own_by (W' := (T31.setTop (mkF m 166 #[.val (.int p0), .val (.int p1), .val (.int p2), .val (.int ca), .val (.int pa), .val (.int na), .val (.int cb), .val (.int pb), .val (.int nb), .val (.ref b21), .val (.int kind), .val (.ref fb31), .unset] [(.ref fb31), (.ref b21)]))) (fun t k => XS.icmpNo X25.here hx rfl (hb hby at_153) rfl (teq hc30).2 (XS.iloadN X25.here hx rfl (hb hby at_156) rfl (st31 _ (XS.astore X31.here hx rfl (hb hby at_160) rfl rfl (l' := #[.val (.int p0), .val (.int p1), .val (.int p2), .val (.int ca), .val (.int pa), .val (.int na), .val (.int cb), .val (.int pb), .val (.int nb), .val (.ref b21), .val (.int kind), .val (.ref fb31), .unset]) rfl (XS.aload X31.here hx rfl (hb hby at_162) rfl rfl (XS.aload X31.here hx rfl (hb hby at_164) rfl rfl k)))))) ?_
          obtain ⟨cq32, kq32, q32a, q32b, q32c⟩ := isOf hZ25 rfl (Eq25.keep Kq31)
          obtain ⟨_, _, ⟨T32, L32, k32, n32⟩, -, X32, ⟨Lc32, hQ32, l32, y32, z32⟩, st32⟩ := X31.virtualBack hx (y := (⟨"com/example/claviger/claviger/engine/SeatHolding$Use", "equals", "(Ljava/lang/Object;)Z"⟩ : MethodName)) (z := (⟨"com/example/claviger/claviger/engine/SeatHolding$Use", "equals", "(Ljava/lang/Object;)Z"⟩ : MethodName)) hown25 (mvT hZ25 (own_w hw 53)) (mvT hZ25 (own_w hw 54)) (notFace_of_selects (args := #[]) (mvT hZ25 (own_w hw 56))) (mvT hZ25 (own_w hw 56)) (mvT hZ25 (own_w hw 55)) (by decide) (backOf (W := 0) (rmu3 l Z a0 hw [] b21 fb31 T31.heap n0 (own_le O31) (Eq25.keep Kq31) Tq31.1) hZ25 (own_w hw 57) (own_w hw 2) (by decide) (by decide)) q32a q32c (g := (mkF m 166 #[.val (.int p0), .val (.int p1), .val (.int p2), .val (.int ca), .val (.int pa), .val (.int na), .val (.int cb), .val (.int pb), .val (.int nb), .val (.ref b21), .val (.int kind), .val (.ref fb31), .unset] [(.ref fb31), (.ref b21)])) rfl (by rw [hml]; rfl) (Steps.refl _) (argsL := [(.ref fb31)]) (rest := []) (lenOf pd_7 rfl) rfl (by show 2 * 0 + _ ≤ _; exact Nat.le_of_eq rfl) (hb hby at_166) (fun _ _ => ⟨rfl, rfl, (by decide : 15 + 0 ≤ _), (by decide : 119 + 0 ≤ _)⟩)
          dsimp only [Pt.U, Pt.locs, Pt.cells, Pt.slots] at X32 l32 y32 z32 st32 hQ32
          subst l32 y32 z32
          obtain ⟨rfl, N32q, e32⟩ := hQ32
          have N32 := Fr.app N31 N32q
          obtain ⟨fs, hr, hrun, hended, hEnd⟩ := Jvm.Stand.leaveW (s := s) (vm₁ := T25.vm) X32 hS25 (by rw [e32]; exact (Nat.le_trans (Nat.le_refl _) Kq31.1)) (v := some (.int (1 : Int32))) (fun h => by rw [Bd.returns] at h; cases h)
          refine own_by (W' := (T32.setTop (mkF m 177 #[.val (.int p0), .val (.int p1), .val (.int p2), .val (.int ca), .val (.int pa), .val (.int na), .val (.int cb), .val (.int pb), .val (.int nb), .val (.ref b21), .val (.int kind), .val (.ref fb31), .unset] [(.int (1 : Int32))]))) (fun t k => Steps.trans st32 (XS.ifNo X32.here hx rfl (hb hby at_169) rfl ((if0 _ _).trans (teq (rfl : (0 : Int32) = (0 : Int32))).2) (XS.iconst X32.here hx rfl (hb hby at_172) (XS.goto X32.here hx rfl (pc0 := 173) (pc' := 177) rfl (hb hby at_173) (by decide) (by decide) k)))) ?_
          refine ⟨_, _, retOut X32 hx Bd.returns rfl (Or.inl ⟨rfl, Or.inr (Or.inl rfl), _, rfl⟩) (hb hby at_177) hr, hrun, hended, _, _, rfl, ?_, hEnd.1, hEnd.2.1, hEnd.2.2.1, hEnd.2.2.2.mono (by decide) (by decide)⟩
          exact ⟨rfl, N32⟩
        ·
          obtain ⟨T33, h33, X33, e33, E33, A33, D33, -, st33⟩ := newO X25 hx hZ25 hown25 (own_w hw 0) (own_w hw 1) (own_w hw 2) rfl (g := (mkF m 178 #[.val (.int p0), .val (.int p1), .val (.int p2), .val (.int ca), .val (.int pa), .val (.int na), .val (.int cb), .val (.int pb), .val (.int nb), .val (.ref b21), .val (.int kind), .unset, .unset] [])) rfl (hb hby at_178) (by decide) (by decide)
          obtain ⟨b33, g33⟩ : ∃ z, z = T25.heap.size := ⟨_, rfl⟩
          rw [← g33] at A33 D33 st33
          have g_b33 : n0 ≤ b33 := Nat.le_trans (own_le O25) (Nat.le_of_eq g33.symm)
          have sz_b33 : h0.size ≤ b33 := Nat.le_trans K25.1 (Nat.le_of_eq g33.symm)
          have ne_b21_b33 : b21 ≠ b33 := Nat.ne_of_lt (Nat.lt_of_lt_of_le Eq25.lt (Nat.le_of_eq g33.symm))
          have ne_fb22_b33 : fb22 ≠ b33 := Nat.ne_of_lt (Nat.lt_of_lt_of_le (((Tq22.1.keep Kq23).keep Kq24).keep Kq25).lt (Nat.le_of_eq g33.symm))
          have ne_fb23_b33 : fb23 ≠ b33 := Nat.ne_of_lt (Nat.lt_of_lt_of_le ((Tq23.1.keep Kq24).keep Kq25).lt (Nat.le_of_eq g33.symm))
          have ne_fb24_b33 : fb24 ≠ b33 := Nat.ne_of_lt (Nat.lt_of_lt_of_le (Tq24.1.keep Kq25).lt (Nat.le_of_eq g33.symm))
          have O33 := O25.ext E33
          have K33 := Keep.ext K25 E33
          have F_connection_b33 : Fld Z h33 b33 "com/example/claviger/claviger/engine/SeatHolding$Use" "connection" "Ljava/lang/String;" .null := D33 (Or.inr (own_w hw 46)) (ty := (.object "java/lang/String")) (by decide)
          have F_process_b33 : Fld Z h33 b33 "com/example/claviger/claviger/engine/SeatHolding$Use" "process" "Ljava/lang/String;" .null := D33 (Or.inr (own_w hw 49)) (ty := (.object "java/lang/String")) (by decide)
          have F_need_b33 : Fld Z h33 b33 "com/example/claviger/claviger/engine/SeatHolding$Use" "need" "Ljava/lang/String;" .null := D33 (Or.inr (own_w hw 52)) (ty := (.object "java/lang/String")) (by decide)
          obtain ⟨_, _, ⟨T34, L34, k34, n34⟩, -, X34, ⟨Lc34, hQ34, l34, y34, z34⟩, st34⟩ := Jvm.LawKit.callS X33 hx (y := (⟨"com/example/claviger/claviger/engine/UseEqualsPinLaw", "s", "(I)Ljava/lang/String;"⟩ : MethodName)) hown25 (mvT hZ25 (own_w hw 3)) (mvT hZ25 (own_w hw 4)) (mvT hZ25 (own_w hw 5)) (mvT hZ25 (own_w hw 6)) (by decide) (backOf (W := 2) (rms l Z a0 hw [] cb cs h33 n0 (own_le O33) O33 HW) hZ25 (own_w hw 6) (own_w hw 5) (by decide) (by decide)) (g := (mkF m 184 #[.val (.int p0), .val (.int p1), .val (.int p2), .val (.int ca), .val (.int pa), .val (.int na), .val (.int cb), .val (.int pb), .val (.int nb), .val (.ref b21), .val (.int kind), .unset, .unset] [(.int cb), (.ref b33), (.ref b33)])) rfl (by rw [hml]; rfl) (argsL := [(.int cb)]) (rest := [(.ref b33), (.ref b33)]) (lenOf pd_8 rfl) rfl (by show 2 * 0 + _ ≤ _; exact Nat.le_of_eq rfl) (hb hby at_184) (fun _ _ => ⟨rfl, e33, (by decide : 14 + 2 ≤ _), (by decide : 117 + 5 ≤ _)⟩)
          dsimp only [Pt.U, Pt.locs, Pt.cells, Pt.slots] at X34 l34 y34 z34 st34 hQ34
          subst l34 y34 z34
          obtain ⟨fb34, rfl, N34q, Kq34, hsz34, Tq34⟩ := hQ34
          have ne_b21_fb34 : b21 ≠ fb34 := Nat.ne_of_lt (Nat.lt_of_lt_of_le (Eq25.ext E33).lt hsz34)
          have ne_fb22_fb34 : fb22 ≠ fb34 := Nat.ne_of_lt (Nat.lt_of_lt_of_le ((((Tq22.1.keep Kq23).keep Kq24).keep Kq25).ext E33).lt hsz34)
          have ne_fb23_fb34 : fb23 ≠ fb34 := Nat.ne_of_lt (Nat.lt_of_lt_of_le (((Tq23.1.keep Kq24).keep Kq25).ext E33).lt hsz34)
          have ne_fb24_fb34 : fb24 ≠ fb34 := Nat.ne_of_lt (Nat.lt_of_lt_of_le ((Tq24.1.keep Kq25).ext E33).lt hsz34)
          have ne_b33_fb34 : b33 ≠ fb34 := Nat.ne_of_lt (Nat.lt_of_lt_of_le A33.lt hsz34)
          have sz_fb34 : h0.size ≤ fb34 := Nat.le_trans K33.1 hsz34
          have O34 := Old.keep O33 Kq34 all0
          have K34 := Keep.trans K33 Kq34 all0
          have N34 := Fr.app N25 N34q
          refine own_by (W' := (T34.setTop (mkF m 189 #[.val (.int p0), .val (.int p1), .val (.int p2), .val (.int ca), .val (.int pa), .val (.int na), .val (.int cb), .val (.int pb), .val (.int nb), .val (.ref b21), .val (.int kind), .unset, .unset] [(.int pb), (.ref fb34), (.ref b33), (.ref b33)]))) (fun t k => XS.icmpYes X25.here hx rfl (pc0 := 153) (pc' := 178) rfl (hb hby at_153) rfl (feq hc30).2 (by decide) (by decide) (st33 _ (XS.dup X33.here hx rfl (hb hby at_181) rfl rfl (XS.iload X33.here hx rfl (hb hby at_182) rfl (st34 _ (XS.iload X34.here hx rfl (hb hby at_187) rfl k)))))) ?_
          obtain ⟨_, _, ⟨T35, L35, k35, n35⟩, -, X35, ⟨Lc35, hQ35, l35, y35, z35⟩, st35⟩ := Jvm.LawKit.callS X34 hx (y := (⟨"com/example/claviger/claviger/engine/UseEqualsPinLaw", "s", "(I)Ljava/lang/String;"⟩ : MethodName)) hown25 (mvT hZ25 (own_w hw 3)) (mvT hZ25 (own_w hw 4)) (mvT hZ25 (own_w hw 5)) (mvT hZ25 (own_w hw 6)) (by decide) (backOf (W := 3) (rms l Z a0 hw [] pb cs T34.heap n0 (own_le O34) O34 HW) hZ25 (own_w hw 6) (own_w hw 5) (by decide) (by decide)) (g := (mkF m 189 #[.val (.int p0), .val (.int p1), .val (.int p2), .val (.int ca), .val (.int pa), .val (.int na), .val (.int cb), .val (.int pb), .val (.int nb), .val (.ref b21), .val (.int kind), .unset, .unset] [(.int pb), (.ref fb34), (.ref b33), (.ref b33)])) rfl (by rw [hml]; rfl) (argsL := [(.int pb)]) (rest := [(.ref fb34), (.ref b33), (.ref b33)]) (lenOf pd_8 rfl) rfl (by show 2 * 0 + _ ≤ _; exact Nat.le_of_eq rfl) (hb hby at_189) (fun _ _ => ⟨rfl, rfl, (by decide : 16 + 2 ≤ _), (by decide : 122 + 5 ≤ _)⟩)
          dsimp only [Pt.U, Pt.locs, Pt.cells, Pt.slots] at X35 l35 y35 z35 st35 hQ35
          subst l35 y35 z35
          obtain ⟨fb35, rfl, N35q, Kq35, hsz35, Tq35⟩ := hQ35
          have ne_b21_fb35 : b21 ≠ fb35 := Nat.ne_of_lt (Nat.lt_of_lt_of_le ((Eq25.ext E33).keep Kq34).lt hsz35)
          have ne_fb22_fb35 : fb22 ≠ fb35 := Nat.ne_of_lt (Nat.lt_of_lt_of_le (((((Tq22.1.keep Kq23).keep Kq24).keep Kq25).ext E33).keep Kq34).lt hsz35)
          have ne_fb23_fb35 : fb23 ≠ fb35 := Nat.ne_of_lt (Nat.lt_of_lt_of_le ((((Tq23.1.keep Kq24).keep Kq25).ext E33).keep Kq34).lt hsz35)
          have ne_fb24_fb35 : fb24 ≠ fb35 := Nat.ne_of_lt (Nat.lt_of_lt_of_le (((Tq24.1.keep Kq25).ext E33).keep Kq34).lt hsz35)
          have ne_b33_fb35 : b33 ≠ fb35 := Nat.ne_of_lt (Nat.lt_of_lt_of_le (A33.keep Kq34).lt hsz35)
          have ne_fb34_fb35 : fb34 ≠ fb35 := Nat.ne_of_lt (Nat.lt_of_lt_of_le Tq34.1.lt hsz35)
          have sz_fb35 : h0.size ≤ fb35 := Nat.le_trans K34.1 hsz35
          have O35 := Old.keep O34 Kq35 all0
          have K35 := Keep.trans K34 Kq35 all0
          have N35 := Fr.app N34 N35q
          obtain ⟨_, _, ⟨T36, L36, k36, n36⟩, -, X36, ⟨Lc36, hQ36, l36, y36, z36⟩, st36⟩ := Jvm.LawKit.callS X35 hx (y := (⟨"com/example/claviger/claviger/engine/UseEqualsPinLaw", "s", "(I)Ljava/lang/String;"⟩ : MethodName)) hown25 (mvT hZ25 (own_w hw 3)) (mvT hZ25 (own_w hw 4)) (mvT hZ25 (own_w hw 5)) (mvT hZ25 (own_w hw 6)) (by decide) (backOf (W := 4) (rms l Z a0 hw [] nb cs T35.heap n0 (own_le O35) O35 HW) hZ25 (own_w hw 6) (own_w hw 5) (by decide) (by decide)) (g := (mkF m 194 #[.val (.int p0), .val (.int p1), .val (.int p2), .val (.int ca), .val (.int pa), .val (.int na), .val (.int cb), .val (.int pb), .val (.int nb), .val (.ref b21), .val (.int kind), .unset, .unset] [(.int nb), (.ref fb35), (.ref fb34), (.ref b33), (.ref b33)])) rfl (by rw [hml]; rfl) (argsL := [(.int nb)]) (rest := [(.ref fb35), (.ref fb34), (.ref b33), (.ref b33)]) (lenOf pd_8 rfl) rfl (by show 2 * 0 + _ ≤ _; exact Nat.le_of_eq rfl) (hb hby at_194) (fun _ _ => ⟨rfl, rfl, (by decide : 18 + 2 ≤ _), (by decide : 127 + 5 ≤ _)⟩)
          dsimp only [Pt.U, Pt.locs, Pt.cells, Pt.slots] at X36 l36 y36 z36 st36 hQ36
          subst l36 y36 z36
          obtain ⟨fb36, rfl, N36q, Kq36, hsz36, Tq36⟩ := hQ36
          have ne_b21_fb36 : b21 ≠ fb36 := Nat.ne_of_lt (Nat.lt_of_lt_of_le (((Eq25.ext E33).keep Kq34).keep Kq35).lt hsz36)
          have ne_fb22_fb36 : fb22 ≠ fb36 := Nat.ne_of_lt (Nat.lt_of_lt_of_le ((((((Tq22.1.keep Kq23).keep Kq24).keep Kq25).ext E33).keep Kq34).keep Kq35).lt hsz36)
          have ne_fb23_fb36 : fb23 ≠ fb36 := Nat.ne_of_lt (Nat.lt_of_lt_of_le (((((Tq23.1.keep Kq24).keep Kq25).ext E33).keep Kq34).keep Kq35).lt hsz36)
          have ne_fb24_fb36 : fb24 ≠ fb36 := Nat.ne_of_lt (Nat.lt_of_lt_of_le ((((Tq24.1.keep Kq25).ext E33).keep Kq34).keep Kq35).lt hsz36)
          have ne_b33_fb36 : b33 ≠ fb36 := Nat.ne_of_lt (Nat.lt_of_lt_of_le ((A33.keep Kq34).keep Kq35).lt hsz36)
          have ne_fb34_fb36 : fb34 ≠ fb36 := Nat.ne_of_lt (Nat.lt_of_lt_of_le (Tq34.1.keep Kq35).lt hsz36)
          have ne_fb35_fb36 : fb35 ≠ fb36 := Nat.ne_of_lt (Nat.lt_of_lt_of_le Tq35.1.lt hsz36)
          have sz_fb36 : h0.size ≤ fb36 := Nat.le_trans K35.1 hsz36
          have O36 := Old.keep O35 Kq36 all0
          have K36 := Keep.trans K35 Kq36 all0
          have N36 := Fr.app N35 N36q
          obtain ⟨_, _, ⟨T37, L37, k37, n37⟩, -, X37, hs237, hg237, ⟨Lc37, hQ37, l37, y37, z37⟩, st37⟩ := X36.specialBackS hx (y := (⟨"com/example/claviger/claviger/engine/SeatHolding$Use", "<init>", "(Ljava/lang/String;Ljava/lang/String;Ljava/lang/String;)V"⟩ : MethodName)) rfl hown25 (mvT hZ25 (own_w hw 33)) (mvT hZ25 (own_w hw 34)) (mvT hZ25 (own_w hw 35)) (by decide) (backOfS (W := 1) (rmU l Z a0 hw [] b33 fb34 fb35 fb36 T36.heap n0 (own_le O36) O36 (((A33.keep Kq34).keep Kq35).keep Kq36) g_b33 (((F_connection_b33.keep Kq34 nin0).keep Kq35 nin0).keep Kq36 nin0) (((F_process_b33.keep Kq34 nin0).keep Kq35 nin0).keep Kq36 nin0) (((F_need_b33.keep Kq34 nin0).keep Kq35 nin0).keep Kq36 nin0) ((Tq34.1.keep Kq35).keep Kq36) (Tq35.1.keep Kq36) Tq36.1) hZ25 (own_w hw 35) (own_w hw 2) (by decide) (by decide)) (g := (mkF m 197 #[.val (.int p0), .val (.int p1), .val (.int p2), .val (.int ca), .val (.int pa), .val (.int na), .val (.int cb), .val (.int pb), .val (.int nb), .val (.ref b21), .val (.int kind), .unset, .unset] [(.ref fb36), (.ref fb35), (.ref fb34), (.ref b33), (.ref b33)])) rfl (by rw [hml]; rfl) (Steps.refl _) (a := b33) (argsL := [(.ref fb34), (.ref fb35), (.ref fb36)]) (rest := [(.ref b33)]) (lenOf pd_9 rfl) rfl (by show 2 * 0 + _ ≤ _; exact Nat.le_of_eq rfl) (hb hby at_197) (fun _ _ => ⟨rfl, rfl, (by decide : 20 + 6 ≤ _), (by decide : 132 + 96 ≤ _)⟩)
          dsimp only [Pt.U, Pt.locs, Pt.cells, Pt.slots] at X37 l37 y37 z37 st37 hQ37 hs237 hg237
          subst l37 y37 z37
          have hS37 : s.Since T37.vm T37.heap.size := foldS hS25 (Nat.le_trans (Nat.le_trans (Nat.le_trans (Nat.le_trans (Nat.le_refl _) E33.1) Kq34.1) Kq35.1) Kq36.1) hs237 hg237
          have hZ37 : Z.Warmed39 (s.setVm T37.vm).vm := State.Warmed39.trans (t := (s.setVm T25.vm)) hZ25 hs237.1
          have hown37 : (s.setVm T37.vm).vm.findClass "com/example/claviger/claviger/engine/UseEqualsPinLaw" = some m.cls := by rw [show (s.setVm T37.vm).vm = T37.vm from rfl, hs237.1.alike.findClass]; exact hown25
          have Eu37 := (((A33.keep Kq34).keep Kq35).keep Kq36)
          obtain ⟨rfl, N37q, Kq37, Eq37, Fq37_connection, Fq37_process, Fq37_need⟩ := hQ37
          have O37 := Old.keep O36 Kq37 (allS g_b33 all0)
          have K37 := Keep.trans K36 Kq37 (allS (Or.inr sz_b33) all0)
          have N37 := Fr.app N36 N37q
          refine own_by (W' := (T37.setTop (mkF m 203 #[.val (.int p0), .val (.int p1), .val (.int p2), .val (.int ca), .val (.int pa), .val (.int na), .val (.int cb), .val (.int pb), .val (.int nb), .val (.ref b21), .val (.int kind), .val (.ref b33), .unset] [(.int ca)]))) (fun t k => st35 _ (XS.iload X35.here hx rfl (hb hby at_192) rfl (st36 _ (Steps.trans st37 (XS.astore X37.here hx rfl (hb hby at_200) rfl rfl (l' := #[.val (.int p0), .val (.int p1), .val (.int p2), .val (.int ca), .val (.int pa), .val (.int na), .val (.int cb), .val (.int pb), .val (.int nb), .val (.ref b21), .val (.int kind), .val (.ref b33), .unset]) rfl (XS.iloadN X37.here hx rfl (hb hby at_202) rfl k)))))) ?_
          refine own_by (W' := (T37.setTop (mkF m 205 #[.val (.int p0), .val (.int p1), .val (.int p2), .val (.int ca), .val (.int pa), .val (.int na), .val (.int cb), .val (.int pb), .val (.int nb), .val (.ref b21), .val (.int kind), .val (.ref b33), .unset] [(.int cb), (.int ca)]))) (fun t k => XS.iload X37.here hx rfl (hb hby at_203) rfl k) ?_
          by_cases hc38 : ca = cb
          ·
            refine own_by (W' := (T37.setTop (mkF m 212 #[.val (.int p0), .val (.int p1), .val (.int p2), .val (.int ca), .val (.int pa), .val (.int na), .val (.int cb), .val (.int pb), .val (.int nb), .val (.ref b21), .val (.int kind), .val (.ref b33), .unset] [(.int pb), (.int pa)]))) (fun t k => XS.icmpNo X37.here hx rfl (hb hby at_205) rfl (teq hc38).2 (XS.iload X37.here hx rfl (hb hby at_208) rfl (XS.iload X37.here hx rfl (hb hby at_210) rfl k))) ?_
            by_cases hc39 : pa = pb
            ·
              refine own_by (W' := (T37.setTop (mkF m 219 #[.val (.int p0), .val (.int p1), .val (.int p2), .val (.int ca), .val (.int pa), .val (.int na), .val (.int cb), .val (.int pb), .val (.int nb), .val (.ref b21), .val (.int kind), .val (.ref b33), .unset] [(.int nb), (.int na)]))) (fun t k => XS.icmpNo X37.here hx rfl (hb hby at_212) rfl (teq hc39).2 (XS.iload X37.here hx rfl (hb hby at_215) rfl (XS.iload X37.here hx rfl (hb hby at_217) rfl k))) ?_
              by_cases hc40 : na = nb
              ·
                refine own_by (W' := (T37.setTop (mkF m 233 #[.val (.int p0), .val (.int p1), .val (.int p2), .val (.int ca), .val (.int pa), .val (.int na), .val (.int cb), .val (.int pb), .val (.int nb), .val (.ref b21), .val (.int kind), .val (.ref b33), .val (.int (1 : Int32))] [(.ref b33), (.ref b21)]))) (fun t k => XS.icmpNo X37.here hx rfl (hb hby at_219) rfl (teq hc40).2 (XS.iconst X37.here hx rfl (hb hby at_222) (XS.goto X37.here hx rfl (pc0 := 223) (pc' := 227) rfl (hb hby at_223) (by decide) (by decide) (XS.istore X37.here hx rfl (hb hby at_227) rfl (l' := #[.val (.int p0), .val (.int p1), .val (.int p2), .val (.int ca), .val (.int pa), .val (.int na), .val (.int cb), .val (.int pb), .val (.int nb), .val (.ref b21), .val (.int kind), .val (.ref b33), .val (.int (1 : Int32))]) rfl (XS.aload X37.here hx rfl (hb hby at_229) rfl rfl (XS.aload X37.here hx rfl (hb hby at_231) rfl rfl k)))))) ?_
                obtain ⟨cq41, kq41, q41a, q41b, q41c⟩ := isOf hZ37 rfl (((((Eq25.ext E33).keep Kq34).keep Kq35).keep Kq36).keep Kq37)
                obtain ⟨_, _, ⟨T41, L41, k41, n41⟩, -, X41, ⟨Lc41, hQ41, l41, y41, z41⟩, st41⟩ := X37.virtualBack hx (y := (⟨"com/example/claviger/claviger/engine/SeatHolding$Use", "equals", "(Ljava/lang/Object;)Z"⟩ : MethodName)) (z := (⟨"com/example/claviger/claviger/engine/SeatHolding$Use", "equals", "(Ljava/lang/Object;)Z"⟩ : MethodName)) hown37 (mvT hZ37 (own_w hw 53)) (mvT hZ37 (own_w hw 54)) (notFace_of_selects (args := #[]) (mvT hZ37 (own_w hw 56))) (mvT hZ37 (own_w hw 56)) (mvT hZ37 (own_w hw 55)) (by decide) (backOf (W := 0) (rmu4 l Z a0 hw [] b21 b33 fb22 fb23 fb24 fb34 fb35 fb36 (own_b ca) (own_b pa) (own_b na) (own_b cb) (own_b pb) (own_b nb) cs T37.heap n0 (own_le O37) O37 HW ne_b21_b33 Eq37 (((((Fq25_connection.ext E33).keep Kq34 nin0).keep Kq35 nin0).keep Kq36 nin0).keep Kq37 (ninS ne_b21_b33 nin0)) (((((Fq25_process.ext E33).keep Kq34 nin0).keep Kq35 nin0).keep Kq36 nin0).keep Kq37 (ninS ne_b21_b33 nin0)) (((((Fq25_need.ext E33).keep Kq34 nin0).keep Kq35 nin0).keep Kq36 nin0).keep Kq37 (ninS ne_b21_b33 nin0)) Fq37_connection Fq37_process Fq37_need ((((((((Tq22.keep0 Kq23).keep0 Kq24).keep1 Kq25 Eu25 (own_w hw 1) (by decide)).ext E33).keep0 Kq34).keep0 Kq35).keep0 Kq36).keep1 Kq37 Eu37 (own_w hw 1) (by decide)) (((((((Tq23.keep0 Kq24).keep1 Kq25 Eu25 (own_w hw 1) (by decide)).ext E33).keep0 Kq34).keep0 Kq35).keep0 Kq36).keep1 Kq37 Eu37 (own_w hw 1) (by decide)) ((((((Tq24.keep1 Kq25 Eu25 (own_w hw 1) (by decide)).ext E33).keep0 Kq34).keep0 Kq35).keep0 Kq36).keep1 Kq37 Eu37 (own_w hw 1) (by decide)) (((Tq34.keep0 Kq35).keep0 Kq36).keep1 Kq37 Eu37 (own_w hw 1) (by decide)) ((Tq35.keep0 Kq36).keep1 Kq37 Eu37 (own_w hw 1) (by decide)) (Tq36.keep1 Kq37 Eu37 (own_w hw 1) (by decide))) hZ37 (own_w hw 57) (own_w hw 2) (by decide) (by decide)) q41a q41c (g := (mkF m 233 #[.val (.int p0), .val (.int p1), .val (.int p2), .val (.int ca), .val (.int pa), .val (.int na), .val (.int cb), .val (.int pb), .val (.int nb), .val (.ref b21), .val (.int kind), .val (.ref b33), .val (.int (1 : Int32))] [(.ref b33), (.ref b21)])) rfl (by rw [hml]; rfl) (Steps.refl _) (argsL := [(.ref b33)]) (rest := []) (lenOf pd_7 rfl) rfl (by show 2 * 0 + _ ≤ _; exact Nat.le_of_eq rfl) (hb hby at_233) (fun _ _ => ⟨rfl, rfl, (by decide : 26 + 0 ≤ _), (by decide : 228 + 0 ≤ _)⟩)
                dsimp only [Pt.U, Pt.locs, Pt.cells, Pt.slots] at X41 l41 y41 z41 st41 hQ41
                subst l41 y41 z41
                obtain ⟨rfl, N41q, e41⟩ := hQ41
                have N41 := Fr.app N37 N41q
                have ho42 : (FU (own_b ca) (own_b pa) (own_b na) (own_b cb) (own_b pb) (own_b nb)) = (1 : Int32) := by rw [own_FU h_ca h_pa h_na h_cb h_pb h_nb]; simp [hc38, hc39, hc40]
                obtain ⟨cq43, kq43, q43a, q43b, q43c⟩ := isOf hZ37 e41 Eq37
                obtain ⟨_, _, ⟨T43, L43, k43, n43⟩, -, X43, ⟨Lc43, hQ43, l43, y43, z43⟩, st43⟩ := X41.virtualBack hx (y := (⟨"com/example/claviger/claviger/engine/SeatHolding$Use", "equals", "(Ljava/lang/Object;)Z"⟩ : MethodName)) (z := (⟨"com/example/claviger/claviger/engine/SeatHolding$Use", "equals", "(Ljava/lang/Object;)Z"⟩ : MethodName)) hown37 (mvT hZ37 (own_w hw 53)) (mvT hZ37 (own_w hw 54)) (notFace_of_selects (args := #[]) (mvT hZ37 (own_w hw 56))) (mvT hZ37 (own_w hw 56)) (mvT hZ37 (own_w hw 55)) (by decide) (backOf (W := 0) (rmu4 l Z a0 hw [] b33 b21 fb34 fb35 fb36 fb22 fb23 fb24 (own_b cb) (own_b pb) (own_b nb) (own_b ca) (own_b pa) (own_b na) cs T37.heap n0 (own_le O37) O37 HW ne_b21_b33.symm (((((Eq25.ext E33).keep Kq34).keep Kq35).keep Kq36).keep Kq37) Fq37_connection Fq37_process Fq37_need (((((Fq25_connection.ext E33).keep Kq34 nin0).keep Kq35 nin0).keep Kq36 nin0).keep Kq37 (ninS ne_b21_b33 nin0)) (((((Fq25_process.ext E33).keep Kq34 nin0).keep Kq35 nin0).keep Kq36 nin0).keep Kq37 (ninS ne_b21_b33 nin0)) (((((Fq25_need.ext E33).keep Kq34 nin0).keep Kq35 nin0).keep Kq36 nin0).keep Kq37 (ninS ne_b21_b33 nin0)) (((Tq34.keep0 Kq35).keep0 Kq36).keep1 Kq37 Eu37 (own_w hw 1) (by decide)) ((Tq35.keep0 Kq36).keep1 Kq37 Eu37 (own_w hw 1) (by decide)) (Tq36.keep1 Kq37 Eu37 (own_w hw 1) (by decide)) ((((((((Tq22.keep0 Kq23).keep0 Kq24).keep1 Kq25 Eu25 (own_w hw 1) (by decide)).ext E33).keep0 Kq34).keep0 Kq35).keep0 Kq36).keep1 Kq37 Eu37 (own_w hw 1) (by decide)) (((((((Tq23.keep0 Kq24).keep1 Kq25 Eu25 (own_w hw 1) (by decide)).ext E33).keep0 Kq34).keep0 Kq35).keep0 Kq36).keep1 Kq37 Eu37 (own_w hw 1) (by decide)) ((((((Tq24.keep1 Kq25 Eu25 (own_w hw 1) (by decide)).ext E33).keep0 Kq34).keep0 Kq35).keep0 Kq36).keep1 Kq37 Eu37 (own_w hw 1) (by decide))) hZ37 (own_w hw 57) (own_w hw 2) (by decide) (by decide)) q43a q43c (g := (mkF m 245 #[.val (.int p0), .val (.int p1), .val (.int p2), .val (.int ca), .val (.int pa), .val (.int na), .val (.int cb), .val (.int pb), .val (.int nb), .val (.ref b21), .val (.int kind), .val (.ref b33), .val (.int (1 : Int32))] [(.ref b21), (.ref b33)])) rfl (by rw [hml]; rfl) (Steps.refl _) (argsL := [(.ref b21)]) (rest := []) (lenOf pd_7 rfl) rfl (by show 2 * 0 + _ ≤ _; exact Nat.le_of_eq rfl) (hb hby at_245) (fun _ _ => ⟨rfl, e41, (by decide : 26 + 0 ≤ _), (by decide : 228 + 0 ≤ _)⟩)
                dsimp only [Pt.U, Pt.locs, Pt.cells, Pt.slots] at X43 l43 y43 z43 st43 hQ43
                subst l43 y43 z43
                obtain ⟨rfl, N43q, e43⟩ := hQ43
                have N43 := Fr.app N41 N43q
                refine own_by (W' := (T43.setTop (mkF m 248 #[.val (.int p0), .val (.int p1), .val (.int p2), .val (.int ca), .val (.int pa), .val (.int na), .val (.int cb), .val (.int pb), .val (.int nb), .val (.ref b21), .val (.int kind), .val (.ref b33), .val (.int (1 : Int32))] [(.int (FU (own_b cb) (own_b pb) (own_b nb) (own_b ca) (own_b pa) (own_b na)))]))) (fun t k => Steps.trans st41 (XS.iload X41.here hx rfl (hb hby at_236) rfl (XS.icmpNo X41.here hx rfl (hb hby at_238) rfl (teq ho42).2 (XS.aload X41.here hx rfl (hb hby at_241) rfl rfl (XS.aload X41.here hx rfl (hb hby at_243) rfl rfl (Steps.trans st43 k)))))) ?_
                have ho44 : (FU (own_b cb) (own_b pb) (own_b nb) (own_b ca) (own_b pa) (own_b na)) = (1 : Int32) := by rw [own_FU h_cb h_pb h_nb h_ca h_pa h_na]; simp [eq_comm (b := ca), eq_comm (b := pa), eq_comm (b := na), hc38, hc39, hc40]
                obtain ⟨fs, hr, hrun, hended, hEnd⟩ := Jvm.Stand.leaveW (s := s) (vm₁ := T37.vm) X43 hS37 (by rw [e43]; exact (Nat.le_refl _)) (v := some (.int (1 : Int32))) (fun h => by rw [Bd.returns] at h; cases h)
                refine own_by (W' := (T43.setTop (mkF m 258 #[.val (.int p0), .val (.int p1), .val (.int p2), .val (.int ca), .val (.int pa), .val (.int na), .val (.int cb), .val (.int pb), .val (.int nb), .val (.ref b21), .val (.int kind), .val (.ref b33), .val (.int (1 : Int32))] [(.int (1 : Int32))]))) (fun t k => XS.iload X43.here hx rfl (hb hby at_248) rfl (XS.icmpNo X43.here hx rfl (hb hby at_250) rfl (teq ho44).2 (XS.iconst X43.here hx rfl (hb hby at_253) (XS.goto X43.here hx rfl (pc0 := 254) (pc' := 258) rfl (hb hby at_254) (by decide) (by decide) k)))) ?_
                refine ⟨_, _, retOut X43 hx Bd.returns rfl (Or.inl ⟨rfl, Or.inr (Or.inl rfl), _, rfl⟩) (hb hby at_258) hr, hrun, hended, _, _, rfl, ?_, hEnd.1, hEnd.2.1, hEnd.2.2.1, hEnd.2.2.2.mono (by decide) (by decide)⟩
                exact ⟨rfl, N43⟩
              ·
                obtain ⟨cq45, kq45, q45a, q45b, q45c⟩ := isOf hZ37 rfl (((((Eq25.ext E33).keep Kq34).keep Kq35).keep Kq36).keep Kq37)
                obtain ⟨_, _, ⟨T45, L45, k45, n45⟩, -, X45, ⟨Lc45, hQ45, l45, y45, z45⟩, st45⟩ := X37.virtualBack hx (y := (⟨"com/example/claviger/claviger/engine/SeatHolding$Use", "equals", "(Ljava/lang/Object;)Z"⟩ : MethodName)) (z := (⟨"com/example/claviger/claviger/engine/SeatHolding$Use", "equals", "(Ljava/lang/Object;)Z"⟩ : MethodName)) hown37 (mvT hZ37 (own_w hw 53)) (mvT hZ37 (own_w hw 54)) (notFace_of_selects (args := #[]) (mvT hZ37 (own_w hw 56))) (mvT hZ37 (own_w hw 56)) (mvT hZ37 (own_w hw 55)) (by decide) (backOf (W := 0) (rmu4 l Z a0 hw [] b21 b33 fb22 fb23 fb24 fb34 fb35 fb36 (own_b ca) (own_b pa) (own_b na) (own_b cb) (own_b pb) (own_b nb) cs T37.heap n0 (own_le O37) O37 HW ne_b21_b33 Eq37 (((((Fq25_connection.ext E33).keep Kq34 nin0).keep Kq35 nin0).keep Kq36 nin0).keep Kq37 (ninS ne_b21_b33 nin0)) (((((Fq25_process.ext E33).keep Kq34 nin0).keep Kq35 nin0).keep Kq36 nin0).keep Kq37 (ninS ne_b21_b33 nin0)) (((((Fq25_need.ext E33).keep Kq34 nin0).keep Kq35 nin0).keep Kq36 nin0).keep Kq37 (ninS ne_b21_b33 nin0)) Fq37_connection Fq37_process Fq37_need ((((((((Tq22.keep0 Kq23).keep0 Kq24).keep1 Kq25 Eu25 (own_w hw 1) (by decide)).ext E33).keep0 Kq34).keep0 Kq35).keep0 Kq36).keep1 Kq37 Eu37 (own_w hw 1) (by decide)) (((((((Tq23.keep0 Kq24).keep1 Kq25 Eu25 (own_w hw 1) (by decide)).ext E33).keep0 Kq34).keep0 Kq35).keep0 Kq36).keep1 Kq37 Eu37 (own_w hw 1) (by decide)) ((((((Tq24.keep1 Kq25 Eu25 (own_w hw 1) (by decide)).ext E33).keep0 Kq34).keep0 Kq35).keep0 Kq36).keep1 Kq37 Eu37 (own_w hw 1) (by decide)) (((Tq34.keep0 Kq35).keep0 Kq36).keep1 Kq37 Eu37 (own_w hw 1) (by decide)) ((Tq35.keep0 Kq36).keep1 Kq37 Eu37 (own_w hw 1) (by decide)) (Tq36.keep1 Kq37 Eu37 (own_w hw 1) (by decide))) hZ37 (own_w hw 57) (own_w hw 2) (by decide) (by decide)) q45a q45c (g := (mkF m 233 #[.val (.int p0), .val (.int p1), .val (.int p2), .val (.int ca), .val (.int pa), .val (.int na), .val (.int cb), .val (.int pb), .val (.int nb), .val (.ref b21), .val (.int kind), .val (.ref b33), .val (.int (0 : Int32))] [(.ref b33), (.ref b21)])) rfl (by rw [hml]; rfl) (Steps.refl _) (argsL := [(.ref b33)]) (rest := []) (lenOf pd_7 rfl) rfl (by show 2 * 0 + _ ≤ _; exact Nat.le_of_eq rfl) (hb hby at_233) (fun _ _ => ⟨rfl, rfl, (by decide : 26 + 0 ≤ _), (by decide : 228 + 0 ≤ _)⟩)
                dsimp only [Pt.U, Pt.locs, Pt.cells, Pt.slots] at X45 l45 y45 z45 st45 hQ45
                subst l45 y45 z45
                obtain ⟨rfl, N45q, e45⟩ := hQ45
                have N45 := Fr.app N37 N45q
                refine own_by (W' := (T45.setTop (mkF m 236 #[.val (.int p0), .val (.int p1), .val (.int p2), .val (.int ca), .val (.int pa), .val (.int na), .val (.int cb), .val (.int pb), .val (.int nb), .val (.ref b21), .val (.int kind), .val (.ref b33), .val (.int (0 : Int32))] [(.int (FU (own_b ca) (own_b pa) (own_b na) (own_b cb) (own_b pb) (own_b nb)))]))) (fun t k => XS.icmpYes X37.here hx rfl (pc0 := 219) (pc' := 226) rfl (hb hby at_219) rfl (feq hc40).2 (by decide) (by decide) (XS.iconst X37.here hx rfl (hb hby at_226) (XS.istore X37.here hx rfl (hb hby at_227) rfl (l' := #[.val (.int p0), .val (.int p1), .val (.int p2), .val (.int ca), .val (.int pa), .val (.int na), .val (.int cb), .val (.int pb), .val (.int nb), .val (.ref b21), .val (.int kind), .val (.ref b33), .val (.int (0 : Int32))]) rfl (XS.aload X37.here hx rfl (hb hby at_229) rfl rfl (XS.aload X37.here hx rfl (hb hby at_231) rfl rfl (Steps.trans st45 k)))))) ?_
                have ho46 : (FU (own_b ca) (own_b pa) (own_b na) (own_b cb) (own_b pb) (own_b nb)) = (0 : Int32) := by rw [own_FU h_ca h_pa h_na h_cb h_pb h_nb]; simp [hc38, hc39, hc40]
                obtain ⟨cq47, kq47, q47a, q47b, q47c⟩ := isOf hZ37 e45 Eq37
                obtain ⟨_, _, ⟨T47, L47, k47, n47⟩, -, X47, ⟨Lc47, hQ47, l47, y47, z47⟩, st47⟩ := X45.virtualBack hx (y := (⟨"com/example/claviger/claviger/engine/SeatHolding$Use", "equals", "(Ljava/lang/Object;)Z"⟩ : MethodName)) (z := (⟨"com/example/claviger/claviger/engine/SeatHolding$Use", "equals", "(Ljava/lang/Object;)Z"⟩ : MethodName)) hown37 (mvT hZ37 (own_w hw 53)) (mvT hZ37 (own_w hw 54)) (notFace_of_selects (args := #[]) (mvT hZ37 (own_w hw 56))) (mvT hZ37 (own_w hw 56)) (mvT hZ37 (own_w hw 55)) (by decide) (backOf (W := 0) (rmu4 l Z a0 hw [] b33 b21 fb34 fb35 fb36 fb22 fb23 fb24 (own_b cb) (own_b pb) (own_b nb) (own_b ca) (own_b pa) (own_b na) cs T37.heap n0 (own_le O37) O37 HW ne_b21_b33.symm (((((Eq25.ext E33).keep Kq34).keep Kq35).keep Kq36).keep Kq37) Fq37_connection Fq37_process Fq37_need (((((Fq25_connection.ext E33).keep Kq34 nin0).keep Kq35 nin0).keep Kq36 nin0).keep Kq37 (ninS ne_b21_b33 nin0)) (((((Fq25_process.ext E33).keep Kq34 nin0).keep Kq35 nin0).keep Kq36 nin0).keep Kq37 (ninS ne_b21_b33 nin0)) (((((Fq25_need.ext E33).keep Kq34 nin0).keep Kq35 nin0).keep Kq36 nin0).keep Kq37 (ninS ne_b21_b33 nin0)) (((Tq34.keep0 Kq35).keep0 Kq36).keep1 Kq37 Eu37 (own_w hw 1) (by decide)) ((Tq35.keep0 Kq36).keep1 Kq37 Eu37 (own_w hw 1) (by decide)) (Tq36.keep1 Kq37 Eu37 (own_w hw 1) (by decide)) ((((((((Tq22.keep0 Kq23).keep0 Kq24).keep1 Kq25 Eu25 (own_w hw 1) (by decide)).ext E33).keep0 Kq34).keep0 Kq35).keep0 Kq36).keep1 Kq37 Eu37 (own_w hw 1) (by decide)) (((((((Tq23.keep0 Kq24).keep1 Kq25 Eu25 (own_w hw 1) (by decide)).ext E33).keep0 Kq34).keep0 Kq35).keep0 Kq36).keep1 Kq37 Eu37 (own_w hw 1) (by decide)) ((((((Tq24.keep1 Kq25 Eu25 (own_w hw 1) (by decide)).ext E33).keep0 Kq34).keep0 Kq35).keep0 Kq36).keep1 Kq37 Eu37 (own_w hw 1) (by decide))) hZ37 (own_w hw 57) (own_w hw 2) (by decide) (by decide)) q47a q47c (g := (mkF m 245 #[.val (.int p0), .val (.int p1), .val (.int p2), .val (.int ca), .val (.int pa), .val (.int na), .val (.int cb), .val (.int pb), .val (.int nb), .val (.ref b21), .val (.int kind), .val (.ref b33), .val (.int (0 : Int32))] [(.ref b21), (.ref b33)])) rfl (by rw [hml]; rfl) (Steps.refl _) (argsL := [(.ref b21)]) (rest := []) (lenOf pd_7 rfl) rfl (by show 2 * 0 + _ ≤ _; exact Nat.le_of_eq rfl) (hb hby at_245) (fun _ _ => ⟨rfl, e45, (by decide : 26 + 0 ≤ _), (by decide : 228 + 0 ≤ _)⟩)
                dsimp only [Pt.U, Pt.locs, Pt.cells, Pt.slots] at X47 l47 y47 z47 st47 hQ47
                subst l47 y47 z47
                obtain ⟨rfl, N47q, e47⟩ := hQ47
                have N47 := Fr.app N45 N47q
                refine own_by (W' := (T47.setTop (mkF m 250 #[.val (.int p0), .val (.int p1), .val (.int p2), .val (.int ca), .val (.int pa), .val (.int na), .val (.int cb), .val (.int pb), .val (.int nb), .val (.ref b21), .val (.int kind), .val (.ref b33), .val (.int (0 : Int32))] [(.int (0 : Int32)), (.int (FU (own_b cb) (own_b pb) (own_b nb) (own_b ca) (own_b pa) (own_b na)))]))) (fun t k => XS.iload X45.here hx rfl (hb hby at_236) rfl (XS.icmpNo X45.here hx rfl (hb hby at_238) rfl (teq ho46).2 (XS.aload X45.here hx rfl (hb hby at_241) rfl rfl (XS.aload X45.here hx rfl (hb hby at_243) rfl rfl (Steps.trans st47 (XS.iload X47.here hx rfl (hb hby at_248) rfl k)))))) ?_
                have ho48 : (FU (own_b cb) (own_b pb) (own_b nb) (own_b ca) (own_b pa) (own_b na)) = (0 : Int32) := by rw [own_FU h_cb h_pb h_nb h_ca h_pa h_na]; simp [eq_comm (b := ca), eq_comm (b := pa), eq_comm (b := na), hc38, hc39, hc40]
                obtain ⟨fs, hr, hrun, hended, hEnd⟩ := Jvm.Stand.leaveW (s := s) (vm₁ := T37.vm) X47 hS37 (by rw [e47]; exact (Nat.le_refl _)) (v := some (.int (1 : Int32))) (fun h => by rw [Bd.returns] at h; cases h)
                refine own_by (W' := (T47.setTop (mkF m 258 #[.val (.int p0), .val (.int p1), .val (.int p2), .val (.int ca), .val (.int pa), .val (.int na), .val (.int cb), .val (.int pb), .val (.int nb), .val (.ref b21), .val (.int kind), .val (.ref b33), .val (.int (0 : Int32))] [(.int (1 : Int32))]))) (fun t k => XS.icmpNo X47.here hx rfl (hb hby at_250) rfl (teq ho48).2 (XS.iconst X47.here hx rfl (hb hby at_253) (XS.goto X47.here hx rfl (pc0 := 254) (pc' := 258) rfl (hb hby at_254) (by decide) (by decide) k))) ?_
                refine ⟨_, _, retOut X47 hx Bd.returns rfl (Or.inl ⟨rfl, Or.inr (Or.inl rfl), _, rfl⟩) (hb hby at_258) hr, hrun, hended, _, _, rfl, ?_, hEnd.1, hEnd.2.1, hEnd.2.2.1, hEnd.2.2.2.mono (by decide) (by decide)⟩
                exact ⟨rfl, N47⟩
            ·
              obtain ⟨cq49, kq49, q49a, q49b, q49c⟩ := isOf hZ37 rfl (((((Eq25.ext E33).keep Kq34).keep Kq35).keep Kq36).keep Kq37)
              obtain ⟨_, _, ⟨T49, L49, k49, n49⟩, -, X49, ⟨Lc49, hQ49, l49, y49, z49⟩, st49⟩ := X37.virtualBack hx (y := (⟨"com/example/claviger/claviger/engine/SeatHolding$Use", "equals", "(Ljava/lang/Object;)Z"⟩ : MethodName)) (z := (⟨"com/example/claviger/claviger/engine/SeatHolding$Use", "equals", "(Ljava/lang/Object;)Z"⟩ : MethodName)) hown37 (mvT hZ37 (own_w hw 53)) (mvT hZ37 (own_w hw 54)) (notFace_of_selects (args := #[]) (mvT hZ37 (own_w hw 56))) (mvT hZ37 (own_w hw 56)) (mvT hZ37 (own_w hw 55)) (by decide) (backOf (W := 0) (rmu4 l Z a0 hw [] b21 b33 fb22 fb23 fb24 fb34 fb35 fb36 (own_b ca) (own_b pa) (own_b na) (own_b cb) (own_b pb) (own_b nb) cs T37.heap n0 (own_le O37) O37 HW ne_b21_b33 Eq37 (((((Fq25_connection.ext E33).keep Kq34 nin0).keep Kq35 nin0).keep Kq36 nin0).keep Kq37 (ninS ne_b21_b33 nin0)) (((((Fq25_process.ext E33).keep Kq34 nin0).keep Kq35 nin0).keep Kq36 nin0).keep Kq37 (ninS ne_b21_b33 nin0)) (((((Fq25_need.ext E33).keep Kq34 nin0).keep Kq35 nin0).keep Kq36 nin0).keep Kq37 (ninS ne_b21_b33 nin0)) Fq37_connection Fq37_process Fq37_need ((((((((Tq22.keep0 Kq23).keep0 Kq24).keep1 Kq25 Eu25 (own_w hw 1) (by decide)).ext E33).keep0 Kq34).keep0 Kq35).keep0 Kq36).keep1 Kq37 Eu37 (own_w hw 1) (by decide)) (((((((Tq23.keep0 Kq24).keep1 Kq25 Eu25 (own_w hw 1) (by decide)).ext E33).keep0 Kq34).keep0 Kq35).keep0 Kq36).keep1 Kq37 Eu37 (own_w hw 1) (by decide)) ((((((Tq24.keep1 Kq25 Eu25 (own_w hw 1) (by decide)).ext E33).keep0 Kq34).keep0 Kq35).keep0 Kq36).keep1 Kq37 Eu37 (own_w hw 1) (by decide)) (((Tq34.keep0 Kq35).keep0 Kq36).keep1 Kq37 Eu37 (own_w hw 1) (by decide)) ((Tq35.keep0 Kq36).keep1 Kq37 Eu37 (own_w hw 1) (by decide)) (Tq36.keep1 Kq37 Eu37 (own_w hw 1) (by decide))) hZ37 (own_w hw 57) (own_w hw 2) (by decide) (by decide)) q49a q49c (g := (mkF m 233 #[.val (.int p0), .val (.int p1), .val (.int p2), .val (.int ca), .val (.int pa), .val (.int na), .val (.int cb), .val (.int pb), .val (.int nb), .val (.ref b21), .val (.int kind), .val (.ref b33), .val (.int (0 : Int32))] [(.ref b33), (.ref b21)])) rfl (by rw [hml]; rfl) (Steps.refl _) (argsL := [(.ref b33)]) (rest := []) (lenOf pd_7 rfl) rfl (by show 2 * 0 + _ ≤ _; exact Nat.le_of_eq rfl) (hb hby at_233) (fun _ _ => ⟨rfl, rfl, (by decide : 26 + 0 ≤ _), (by decide : 228 + 0 ≤ _)⟩)
              dsimp only [Pt.U, Pt.locs, Pt.cells, Pt.slots] at X49 l49 y49 z49 st49 hQ49
              subst l49 y49 z49
              obtain ⟨rfl, N49q, e49⟩ := hQ49
              have N49 := Fr.app N37 N49q
              refine own_by (W' := (T49.setTop (mkF m 236 #[.val (.int p0), .val (.int p1), .val (.int p2), .val (.int ca), .val (.int pa), .val (.int na), .val (.int cb), .val (.int pb), .val (.int nb), .val (.ref b21), .val (.int kind), .val (.ref b33), .val (.int (0 : Int32))] [(.int (FU (own_b ca) (own_b pa) (own_b na) (own_b cb) (own_b pb) (own_b nb)))]))) (fun t k => XS.icmpYes X37.here hx rfl (pc0 := 212) (pc' := 226) rfl (hb hby at_212) rfl (feq hc39).2 (by decide) (by decide) (XS.iconst X37.here hx rfl (hb hby at_226) (XS.istore X37.here hx rfl (hb hby at_227) rfl (l' := #[.val (.int p0), .val (.int p1), .val (.int p2), .val (.int ca), .val (.int pa), .val (.int na), .val (.int cb), .val (.int pb), .val (.int nb), .val (.ref b21), .val (.int kind), .val (.ref b33), .val (.int (0 : Int32))]) rfl (XS.aload X37.here hx rfl (hb hby at_229) rfl rfl (XS.aload X37.here hx rfl (hb hby at_231) rfl rfl (Steps.trans st49 k)))))) ?_
              have ho50 : (FU (own_b ca) (own_b pa) (own_b na) (own_b cb) (own_b pb) (own_b nb)) = (0 : Int32) := by rw [own_FU h_ca h_pa h_na h_cb h_pb h_nb]; simp [hc38, hc39]
              obtain ⟨cq51, kq51, q51a, q51b, q51c⟩ := isOf hZ37 e49 Eq37
              obtain ⟨_, _, ⟨T51, L51, k51, n51⟩, -, X51, ⟨Lc51, hQ51, l51, y51, z51⟩, st51⟩ := X49.virtualBack hx (y := (⟨"com/example/claviger/claviger/engine/SeatHolding$Use", "equals", "(Ljava/lang/Object;)Z"⟩ : MethodName)) (z := (⟨"com/example/claviger/claviger/engine/SeatHolding$Use", "equals", "(Ljava/lang/Object;)Z"⟩ : MethodName)) hown37 (mvT hZ37 (own_w hw 53)) (mvT hZ37 (own_w hw 54)) (notFace_of_selects (args := #[]) (mvT hZ37 (own_w hw 56))) (mvT hZ37 (own_w hw 56)) (mvT hZ37 (own_w hw 55)) (by decide) (backOf (W := 0) (rmu4 l Z a0 hw [] b33 b21 fb34 fb35 fb36 fb22 fb23 fb24 (own_b cb) (own_b pb) (own_b nb) (own_b ca) (own_b pa) (own_b na) cs T37.heap n0 (own_le O37) O37 HW ne_b21_b33.symm (((((Eq25.ext E33).keep Kq34).keep Kq35).keep Kq36).keep Kq37) Fq37_connection Fq37_process Fq37_need (((((Fq25_connection.ext E33).keep Kq34 nin0).keep Kq35 nin0).keep Kq36 nin0).keep Kq37 (ninS ne_b21_b33 nin0)) (((((Fq25_process.ext E33).keep Kq34 nin0).keep Kq35 nin0).keep Kq36 nin0).keep Kq37 (ninS ne_b21_b33 nin0)) (((((Fq25_need.ext E33).keep Kq34 nin0).keep Kq35 nin0).keep Kq36 nin0).keep Kq37 (ninS ne_b21_b33 nin0)) (((Tq34.keep0 Kq35).keep0 Kq36).keep1 Kq37 Eu37 (own_w hw 1) (by decide)) ((Tq35.keep0 Kq36).keep1 Kq37 Eu37 (own_w hw 1) (by decide)) (Tq36.keep1 Kq37 Eu37 (own_w hw 1) (by decide)) ((((((((Tq22.keep0 Kq23).keep0 Kq24).keep1 Kq25 Eu25 (own_w hw 1) (by decide)).ext E33).keep0 Kq34).keep0 Kq35).keep0 Kq36).keep1 Kq37 Eu37 (own_w hw 1) (by decide)) (((((((Tq23.keep0 Kq24).keep1 Kq25 Eu25 (own_w hw 1) (by decide)).ext E33).keep0 Kq34).keep0 Kq35).keep0 Kq36).keep1 Kq37 Eu37 (own_w hw 1) (by decide)) ((((((Tq24.keep1 Kq25 Eu25 (own_w hw 1) (by decide)).ext E33).keep0 Kq34).keep0 Kq35).keep0 Kq36).keep1 Kq37 Eu37 (own_w hw 1) (by decide))) hZ37 (own_w hw 57) (own_w hw 2) (by decide) (by decide)) q51a q51c (g := (mkF m 245 #[.val (.int p0), .val (.int p1), .val (.int p2), .val (.int ca), .val (.int pa), .val (.int na), .val (.int cb), .val (.int pb), .val (.int nb), .val (.ref b21), .val (.int kind), .val (.ref b33), .val (.int (0 : Int32))] [(.ref b21), (.ref b33)])) rfl (by rw [hml]; rfl) (Steps.refl _) (argsL := [(.ref b21)]) (rest := []) (lenOf pd_7 rfl) rfl (by show 2 * 0 + _ ≤ _; exact Nat.le_of_eq rfl) (hb hby at_245) (fun _ _ => ⟨rfl, e49, (by decide : 26 + 0 ≤ _), (by decide : 228 + 0 ≤ _)⟩)
              dsimp only [Pt.U, Pt.locs, Pt.cells, Pt.slots] at X51 l51 y51 z51 st51 hQ51
              subst l51 y51 z51
              obtain ⟨rfl, N51q, e51⟩ := hQ51
              have N51 := Fr.app N49 N51q
              refine own_by (W' := (T51.setTop (mkF m 250 #[.val (.int p0), .val (.int p1), .val (.int p2), .val (.int ca), .val (.int pa), .val (.int na), .val (.int cb), .val (.int pb), .val (.int nb), .val (.ref b21), .val (.int kind), .val (.ref b33), .val (.int (0 : Int32))] [(.int (0 : Int32)), (.int (FU (own_b cb) (own_b pb) (own_b nb) (own_b ca) (own_b pa) (own_b na)))]))) (fun t k => XS.iload X49.here hx rfl (hb hby at_236) rfl (XS.icmpNo X49.here hx rfl (hb hby at_238) rfl (teq ho50).2 (XS.aload X49.here hx rfl (hb hby at_241) rfl rfl (XS.aload X49.here hx rfl (hb hby at_243) rfl rfl (Steps.trans st51 (XS.iload X51.here hx rfl (hb hby at_248) rfl k)))))) ?_
              have ho52 : (FU (own_b cb) (own_b pb) (own_b nb) (own_b ca) (own_b pa) (own_b na)) = (0 : Int32) := by rw [own_FU h_cb h_pb h_nb h_ca h_pa h_na]; simp [eq_comm (b := ca), eq_comm (b := pa), eq_comm (b := na), hc38, hc39]
              obtain ⟨fs, hr, hrun, hended, hEnd⟩ := Jvm.Stand.leaveW (s := s) (vm₁ := T37.vm) X51 hS37 (by rw [e51]; exact (Nat.le_refl _)) (v := some (.int (1 : Int32))) (fun h => by rw [Bd.returns] at h; cases h)
              refine own_by (W' := (T51.setTop (mkF m 258 #[.val (.int p0), .val (.int p1), .val (.int p2), .val (.int ca), .val (.int pa), .val (.int na), .val (.int cb), .val (.int pb), .val (.int nb), .val (.ref b21), .val (.int kind), .val (.ref b33), .val (.int (0 : Int32))] [(.int (1 : Int32))]))) (fun t k => XS.icmpNo X51.here hx rfl (hb hby at_250) rfl (teq ho52).2 (XS.iconst X51.here hx rfl (hb hby at_253) (XS.goto X51.here hx rfl (pc0 := 254) (pc' := 258) rfl (hb hby at_254) (by decide) (by decide) k))) ?_
              refine ⟨_, _, retOut X51 hx Bd.returns rfl (Or.inl ⟨rfl, Or.inr (Or.inl rfl), _, rfl⟩) (hb hby at_258) hr, hrun, hended, _, _, rfl, ?_, hEnd.1, hEnd.2.1, hEnd.2.2.1, hEnd.2.2.2.mono (by decide) (by decide)⟩
              exact ⟨rfl, N51⟩
          ·
            obtain ⟨cq53, kq53, q53a, q53b, q53c⟩ := isOf hZ37 rfl (((((Eq25.ext E33).keep Kq34).keep Kq35).keep Kq36).keep Kq37)
            obtain ⟨_, _, ⟨T53, L53, k53, n53⟩, -, X53, ⟨Lc53, hQ53, l53, y53, z53⟩, st53⟩ := X37.virtualBack hx (y := (⟨"com/example/claviger/claviger/engine/SeatHolding$Use", "equals", "(Ljava/lang/Object;)Z"⟩ : MethodName)) (z := (⟨"com/example/claviger/claviger/engine/SeatHolding$Use", "equals", "(Ljava/lang/Object;)Z"⟩ : MethodName)) hown37 (mvT hZ37 (own_w hw 53)) (mvT hZ37 (own_w hw 54)) (notFace_of_selects (args := #[]) (mvT hZ37 (own_w hw 56))) (mvT hZ37 (own_w hw 56)) (mvT hZ37 (own_w hw 55)) (by decide) (backOf (W := 0) (rmu4 l Z a0 hw [] b21 b33 fb22 fb23 fb24 fb34 fb35 fb36 (own_b ca) (own_b pa) (own_b na) (own_b cb) (own_b pb) (own_b nb) cs T37.heap n0 (own_le O37) O37 HW ne_b21_b33 Eq37 (((((Fq25_connection.ext E33).keep Kq34 nin0).keep Kq35 nin0).keep Kq36 nin0).keep Kq37 (ninS ne_b21_b33 nin0)) (((((Fq25_process.ext E33).keep Kq34 nin0).keep Kq35 nin0).keep Kq36 nin0).keep Kq37 (ninS ne_b21_b33 nin0)) (((((Fq25_need.ext E33).keep Kq34 nin0).keep Kq35 nin0).keep Kq36 nin0).keep Kq37 (ninS ne_b21_b33 nin0)) Fq37_connection Fq37_process Fq37_need ((((((((Tq22.keep0 Kq23).keep0 Kq24).keep1 Kq25 Eu25 (own_w hw 1) (by decide)).ext E33).keep0 Kq34).keep0 Kq35).keep0 Kq36).keep1 Kq37 Eu37 (own_w hw 1) (by decide)) (((((((Tq23.keep0 Kq24).keep1 Kq25 Eu25 (own_w hw 1) (by decide)).ext E33).keep0 Kq34).keep0 Kq35).keep0 Kq36).keep1 Kq37 Eu37 (own_w hw 1) (by decide)) ((((((Tq24.keep1 Kq25 Eu25 (own_w hw 1) (by decide)).ext E33).keep0 Kq34).keep0 Kq35).keep0 Kq36).keep1 Kq37 Eu37 (own_w hw 1) (by decide)) (((Tq34.keep0 Kq35).keep0 Kq36).keep1 Kq37 Eu37 (own_w hw 1) (by decide)) ((Tq35.keep0 Kq36).keep1 Kq37 Eu37 (own_w hw 1) (by decide)) (Tq36.keep1 Kq37 Eu37 (own_w hw 1) (by decide))) hZ37 (own_w hw 57) (own_w hw 2) (by decide) (by decide)) q53a q53c (g := (mkF m 233 #[.val (.int p0), .val (.int p1), .val (.int p2), .val (.int ca), .val (.int pa), .val (.int na), .val (.int cb), .val (.int pb), .val (.int nb), .val (.ref b21), .val (.int kind), .val (.ref b33), .val (.int (0 : Int32))] [(.ref b33), (.ref b21)])) rfl (by rw [hml]; rfl) (Steps.refl _) (argsL := [(.ref b33)]) (rest := []) (lenOf pd_7 rfl) rfl (by show 2 * 0 + _ ≤ _; exact Nat.le_of_eq rfl) (hb hby at_233) (fun _ _ => ⟨rfl, rfl, (by decide : 26 + 0 ≤ _), (by decide : 228 + 0 ≤ _)⟩)
            dsimp only [Pt.U, Pt.locs, Pt.cells, Pt.slots] at X53 l53 y53 z53 st53 hQ53
            subst l53 y53 z53
            obtain ⟨rfl, N53q, e53⟩ := hQ53
            have N53 := Fr.app N37 N53q
            refine own_by (W' := (T53.setTop (mkF m 236 #[.val (.int p0), .val (.int p1), .val (.int p2), .val (.int ca), .val (.int pa), .val (.int na), .val (.int cb), .val (.int pb), .val (.int nb), .val (.ref b21), .val (.int kind), .val (.ref b33), .val (.int (0 : Int32))] [(.int (FU (own_b ca) (own_b pa) (own_b na) (own_b cb) (own_b pb) (own_b nb)))]))) (fun t k => XS.icmpYes X37.here hx rfl (pc0 := 205) (pc' := 226) rfl (hb hby at_205) rfl (feq hc38).2 (by decide) (by decide) (XS.iconst X37.here hx rfl (hb hby at_226) (XS.istore X37.here hx rfl (hb hby at_227) rfl (l' := #[.val (.int p0), .val (.int p1), .val (.int p2), .val (.int ca), .val (.int pa), .val (.int na), .val (.int cb), .val (.int pb), .val (.int nb), .val (.ref b21), .val (.int kind), .val (.ref b33), .val (.int (0 : Int32))]) rfl (XS.aload X37.here hx rfl (hb hby at_229) rfl rfl (XS.aload X37.here hx rfl (hb hby at_231) rfl rfl (Steps.trans st53 k)))))) ?_
            have ho54 : (FU (own_b ca) (own_b pa) (own_b na) (own_b cb) (own_b pb) (own_b nb)) = (0 : Int32) := by rw [own_FU h_ca h_pa h_na h_cb h_pb h_nb]; simp [hc38]
            obtain ⟨cq55, kq55, q55a, q55b, q55c⟩ := isOf hZ37 e53 Eq37
            obtain ⟨_, _, ⟨T55, L55, k55, n55⟩, -, X55, ⟨Lc55, hQ55, l55, y55, z55⟩, st55⟩ := X53.virtualBack hx (y := (⟨"com/example/claviger/claviger/engine/SeatHolding$Use", "equals", "(Ljava/lang/Object;)Z"⟩ : MethodName)) (z := (⟨"com/example/claviger/claviger/engine/SeatHolding$Use", "equals", "(Ljava/lang/Object;)Z"⟩ : MethodName)) hown37 (mvT hZ37 (own_w hw 53)) (mvT hZ37 (own_w hw 54)) (notFace_of_selects (args := #[]) (mvT hZ37 (own_w hw 56))) (mvT hZ37 (own_w hw 56)) (mvT hZ37 (own_w hw 55)) (by decide) (backOf (W := 0) (rmu4 l Z a0 hw [] b33 b21 fb34 fb35 fb36 fb22 fb23 fb24 (own_b cb) (own_b pb) (own_b nb) (own_b ca) (own_b pa) (own_b na) cs T37.heap n0 (own_le O37) O37 HW ne_b21_b33.symm (((((Eq25.ext E33).keep Kq34).keep Kq35).keep Kq36).keep Kq37) Fq37_connection Fq37_process Fq37_need (((((Fq25_connection.ext E33).keep Kq34 nin0).keep Kq35 nin0).keep Kq36 nin0).keep Kq37 (ninS ne_b21_b33 nin0)) (((((Fq25_process.ext E33).keep Kq34 nin0).keep Kq35 nin0).keep Kq36 nin0).keep Kq37 (ninS ne_b21_b33 nin0)) (((((Fq25_need.ext E33).keep Kq34 nin0).keep Kq35 nin0).keep Kq36 nin0).keep Kq37 (ninS ne_b21_b33 nin0)) (((Tq34.keep0 Kq35).keep0 Kq36).keep1 Kq37 Eu37 (own_w hw 1) (by decide)) ((Tq35.keep0 Kq36).keep1 Kq37 Eu37 (own_w hw 1) (by decide)) (Tq36.keep1 Kq37 Eu37 (own_w hw 1) (by decide)) ((((((((Tq22.keep0 Kq23).keep0 Kq24).keep1 Kq25 Eu25 (own_w hw 1) (by decide)).ext E33).keep0 Kq34).keep0 Kq35).keep0 Kq36).keep1 Kq37 Eu37 (own_w hw 1) (by decide)) (((((((Tq23.keep0 Kq24).keep1 Kq25 Eu25 (own_w hw 1) (by decide)).ext E33).keep0 Kq34).keep0 Kq35).keep0 Kq36).keep1 Kq37 Eu37 (own_w hw 1) (by decide)) ((((((Tq24.keep1 Kq25 Eu25 (own_w hw 1) (by decide)).ext E33).keep0 Kq34).keep0 Kq35).keep0 Kq36).keep1 Kq37 Eu37 (own_w hw 1) (by decide))) hZ37 (own_w hw 57) (own_w hw 2) (by decide) (by decide)) q55a q55c (g := (mkF m 245 #[.val (.int p0), .val (.int p1), .val (.int p2), .val (.int ca), .val (.int pa), .val (.int na), .val (.int cb), .val (.int pb), .val (.int nb), .val (.ref b21), .val (.int kind), .val (.ref b33), .val (.int (0 : Int32))] [(.ref b21), (.ref b33)])) rfl (by rw [hml]; rfl) (Steps.refl _) (argsL := [(.ref b21)]) (rest := []) (lenOf pd_7 rfl) rfl (by show 2 * 0 + _ ≤ _; exact Nat.le_of_eq rfl) (hb hby at_245) (fun _ _ => ⟨rfl, e53, (by decide : 26 + 0 ≤ _), (by decide : 228 + 0 ≤ _)⟩)
            dsimp only [Pt.U, Pt.locs, Pt.cells, Pt.slots] at X55 l55 y55 z55 st55 hQ55
            subst l55 y55 z55
            obtain ⟨rfl, N55q, e55⟩ := hQ55
            have N55 := Fr.app N53 N55q
            refine own_by (W' := (T55.setTop (mkF m 250 #[.val (.int p0), .val (.int p1), .val (.int p2), .val (.int ca), .val (.int pa), .val (.int na), .val (.int cb), .val (.int pb), .val (.int nb), .val (.ref b21), .val (.int kind), .val (.ref b33), .val (.int (0 : Int32))] [(.int (0 : Int32)), (.int (FU (own_b cb) (own_b pb) (own_b nb) (own_b ca) (own_b pa) (own_b na)))]))) (fun t k => XS.iload X53.here hx rfl (hb hby at_236) rfl (XS.icmpNo X53.here hx rfl (hb hby at_238) rfl (teq ho54).2 (XS.aload X53.here hx rfl (hb hby at_241) rfl rfl (XS.aload X53.here hx rfl (hb hby at_243) rfl rfl (Steps.trans st55 (XS.iload X55.here hx rfl (hb hby at_248) rfl k)))))) ?_
            have ho56 : (FU (own_b cb) (own_b pb) (own_b nb) (own_b ca) (own_b pa) (own_b na)) = (0 : Int32) := by rw [own_FU h_cb h_pb h_nb h_ca h_pa h_na]; simp [eq_comm (b := ca), eq_comm (b := pa), eq_comm (b := na), hc38]
            obtain ⟨fs, hr, hrun, hended, hEnd⟩ := Jvm.Stand.leaveW (s := s) (vm₁ := T37.vm) X55 hS37 (by rw [e55]; exact (Nat.le_refl _)) (v := some (.int (1 : Int32))) (fun h => by rw [Bd.returns] at h; cases h)
            refine own_by (W' := (T55.setTop (mkF m 258 #[.val (.int p0), .val (.int p1), .val (.int p2), .val (.int ca), .val (.int pa), .val (.int na), .val (.int cb), .val (.int pb), .val (.int nb), .val (.ref b21), .val (.int kind), .val (.ref b33), .val (.int (0 : Int32))] [(.int (1 : Int32))]))) (fun t k => XS.icmpNo X55.here hx rfl (hb hby at_250) rfl (teq ho56).2 (XS.iconst X55.here hx rfl (hb hby at_253) (XS.goto X55.here hx rfl (pc0 := 254) (pc' := 258) rfl (hb hby at_254) (by decide) (by decide) k))) ?_
            refine ⟨_, _, retOut X55 hx Bd.returns rfl (Or.inl ⟨rfl, Or.inr (Or.inl rfl), _, rfl⟩) (hb hby at_258) hr, hrun, hended, _, _, rfl, ?_, hEnd.1, hEnd.2.1, hEnd.2.2.1, hEnd.2.2.2.mono (by decide) (by decide)⟩
            exact ⟨rfl, N55⟩
  refine own_by (W' := (s₁.setTop (mkF m 6 #[.val (.int p0), .val (.int p1), .val (.int p2), .val (.int (p0 &&& (255 : Int32))), .unset, .unset, .unset, .unset, .unset, .unset, .unset, .unset, .unset] []))) (fun t k => XS.iloadN X0.here hx rfl (hb hby at_0) rfl (XS.sipush X0.here hx rfl (hb hby at_1) (XS.iand X0.here hx rfl (hb hby at_4) rfl (XS.istoreN X0.here hx rfl (hb hby at_5) rfl (l' := #[.val (.int p0), .val (.int p1), .val (.int p2), .val (.int (p0 &&& (255 : Int32))), .unset, .unset, .unset, .unset, .unset, .unset, .unset, .unset, .unset]) rfl k)))) ?_
  generalize hv_ca : (p0 &&& (255 : Int32)) = ca
  refine own_by (W' := (s₁.setTop (mkF m 16 #[.val (.int p0), .val (.int p1), .val (.int p2), .val (.int ca), .val (.int (((p0.toUInt32 >>> ((8 : Int32) &&& 31).toUInt32).toInt32) &&& (255 : Int32))), .unset, .unset, .unset, .unset, .unset, .unset, .unset, .unset] []))) (fun t k => XS.iloadN X0.here hx rfl (hb hby at_6) rfl (XS.bipush X0.here hx rfl (hb hby at_7) (XS.iushr X0.here hx rfl (hb hby at_9) rfl (XS.sipush X0.here hx rfl (hb hby at_10) (XS.iand X0.here hx rfl (hb hby at_13) rfl (XS.istore X0.here hx rfl (hb hby at_14) rfl (l' := #[.val (.int p0), .val (.int p1), .val (.int p2), .val (.int ca), .val (.int (((p0.toUInt32 >>> ((8 : Int32) &&& 31).toUInt32).toInt32) &&& (255 : Int32))), .unset, .unset, .unset, .unset, .unset, .unset, .unset, .unset]) rfl k)))))) ?_
  generalize hv_pa : (((p0.toUInt32 >>> ((8 : Int32) &&& 31).toUInt32).toInt32) &&& (255 : Int32)) = pa
  refine own_by (W' := (s₁.setTop (mkF m 26 #[.val (.int p0), .val (.int p1), .val (.int p2), .val (.int ca), .val (.int pa), .val (.int (((p0.toUInt32 >>> ((16 : Int32) &&& 31).toUInt32).toInt32) &&& (255 : Int32))), .unset, .unset, .unset, .unset, .unset, .unset, .unset] []))) (fun t k => XS.iloadN X0.here hx rfl (hb hby at_16) rfl (XS.bipush X0.here hx rfl (hb hby at_17) (XS.iushr X0.here hx rfl (hb hby at_19) rfl (XS.sipush X0.here hx rfl (hb hby at_20) (XS.iand X0.here hx rfl (hb hby at_23) rfl (XS.istore X0.here hx rfl (hb hby at_24) rfl (l' := #[.val (.int p0), .val (.int p1), .val (.int p2), .val (.int ca), .val (.int pa), .val (.int (((p0.toUInt32 >>> ((16 : Int32) &&& 31).toUInt32).toInt32) &&& (255 : Int32))), .unset, .unset, .unset, .unset, .unset, .unset, .unset]) rfl k)))))) ?_
  generalize hv_na : (((p0.toUInt32 >>> ((16 : Int32) &&& 31).toUInt32).toInt32) &&& (255 : Int32)) = na
  refine own_by (W' := (s₁.setTop (mkF m 29 #[.val (.int p0), .val (.int p1), .val (.int p2), .val (.int ca), .val (.int pa), .val (.int na), .unset, .unset, .unset, .unset, .unset, .unset, .unset] [(.int (p2 &&& (1 : Int32)))]))) (fun t k => XS.iloadN X0.here hx rfl (hb hby at_26) rfl (XS.iconst X0.here hx rfl (hb hby at_27) (XS.iand X0.here hx rfl (hb hby at_28) rfl k))) ?_
  by_cases hc57 : (p2 &&& (1 : Int32)) = (0 : Int32)
  ·
    refine own_by (W' := (s₁.setTop (mkF m 44 #[.val (.int p0), .val (.int p1), .val (.int p2), .val (.int ca), .val (.int pa), .val (.int na), .val (.int (p1 &&& (255 : Int32))), .unset, .unset, .unset, .unset, .unset, .unset] [(.int p2)]))) (fun t k => XS.ifYes X0.here hx rfl (pc0 := 29) (pc' := 36) rfl (hb hby at_29) rfl ((if0 _ _).trans (teq hc57).1) (by decide) (by decide) (XS.iloadN X0.here hx rfl (hb hby at_36) rfl (XS.sipush X0.here hx rfl (hb hby at_37) (XS.iand X0.here hx rfl (hb hby at_40) rfl (XS.istore X0.here hx rfl (hb hby at_41) rfl (l' := #[.val (.int p0), .val (.int p1), .val (.int p2), .val (.int ca), .val (.int pa), .val (.int na), .val (.int (p1 &&& (255 : Int32))), .unset, .unset, .unset, .unset, .unset, .unset]) rfl (XS.iloadN X0.here hx rfl (hb hby at_43) rfl k)))))) ?_
    refine own_by (W' := (s₁.setTop (mkF m 46 #[.val (.int p0), .val (.int p1), .val (.int p2), .val (.int ca), .val (.int pa), .val (.int na), .val (.int (p1 &&& (255 : Int32))), .unset, .unset, .unset, .unset, .unset, .unset] [(.int (p2 &&& (2 : Int32)))]))) (fun t k => XS.iconst X0.here hx rfl (hb hby at_44) (XS.iand X0.here hx rfl (hb hby at_45) rfl k)) ?_
    by_cases hc58 : (p2 &&& (2 : Int32)) = (0 : Int32)
    ·
      refine own_by (W' := (s₁.setTop (mkF m 62 #[.val (.int p0), .val (.int p1), .val (.int p2), .val (.int ca), .val (.int pa), .val (.int na), .val (.int (p1 &&& (255 : Int32))), .unset, .unset, .unset, .unset, .unset, .unset] [(.int (((p1.toUInt32 >>> ((8 : Int32) &&& 31).toUInt32).toInt32) &&& (255 : Int32)))]))) (fun t k => XS.ifYes X0.here hx rfl (pc0 := 46) (pc' := 54) rfl (hb hby at_46) rfl ((if0 _ _).trans (teq hc58).1) (by decide) (by decide) (XS.iloadN X0.here hx rfl (hb hby at_54) rfl (XS.bipush X0.here hx rfl (hb hby at_55) (XS.iushr X0.here hx rfl (hb hby at_57) rfl (XS.sipush X0.here hx rfl (hb hby at_58) (XS.iand X0.here hx rfl (hb hby at_61) rfl k)))))) ?_
      refine own_by (W' := (s₁.setTop (mkF m 67 #[.val (.int p0), .val (.int p1), .val (.int p2), .val (.int ca), .val (.int pa), .val (.int na), .val (.int (p1 &&& (255 : Int32))), .val (.int (((p1.toUInt32 >>> ((8 : Int32) &&& 31).toUInt32).toInt32) &&& (255 : Int32))), .unset, .unset, .unset, .unset, .unset] [(.int (p2 &&& (4 : Int32)))]))) (fun t k => XS.istore X0.here hx rfl (hb hby at_62) rfl (l' := #[.val (.int p0), .val (.int p1), .val (.int p2), .val (.int ca), .val (.int pa), .val (.int na), .val (.int (p1 &&& (255 : Int32))), .val (.int (((p1.toUInt32 >>> ((8 : Int32) &&& 31).toUInt32).toInt32) &&& (255 : Int32))), .unset, .unset, .unset, .unset, .unset]) rfl (XS.iloadN X0.here hx rfl (hb hby at_64) rfl (XS.iconst X0.here hx rfl (hb hby at_65) (XS.iand X0.here hx rfl (hb hby at_66) rfl k)))) ?_
      by_cases hc59 : (p2 &&& (4 : Int32)) = (0 : Int32)
      ·
        refine own_by (W' := (s₁.setTop (mkF m 83 #[.val (.int p0), .val (.int p1), .val (.int p2), .val (.int ca), .val (.int pa), .val (.int na), .val (.int (p1 &&& (255 : Int32))), .val (.int (((p1.toUInt32 >>> ((8 : Int32) &&& 31).toUInt32).toInt32) &&& (255 : Int32))), .unset, .unset, .unset, .unset, .unset] [(.int (((p1.toUInt32 >>> ((16 : Int32) &&& 31).toUInt32).toInt32) &&& (255 : Int32)))]))) (fun t k => XS.ifYes X0.here hx rfl (pc0 := 67) (pc' := 75) rfl (hb hby at_67) rfl ((if0 _ _).trans (teq hc59).1) (by decide) (by decide) (XS.iloadN X0.here hx rfl (hb hby at_75) rfl (XS.bipush X0.here hx rfl (hb hby at_76) (XS.iushr X0.here hx rfl (hb hby at_78) rfl (XS.sipush X0.here hx rfl (hb hby at_79) (XS.iand X0.here hx rfl (hb hby at_82) rfl k)))))) ?_
        refine own_by (W' := (s₁.setTop (mkF m 85 #[.val (.int p0), .val (.int p1), .val (.int p2), .val (.int ca), .val (.int pa), .val (.int na), .val (.int (p1 &&& (255 : Int32))), .val (.int (((p1.toUInt32 >>> ((8 : Int32) &&& 31).toUInt32).toInt32) &&& (255 : Int32))), .val (.int (((p1.toUInt32 >>> ((16 : Int32) &&& 31).toUInt32).toInt32) &&& (255 : Int32))), .unset, .unset, .unset, .unset] []))) (fun t k => XS.istore X0.here hx rfl (hb hby at_83) rfl (l' := #[.val (.int p0), .val (.int p1), .val (.int p2), .val (.int ca), .val (.int pa), .val (.int na), .val (.int (p1 &&& (255 : Int32))), .val (.int (((p1.toUInt32 >>> ((8 : Int32) &&& 31).toUInt32).toInt32) &&& (255 : Int32))), .val (.int (((p1.toUInt32 >>> ((16 : Int32) &&& 31).toUInt32).toInt32) &&& (255 : Int32))), .unset, .unset, .unset, .unset]) rfl k) ?_
        exact cut85 _ X0 N0 (ca) (pa) (na) ((p1 &&& (255 : Int32))) ((((p1.toUInt32 >>> ((8 : Int32) &&& 31).toUInt32).toInt32) &&& (255 : Int32))) ((((p1.toUInt32 >>> ((16 : Int32) &&& 31).toUInt32).toInt32) &&& (255 : Int32))) e0 (own_lo_of hv_ca) (own_lo_of hv_pa) (own_lo_of hv_na) (own_lo_and _) (own_lo_and _) (own_lo_and _)
      ·
        refine own_by (W' := (s₁.setTop (mkF m 85 #[.val (.int p0), .val (.int p1), .val (.int p2), .val (.int ca), .val (.int pa), .val (.int na), .val (.int (p1 &&& (255 : Int32))), .val (.int (((p1.toUInt32 >>> ((8 : Int32) &&& 31).toUInt32).toInt32) &&& (255 : Int32))), .val (.int na), .unset, .unset, .unset, .unset] []))) (fun t k => XS.ifNo X0.here hx rfl (hb hby at_67) rfl ((if0 _ _).trans (feq hc59).1) (XS.iload X0.here hx rfl (hb hby at_70) rfl (XS.goto X0.here hx rfl (pc0 := 72) (pc' := 83) rfl (hb hby at_72) (by decide) (by decide) (XS.istore X0.here hx rfl (hb hby at_83) rfl (l' := #[.val (.int p0), .val (.int p1), .val (.int p2), .val (.int ca), .val (.int pa), .val (.int na), .val (.int (p1 &&& (255 : Int32))), .val (.int (((p1.toUInt32 >>> ((8 : Int32) &&& 31).toUInt32).toInt32) &&& (255 : Int32))), .val (.int na), .unset, .unset, .unset, .unset]) rfl k)))) ?_
        exact cut85 _ X0 N0 (ca) (pa) (na) ((p1 &&& (255 : Int32))) ((((p1.toUInt32 >>> ((8 : Int32) &&& 31).toUInt32).toInt32) &&& (255 : Int32))) (na) e0 (own_lo_of hv_ca) (own_lo_of hv_pa) (own_lo_of hv_na) (own_lo_and _) (own_lo_and _) (own_lo_of hv_na)
    ·
      refine own_by (W' := (s₁.setTop (mkF m 66 #[.val (.int p0), .val (.int p1), .val (.int p2), .val (.int ca), .val (.int pa), .val (.int na), .val (.int (p1 &&& (255 : Int32))), .val (.int pa), .unset, .unset, .unset, .unset, .unset] [(.int (4 : Int32)), (.int p2)]))) (fun t k => XS.ifNo X0.here hx rfl (hb hby at_46) rfl ((if0 _ _).trans (feq hc58).1) (XS.iload X0.here hx rfl (hb hby at_49) rfl (XS.goto X0.here hx rfl (pc0 := 51) (pc' := 62) rfl (hb hby at_51) (by decide) (by decide) (XS.istore X0.here hx rfl (hb hby at_62) rfl (l' := #[.val (.int p0), .val (.int p1), .val (.int p2), .val (.int ca), .val (.int pa), .val (.int na), .val (.int (p1 &&& (255 : Int32))), .val (.int pa), .unset, .unset, .unset, .unset, .unset]) rfl (XS.iloadN X0.here hx rfl (hb hby at_64) rfl (XS.iconst X0.here hx rfl (hb hby at_65) k)))))) ?_
      refine own_by (W' := (s₁.setTop (mkF m 67 #[.val (.int p0), .val (.int p1), .val (.int p2), .val (.int ca), .val (.int pa), .val (.int na), .val (.int (p1 &&& (255 : Int32))), .val (.int pa), .unset, .unset, .unset, .unset, .unset] [(.int (p2 &&& (4 : Int32)))]))) (fun t k => XS.iand X0.here hx rfl (hb hby at_66) rfl k) ?_
      by_cases hc60 : (p2 &&& (4 : Int32)) = (0 : Int32)
      ·
        refine own_by (W' := (s₁.setTop (mkF m 83 #[.val (.int p0), .val (.int p1), .val (.int p2), .val (.int ca), .val (.int pa), .val (.int na), .val (.int (p1 &&& (255 : Int32))), .val (.int pa), .unset, .unset, .unset, .unset, .unset] [(.int (((p1.toUInt32 >>> ((16 : Int32) &&& 31).toUInt32).toInt32) &&& (255 : Int32)))]))) (fun t k => XS.ifYes X0.here hx rfl (pc0 := 67) (pc' := 75) rfl (hb hby at_67) rfl ((if0 _ _).trans (teq hc60).1) (by decide) (by decide) (XS.iloadN X0.here hx rfl (hb hby at_75) rfl (XS.bipush X0.here hx rfl (hb hby at_76) (XS.iushr X0.here hx rfl (hb hby at_78) rfl (XS.sipush X0.here hx rfl (hb hby at_79) (XS.iand X0.here hx rfl (hb hby at_82) rfl k)))))) ?_
        refine own_by (W' := (s₁.setTop (mkF m 85 #[.val (.int p0), .val (.int p1), .val (.int p2), .val (.int ca), .val (.int pa), .val (.int na), .val (.int (p1 &&& (255 : Int32))), .val (.int pa), .val (.int (((p1.toUInt32 >>> ((16 : Int32) &&& 31).toUInt32).toInt32) &&& (255 : Int32))), .unset, .unset, .unset, .unset] []))) (fun t k => XS.istore X0.here hx rfl (hb hby at_83) rfl (l' := #[.val (.int p0), .val (.int p1), .val (.int p2), .val (.int ca), .val (.int pa), .val (.int na), .val (.int (p1 &&& (255 : Int32))), .val (.int pa), .val (.int (((p1.toUInt32 >>> ((16 : Int32) &&& 31).toUInt32).toInt32) &&& (255 : Int32))), .unset, .unset, .unset, .unset]) rfl k) ?_
        exact cut85 _ X0 N0 (ca) (pa) (na) ((p1 &&& (255 : Int32))) (pa) ((((p1.toUInt32 >>> ((16 : Int32) &&& 31).toUInt32).toInt32) &&& (255 : Int32))) e0 (own_lo_of hv_ca) (own_lo_of hv_pa) (own_lo_of hv_na) (own_lo_and _) (own_lo_of hv_pa) (own_lo_and _)
      ·
        refine own_by (W' := (s₁.setTop (mkF m 85 #[.val (.int p0), .val (.int p1), .val (.int p2), .val (.int ca), .val (.int pa), .val (.int na), .val (.int (p1 &&& (255 : Int32))), .val (.int pa), .val (.int na), .unset, .unset, .unset, .unset] []))) (fun t k => XS.ifNo X0.here hx rfl (hb hby at_67) rfl ((if0 _ _).trans (feq hc60).1) (XS.iload X0.here hx rfl (hb hby at_70) rfl (XS.goto X0.here hx rfl (pc0 := 72) (pc' := 83) rfl (hb hby at_72) (by decide) (by decide) (XS.istore X0.here hx rfl (hb hby at_83) rfl (l' := #[.val (.int p0), .val (.int p1), .val (.int p2), .val (.int ca), .val (.int pa), .val (.int na), .val (.int (p1 &&& (255 : Int32))), .val (.int pa), .val (.int na), .unset, .unset, .unset, .unset]) rfl k)))) ?_
        exact cut85 _ X0 N0 (ca) (pa) (na) ((p1 &&& (255 : Int32))) (pa) (na) e0 (own_lo_of hv_ca) (own_lo_of hv_pa) (own_lo_of hv_na) (own_lo_and _) (own_lo_of hv_pa) (own_lo_of hv_na)
  ·
    refine own_by (W' := (s₁.setTop (mkF m 45 #[.val (.int p0), .val (.int p1), .val (.int p2), .val (.int ca), .val (.int pa), .val (.int na), .val (.int ca), .unset, .unset, .unset, .unset, .unset, .unset] [(.int (2 : Int32)), (.int p2)]))) (fun t k => XS.ifNo X0.here hx rfl (hb hby at_29) rfl ((if0 _ _).trans (feq hc57).1) (XS.iloadN X0.here hx rfl (hb hby at_32) rfl (XS.goto X0.here hx rfl (pc0 := 33) (pc' := 41) rfl (hb hby at_33) (by decide) (by decide) (XS.istore X0.here hx rfl (hb hby at_41) rfl (l' := #[.val (.int p0), .val (.int p1), .val (.int p2), .val (.int ca), .val (.int pa), .val (.int na), .val (.int ca), .unset, .unset, .unset, .unset, .unset, .unset]) rfl (XS.iloadN X0.here hx rfl (hb hby at_43) rfl (XS.iconst X0.here hx rfl (hb hby at_44) k)))))) ?_
    refine own_by (W' := (s₁.setTop (mkF m 46 #[.val (.int p0), .val (.int p1), .val (.int p2), .val (.int ca), .val (.int pa), .val (.int na), .val (.int ca), .unset, .unset, .unset, .unset, .unset, .unset] [(.int (p2 &&& (2 : Int32)))]))) (fun t k => XS.iand X0.here hx rfl (hb hby at_45) rfl k) ?_
    by_cases hc61 : (p2 &&& (2 : Int32)) = (0 : Int32)
    ·
      refine own_by (W' := (s₁.setTop (mkF m 62 #[.val (.int p0), .val (.int p1), .val (.int p2), .val (.int ca), .val (.int pa), .val (.int na), .val (.int ca), .unset, .unset, .unset, .unset, .unset, .unset] [(.int (((p1.toUInt32 >>> ((8 : Int32) &&& 31).toUInt32).toInt32) &&& (255 : Int32)))]))) (fun t k => XS.ifYes X0.here hx rfl (pc0 := 46) (pc' := 54) rfl (hb hby at_46) rfl ((if0 _ _).trans (teq hc61).1) (by decide) (by decide) (XS.iloadN X0.here hx rfl (hb hby at_54) rfl (XS.bipush X0.here hx rfl (hb hby at_55) (XS.iushr X0.here hx rfl (hb hby at_57) rfl (XS.sipush X0.here hx rfl (hb hby at_58) (XS.iand X0.here hx rfl (hb hby at_61) rfl k)))))) ?_
      refine own_by (W' := (s₁.setTop (mkF m 67 #[.val (.int p0), .val (.int p1), .val (.int p2), .val (.int ca), .val (.int pa), .val (.int na), .val (.int ca), .val (.int (((p1.toUInt32 >>> ((8 : Int32) &&& 31).toUInt32).toInt32) &&& (255 : Int32))), .unset, .unset, .unset, .unset, .unset] [(.int (p2 &&& (4 : Int32)))]))) (fun t k => XS.istore X0.here hx rfl (hb hby at_62) rfl (l' := #[.val (.int p0), .val (.int p1), .val (.int p2), .val (.int ca), .val (.int pa), .val (.int na), .val (.int ca), .val (.int (((p1.toUInt32 >>> ((8 : Int32) &&& 31).toUInt32).toInt32) &&& (255 : Int32))), .unset, .unset, .unset, .unset, .unset]) rfl (XS.iloadN X0.here hx rfl (hb hby at_64) rfl (XS.iconst X0.here hx rfl (hb hby at_65) (XS.iand X0.here hx rfl (hb hby at_66) rfl k)))) ?_
      by_cases hc62 : (p2 &&& (4 : Int32)) = (0 : Int32)
      ·
        refine own_by (W' := (s₁.setTop (mkF m 83 #[.val (.int p0), .val (.int p1), .val (.int p2), .val (.int ca), .val (.int pa), .val (.int na), .val (.int ca), .val (.int (((p1.toUInt32 >>> ((8 : Int32) &&& 31).toUInt32).toInt32) &&& (255 : Int32))), .unset, .unset, .unset, .unset, .unset] [(.int (((p1.toUInt32 >>> ((16 : Int32) &&& 31).toUInt32).toInt32) &&& (255 : Int32)))]))) (fun t k => XS.ifYes X0.here hx rfl (pc0 := 67) (pc' := 75) rfl (hb hby at_67) rfl ((if0 _ _).trans (teq hc62).1) (by decide) (by decide) (XS.iloadN X0.here hx rfl (hb hby at_75) rfl (XS.bipush X0.here hx rfl (hb hby at_76) (XS.iushr X0.here hx rfl (hb hby at_78) rfl (XS.sipush X0.here hx rfl (hb hby at_79) (XS.iand X0.here hx rfl (hb hby at_82) rfl k)))))) ?_
        refine own_by (W' := (s₁.setTop (mkF m 85 #[.val (.int p0), .val (.int p1), .val (.int p2), .val (.int ca), .val (.int pa), .val (.int na), .val (.int ca), .val (.int (((p1.toUInt32 >>> ((8 : Int32) &&& 31).toUInt32).toInt32) &&& (255 : Int32))), .val (.int (((p1.toUInt32 >>> ((16 : Int32) &&& 31).toUInt32).toInt32) &&& (255 : Int32))), .unset, .unset, .unset, .unset] []))) (fun t k => XS.istore X0.here hx rfl (hb hby at_83) rfl (l' := #[.val (.int p0), .val (.int p1), .val (.int p2), .val (.int ca), .val (.int pa), .val (.int na), .val (.int ca), .val (.int (((p1.toUInt32 >>> ((8 : Int32) &&& 31).toUInt32).toInt32) &&& (255 : Int32))), .val (.int (((p1.toUInt32 >>> ((16 : Int32) &&& 31).toUInt32).toInt32) &&& (255 : Int32))), .unset, .unset, .unset, .unset]) rfl k) ?_
        exact cut85 _ X0 N0 (ca) (pa) (na) (ca) ((((p1.toUInt32 >>> ((8 : Int32) &&& 31).toUInt32).toInt32) &&& (255 : Int32))) ((((p1.toUInt32 >>> ((16 : Int32) &&& 31).toUInt32).toInt32) &&& (255 : Int32))) e0 (own_lo_of hv_ca) (own_lo_of hv_pa) (own_lo_of hv_na) (own_lo_of hv_ca) (own_lo_and _) (own_lo_and _)
      ·
        refine own_by (W' := (s₁.setTop (mkF m 85 #[.val (.int p0), .val (.int p1), .val (.int p2), .val (.int ca), .val (.int pa), .val (.int na), .val (.int ca), .val (.int (((p1.toUInt32 >>> ((8 : Int32) &&& 31).toUInt32).toInt32) &&& (255 : Int32))), .val (.int na), .unset, .unset, .unset, .unset] []))) (fun t k => XS.ifNo X0.here hx rfl (hb hby at_67) rfl ((if0 _ _).trans (feq hc62).1) (XS.iload X0.here hx rfl (hb hby at_70) rfl (XS.goto X0.here hx rfl (pc0 := 72) (pc' := 83) rfl (hb hby at_72) (by decide) (by decide) (XS.istore X0.here hx rfl (hb hby at_83) rfl (l' := #[.val (.int p0), .val (.int p1), .val (.int p2), .val (.int ca), .val (.int pa), .val (.int na), .val (.int ca), .val (.int (((p1.toUInt32 >>> ((8 : Int32) &&& 31).toUInt32).toInt32) &&& (255 : Int32))), .val (.int na), .unset, .unset, .unset, .unset]) rfl k)))) ?_
        exact cut85 _ X0 N0 (ca) (pa) (na) (ca) ((((p1.toUInt32 >>> ((8 : Int32) &&& 31).toUInt32).toInt32) &&& (255 : Int32))) (na) e0 (own_lo_of hv_ca) (own_lo_of hv_pa) (own_lo_of hv_na) (own_lo_of hv_ca) (own_lo_and _) (own_lo_of hv_na)
    ·
      refine own_by (W' := (s₁.setTop (mkF m 66 #[.val (.int p0), .val (.int p1), .val (.int p2), .val (.int ca), .val (.int pa), .val (.int na), .val (.int ca), .val (.int pa), .unset, .unset, .unset, .unset, .unset] [(.int (4 : Int32)), (.int p2)]))) (fun t k => XS.ifNo X0.here hx rfl (hb hby at_46) rfl ((if0 _ _).trans (feq hc61).1) (XS.iload X0.here hx rfl (hb hby at_49) rfl (XS.goto X0.here hx rfl (pc0 := 51) (pc' := 62) rfl (hb hby at_51) (by decide) (by decide) (XS.istore X0.here hx rfl (hb hby at_62) rfl (l' := #[.val (.int p0), .val (.int p1), .val (.int p2), .val (.int ca), .val (.int pa), .val (.int na), .val (.int ca), .val (.int pa), .unset, .unset, .unset, .unset, .unset]) rfl (XS.iloadN X0.here hx rfl (hb hby at_64) rfl (XS.iconst X0.here hx rfl (hb hby at_65) k)))))) ?_
      refine own_by (W' := (s₁.setTop (mkF m 67 #[.val (.int p0), .val (.int p1), .val (.int p2), .val (.int ca), .val (.int pa), .val (.int na), .val (.int ca), .val (.int pa), .unset, .unset, .unset, .unset, .unset] [(.int (p2 &&& (4 : Int32)))]))) (fun t k => XS.iand X0.here hx rfl (hb hby at_66) rfl k) ?_
      by_cases hc63 : (p2 &&& (4 : Int32)) = (0 : Int32)
      ·
        refine own_by (W' := (s₁.setTop (mkF m 83 #[.val (.int p0), .val (.int p1), .val (.int p2), .val (.int ca), .val (.int pa), .val (.int na), .val (.int ca), .val (.int pa), .unset, .unset, .unset, .unset, .unset] [(.int (((p1.toUInt32 >>> ((16 : Int32) &&& 31).toUInt32).toInt32) &&& (255 : Int32)))]))) (fun t k => XS.ifYes X0.here hx rfl (pc0 := 67) (pc' := 75) rfl (hb hby at_67) rfl ((if0 _ _).trans (teq hc63).1) (by decide) (by decide) (XS.iloadN X0.here hx rfl (hb hby at_75) rfl (XS.bipush X0.here hx rfl (hb hby at_76) (XS.iushr X0.here hx rfl (hb hby at_78) rfl (XS.sipush X0.here hx rfl (hb hby at_79) (XS.iand X0.here hx rfl (hb hby at_82) rfl k)))))) ?_
        refine own_by (W' := (s₁.setTop (mkF m 85 #[.val (.int p0), .val (.int p1), .val (.int p2), .val (.int ca), .val (.int pa), .val (.int na), .val (.int ca), .val (.int pa), .val (.int (((p1.toUInt32 >>> ((16 : Int32) &&& 31).toUInt32).toInt32) &&& (255 : Int32))), .unset, .unset, .unset, .unset] []))) (fun t k => XS.istore X0.here hx rfl (hb hby at_83) rfl (l' := #[.val (.int p0), .val (.int p1), .val (.int p2), .val (.int ca), .val (.int pa), .val (.int na), .val (.int ca), .val (.int pa), .val (.int (((p1.toUInt32 >>> ((16 : Int32) &&& 31).toUInt32).toInt32) &&& (255 : Int32))), .unset, .unset, .unset, .unset]) rfl k) ?_
        exact cut85 _ X0 N0 (ca) (pa) (na) (ca) (pa) ((((p1.toUInt32 >>> ((16 : Int32) &&& 31).toUInt32).toInt32) &&& (255 : Int32))) e0 (own_lo_of hv_ca) (own_lo_of hv_pa) (own_lo_of hv_na) (own_lo_of hv_ca) (own_lo_of hv_pa) (own_lo_and _)
      ·
        refine own_by (W' := (s₁.setTop (mkF m 85 #[.val (.int p0), .val (.int p1), .val (.int p2), .val (.int ca), .val (.int pa), .val (.int na), .val (.int ca), .val (.int pa), .val (.int na), .unset, .unset, .unset, .unset] []))) (fun t k => XS.ifNo X0.here hx rfl (hb hby at_67) rfl ((if0 _ _).trans (feq hc63).1) (XS.iload X0.here hx rfl (hb hby at_70) rfl (XS.goto X0.here hx rfl (pc0 := 72) (pc' := 83) rfl (hb hby at_72) (by decide) (by decide) (XS.istore X0.here hx rfl (hb hby at_83) rfl (l' := #[.val (.int p0), .val (.int p1), .val (.int p2), .val (.int ca), .val (.int pa), .val (.int na), .val (.int ca), .val (.int pa), .val (.int na), .unset, .unset, .unset, .unset]) rfl k)))) ?_
        exact cut85 _ X0 N0 (ca) (pa) (na) (ca) (pa) (na) e0 (own_lo_of hv_ca) (own_lo_of hv_pa) (own_lo_of hv_na) (own_lo_of hv_ca) (own_lo_of hv_pa) (own_lo_of hv_na)
set_option maxRecDepth 65536 in
set_option maxHeartbeats 40000000 in
theorem comes_1 {Post : Tables → Env → Array Value → State → Outcome → State → Prop} (hpost : ∀ tb e args s v u, (limb_1_1.after args s (.returned v) u = true ∧ limb_1_2.after args s (.returned v) u = true ∧ True) → ReturnedEndW s (.returned v) u (Jvm.fieldLocs frame_1_writes args s ++ Jvm.arrayLocs frame_1_arrays args s ++ Jvm.staticLocs frame_1_statics s) 48 3264 → Post tb e args s (.returned v) u) :
    ArmFor flags0 classFile x code maxLocals ret World_1 tables_1 room_1 Calls_1 rest_1 Pre_1 Post := by
  intro l hfl _ _ p e ha hc hk s m args below hf hA hF happ hP
  obtain ⟨hcalls, hrest, hpre⟩ := hP
  obtain ⟨-, -, -, hnamed, -, -, -, hat⟩ := (Spec.applies_iff hf).mp happ
  obtain ⟨hg, hn⟩ := and_e (Cond.before_iff.mp (show (Jvm.Cond.and given_1 narrow_1).before args s = true from hpre))
  obtain ⟨ga1, gb1⟩ := and_e hg
  obtain ⟨ga2, gb2⟩ := and_e gb1
  obtain ⟨ga3, gb3⟩ := and_e gb2
  obtain ⟨w0, w1, w2, rfl⟩ : ∃ w0 w1 w2 : Value, args = #[w0, w1, w2] := by
    have hs : args.size = 3 := by simpa [Cond.value, given_1] using ga1
    obtain ⟨L⟩ := args
    match L, hs with
    | [w0, w1, w2], _ => exact ⟨w0, w1, w2, rfl⟩
  have hw := fun d (hd : d ∈ tables_1) => atoms_spec (ws := Jvm.Cond.code x code maxLocals ret :: tables_1) hat d (List.mem_cons_of_mem _ hd)
  have hfit : Fit s := fun {y c} hc i hi => by
    obtain ⟨ha, rfl⟩ := Array.getElem?_eq_some_iff.mp hc
    have q := List.all_eq_true.mp ((Array.all_eq_true_iff_forall_mem.mp hF) _ (Array.getElem_mem ha)) i (List.mem_range.mpr hi)
    simpa [Array.getElem?_eq_getElem hi] using q
  obtain ⟨hsets, hown0⟩ := atoms_of _ (rest_1_c_eq ▸ (show rest_1_c.before _ s = true from hrest))
  have hr0 := Cond.before_iff.mp hown0
  obtain ⟨i0, ei0⟩ := is_v ga2
  obtain rfl : w0 = (.int i0) := Option.some.inj ei0
  obtain ⟨i1, ei1⟩ := is_v ga3
  obtain rfl : w1 = (.int i1) := Option.some.inj ei1
  obtain ⟨i2, ei2⟩ := is_v gb3
  obtain rfl : w2 = (.int i2) := Option.some.inj ei2
  obtain ⟨cs, ev_cs⟩ := is_v (Cond.before_iff.mp (hsets _ (List.mem_of_getElem? (i := 1) rfl)))
  have Sx_cs := Sta.start ev_cs (Or.inl (hsets _ (List.mem_of_getElem? (i := 0) rfl)))
  have n_cs : ¬ cs = (0 : Int32) := gotF (Cond.eq_ints ev_cs (Term.int_eval 0)) (not_v (Cond.before_iff.mp (hsets _ (List.mem_of_getElem? (i := 2) rfl))))
  obtain ⟨n, o, h1, h2, h3, _, L, rfl, ⟨rfl, N⟩, hq⟩ := rmL l s _ hw tables_1 i0 i1 i2 cs s.heap s.heap.size (Nat.le_refl _) (Old.start s) ⟨Sx_cs, n_cs⟩ p e ha hc hk s m _ below hf ((Spec.applies_iff_loose hf).mp happ).1 ⟨rfl, State.Warmed39.refl s, rfl⟩ trivial
  refine ⟨n, _, h1, h2, h3, hpost _ _ _ _ _ _ ⟨Cond.after_iff.mpr rfl, Cond.after_iff.mpr (eq_i res_at (Term.int_eval (1)) rfl), trivial⟩ ⟨hq.1, hq.2.1, hq.2.2.1, (hq.2.2.2.sift fun y hy => Or.inr (N y hy)).mono (by decide) (by decide)⟩⟩
theorem main_1_1 : Claimed_1_1 := comes_1 fun _ _ _ _ _ _ h hF => ⟨h.1, hF⟩
theorem main_1_2 : Claimed_1_2 := comes_1 fun _ _ _ _ _ _ h hF => ⟨h.2.1, hF⟩
end Jvm.Pilot.@@N@@
namespace Jvm.Pilot.@@N@@
open Jvm Jvm.ClassFile Sem Op Lib Jvm.Free Jvm.Stand Jvm.Pilot.@@N@@.Jvm.D
/-! MADE BY PROGRAM (witnessworld.py) out of the Statement's table words and the real class files: 18 classes; the members and pool entries that the words name. The judged class is class 1, her method 2. -/
namespace start1
open Jvm.ClassFile
def u (s : String) : CpInfo := .utf8 (stringToUtf16 s)
/-- a pool by its gaps: so many unusable entries, then the entry; so many at the end -/
def gap : Nat → List CpInfo → List CpInfo
  | 0, r => r
  | n + 1, r => .unusable :: gap n r
def poolList (es : List (Nat × CpInfo)) (last : Nat) : List CpInfo := es.foldr (fun e r => gap e.1 (e.2 :: r)) (gap last [])
def pool (es : List (Nat × CpInfo)) (last : Nat) : Array CpInfo := ⟨poolList es last⟩
def fileOf (pool : Array CpInfo) (this : Nat) (attrs : Array Attribute := #[]) (ms : Array MethodInfo := #[]) (fl : Nat := 33) (sup : Nat := 0) (ifs : Array Nat := #[]) (fds : Array FieldInfo := #[]) : ClassFile where
  minorVersion := 0
  majorVersion := 65
  constantPool := pool
  accessFlags := fl
  thisClass := this
  superClass := sup
  interfaces := ifs
  fields := fds
  methods := ms
  attributes := attrs
def plain (name : String) (sup : Option ClassId) : Class where
  name := name
  kind := .ordinary
  loader := none
  accessFlags := 33
  super := sup
  interfaces := #[]
  cf := none
  fields := #[]
  methods := #[]
  instanceTypes := #[]
  staticTypes := #[]
  resolved := #[]
  callSites := []
  init := .initialized
  statics := none
  mirror := none

def pool0 : Array CpInfo := pool [(5, u "<init>"), (0, u "()V"), (1, .class_ 10), (1, u "java/lang/Object")] 113

def k0c0 : Code := { maxStack := 0, maxLocals := 1, code := object_method_1_code, exceptionTable := #[], attributes := #[] }
def k0m0 : Method := { name := "<init>", desc := "()V", sig := { parameters := [], returnType := none }, accessFlags := 1, code := some k0c0 }
/-- java/lang/Object -/
def k0 : Class := { plain "java/lang/Object" none with
  accessFlags := 33
  interfaces := #[]
  cf := some (fileOf pool0 8 #[] #[{ accessFlags := 1, nameIndex := 5, descriptorIndex := 6, attributes := #[] }] 33 0 #[] #[])
  fields := #[]
  methods := #[k0m0]
  instanceTypes := #[]
  staticTypes := #[]
  resolved := Array.replicate 124 none
  statics := none }

def pool1 : Array CpInfo := pool [(2, .class_ 4), (1, u "java/lang/Object"), (0, u "<init>"), (0, u "()V"), (0, .methodref 8 9), (0, .class_ 10), (0, .nameAndType 11 12), (0, u "java/lang/String"), (0, u "valueOf"), (0, u "(C)Ljava/lang/String;"), (0, .class_ 14), (0, u "com/example/claviger/claviger/engine/SeatHolding$Use"), (0, .methodref 16 17), (0, .class_ 18), (0, .nameAndType 19 20), (0, u "com/example/claviger/claviger/engine/UseEqualsPinLaw"), (0, u "s"), (0, u "(I)Ljava/lang/String;"), (0, .methodref 13 22), (0, .nameAndType 5 23), (0, u "(Ljava/lang/String;Ljava/lang/String;Ljava/lang/String;)V"), (0, .methodref 13 25), (0, .nameAndType 26 27), (0, u "equals"), (0, u "(Ljava/lang/Object;)Z"), (2, u "law"), (0, u "(III)Z")] 7

def k1m0 : Method := { name := "<init>", desc := "()V", sig := { parameters := [], returnType := none }, accessFlags := 1, code := none }
def k1c1 : Code := { maxStack := 2, maxLocals := 1, code := method_2_code, exceptionTable := #[], attributes := #[] }
def k1m1 : Method := { name := "s", desc := "(I)Ljava/lang/String;", sig := { parameters := [.int], returnType := some (.object "java/lang/String") }, accessFlags := 10, code := some k1c1 }
def k1c2 : Code := { maxStack := 5, maxLocals := 13, code := code, exceptionTable := #[], attributes := #[] }
def k1m2 : Method := { name := "law", desc := "(III)Z", sig := { parameters := [.int, .int, .int], returnType := some .boolean }, accessFlags := 9, code := some k1c2 }
/-- com/example/claviger/claviger/engine/UseEqualsPinLaw -/
def k1 : Class := { plain "com/example/claviger/claviger/engine/UseEqualsPinLaw" (some 0) with
  accessFlags := 49
  interfaces := #[]
  cf := some (fileOf pool1 16 #[] #[{ accessFlags := 1, nameIndex := 5, descriptorIndex := 6, attributes := #[] }, { accessFlags := 10, nameIndex := 19, descriptorIndex := 20, attributes := #[] }, { accessFlags := 9, nameIndex := 30, descriptorIndex := 31, attributes := #[] }] 49 2 #[] #[])
  fields := #[]
  methods := #[k1m0, k1m1, k1m2]
  instanceTypes := #[]
  staticTypes := #[]
  resolved := Array.replicate 39 none
  statics := none }

def pool2 : Array CpInfo := pool [(1, .methodref 2 3), (0, .class_ 4), (0, .nameAndType 5 6), (0, u "java/lang/Object"), (0, u "<init>"), (0, u "()V"), (0, .string 8), (0, u "connection"), (0, .methodref 10 11), (0, .class_ 12), (0, .nameAndType 13 14), (0, u "java/util/Objects"), (0, u "requireNonNull"), (0, u "(Ljava/lang/Object;Ljava/lang/String;)Ljava/lang/Object;"), (0, .class_ 16), (0, u "java/lang/String"), (0, .fieldref 18 19), (0, .class_ 20), (0, .nameAndType 8 21), (0, u "com/example/claviger/claviger/engine/SeatHolding$Use"), (0, u "Ljava/lang/String;"), (0, .string 23), (0, u "process"), (0, .fieldref 18 25), (0, .nameAndType 23 21), (0, .string 27), (0, u "need"), (0, .fieldref 18 29), (0, .nameAndType 27 21), (0, .methodref 15 31), (0, .nameAndType 32 33), (0, u "equals"), (0, u "(Ljava/lang/Object;)Z"), (8, u "(Ljava/lang/String;Ljava/lang/String;Ljava/lang/String;)V"), (13, .class_ 57), (0, u "com/example/claviger/claviger/engine/SeatHolding")] 16

def k2c0 : Code := { maxStack := 3, maxLocals := 4, code := prog_27_method_1_code, exceptionTable := #[], attributes := #[] }
def k2m0 : Method := { name := "<init>", desc := "(Ljava/lang/String;Ljava/lang/String;Ljava/lang/String;)V", sig := { parameters := [(.object "java/lang/String"), (.object "java/lang/String"), (.object "java/lang/String")], returnType := none }, accessFlags := 1, code := some k2c0 }
def k2c1 : Code := { maxStack := 2, maxLocals := 3, code := prog_27_method_5_code, exceptionTable := #[], attributes := #[] }
def k2m1 : Method := { name := "equals", desc := "(Ljava/lang/Object;)Z", sig := { parameters := [(.object "java/lang/Object")], returnType := some .boolean }, accessFlags := 1, code := some k2c1 }
/-- com/example/claviger/claviger/engine/SeatHolding$Use -/
def k2 : Class := { plain "com/example/claviger/claviger/engine/SeatHolding$Use" (some 0) with
  accessFlags := 49
  interfaces := #[]
  cf := some (fileOf pool2 18 #[.nestHost 56] #[{ accessFlags := 1, nameIndex := 5, descriptorIndex := 42, attributes := #[] }, { accessFlags := 1, nameIndex := 32, descriptorIndex := 33, attributes := #[] }] 49 2 #[] #[{ accessFlags := 18, nameIndex := 8, descriptorIndex := 21, attributes := #[] }, { accessFlags := 18, nameIndex := 23, descriptorIndex := 21, attributes := #[] }, { accessFlags := 18, nameIndex := 27, descriptorIndex := 21, attributes := #[] }])
  fields := #[{ name := "connection", type := (.object "java/lang/String"), accessFlags := 18, slot := 0, constantValue := 0 }, { name := "process", type := (.object "java/lang/String"), accessFlags := 18, slot := 1, constantValue := 0 }, { name := "need", type := (.object "java/lang/String"), accessFlags := 18, slot := 2, constantValue := 0 }]
  methods := #[k2m0, k2m1]
  instanceTypes := #[(.object "java/lang/String"), (.object "java/lang/String"), (.object "java/lang/String")]
  staticTypes := #[]
  resolved := Array.replicate 74 none
  statics := none }

def pool3 : Array CpInfo := pool [(1, .class_ 2), (0, u "java/io/Serializable"), (0, .class_ 4), (0, u "java/lang/Object")] 2

/-- java/io/Serializable -/
def k3 : Class := { plain "java/io/Serializable" (some 0) with
  accessFlags := 1537
  interfaces := #[]
  cf := some (fileOf pool3 1 #[] #[] 1537 3 #[] #[])
  fields := #[]
  methods := #[]
  instanceTypes := #[]
  staticTypes := #[]
  resolved := Array.replicate 7 none
  statics := none }

def pool4 : Array CpInfo := pool [(1, .class_ 2), (0, u "java/lang/Comparable"), (0, .class_ 4), (0, u "java/lang/Object")] 7

/-- java/lang/Comparable -/
def k4 : Class := { plain "java/lang/Comparable" (some 0) with
  accessFlags := 1537
  interfaces := #[]
  cf := some (fileOf pool4 1 #[] #[] 1537 3 #[] #[])
  fields := #[]
  methods := #[]
  instanceTypes := #[]
  staticTypes := #[]
  resolved := Array.replicate 12 none
  statics := none }

def pool5 : Array CpInfo := pool [(2, .class_ 4), (1, u "java/lang/CharSequence"), (42, .class_ 48), (0, u "java/lang/CharSequence$1CodePointIterator"), (10, .class_ 60), (0, u "java/lang/CharSequence$1CharIterator"), (5, .class_ 67), (0, u "java/lang/Object")] 63

/-- java/lang/CharSequence -/
def k5 : Class := { plain "java/lang/CharSequence" (some 0) with
  accessFlags := 1537
  interfaces := #[]
  cf := some (fileOf pool5 2 #[.nestMembers #[47, 59]] #[] 1537 66 #[] #[])
  fields := #[]
  methods := #[]
  instanceTypes := #[]
  staticTypes := #[]
  resolved := Array.replicate 131 none
  statics := none }

def pool6 : Array CpInfo := pool [(1, .class_ 2), (0, u "java/lang/constant/Constable"), (0, .class_ 4), (0, u "java/lang/Object")] 6

/-- java/lang/constant/Constable -/
def k6 : Class := { plain "java/lang/constant/Constable" (some 0) with
  accessFlags := 1537
  interfaces := #[]
  cf := some (fileOf pool6 1 #[] #[] 1537 3 #[] #[])
  fields := #[]
  methods := #[]
  instanceTypes := #[]
  staticTypes := #[]
  resolved := Array.replicate 11 none
  statics := none }

def pool7 : Array CpInfo := pool [(1, .class_ 2), (0, u "java/lang/constant/ConstantDesc"), (0, .class_ 4), (0, u "java/lang/Object")] 32

/-- java/lang/constant/ConstantDesc -/
def k7 : Class := { plain "java/lang/constant/ConstantDesc" (some 0) with
  accessFlags := 1537
  interfaces := #[]
  cf := some (fileOf pool7 1 #[] #[] 1537 3 #[] #[])
  fields := #[]
  methods := #[]
  instanceTypes := #[]
  staticTypes := #[]
  resolved := Array.replicate 37 none
  statics := none }

def pool8 : Array CpInfo := pool [(1, .methodref 2 3), (0, .class_ 4), (0, .nameAndType 5 6), (0, u "java/lang/Object"), (0, u "<init>"), (0, u "()V"), (2, .fieldref 10 11), (0, .class_ 12), (0, .nameAndType 13 14), (0, u "java/lang/String"), (0, u "value"), (0, u "[B"), (0, .fieldref 10 16), (0, .nameAndType 17 18), (0, u "coder"), (0, u "B"), (2, u "hash"), (0, u "I"), (2, u "hashIsZero"), (0, u "Z"), (11, .fieldref 10 39), (0, .nameAndType 40 26), (0, u "COMPACT_STRINGS"), (12, u "toBytes"), (53, .class_ 109), (1, u "java/lang/StringLatin1"), (99, .methodref 10 210), (0, .nameAndType 5 211), (0, u "([BB)V"), (157, u "(C)Z"), (171, .methodref 107 542), (0, .nameAndType 543 544), (0, u "equals"), (0, u "([B[B)Z"), (28, u "(Ljava/lang/Object;)Z"), (1, .class_ 576), (0, u "java/lang/CharSequence"), (22, u "CASE_INSENSITIVE_ORDER"), (0, u "Ljava/util/Comparator;"), (181, u "valueOf"), (0, u "(C)Ljava/lang/String;"), (231, .methodref 107 1016), (0, .nameAndType 1017 369), (0, u "canEncode"), (0, .methodref 107 1019), (0, .nameAndType 53 1020), (0, u "(C)[B"), (80, u "serialPersistentFields"), (0, u "[Ljava/io/ObjectStreamField;"), (0, .class_ 1104), (0, u "java/lang/String$CaseInsensitiveComparator"), (1, .class_ 1107), (0, u "java/io/Serializable"), (0, .class_ 1109), (0, u "java/lang/Comparable"), (0, .class_ 1111), (0, u "java/lang/constant/Constable"), (0, .class_ 1113), (0, u "java/lang/constant/ConstantDesc"), (2, u "serialVersionUID"), (0, u "J"), (3, u "REPL"), (0, u "C"), (2, u "LATIN1"), (1, u "UTF16")] 323

def k8m0 : Method := { name := "<init>", desc := "()V", sig := { parameters := [], returnType := none }, accessFlags := 1, code := none }
def k8c1 : Code := { maxStack := 2, maxLocals := 3, code := jdk_42_method_66_code, exceptionTable := #[], attributes := #[] }
def k8m1 : Method := { name := "equals", desc := "(Ljava/lang/Object;)Z", sig := { parameters := [(.object "java/lang/Object")], returnType := some .boolean }, accessFlags := 1, code := some k8c1 }
def k8c2 : Code := { maxStack := 4, maxLocals := 1, code := jdk_42_method_139_code, exceptionTable := #[], attributes := #[] }
def k8m2 : Method := { name := "valueOf", desc := "(C)Ljava/lang/String;", sig := { parameters := [.char], returnType := some (.object "java/lang/String") }, accessFlags := 9, code := some k8c2 }
def k8c3 : Code := { maxStack := 2, maxLocals := 3, code := jdk_42_method_151_code, exceptionTable := #[], attributes := #[] }
def k8m3 : Method := { name := "<init>", desc := "([BB)V", sig := { parameters := [(.array .byte), .byte], returnType := none }, accessFlags := 0, code := some k8c3 }
/-- java/lang/String -/
def k8 : Class := { plain "java/lang/String" (some 0) with
  accessFlags := 49
  interfaces := #[3, 4, 5, 6, 7]
  cf := some (fileOf pool8 10 #[.nestMembers #[1103]] #[{ accessFlags := 1, nameIndex := 5, descriptorIndex := 6, attributes := #[] }, { accessFlags := 1, nameIndex := 543, descriptorIndex := 573, attributes := #[] }, { accessFlags := 9, nameIndex := 782, descriptorIndex := 783, attributes := #[] }, { accessFlags := 0, nameIndex := 5, descriptorIndex := 211, attributes := #[] }] 49 2 #[1106, 1108, 575, 1110, 1112] #[{ accessFlags := 18, nameIndex := 13, descriptorIndex := 14, attributes := #[] }, { accessFlags := 18, nameIndex := 17, descriptorIndex := 18, attributes := #[] }, { accessFlags := 2, nameIndex := 21, descriptorIndex := 22, attributes := #[] }, { accessFlags := 2, nameIndex := 25, descriptorIndex := 26, attributes := #[] }, { accessFlags := 26, nameIndex := 1116, descriptorIndex := 1117, attributes := #[] }, { accessFlags := 24, nameIndex := 40, descriptorIndex := 26, attributes := #[] }, { accessFlags := 26, nameIndex := 1101, descriptorIndex := 1102, attributes := #[] }, { accessFlags := 26, nameIndex := 1121, descriptorIndex := 1122, attributes := #[] }, { accessFlags := 25, nameIndex := 599, descriptorIndex := 600, attributes := #[] }, { accessFlags := 24, nameIndex := 1125, descriptorIndex := 18, attributes := #[] }, { accessFlags := 24, nameIndex := 1127, descriptorIndex := 18, attributes := #[] }])
  fields := #[{ name := "value", type := (.array .byte), accessFlags := 18, slot := 0, constantValue := 0 }, { name := "coder", type := .byte, accessFlags := 18, slot := 1, constantValue := 0 }, { name := "hash", type := .int, accessFlags := 2, slot := 2, constantValue := 0 }, { name := "hashIsZero", type := .boolean, accessFlags := 2, slot := 3, constantValue := 0 }, { name := "serialVersionUID", type := .long, accessFlags := 26, slot := 0, constantValue := 0 }, { name := "COMPACT_STRINGS", type := .boolean, accessFlags := 24, slot := 1, constantValue := 0 }, { name := "serialPersistentFields", type := (.array (.object "java/io/ObjectStreamField")), accessFlags := 26, slot := 2, constantValue := 0 }, { name := "REPL", type := .char, accessFlags := 26, slot := 3, constantValue := 0 }, { name := "CASE_INSENSITIVE_ORDER", type := (.object "java/util/Comparator"), accessFlags := 25, slot := 4, constantValue := 0 }, { name := "LATIN1", type := .byte, accessFlags := 24, slot := 5, constantValue := 0 }, { name := "UTF16", type := .byte, accessFlags := 24, slot := 6, constantValue := 0 }]
  methods := #[k8m0, k8m1, k8m2, k8m3]
  instanceTypes := #[(.array .byte), .byte, .int, .boolean]
  staticTypes := #[.long, .boolean, (.array (.object "java/io/ObjectStreamField")), .char, (.object "java/util/Comparator"), .byte, .byte]
  resolved := Array.replicate 1451 none
  statics := some 0 }

def pool9 : Array CpInfo := pool [(4, .class_ 6), (1, u "java/lang/Object"), (0, u "<init>"), (0, u "()V"), (5, .class_ 16), (1, u "java/lang/StringLatin1"), (73, u "canEncode"), (14, u "(C)Z"), (15, u "$assertionsDisabled"), (0, u "Z"), (98, .class_ 223), (1, u "java/lang/StringLatin1$LinesSpliterator"), (57, u "equals"), (0, u "([B[B)Z"), (97, u "toBytes"), (1, u "(C)[B"), (7, .class_ 391), (0, u "java/lang/StringLatin1$CharsSpliterator")] 3

def k9m0 : Method := { name := "<init>", desc := "()V", sig := { parameters := [], returnType := none }, accessFlags := 0, code := none }
def k9c1 : Code := { maxStack := 2, maxLocals := 1, code := jdk_43_method_3_code, exceptionTable := #[], attributes := #[] }
def k9m1 : Method := { name := "canEncode", desc := "(C)Z", sig := { parameters := [.char], returnType := some .boolean }, accessFlags := 9, code := some k9c1 }
def k9c2 : Code := { maxStack := 3, maxLocals := 3, code := jdk_43_method_13_code, exceptionTable := #[], attributes := #[] }
def k9m2 : Method := { name := "equals", desc := "([B[B)Z", sig := { parameters := [(.array .byte), (.array .byte)], returnType := some .boolean }, accessFlags := 9, code := some k9c2 }
def k9c3 : Code := { maxStack := 4, maxLocals := 1, code := jdk_43_method_46_code, exceptionTable := #[], attributes := #[] }
def k9m3 : Method := { name := "toBytes", desc := "(C)[B", sig := { parameters := [.char], returnType := some (.array .byte) }, accessFlags := 9, code := some k9c3 }
/-- java/lang/StringLatin1 -/
def k9 : Class := { plain "java/lang/StringLatin1" (some 0) with
  accessFlags := 48
  interfaces := #[]
  cf := some (fileOf pool9 14 #[.nestMembers #[390, 221]] #[{ accessFlags := 0, nameIndex := 7, descriptorIndex := 8, attributes := #[] }, { accessFlags := 9, nameIndex := 90, descriptorIndex := 105, attributes := #[] }, { accessFlags := 9, nameIndex := 281, descriptorIndex := 282, attributes := #[] }, { accessFlags := 9, nameIndex := 380, descriptorIndex := 382, attributes := #[] }] 48 4 #[] #[{ accessFlags := 4120, nameIndex := 121, descriptorIndex := 122, attributes := #[] }])
  fields := #[{ name := "$assertionsDisabled", type := .boolean, accessFlags := 4120, slot := 0, constantValue := 0 }]
  methods := #[k9m0, k9m1, k9m2, k9m3]
  instanceTypes := #[]
  staticTypes := #[.boolean]
  resolved := Array.replicate 395 none
  statics := none }

def pool10 : Array CpInfo := pool [(2, .class_ 4), (1, u "java/lang/Object"), (0, u "<init>"), (0, u "()V"), (35, .class_ 44), (1, u "java/util/Objects"), (0, u "requireNonNull"), (48, u "(Ljava/lang/Object;Ljava/lang/String;)Ljava/lang/Object;")] 89

def k10m0 : Method := { name := "<init>", desc := "()V", sig := { parameters := [], returnType := none }, accessFlags := 2, code := none }
def k10c1 : Code := { maxStack := 3, maxLocals := 2, code := jdk_31_method_11_code, exceptionTable := #[], attributes := #[] }
def k10m1 : Method := { name := "requireNonNull", desc := "(Ljava/lang/Object;Ljava/lang/String;)Ljava/lang/Object;", sig := { parameters := [(.object "java/lang/Object"), (.object "java/lang/String")], returnType := some (.object "java/lang/Object") }, accessFlags := 9, code := some k10c1 }
/-- java/util/Objects -/
def k10 : Class := { plain "java/util/Objects" (some 0) with
  accessFlags := 49
  interfaces := #[]
  cf := some (fileOf pool10 42 #[] #[{ accessFlags := 2, nameIndex := 5, descriptorIndex := 6, attributes := #[] }, { accessFlags := 9, nameIndex := 45, descriptorIndex := 94, attributes := #[] }] 49 2 #[] #[])
  fields := #[]
  methods := #[k10m0, k10m1]
  instanceTypes := #[]
  staticTypes := #[]
  resolved := Array.replicate 184 none
  statics := none }

def pool11 : Array CpInfo := pool [(2, .class_ 4), (1, u "java/lang/Object"), (0, u "<init>"), (0, u "()V"), (17, .class_ 26), (1, u "jdk/internal/util/Preconditions"), (28, .class_ 56), (0, u "jdk/internal/util/Preconditions$4"), (57, .class_ 115), (0, u "jdk/internal/util/Preconditions$1"), (7, u "SIOOBE_FORMATTER"), (0, u "Ljava/util/function/BiFunction;"), (0, .class_ 126), (0, u "jdk/internal/util/Preconditions$2"), (3, u "AIOOBE_FORMATTER"), (0, .class_ 132), (0, u "jdk/internal/util/Preconditions$3"), (3, u "IOOBE_FORMATTER")] 57

def k11m0 : Method := { name := "<init>", desc := "()V", sig := { parameters := [], returnType := none }, accessFlags := 1, code := none }
/-- jdk/internal/util/Preconditions -/
def k11 : Class := { plain "jdk/internal/util/Preconditions" (some 0) with
  accessFlags := 33
  interfaces := #[]
  cf := some (fileOf pool11 24 #[.nestMembers #[55, 131, 125, 114]] #[{ accessFlags := 1, nameIndex := 5, descriptorIndex := 6, attributes := #[] }] 33 2 #[] #[{ accessFlags := 25, nameIndex := 123, descriptorIndex := 124, attributes := #[] }, { accessFlags := 25, nameIndex := 130, descriptorIndex := 124, attributes := #[] }, { accessFlags := 25, nameIndex := 136, descriptorIndex := 124, attributes := #[] }])
  fields := #[{ name := "SIOOBE_FORMATTER", type := (.object "java/util/function/BiFunction"), accessFlags := 25, slot := 0, constantValue := 0 }, { name := "AIOOBE_FORMATTER", type := (.object "java/util/function/BiFunction"), accessFlags := 25, slot := 1, constantValue := 0 }, { name := "IOOBE_FORMATTER", type := (.object "java/util/function/BiFunction"), accessFlags := 25, slot := 2, constantValue := 0 }]
  methods := #[k11m0]
  instanceTypes := #[]
  staticTypes := #[(.object "java/util/function/BiFunction"), (.object "java/util/function/BiFunction"), (.object "java/util/function/BiFunction")]
  resolved := Array.replicate 194 none
  statics := some 1 }

def pool12 : Array CpInfo := pool [(9, u "<init>"), (6, .class_ 18), (1, u "java/lang/Object"), (0, u "()V"), (1, .class_ 23), (1, u "jdk/internal/util/ArraysSupport"), (0, u "LOG2_ARRAY_LONG_INDEX_SCALE"), (0, u "I"), (2, u "U"), (0, u "Ljdk/internal/misc/Unsafe;"), (8, u "BIG_ENDIAN"), (0, u "Z"), (8, u "LOG2_BYTE_BIT_SIZE"), (4, u "LOG2_ARRAY_INT_INDEX_SCALE"), (54, u "JLA"), (0, u "Ljdk/internal/access/JavaLangAccess;"), (11, u "LOG2_ARRAY_BOOLEAN_INDEX_SCALE"), (9, u "LOG2_ARRAY_BYTE_INDEX_SCALE"), (5, u "LOG2_ARRAY_CHAR_INDEX_SCALE"), (5, u "LOG2_ARRAY_SHORT_INDEX_SCALE"), (18, u "LOG2_ARRAY_FLOAT_INDEX_SCALE"), (24, u "LOG2_ARRAY_DOUBLE_INDEX_SCALE"), (89, u "T_BOOLEAN"), (2, u "T_CHAR"), (1, u "T_FLOAT"), (1, u "T_DOUBLE"), (1, u "T_BYTE"), (1, u "T_SHORT"), (1, u "T_INT"), (1, u "T_LONG"), (1, u "SOFT_MAX_ARRAY_LENGTH")] 83

def k12m0 : Method := { name := "<init>", desc := "()V", sig := { parameters := [], returnType := none }, accessFlags := 2, code := none }
/-- jdk/internal/util/ArraysSupport -/
def k12 : Class := { plain "jdk/internal/util/ArraysSupport" (some 0) with
  accessFlags := 33
  interfaces := #[]
  cf := some (fileOf pool12 21 #[] #[{ accessFlags := 2, nameIndex := 9, descriptorIndex := 19, attributes := #[] }] 33 16 #[] #[{ accessFlags := 24, nameIndex := 28, descriptorIndex := 29, attributes := #[] }, { accessFlags := 26, nameIndex := 38, descriptorIndex := 39, attributes := #[] }, { accessFlags := 25, nameIndex := 121, descriptorIndex := 25, attributes := #[] }, { accessFlags := 25, nameIndex := 131, descriptorIndex := 25, attributes := #[] }, { accessFlags := 25, nameIndex := 137, descriptorIndex := 25, attributes := #[] }, { accessFlags := 25, nameIndex := 143, descriptorIndex := 25, attributes := #[] }, { accessFlags := 25, nameIndex := 53, descriptorIndex := 25, attributes := #[] }, { accessFlags := 25, nameIndex := 24, descriptorIndex := 25, attributes := #[] }, { accessFlags := 25, nameIndex := 162, descriptorIndex := 25, attributes := #[] }, { accessFlags := 25, nameIndex := 187, descriptorIndex := 25, attributes := #[] }, { accessFlags := 26, nameIndex := 48, descriptorIndex := 25, attributes := #[] }, { accessFlags := 25, nameIndex := 277, descriptorIndex := 25, attributes := #[] }, { accessFlags := 25, nameIndex := 280, descriptorIndex := 25, attributes := #[] }, { accessFlags := 25, nameIndex := 282, descriptorIndex := 25, attributes := #[] }, { accessFlags := 25, nameIndex := 284, descriptorIndex := 25, attributes := #[] }, { accessFlags := 25, nameIndex := 286, descriptorIndex := 25, attributes := #[] }, { accessFlags := 25, nameIndex := 288, descriptorIndex := 25, attributes := #[] }, { accessFlags := 25, nameIndex := 290, descriptorIndex := 25, attributes := #[] }, { accessFlags := 25, nameIndex := 292, descriptorIndex := 25, attributes := #[] }, { accessFlags := 26, nameIndex := 108, descriptorIndex := 109, attributes := #[] }, { accessFlags := 25, nameIndex := 294, descriptorIndex := 25, attributes := #[] }])
  fields := #[{ name := "U", type := (.object "jdk/internal/misc/Unsafe"), accessFlags := 24, slot := 0, constantValue := 0 }, { name := "BIG_ENDIAN", type := .boolean, accessFlags := 26, slot := 1, constantValue := 0 }, { name := "LOG2_ARRAY_BOOLEAN_INDEX_SCALE", type := .int, accessFlags := 25, slot := 2, constantValue := 0 }, { name := "LOG2_ARRAY_BYTE_INDEX_SCALE", type := .int, accessFlags := 25, slot := 3, constantValue := 0 }, { name := "LOG2_ARRAY_CHAR_INDEX_SCALE", type := .int, accessFlags := 25, slot := 4, constantValue := 0 }, { name := "LOG2_ARRAY_SHORT_INDEX_SCALE", type := .int, accessFlags := 25, slot := 5, constantValue := 0 }, { name := "LOG2_ARRAY_INT_INDEX_SCALE", type := .int, accessFlags := 25, slot := 6, constantValue := 0 }, { name := "LOG2_ARRAY_LONG_INDEX_SCALE", type := .int, accessFlags := 25, slot := 7, constantValue := 0 }, { name := "LOG2_ARRAY_FLOAT_INDEX_SCALE", type := .int, accessFlags := 25, slot := 8, constantValue := 0 }, { name := "LOG2_ARRAY_DOUBLE_INDEX_SCALE", type := .int, accessFlags := 25, slot := 9, constantValue := 0 }, { name := "LOG2_BYTE_BIT_SIZE", type := .int, accessFlags := 26, slot := 10, constantValue := 0 }, { name := "T_BOOLEAN", type := .int, accessFlags := 25, slot := 11, constantValue := 0 }, { name := "T_CHAR", type := .int, accessFlags := 25, slot := 12, constantValue := 0 }, { name := "T_FLOAT", type := .int, accessFlags := 25, slot := 13, constantValue := 0 }, { name := "T_DOUBLE", type := .int, accessFlags := 25, slot := 14, constantValue := 0 }, { name := "T_BYTE", type := .int, accessFlags := 25, slot := 15, constantValue := 0 }, { name := "T_SHORT", type := .int, accessFlags := 25, slot := 16, constantValue := 0 }, { name := "T_INT", type := .int, accessFlags := 25, slot := 17, constantValue := 0 }, { name := "T_LONG", type := .int, accessFlags := 25, slot := 18, constantValue := 0 }, { name := "JLA", type := (.object "jdk/internal/access/JavaLangAccess"), accessFlags := 26, slot := 19, constantValue := 0 }, { name := "SOFT_MAX_ARRAY_LENGTH", type := .int, accessFlags := 25, slot := 20, constantValue := 0 }]
  methods := #[k12m0]
  instanceTypes := #[]
  staticTypes := #[(.object "jdk/internal/misc/Unsafe"), .boolean, .int, .int, .int, .int, .int, .int, .int, .int, .int, .int, .int, .int, .int, .int, .int, .int, .int, (.object "jdk/internal/access/JavaLangAccess"), .int]
  resolved := Array.replicate 378 none
  statics := none }

def pool13 : Array CpInfo := pool [(1, u "java/lang/Cloneable"), (0, .class_ 1), (0, u "java/lang/Object"), (0, .class_ 3)] 3

/-- java/lang/Cloneable -/
def k13 : Class := { plain "java/lang/Cloneable" (some 0) with
  accessFlags := 1537
  interfaces := #[]
  cf := some (fileOf pool13 2 #[] #[] 1537 4 #[] #[])
  fields := #[]
  methods := #[]
  instanceTypes := #[]
  staticTypes := #[]
  resolved := Array.replicate 8 none
  statics := none }

/-- the primitive byte -/
def k14 : Class := { plain "byte" none with kind := .primitive 'B', accessFlags := 0x411 }
/-- [B -/
def k15 : Class := { plain "[B" (some 0) with kind := .array 14 .byte, interfaces := #[13, 3], accessFlags := 1041 }

/-- the primitive int -/
def k16 : Class := { plain "int" none with kind := .primitive 'I', accessFlags := 0x411 }
/-- [I -/
def k17 : Class := { plain "[I" (some 0) with kind := .array 16 .int, interfaces := #[13, 3], accessFlags := 1041 }

def heap : Heap := #[{ cls := 8, slots := #[.long 0, .int 1, .null, .int 0, .null, .int 0, .int 0], vm := .statics 8 },
  { cls := 11, slots := #[.null, .null, .null], vm := .statics 11 }]
def classes : Array Class := #[k0, k1, k2, k3, k4, k5, k6, k7, k8, k9, k10, k11, k12, k13, k14, k15, k16, k17]
def interned : List (Array UInt16 × Addr) := []
def slotsUsed : Nat := 10
def theMethod : MethodId := ⟨1, 2⟩
def args0 : Array Value := #[.int 1, .int 66, .int 3]
def aboutOver (below : List Frame) : State where
  vm := { classes := classes, interned := interned.toArray }
  heap := heap
  slotsUsed := slotsUsed
  threads := #[{ frames := .invoking theMethod args0 :: below }]
def below0 : List Frame := [.native { method := ⟨0, 0⟩, args := #[] }]
def about1 : State := aboutOver below0
def p0 : Program := .bare "" "" ""
def e0 : Env := launch0.env 0 0 0
theorem w_frames : about1.frames = Frame.invoking theMethod args0 :: below0 := rfl
set_option maxRecDepth 65536 in
theorem w_args : argsFit about1.vm theMethod args0 = true := by decide +kernel
set_option maxRecDepth 65536 in
theorem w_heap : heapFits about1 = true := by decide +kernel
set_option maxRecDepth 65536 in
theorem w_runnable : about1.curStatus? = some .runnable := by decide +kernel
set_option maxRecDepth 65536 in
theorem w_alone : about1.alone = true := by decide +kernel
set_option maxRecDepth 65536 in
theorem w_named : about1.methodNamed? x = some theMethod := by decide +kernel
set_option maxRecDepth 65536 in
theorem w_hears : about1.hears theMethod below0 = true := by decide +kernel
set_option maxRecDepth 65536 in
theorem w_ripe : about1.ripe theMethod args0 below0 = true := by decide +kernel
theorem w_running : about1.status = .running := rfl
set_option maxRecDepth 65536 in
theorem w_room : about1.hasRoom e0.platform room_1 = true :=
  launch0.hasRoom_least _ room_1 (by decide +kernel) (by decide +kernel) (by decide +kernel) (by decide +kernel) (by decide +kernel) (by decide +kernel)
theorem allAtoms_all (ts : List Jvm.Cond) (a : Array Jvm.Value) (st : Jvm.State) : (allAtoms ts).before a st = ts.all (fun c => c.before a st) := by
  induction ts with
  | nil => rfl
  | cons c t ih =>
    show (Jvm.Cond.and c (allAtoms t)).before a st = _
    rw [Jvm.Cond.before_and, ih, List.all_cons]
def words1 : List Jvm.Cond := Jvm.Cond.code x code maxLocals ret :: tables_1
/-- a 'code' word, met by the world's own term for the bytes: nothing is compared byte by byte -/
theorem code_word {y : MethodName} {bytes : ByteArray} {mx : Nat} {rt : Option FieldType} {a : Array Value} {s : State} {m : MethodId} {meth : Method} {c : Code} (h1 : s.methodNamed? y = some m) (h2 : s.vm.method? m = some meth) (h3 : meth.code = some c) (h4 : c.code = bytes)
    (h5 : (c.maxLocals == mx && c.exceptionTable.isEmpty && decide (c.maxStack ≤ mostOperands) && decide (meth.sig.returnType = rt) && !meth.locks && decide (parseMethodDescriptor y.desc = some meth.sig)) = true) : (Jvm.Cond.code y bytes mx rt).before a s = true := by
  simp only [Bool.and_eq_true, beq_iff_eq, Bool.not_eq_true', decide_eq_true_eq] at h5
  obtain ⟨⟨⟨⟨⟨g1, g2⟩, g3⟩, g4⟩, g5⟩, g6⟩ := h5
  simp [Cond.before, Cond.holds, Cond.value, h1, h2, h3, h4, g1, g2, g3, g4, g5, g6]
def isCode : Jvm.Cond → Bool
  | .code _ _ _ _ => true
  | _ => false
theorem all_split {L : List Jvm.Cond} {P : Jvm.Cond → Bool} (h1 : L.all (fun c => isCode c || P c) = true) (h2 : ∀ c ∈ L.filter isCode, P c = true) : L.all P = true := by
  refine List.all_eq_true.mpr fun c hc => ?_
  have h := List.all_eq_true.mp h1 c hc
  rcases Bool.eq_false_or_eq_true (isCode c) with hi | hi
  · exact h2 c (List.mem_filter.mpr ⟨hc, hi⟩)
  · simpa [hi] using h
set_option maxRecDepth 65536 in
theorem w_c0 : (Jvm.Cond.code x code maxLocals ret).before args0 about1 = true := code_word (m := ⟨1, 2⟩) (meth := k1m2) (c := k1c2) (by decide +kernel) rfl rfl rfl (by decide +kernel)
set_option maxRecDepth 65536 in
theorem w_c1 : (Jvm.Cond.code ({ cls := "com/example/claviger/claviger/engine/UseEqualsPinLaw", name := "s", desc := "(I)Ljava/lang/String;" } : Jvm.MethodName) method_2_code (1 : Nat) (Option.some (Jvm.ClassFile.FieldType.object "java/lang/String"))).before args0 about1 = true := code_word (m := ⟨1, 1⟩) (meth := k1m1) (c := k1c1) (by decide +kernel) rfl rfl rfl (by decide +kernel)
set_option maxRecDepth 65536 in
theorem w_c2 : (Jvm.Cond.code ({ cls := "java/lang/String", name := "valueOf", desc := "(C)Ljava/lang/String;" } : Jvm.MethodName) jdk_42_method_139_code (1 : Nat) (Option.some (Jvm.ClassFile.FieldType.object "java/lang/String"))).before args0 about1 = true := code_word (m := ⟨8, 2⟩) (meth := k8m2) (c := k8c2) (by decide +kernel) rfl rfl rfl (by decide +kernel)
set_option maxRecDepth 65536 in
theorem w_c3 : (Jvm.Cond.code ({ cls := "java/lang/StringLatin1", name := "canEncode", desc := "(C)Z" } : Jvm.MethodName) jdk_43_method_3_code (1 : Nat) (Option.some Jvm.ClassFile.FieldType.boolean)).before args0 about1 = true := code_word (m := ⟨9, 1⟩) (meth := k9m1) (c := k9c1) (by decide +kernel) rfl rfl rfl (by decide +kernel)
set_option maxRecDepth 65536 in
theorem w_c4 : (Jvm.Cond.code ({ cls := "java/lang/StringLatin1", name := "toBytes", desc := "(C)[B" } : Jvm.MethodName) jdk_43_method_46_code (1 : Nat) (Option.some (Jvm.ClassFile.FieldType.array Jvm.ClassFile.FieldType.byte))).before args0 about1 = true := code_word (m := ⟨9, 3⟩) (meth := k9m3) (c := k9c3) (by decide +kernel) rfl rfl rfl (by decide +kernel)
set_option maxRecDepth 65536 in
theorem w_c5 : (Jvm.Cond.code ({ cls := "java/lang/String", name := "<init>", desc := "([BB)V" } : Jvm.MethodName) jdk_42_method_151_code (3 : Nat) (Option.none : Option Jvm.ClassFile.FieldType)).before args0 about1 = true := code_word (m := ⟨8, 3⟩) (meth := k8m3) (c := k8c3) (by decide +kernel) rfl rfl rfl (by decide +kernel)
set_option maxRecDepth 65536 in
theorem w_c6 : (Jvm.Cond.code ({ cls := "java/lang/Object", name := "<init>", desc := "()V" } : Jvm.MethodName) object_method_1_code (1 : Nat) (Option.none : Option Jvm.ClassFile.FieldType)).before args0 about1 = true := code_word (m := ⟨0, 0⟩) (meth := k0m0) (c := k0c0) (by decide +kernel) rfl rfl rfl (by decide +kernel)
set_option maxRecDepth 65536 in
theorem w_c7 : (Jvm.Cond.code ({ cls := "com/example/claviger/claviger/engine/SeatHolding$Use", name := "<init>", desc := "(Ljava/lang/String;Ljava/lang/String;Ljava/lang/String;)V" } : Jvm.MethodName) prog_27_method_1_code (4 : Nat) (Option.none : Option Jvm.ClassFile.FieldType)).before args0 about1 = true := code_word (m := ⟨2, 0⟩) (meth := k2m0) (c := k2c0) (by decide +kernel) rfl rfl rfl (by decide +kernel)
set_option maxRecDepth 65536 in
theorem w_c8 : (Jvm.Cond.code ({ cls := "java/util/Objects", name := "requireNonNull", desc := "(Ljava/lang/Object;Ljava/lang/String;)Ljava/lang/Object;" } : Jvm.MethodName) jdk_31_method_11_code (2 : Nat) (Option.some (Jvm.ClassFile.FieldType.object "java/lang/Object"))).before args0 about1 = true := code_word (m := ⟨10, 1⟩) (meth := k10m1) (c := k10c1) (by decide +kernel) rfl rfl rfl (by decide +kernel)
set_option maxRecDepth 65536 in
theorem w_c9 : (Jvm.Cond.code ({ cls := "com/example/claviger/claviger/engine/SeatHolding$Use", name := "equals", desc := "(Ljava/lang/Object;)Z" } : Jvm.MethodName) prog_27_method_5_code (3 : Nat) (Option.some Jvm.ClassFile.FieldType.boolean)).before args0 about1 = true := code_word (m := ⟨2, 1⟩) (meth := k2m1) (c := k2c1) (by decide +kernel) rfl rfl rfl (by decide +kernel)
set_option maxRecDepth 65536 in
theorem w_c10 : (Jvm.Cond.code ({ cls := "java/lang/String", name := "equals", desc := "(Ljava/lang/Object;)Z" } : Jvm.MethodName) jdk_42_method_66_code (3 : Nat) (Option.some Jvm.ClassFile.FieldType.boolean)).before args0 about1 = true := code_word (m := ⟨8, 1⟩) (meth := k8m1) (c := k8c1) (by decide +kernel) rfl rfl rfl (by decide +kernel)
set_option maxRecDepth 65536 in
theorem w_c11 : (Jvm.Cond.code ({ cls := "java/lang/StringLatin1", name := "equals", desc := "([B[B)Z" } : Jvm.MethodName) jdk_43_method_13_code (3 : Nat) (Option.some Jvm.ClassFile.FieldType.boolean)).before args0 about1 = true := code_word (m := ⟨9, 2⟩) (meth := k9m2) (c := k9c2) (by decide +kernel) rfl rfl rfl (by decide +kernel)
def codes1 : List Jvm.Cond := [Jvm.Cond.code x code maxLocals ret, Jvm.Cond.code ({ cls := "com/example/claviger/claviger/engine/UseEqualsPinLaw", name := "s", desc := "(I)Ljava/lang/String;" } : Jvm.MethodName) method_2_code (1 : Nat) (Option.some (Jvm.ClassFile.FieldType.object "java/lang/String")), Jvm.Cond.code ({ cls := "java/lang/String", name := "valueOf", desc := "(C)Ljava/lang/String;" } : Jvm.MethodName) jdk_42_method_139_code (1 : Nat) (Option.some (Jvm.ClassFile.FieldType.object "java/lang/String")), Jvm.Cond.code ({ cls := "java/lang/StringLatin1", name := "canEncode", desc := "(C)Z" } : Jvm.MethodName) jdk_43_method_3_code (1 : Nat) (Option.some Jvm.ClassFile.FieldType.boolean), Jvm.Cond.code ({ cls := "java/lang/StringLatin1", name := "toBytes", desc := "(C)[B" } : Jvm.MethodName) jdk_43_method_46_code (1 : Nat) (Option.some (Jvm.ClassFile.FieldType.array Jvm.ClassFile.FieldType.byte)), Jvm.Cond.code ({ cls := "java/lang/String", name := "<init>", desc := "([BB)V" } : Jvm.MethodName) jdk_42_method_151_code (3 : Nat) (Option.none : Option Jvm.ClassFile.FieldType), Jvm.Cond.code ({ cls := "java/lang/Object", name := "<init>", desc := "()V" } : Jvm.MethodName) object_method_1_code (1 : Nat) (Option.none : Option Jvm.ClassFile.FieldType), Jvm.Cond.code ({ cls := "com/example/claviger/claviger/engine/SeatHolding$Use", name := "<init>", desc := "(Ljava/lang/String;Ljava/lang/String;Ljava/lang/String;)V" } : Jvm.MethodName) prog_27_method_1_code (4 : Nat) (Option.none : Option Jvm.ClassFile.FieldType), Jvm.Cond.code ({ cls := "java/util/Objects", name := "requireNonNull", desc := "(Ljava/lang/Object;Ljava/lang/String;)Ljava/lang/Object;" } : Jvm.MethodName) jdk_31_method_11_code (2 : Nat) (Option.some (Jvm.ClassFile.FieldType.object "java/lang/Object")), Jvm.Cond.code ({ cls := "com/example/claviger/claviger/engine/SeatHolding$Use", name := "equals", desc := "(Ljava/lang/Object;)Z" } : Jvm.MethodName) prog_27_method_5_code (3 : Nat) (Option.some Jvm.ClassFile.FieldType.boolean), Jvm.Cond.code ({ cls := "java/lang/String", name := "equals", desc := "(Ljava/lang/Object;)Z" } : Jvm.MethodName) jdk_42_method_66_code (3 : Nat) (Option.some Jvm.ClassFile.FieldType.boolean), Jvm.Cond.code ({ cls := "java/lang/StringLatin1", name := "equals", desc := "([B[B)Z" } : Jvm.MethodName) jdk_43_method_13_code (3 : Nat) (Option.some Jvm.ClassFile.FieldType.boolean)]
set_option maxRecDepth 65536 in
theorem codes_eq : words1.filter isCode = codes1 := rfl
theorem w_codes : ∀ c ∈ words1.filter isCode, c.before args0 about1 = true := by
  rw [codes_eq]
  intro c hc
  simp only [codes1, List.mem_cons, List.not_mem_nil, or_false] at hc
  rcases hc with rfl | rfl | rfl | rfl | rfl | rfl | rfl | rfl | rfl | rfl | rfl | rfl
  · exact w_c0
  · exact w_c1
  · exact w_c2
  · exact w_c3
  · exact w_c4
  · exact w_c5
  · exact w_c6
  · exact w_c7
  · exact w_c8
  · exact w_c9
  · exact w_c10
  · exact w_c11
set_option maxRecDepth 65536 in
theorem w_t1 : (words1.take 24).all (fun c => isCode c || c.before args0 about1) = true := by decide +kernel
set_option maxRecDepth 65536 in
theorem w_t2 : ((words1.drop 24).take 24).all (fun c => isCode c || c.before args0 about1) = true := by decide +kernel
set_option maxRecDepth 65536 in
theorem w_t3 : ((words1.drop 24).drop 24).all (fun c => isCode c || c.before args0 about1) = true := by decide +kernel
theorem w_tables : (allAtoms (Jvm.Cond.code x code maxLocals ret :: tables_1)).before args0 about1 = true := by
  rw [allAtoms_all]
  show words1.all (fun c => c.before args0 about1) = true
  refine all_split ?_ w_codes
  rw [← List.take_append_drop 24 words1, List.all_append, w_t1, ← List.take_append_drop 24 (words1.drop 24), List.all_append, w_t2, w_t3]
  rfl
set_option maxRecDepth 65536 in
theorem w_rest : rest_1_c.before args0 about1 = true := by decide +kernel
set_option maxRecDepth 65536 in
theorem w_case : (Jvm.Cond.and given_1 narrow_1).before args0 about1 = true := by decide +kernel
theorem w_applies : (headSpec (Jvm.Cond.code x code maxLocals ret :: tables_1) room_1).applies x e0.platform about1 = true :=
  (Spec.applies_iff w_frames).mpr ⟨w_running, w_runnable, w_alone, w_named, w_hears, w_ripe, w_room, w_tables⟩
theorem atStart : AtStart classFile x code maxLocals ret World_1 tables_1 room_1 Calls_1 rest_1 Pre_1 launch0 p0 e0 about1 theMethod args0 below0 :=
  ⟨lists_1, trivial, launch0.admits_env _ _ _, launch0.least_env, fairChoices_fair.cas, fairChoices_fair.clock, w_frames, w_args, w_heap, w_applies, trivial, w_rest, w_case⟩
end start1
theorem witness_1 : WitnessClaimed_1 := ⟨start1.p0, start1.e0, start1.about1, start1.theMethod, start1.args0, start1.below0, start1.atStart⟩
end Jvm.Pilot.@@N@@
