import JvmDerived
import JvmDerived.Pilot.@@N@@Statement
import JvmDerived.Pilot.@@N@@Code
set_option linter.unusedVariables false
set_option linter.unusedSimpArgs false
@@BLOCK:NumsL.lean.txt@@
namespace Jvm.Pilot.@@N@@
open Jvm Jvm.ClassFile Sem Op Lib Jvm.Free Jvm.Stand Jvm.LawKit Jvm.RoadKit Bundle Jvm.Pilot.@@N@@.Jvm.D
/-- from the state W the run comes to an end of which K holds -/
abbrev own_Gl (p : Program) (e : Env) (below : List Frame) (K : Outcome → State → Prop) (W : State) : Prop := ∃ s₂ o, Steps p.tables e below W s₂ ∧ s₂.status = .running ∧ Ended s₂ below o ∧ K o s₂
theorem own_by {p : Program} {e : Env} {below : List Frame} {K : Outcome → State → Prop} {W W' : State} (st : ∀ t, Steps p.tables e below W' t → Steps p.tables e below W t) (h : own_Gl p e below K W') : own_Gl p e below K W := by
  obtain ⟨s₂, o, h1, h2⟩ := h; exact ⟨s₂, o, st _ h1, h2⟩
theorem own_tr {p : Program} {e : Env} {below : List Frame} {K : Outcome → State → Prop} {W W' : State} (st : Steps p.tables e below W W') (h : own_Gl p e below K W') : own_Gl p e below K W := own_by (fun _ k => st.trans k) h
theorem own_w {Z : State} {a0 : Array Value} (hw : ∀ d ∈ tables_1, d.before a0 Z = true) (i : Nat) {d : Jvm.Cond} (h : tables_1[i]? = some d := by rfl) : d.before a0 Z = true := hw _ (List.mem_of_getElem? h)
theorem own_le {Z : State} {n0 : Nat} {h : Heap} (O : Old Z n0 h) : n0 ≤ h.size := O.1 ▸ O.2.1
theorem own_lclt {x y : Int64} (h : x < y) : ifCond.holds .lt (lcmpW x y) = true ∧ ifCond.holds .ge (lcmpW x y) = false := by
  have h1 : ¬ x > y := fun q => by rw [Int64.lt_iff_toInt_lt] at h; have q' : y < x := q; rw [Int64.lt_iff_toInt_lt] at q'; omega
  have h2 : ¬ x = y := fun q => by subst q; rw [Int64.lt_iff_toInt_lt] at h; omega
  rw [lcmpW, if_neg h1, if_neg h2]; exact ⟨by decide, by decide⟩
theorem own_lcnlt {x y : Int64} (h : ¬ x < y) : ifCond.holds .lt (lcmpW x y) = false ∧ ifCond.holds .ge (lcmpW x y) = true := by
  by_cases h1 : x > y
  · rw [lcmpW, if_pos h1]; exact ⟨by decide, by decide⟩
  · have h2 : x = y := by
      have q1 : ¬ y < x := h1
      rw [Int64.lt_iff_toInt_lt] at h q1; exact Int64.toInt_inj.mp (by omega)
    rw [lcmpW, if_neg h1, if_pos h2]; exact ⟨by decide, by decide⟩
theorem own_lcgt {x y : Int64} (h : y < x) : ifCond.holds .gt (lcmpW x y) = true ∧ ifCond.holds .le (lcmpW x y) = false := by
  have h1 : x > y := h
  rw [lcmpW, if_pos h1]; exact ⟨by decide, by decide⟩
theorem own_lcngt {x y : Int64} (h : ¬ y < x) : ifCond.holds .gt (lcmpW x y) = false ∧ ifCond.holds .le (lcmpW x y) = true := by
  have h1 : ¬ x > y := h
  rw [lcmpW, if_neg h1]
  by_cases h2 : x = y
  · rw [if_pos h2]; exact ⟨by decide, by decide⟩
  · rw [if_neg h2]; exact ⟨by decide, by decide⟩
theorem own_lceq {x y : Int64} (h : x = y) : ifCond.holds .eq (lcmpW x y) = true ∧ ifCond.holds .ne (lcmpW x y) = false := by
  subst h
  have h1 : ¬ x > x := fun q => by have q' : x < x := q; rw [Int64.lt_iff_toInt_lt] at q'; omega
  rw [lcmpW, if_neg h1, if_pos rfl]; exact ⟨by decide, by decide⟩
theorem own_lcne {x y : Int64} (h : ¬ x = y) : ifCond.holds .eq (lcmpW x y) = false ∧ ifCond.holds .ne (lcmpW x y) = true := by
  by_cases h1 : x > y
  · rw [lcmpW, if_pos h1]; exact ⟨by decide, by decide⟩
  · rw [lcmpW, if_neg h1, if_neg h]; exact ⟨by decide, by decide⟩
theorem djdk_30_1_0 : decode jdk_30_method_1_code 0 = .ok (.aload_n 0, 1) := by decide +kernel
theorem djdk_30_1_1 : decode jdk_30_method_1_code 1 = .ok (.invokespecial 1, 3) := by decide +kernel
theorem djdk_30_1_4 : decode jdk_30_method_1_code 4 = .ok (.return_, 1) := by decide +kernel
theorem pn_java_lang_Record : plainName "java/lang/Record" = true := by first | (simp [plainName, overriddenIn]; done) | decide +kernel
theorem efR (m : MethodId) (r0 : Addr) : entryFrame m #[(.ref r0)] 1 = mkF m 0 #[.val (.ref r0)] [] := by first | (simp [entryFrame, mkF, argsToLocals, Value.category]; done) | rfl
def QR (Z : State) (r0 : Addr) (h0 : Heap) (n0 : Nat) (v : Option Value) (h : Heap) (L : List Loc) : Prop := v = none ∧ Fr n0 L ∧ h = h0
abbrev own_KR (Z : State) (r0 : Addr) (h0 : Heap) (n0 : Nat) (s : State) : Outcome → State → Prop := fun o U' => ∃ v L, o = .returned v ∧ QR Z r0 h0 n0 v U'.heap L ∧ FrameEnd s o U' L ({ frames := 1, cells := 0, slots := 0, locals := 12 } : Room).cells ({ frames := 1, cells := 0, slots := 0, locals := 12 } : Room).slots
set_option maxRecDepth 65536 in
set_option maxHeartbeats 40000000 in
theorem rmR (l : Launch) (Z : State) (a0 : Array Value) (hw : ∀ d ∈ tables_1, d.before a0 Z = true) (ws : List Jvm.Cond) (r0 : Addr) (h0 : Heap) (n0 : Nat) (Z0 : n0 ≤ h0.size) :
    MetFree l (⟨"java/lang/Record", "<init>", "()V"⟩ : MethodName) (head1 (Jvm.Cond.code (⟨"java/lang/Record", "<init>", "()V"⟩ : MethodName) jdk_30_method_1_code 1 none :: ws) ({ frames := 1, cells := 0, slots := 0, locals := 12 } : Room)) (fun a U => a = #[(.ref r0)] ∧ Z.Warmed39 U.vm ∧ U.heap = h0) (fun _ _ _ _ _ => True) (fun _ U o U' => ∃ v L, o = .returned v ∧ QR Z r0 h0 n0 v U'.heap L ∧ FrameEnd U o U' L ({ frames := 1, cells := 0, slots := 0, locals := 12 } : Room).cells ({ frames := 1, cells := 0, slots := 0, locals := 12 } : Room).slots) := by
  refine MetFree.of_bodySF (plainFor_of_name pn_java_lang_Record) hisR ?_
  intro p e s m args below meth c s₁ Bd hml0 hP hK
  obtain ⟨rfl, hZ, hh⟩ := hP
  have hx := Bd.exec
  have hby := Bd.bytes
  have hml : c.maxLocals = 1 := hml0
  have hown : s.vm.findClass "java/lang/Record" = some m.cls := findClass_of_methodNamed Bd.named
  have hnm := (name_of_methodNamed Bd.named Bd.method).1
  have X0 : Stand p l e ({ frames := 1, cells := 0, slots := 0, locals := 12 } : Room) s m #[(.ref r0)] below meth c s₁ [] 0 0 := Stand.of_body Bd
  have e0 : s₁.heap = h0 := by rw [← hh, Bd.state]; rfl
  have N0 := Fr.nil n0
  refine own_by (p := p) (e := e) (below := below) (K := own_KR Z r0 h0 n0 s) (W' := s₁.setTop (mkF m 0 #[.val (.ref r0)] [])) (fun t k => castTop (efR m r0) k) ?_
  obtain ⟨T1, X1, e1, st1⟩ := initO X0 hx hZ hown (own_w hw 15) (own_w hw 16) (own_w hw 17) e0 (g := (mkF m 1 #[.val (.ref r0)] [(.ref r0)])) rfl (by rw [hml]; rfl) rfl (hb hby djdk_30_1_1) (by decide) (W := 0) (by show 2 * 0 + _ ≤ _; exact Nat.le_of_eq rfl) (by decide)
  obtain ⟨fs, hr, hrun, hended, hW, hsame⟩ := X1.leave (v := none) (fun _ => rfl)
  refine own_by (W' := (T1.setTop (mkF m 4 #[.val (.ref r0)] []))) (fun t k => XS.aloadN X0.here hx rfl (hb hby djdk_30_1_0) rfl rfl (st1 _ k)) ?_
  refine ⟨_, _, X1.returnOut hx Bd.returns (hb hby djdk_30_1_4) hr, hrun, hended, _, _, rfl, ?_, ⟨_, rfl⟩, hW, hsame.mono (by decide) (by decide)⟩
  exact ⟨rfl, N0, e1⟩
theorem pd_1 : parseMethodDescriptor "()V" = some ⟨[], none⟩ := by decide +kernel
theorem dprog_1_1_0 : decode prog_1_method_1_code 0 = .ok (.aload_n 0, 1) := by decide +kernel
theorem dprog_1_1_1 : decode prog_1_method_1_code 1 = .ok (.invokespecial 1, 3) := by decide +kernel
theorem dprog_1_1_4 : decode prog_1_method_1_code 4 = .ok (.aload_n 0, 1) := by decide +kernel
theorem dprog_1_1_5 : decode prog_1_method_1_code 5 = .ok (.aload_n 1, 1) := by decide +kernel
theorem dprog_1_1_6 : decode prog_1_method_1_code 6 = .ok (.putfield 7, 3) := by decide +kernel
theorem dprog_1_1_9 : decode prog_1_method_1_code 9 = .ok (.aload_n 0, 1) := by decide +kernel
theorem dprog_1_1_10 : decode prog_1_method_1_code 10 = .ok (.aload_n 2, 1) := by decide +kernel
theorem dprog_1_1_11 : decode prog_1_method_1_code 11 = .ok (.putfield 13, 3) := by decide +kernel
theorem dprog_1_1_14 : decode prog_1_method_1_code 14 = .ok (.aload_n 0, 1) := by decide +kernel
theorem dprog_1_1_15 : decode prog_1_method_1_code 15 = .ok (.lload_n 3, 1) := by decide +kernel
theorem dprog_1_1_16 : decode prog_1_method_1_code 16 = .ok (.putfield 17, 3) := by decide +kernel
theorem dprog_1_1_19 : decode prog_1_method_1_code 19 = .ok (.return_, 1) := by decide +kernel
theorem pn_com_example_slipway_slipway_Body : plainName "com/example/slipway/slipway/Body" = true := by first | (simp [plainName, overriddenIn]; done) | decide +kernel
theorem efI (m : MethodId) (r0 : Addr) (r1 : Addr) (q3 : Int64) : entryFrame m #[(.ref r0), (.ref r1), .null, (.long q3)] 5 = mkF m 0 #[.val (.ref r0), .val (.ref r1), .val .null, .val (.long q3), .second] [] := by first | (simp [entryFrame, mkF, argsToLocals, Value.category]; done) | rfl
def QI (Z : State) (r0 : Addr) (r1 : Addr) (q3 : Int64) (h0 : Heap) (n0 : Nat) (v : Option Value) (h : Heap) (L : List Loc) : Prop := v = none ∧ Fr n0 L ∧ Keep h0 h [r0] ∧ Exa Z h r0 "com/example/slipway/slipway/Body" ∧ Fld Z h r0 "com/example/slipway/slipway/Body" "bytes" "[B" (.ref r1) ∧ Fld Z h r0 "com/example/slipway/slipway/Body" "channel" "Ljava/nio/channels/FileChannel;" .null ∧ Fld Z h r0 "com/example/slipway/slipway/Body" "length" "J" (.long q3)
abbrev own_KI (Z : State) (r0 : Addr) (r1 : Addr) (q3 : Int64) (h0 : Heap) (n0 : Nat) (s : State) : Outcome → State → Prop := fun o U' => ∃ v L, o = .returned v ∧ QI Z r0 r1 q3 h0 n0 v U'.heap L ∧ FrameEnd s o U' L ({ frames := 2, cells := 0, slots := 0, locals := 24 } : Room).cells ({ frames := 2, cells := 0, slots := 0, locals := 24 } : Room).slots
set_option maxRecDepth 65536 in
set_option maxHeartbeats 40000000 in
theorem rmI (l : Launch) (Z : State) (a0 : Array Value) (hw : ∀ d ∈ tables_1, d.before a0 Z = true) (ws : List Jvm.Cond) (r0 : Addr) (r1 : Addr) (q3 : Int64) (h0 : Heap) (n0 : Nat) (Z0 : n0 ≤ h0.size) (O0 : Old Z n0 h0) (E0 : Exa Z h0 r0 "com/example/slipway/slipway/Body") (g_r0 : n0 ≤ r0) (F_bytes : Fld Z h0 r0 "com/example/slipway/slipway/Body" "bytes" "[B" .null) (F_channel : Fld Z h0 r0 "com/example/slipway/slipway/Body" "channel" "Ljava/nio/channels/FileChannel;" .null) (F_length : Fld Z h0 r0 "com/example/slipway/slipway/Body" "length" "J" (.long (0 : Int64))) :
    MetFree l (⟨"com/example/slipway/slipway/Body", "<init>", "([BLjava/nio/channels/FileChannel;J)V"⟩ : MethodName) (head1 (Jvm.Cond.code (⟨"com/example/slipway/slipway/Body", "<init>", "([BLjava/nio/channels/FileChannel;J)V"⟩ : MethodName) prog_1_method_1_code 5 none :: ws) ({ frames := 2, cells := 0, slots := 0, locals := 24 } : Room)) (fun a U => a = #[(.ref r0), (.ref r1), .null, (.long q3)] ∧ Z.Warmed39 U.vm ∧ U.heap = h0) (fun _ _ _ _ _ => True) (fun _ U o U' => ∃ v L, o = .returned v ∧ QI Z r0 r1 q3 h0 n0 v U'.heap L ∧ FrameEnd U o U' L ({ frames := 2, cells := 0, slots := 0, locals := 24 } : Room).cells ({ frames := 2, cells := 0, slots := 0, locals := 24 } : Room).slots) := by
  refine MetFree.of_bodySF (plainFor_of_name pn_com_example_slipway_slipway_Body) hisR ?_
  intro p e s m args below meth c s₁ Bd hml0 hP hK
  obtain ⟨rfl, hZ, hh⟩ := hP
  have hx := Bd.exec
  have hby := Bd.bytes
  have hml : c.maxLocals = 5 := hml0
  have hown : s.vm.findClass "com/example/slipway/slipway/Body" = some m.cls := findClass_of_methodNamed Bd.named
  have hnm := (name_of_methodNamed Bd.named Bd.method).1
  have X0 : Stand p l e ({ frames := 2, cells := 0, slots := 0, locals := 24 } : Room) s m #[(.ref r0), (.ref r1), .null, (.long q3)] below meth c s₁ [] 0 0 := Stand.of_body Bd
  have e0 : s₁.heap = h0 := by rw [← hh, Bd.state]; rfl
  have N0 := Fr.nil n0
  refine own_by (p := p) (e := e) (below := below) (K := own_KI Z r0 r1 q3 h0 n0 s) (W' := s₁.setTop (mkF m 0 #[.val (.ref r0), .val (.ref r1), .val .null, .val (.long q3), .second] [])) (fun t k => castTop (efI m r0 r1 q3) k) ?_
  obtain ⟨_, _, ⟨T1, L1, k1, n1⟩, -, X1, ⟨Lc1, hQ1, l1, y1, z1⟩, st1⟩ := X0.specialBack hx (y := (⟨"java/lang/Record", "<init>", "()V"⟩ : MethodName)) rfl hown (mvT hZ (own_w hw 10)) (mvT hZ (own_w hw 11)) (mvT hZ (own_w hw 14)) (by decide) (backOf (W := 0) (rmR l Z a0 hw [] r0 h0 n0 Z0 ) hZ (own_w hw 14) (own_w hw 13) (by decide) (by decide)) (g := (mkF m 1 #[.val (.ref r0), .val (.ref r1), .val .null, .val (.long q3), .second] [(.ref r0)])) rfl (by rw [hml]; rfl) (Steps.refl _) (a := r0) (argsL := []) (rest := []) (lenOf pd_1 rfl) rfl (by show 2 * 0 + _ ≤ _; exact Nat.le_of_eq rfl) (hb hby dprog_1_1_1) (fun _ _ => ⟨rfl, e0, (by decide : 0 + 0 ≤ _), (by decide : 0 + 0 ≤ _)⟩)
  dsimp only [Pt.U, Pt.locs, Pt.cells, Pt.slots] at X1 l1 y1 z1 st1 hQ1
  subst l1 y1 z1
  obtain ⟨rfl, N1q, e1⟩ := hQ1
  have N1 := Fr.app N0 N1q
  obtain ⟨T2, h2, X2, e2, W2, st2⟩ := putF X1 hx hZ hown (host := "") (Or.inl (own_w hw 18)) Via.refl e1 F_bytes E0 (Or.inr ⟨(own_w hw 19), rfl, hnm⟩) (own_w hw 6) (ty := (.array .byte)) (by decide) rfl rfl (g := (mkF m 6 #[.val (.ref r0), .val (.ref r1), .val .null, .val (.long q3), .second] [(.ref r1), (.ref r0)])) rfl rfl (hb hby dprog_1_1_6)
  have Fw2 := F_bytes.same W2
  have O2 := Old.wr O0 W2 g_r0
  have N2 := Fr.snoc X2 N1 g_r0
  have K2 := Keep.wr (Keep.refl h0 [r0]) W2 (Or.inl (List.mem_of_getElem? (i := 0) rfl))
  refine own_by (W' := (T2.setTop (mkF m 10 #[.val (.ref r0), .val (.ref r1), .val .null, .val (.long q3), .second] [(.ref r0)]))) (fun t k => XS.aloadN X0.here hx rfl (hb hby dprog_1_1_0) rfl rfl (Steps.trans st1 (XS.aloadN X1.here hx rfl (hb hby dprog_1_1_4) rfl rfl (XS.aloadN X1.here hx rfl (hb hby dprog_1_1_5) rfl rfl (st2 _ (XS.aloadN X2.here hx rfl (hb hby dprog_1_1_9) rfl rfl k)))))) ?_
  obtain ⟨T3, h3, X3, e3, W3, st3⟩ := putF X2 hx hZ hown (host := "") (Or.inl (own_w hw 20)) Via.refl e2 (F_channel.other W2 (Or.inr (slot_ne (Or.inr (own_w hw 21)) (Or.inr (own_w hw 19)) (by decide) (t := (.object "java/nio/channels/FileChannel")) (t' := (.array .byte)) (by decide) (by decide)))) (E0.wr W2) (Or.inr ⟨(own_w hw 21), rfl, hnm⟩) (own_w hw 6) (ty := (.object "java/nio/channels/FileChannel")) (by decide) rfl rfl (g := (mkF m 11 #[.val (.ref r0), .val (.ref r1), .val .null, .val (.long q3), .second] [.null, (.ref r0)])) rfl rfl (hb hby dprog_1_1_11)
  have Fw3 := (F_channel.other W2 (Or.inr (slot_ne (Or.inr (own_w hw 21)) (Or.inr (own_w hw 19)) (by decide) (t := (.object "java/nio/channels/FileChannel")) (t' := (.array .byte)) (by decide) (by decide)))).same W3
  have O3 := Old.wr O2 W3 g_r0
  have N3 := Fr.snoc X3 N2 g_r0
  have K3 := Keep.wr K2 W3 (Or.inl (List.mem_of_getElem? (i := 0) rfl))
  obtain ⟨T4, h4, X4, e4, W4, st4⟩ := putF X3 hx hZ hown (host := "") (Or.inl (own_w hw 22)) Via.refl e3 ((F_length.other W2 (Or.inr (slot_ne (Or.inr (own_w hw 23)) (Or.inr (own_w hw 19)) (by decide) (t := .long) (t' := (.array .byte)) (by decide) (by decide)))).other W3 (Or.inr (slot_ne (Or.inr (own_w hw 23)) (Or.inr (own_w hw 21)) (by decide) (t := .long) (t' := (.object "java/nio/channels/FileChannel")) (by decide) (by decide)))) ((E0.wr W2).wr W3) (Or.inr ⟨(own_w hw 23), rfl, hnm⟩) (own_w hw 6) (ty := .long) (by decide) rfl rfl (g := (mkF m 16 #[.val (.ref r0), .val (.ref r1), .val .null, .val (.long q3), .second] [(.long q3), (.ref r0)])) rfl rfl (hb hby dprog_1_1_16)
  have Fw4 := ((F_length.other W2 (Or.inr (slot_ne (Or.inr (own_w hw 23)) (Or.inr (own_w hw 19)) (by decide) (t := .long) (t' := (.array .byte)) (by decide) (by decide)))).other W3 (Or.inr (slot_ne (Or.inr (own_w hw 23)) (Or.inr (own_w hw 21)) (by decide) (t := .long) (t' := (.object "java/nio/channels/FileChannel")) (by decide) (by decide)))).same W4
  have O4 := Old.wr O3 W4 g_r0
  have N4 := Fr.snoc X4 N3 g_r0
  have K4 := Keep.wr K3 W4 (Or.inl (List.mem_of_getElem? (i := 0) rfl))
  obtain ⟨fs, hr, hrun, hended, hW, hsame⟩ := X4.leave (v := none) (fun _ => rfl)
  refine own_by (W' := (T4.setTop (mkF m 19 #[.val (.ref r0), .val (.ref r1), .val .null, .val (.long q3), .second] []))) (fun t k => XS.aloadN X2.here hx rfl (hb hby dprog_1_1_10) rfl rfl (st3 _ (XS.aloadN X3.here hx rfl (hb hby dprog_1_1_14) rfl rfl (XS.lloadN X3.here hx rfl (hb hby dprog_1_1_15) rfl (st4 _ k))))) ?_
  refine ⟨_, _, X4.returnOut hx Bd.returns (hb hby dprog_1_1_19) hr, hrun, hended, _, _, rfl, ?_, ⟨_, rfl⟩, hW, hsame.mono (by decide) (by decide)⟩
  show QI Z r0 r1 q3 h0 n0 _ T4.heap _
  rw [e4]
  exact ⟨rfl, N4, K4, (((E0.wr W2).wr W3).wr W4), ((Fw2.other W3 (Or.inr (slot_ne (Or.inr (own_w hw 19)) (Or.inr (own_w hw 21)) (by decide) (t := (.array .byte)) (t' := (.object "java/nio/channels/FileChannel")) (by decide) (by decide)))).other W4 (Or.inr (slot_ne (Or.inr (own_w hw 19)) (Or.inr (own_w hw 23)) (by decide) (t := (.array .byte)) (t' := .long) (by decide) (by decide)))), (Fw3.other W4 (Or.inr (slot_ne (Or.inr (own_w hw 21)) (Or.inr (own_w hw 23)) (by decide) (t := (.object "java/nio/channels/FileChannel")) (t' := .long) (by decide) (by decide)))), Fw4⟩
theorem pd_2 : parseMethodDescriptor "([BLjava/nio/channels/FileChannel;J)V" = some ⟨[(.array .byte), (.object "java/nio/channels/FileChannel"), .long], none⟩ := by decide +kernel
theorem dprog_1_2_0 : decode prog_1_method_2_code 0 = .ok (.new 8, 3) := by decide +kernel
theorem dprog_1_2_3 : decode prog_1_method_2_code 3 = .ok (.dup, 1) := by decide +kernel
theorem dprog_1_2_4 : decode prog_1_method_2_code 4 = .ok (.aload_n 0, 1) := by decide +kernel
theorem dprog_1_2_5 : decode prog_1_method_2_code 5 = .ok (.aconst_null, 1) := by decide +kernel
theorem dprog_1_2_6 : decode prog_1_method_2_code 6 = .ok (.aload_n 0, 1) := by decide +kernel
theorem dprog_1_2_7 : decode prog_1_method_2_code 7 = .ok (.arraylength, 1) := by decide +kernel
theorem dprog_1_2_8 : decode prog_1_method_2_code 8 = .ok (.i2l, 1) := by decide +kernel
theorem dprog_1_2_9 : decode prog_1_method_2_code 9 = .ok (.invokespecial 21, 3) := by decide +kernel
theorem dprog_1_2_12 : decode prog_1_method_2_code 12 = .ok (.areturn, 1) := by decide +kernel
theorem efF (m : MethodId) (r0 : Addr) : entryFrame m #[(.ref r0)] 1 = mkF m 0 #[.val (.ref r0)] [] := by first | (simp [entryFrame, mkF, argsToLocals, Value.category]; done) | rfl
def QF (Z : State) (r0 : Addr) (kc : ClassId) (zn : Int32) (vl : List Value) (dv : Value) (h0 : Heap) (n0 : Nat) (v : Option Value) (h : Heap) (L : List Loc) : Prop := ∃ q : Addr, v = some (.ref q) ∧ Fr n0 L ∧ Keep h0 h [] ∧ Exa Z h q "com/example/slipway/slipway/Body" ∧ Fld Z h q "com/example/slipway/slipway/Body" "bytes" "[B" (.ref r0) ∧ Fld Z h q "com/example/slipway/slipway/Body" "channel" "Ljava/nio/channels/FileChannel;" .null ∧ Fld Z h q "com/example/slipway/slipway/Body" "length" "J" (.long (zn.toInt64))
abbrev own_KF (Z : State) (r0 : Addr) (kc : ClassId) (zn : Int32) (vl : List Value) (dv : Value) (h0 : Heap) (n0 : Nat) (s : State) : Outcome → State → Prop := fun o U' => ∃ v L, o = .returned v ∧ QF Z r0 kc zn vl dv h0 n0 v U'.heap L ∧ FrameEnd s o U' L ({ frames := 3, cells := 1, slots := 3, locals := 41 } : Room).cells ({ frames := 3, cells := 1, slots := 3, locals := 41 } : Room).slots
set_option maxRecDepth 65536 in
set_option maxHeartbeats 40000000 in
theorem rmF (l : Launch) (Z : State) (a0 : Array Value) (hw : ∀ d ∈ tables_1, d.before a0 Z = true) (ws : List Jvm.Cond) (r0 : Addr) (kc : ClassId) (zn : Int32) (vl : List Value) (dv : Value) (h0 : Heap) (n0 : Nat) (Z0 : n0 ≤ h0.size) (O0 : Old Z n0 h0) (V0 : Arv Z h0 r0 kc .byte zn vl dv) :
    MetFree l (⟨"com/example/slipway/slipway/Body", "of", "([B)Lcom/example/slipway/slipway/Body;"⟩ : MethodName) (head1 (Jvm.Cond.code (⟨"com/example/slipway/slipway/Body", "of", "([B)Lcom/example/slipway/slipway/Body;"⟩ : MethodName) prog_1_method_2_code 1 (some (.object "com/example/slipway/slipway/Body")) :: ws) ({ frames := 3, cells := 1, slots := 3, locals := 41 } : Room)) (fun a U => a = #[(.ref r0)] ∧ Z.Warmed39 U.vm ∧ U.heap = h0) (fun _ _ _ _ _ => True) (fun _ U o U' => ∃ v L, o = .returned v ∧ QF Z r0 kc zn vl dv h0 n0 v U'.heap L ∧ FrameEnd U o U' L ({ frames := 3, cells := 1, slots := 3, locals := 41 } : Room).cells ({ frames := 3, cells := 1, slots := 3, locals := 41 } : Room).slots) := by
  refine MetFree.of_bodySF (plainFor_of_name pn_com_example_slipway_slipway_Body) hisR ?_
  intro p e s m args below meth c s₁ Bd hml0 hP hK
  obtain ⟨rfl, hZ, hh⟩ := hP
  have hx := Bd.exec
  have hby := Bd.bytes
  have hml : c.maxLocals = 1 := hml0
  have hown : s.vm.findClass "com/example/slipway/slipway/Body" = some m.cls := findClass_of_methodNamed Bd.named
  have hnm := (name_of_methodNamed Bd.named Bd.method).1
  have X0 : Stand p l e ({ frames := 3, cells := 1, slots := 3, locals := 41 } : Room) s m #[(.ref r0)] below meth c s₁ [] 0 0 := Stand.of_body Bd
  have e0 : s₁.heap = h0 := by rw [← hh, Bd.state]; rfl
  have N0 := Fr.nil n0
  refine own_by (p := p) (e := e) (below := below) (K := own_KF Z r0 kc zn vl dv h0 n0 s) (W' := s₁.setTop (mkF m 0 #[.val (.ref r0)] [])) (fun t k => castTop (efF m r0) k) ?_
  obtain ⟨T1, h1, X1, e1, E1, A1, D1, -, st1⟩ := newO X0 hx hZ hown (own_w hw 5) (own_w hw 6) (own_w hw 3) e0 (g := (mkF m 0 #[.val (.ref r0)] [])) rfl (hb hby dprog_1_2_0) (by decide) (by decide)
  obtain ⟨b1, g1⟩ : ∃ z, z = h0.size := ⟨_, rfl⟩
  rw [← g1] at A1 D1 st1
  have g_b1 : n0 ≤ b1 := Nat.le_trans (own_le O0) (Nat.le_of_eq g1.symm)
  have sz_b1 : h0.size ≤ b1 := Nat.le_trans (Keep.refl h0 []).1 (Nat.le_of_eq g1.symm)
  have ne_r0_b1 : r0 ≠ b1 := Nat.ne_of_lt (Nat.lt_of_lt_of_le V0.lt (Nat.le_of_eq g1.symm))
  have O1 := O0.ext E1
  have K1 := Keep.ext (Keep.refl h0 []) E1
  have F_bytes_b1 : Fld Z h1 b1 "com/example/slipway/slipway/Body" "bytes" "[B" .null := D1 (Or.inr (own_w hw 19)) (ty := (.array .byte)) (by decide)
  have F_channel_b1 : Fld Z h1 b1 "com/example/slipway/slipway/Body" "channel" "Ljava/nio/channels/FileChannel;" .null := D1 (Or.inr (own_w hw 21)) (ty := (.object "java/nio/channels/FileChannel")) (by decide)
  have F_length_b1 : Fld Z h1 b1 "com/example/slipway/slipway/Body" "length" "J" (.long (0 : Int64)) := D1 (Or.inr (own_w hw 23)) (ty := .long) (by decide)
  obtain ⟨clu2, Aru2, qu2, Su2, Ngu2, Hau2, Gau2⟩ := (V0.ext E1)
  refine own_by (W' := (T1.setTop (mkF m 8 #[.val (.ref r0)] [(.int clu2.slots.size.toInt32), .null, (.ref r0), (.ref b1), (.ref b1)]))) (fun t k => st1 _ (XS.dup X1.here hx rfl (hb hby dprog_1_2_3) rfl rfl (XS.aloadN X1.here hx rfl (hb hby dprog_1_2_4) rfl rfl (XS.aconstNull X1.here hx rfl (hb hby dprog_1_2_5) (XS.aloadN X1.here hx rfl (hb hby dprog_1_2_6) rfl rfl ((X1.arraylength hx (by rw [e1]; exact Aru2.1) (State.isArrayOf_alike hZ.alike Aru2.2.1) (g := (mkF m 7 #[.val (.ref r0)] [(.ref r0), .null, (.ref r0), (.ref b1), (.ref b1)])) rfl rfl (hb hby dprog_1_2_7)) _ k)))))) ?_
  rw [len_of Su2 Ngu2]
  obtain ⟨_, _, ⟨T3, L3, k3, n3⟩, -, X3, ⟨Lc3, hQ3, l3, y3, z3⟩, st3⟩ := X1.specialBack hx (y := (⟨"com/example/slipway/slipway/Body", "<init>", "([BLjava/nio/channels/FileChannel;J)V"⟩ : MethodName)) rfl hown (mvT hZ (own_w hw 7)) (mvT hZ (own_w hw 8)) (mvT hZ (own_w hw 9)) (by decide) (backOf (W := 1) (rmI l Z a0 hw [] b1 r0 (zn.toInt64) h1 n0 (own_le O1) O1 A1 g_b1 F_bytes_b1 F_channel_b1 F_length_b1) hZ (own_w hw 9) (own_w hw 3) (by decide) (by decide)) (g := (mkF m 9 #[.val (.ref r0)] [(.long (zn.toInt64)), .null, (.ref r0), (.ref b1), (.ref b1)])) rfl (by rw [hml]; rfl) (Steps.refl _) (a := b1) (argsL := [(.ref r0), .null, (.long (zn.toInt64))]) (rest := [(.ref b1)]) (lenOf pd_2 rfl) rfl (by show 2 * 0 + _ ≤ _; exact Nat.le_of_eq rfl) (hb hby dprog_1_2_9) (fun _ _ => ⟨rfl, e1, (by decide : 1 + 0 ≤ _), (by decide : 3 + 0 ≤ _)⟩)
  dsimp only [Pt.U, Pt.locs, Pt.cells, Pt.slots] at X3 l3 y3 z3 st3 hQ3
  subst l3 y3 z3
  obtain ⟨rfl, N3q, Kq3, Eq3, Fq3_bytes, Fq3_channel, Fq3_length⟩ := hQ3
  have O3 := Old.keep O1 Kq3 (allS g_b1 all0)
  have K3 := Keep.trans K1 Kq3 (allS (Or.inr sz_b1) all0)
  have N3 := Fr.app N0 N3q
  obtain ⟨fs, hr, hrun, hended, hW, hsame⟩ := X3.leave (v := some (.ref b1)) (fun h => by rw [Bd.returns] at h; cases h)
  refine own_by (W' := (T3.setTop (mkF m 12 #[.val (.ref r0)] [(.ref b1)]))) (fun t k => XS.i2l X1.here hx rfl (hb hby dprog_1_2_8) rfl (Steps.trans st3 k)) ?_
  refine ⟨_, _, retOut X3 hx Bd.returns rfl (Or.inr (Or.inr (Or.inr (Or.inr ⟨rfl, rfl, rfl⟩)))) (hb hby dprog_1_2_12) hr, hrun, hended, _, _, rfl, ?_, ⟨_, rfl⟩, hW, hsame.mono (by decide) (by decide)⟩
  show QF Z r0 kc zn vl dv h0 n0 _ T3.heap _
  exact ⟨_, rfl, N3, K3, Eq3, Fq3_bytes, Fq3_channel, Fq3_length⟩
theorem dprog_1_8_0 : decode prog_1_method_8_code 0 = .ok (.aload_n 0, 1) := by decide +kernel
theorem dprog_1_8_1 : decode prog_1_method_8_code 1 = .ok (.getfield 7, 3) := by decide +kernel
theorem dprog_1_8_4 : decode prog_1_method_8_code 4 = .ok (.areturn, 1) := by decide +kernel
theorem efGbytes (m : MethodId) (r0 : Addr) : entryFrame m #[(.ref r0)] 1 = mkF m 0 #[.val (.ref r0)] [] := by first | (simp [entryFrame, mkF, argsToLocals, Value.category]; done) | rfl
def QGbytes (Z : State) (r0 : Addr) (xv : Addr) (h0 : Heap) (n0 : Nat) (v : Option Value) (h : Heap) (L : List Loc) : Prop := v = some (.ref xv) ∧ Fr n0 L ∧ h = h0
abbrev own_KGbytes (Z : State) (r0 : Addr) (xv : Addr) (h0 : Heap) (n0 : Nat) (s : State) : Outcome → State → Prop := fun o U' => ∃ v L, o = .returned v ∧ QGbytes Z r0 xv h0 n0 v U'.heap L ∧ FrameEnd s o U' L ({ frames := 0, cells := 0, slots := 0, locals := 0 } : Room).cells ({ frames := 0, cells := 0, slots := 0, locals := 0 } : Room).slots
set_option maxRecDepth 65536 in
set_option maxHeartbeats 40000000 in
theorem rmGbytes (l : Launch) (Z : State) (a0 : Array Value) (hw : ∀ d ∈ tables_1, d.before a0 Z = true) (ws : List Jvm.Cond) (r0 : Addr) (xv : Addr) (h0 : Heap) (n0 : Nat) (Z0 : n0 ≤ h0.size) (Ff : Fld Z h0 r0 "com/example/slipway/slipway/Body" "bytes" "[B" (.ref xv)) :
    MetFree l (⟨"com/example/slipway/slipway/Body", "bytes", "()[B"⟩ : MethodName) (head1 (Jvm.Cond.code (⟨"com/example/slipway/slipway/Body", "bytes", "()[B"⟩ : MethodName) prog_1_method_8_code 1 (some (.array .byte)) :: ws) ({ frames := 0, cells := 0, slots := 0, locals := 0 } : Room)) (fun a U => a = #[(.ref r0)] ∧ Z.Warmed39 U.vm ∧ U.heap = h0) (fun _ _ _ _ _ => True) (fun _ U o U' => ∃ v L, o = .returned v ∧ QGbytes Z r0 xv h0 n0 v U'.heap L ∧ FrameEnd U o U' L ({ frames := 0, cells := 0, slots := 0, locals := 0 } : Room).cells ({ frames := 0, cells := 0, slots := 0, locals := 0 } : Room).slots) := by
  refine MetFree.of_bodySF (plainFor_of_name pn_com_example_slipway_slipway_Body) hisR ?_
  intro p e s m args below meth c s₁ Bd hml0 hP hK
  obtain ⟨rfl, hZ, hh⟩ := hP
  have hx := Bd.exec
  have hby := Bd.bytes
  have hml : c.maxLocals = 1 := hml0
  have hown : s.vm.findClass "com/example/slipway/slipway/Body" = some m.cls := findClass_of_methodNamed Bd.named
  have hnm := (name_of_methodNamed Bd.named Bd.method).1
  have X0 : Stand p l e ({ frames := 0, cells := 0, slots := 0, locals := 0 } : Room) s m #[(.ref r0)] below meth c s₁ [] 0 0 := Stand.of_body Bd
  have e0 : s₁.heap = h0 := by rw [← hh, Bd.state]; rfl
  have N0 := Fr.nil n0
  refine own_by (p := p) (e := e) (below := below) (K := own_KGbytes Z r0 xv h0 n0 s) (W' := s₁.setTop (mkF m 0 #[.val (.ref r0)] [])) (fun t k => castTop (efGbytes m r0) k) ?_
  obtain ⟨T1, X1, e1, st1⟩ := getF X0 hx hZ hown (host := "") (Or.inl (own_w hw 18)) Via.refl e0 Ff (g := (mkF m 1 #[.val (.ref r0)] [(.ref r0)])) rfl rfl (hb hby dprog_1_8_1)
  obtain ⟨fs, hr, hrun, hended, hW, hsame⟩ := X1.leave (v := some (.ref xv)) (fun h => by rw [Bd.returns] at h; cases h)
  refine own_by (W' := (T1.setTop (mkF m 4 #[.val (.ref r0)] [(.ref xv)]))) (fun t k => XS.aloadN X0.here hx rfl (hb hby dprog_1_8_0) rfl rfl (st1 _ k)) ?_
  refine ⟨_, _, retOut X1 hx Bd.returns rfl (Or.inr (Or.inr (Or.inr (Or.inr ⟨rfl, rfl, rfl⟩)))) (hb hby dprog_1_8_4) hr, hrun, hended, _, _, rfl, ?_, ⟨_, rfl⟩, hW, hsame.mono (by decide) (by decide)⟩
  exact ⟨rfl, N0, e1⟩
theorem dprog_1_9_0 : decode prog_1_method_9_code 0 = .ok (.aload_n 0, 1) := by decide +kernel
theorem dprog_1_9_1 : decode prog_1_method_9_code 1 = .ok (.getfield 13, 3) := by decide +kernel
theorem dprog_1_9_4 : decode prog_1_method_9_code 4 = .ok (.areturn, 1) := by decide +kernel
theorem efGchannel (m : MethodId) (r0 : Addr) : entryFrame m #[(.ref r0)] 1 = mkF m 0 #[.val (.ref r0)] [] := by first | (simp [entryFrame, mkF, argsToLocals, Value.category]; done) | rfl
def QGchannel (Z : State) (r0 : Addr) (h0 : Heap) (n0 : Nat) (v : Option Value) (h : Heap) (L : List Loc) : Prop := v = some .null ∧ Fr n0 L ∧ h = h0
abbrev own_KGchannel (Z : State) (r0 : Addr) (h0 : Heap) (n0 : Nat) (s : State) : Outcome → State → Prop := fun o U' => ∃ v L, o = .returned v ∧ QGchannel Z r0 h0 n0 v U'.heap L ∧ FrameEnd s o U' L ({ frames := 0, cells := 0, slots := 0, locals := 0 } : Room).cells ({ frames := 0, cells := 0, slots := 0, locals := 0 } : Room).slots
set_option maxRecDepth 65536 in
set_option maxHeartbeats 40000000 in
theorem rmGchannel (l : Launch) (Z : State) (a0 : Array Value) (hw : ∀ d ∈ tables_1, d.before a0 Z = true) (ws : List Jvm.Cond) (r0 : Addr) (h0 : Heap) (n0 : Nat) (Z0 : n0 ≤ h0.size) (Ff : Fld Z h0 r0 "com/example/slipway/slipway/Body" "channel" "Ljava/nio/channels/FileChannel;" .null) :
    MetFree l (⟨"com/example/slipway/slipway/Body", "channel", "()Ljava/nio/channels/FileChannel;"⟩ : MethodName) (head1 (Jvm.Cond.code (⟨"com/example/slipway/slipway/Body", "channel", "()Ljava/nio/channels/FileChannel;"⟩ : MethodName) prog_1_method_9_code 1 (some (.object "java/nio/channels/FileChannel")) :: ws) ({ frames := 0, cells := 0, slots := 0, locals := 0 } : Room)) (fun a U => a = #[(.ref r0)] ∧ Z.Warmed39 U.vm ∧ U.heap = h0) (fun _ _ _ _ _ => True) (fun _ U o U' => ∃ v L, o = .returned v ∧ QGchannel Z r0 h0 n0 v U'.heap L ∧ FrameEnd U o U' L ({ frames := 0, cells := 0, slots := 0, locals := 0 } : Room).cells ({ frames := 0, cells := 0, slots := 0, locals := 0 } : Room).slots) := by
  refine MetFree.of_bodySF (plainFor_of_name pn_com_example_slipway_slipway_Body) hisR ?_
  intro p e s m args below meth c s₁ Bd hml0 hP hK
  obtain ⟨rfl, hZ, hh⟩ := hP
  have hx := Bd.exec
  have hby := Bd.bytes
  have hml : c.maxLocals = 1 := hml0
  have hown : s.vm.findClass "com/example/slipway/slipway/Body" = some m.cls := findClass_of_methodNamed Bd.named
  have hnm := (name_of_methodNamed Bd.named Bd.method).1
  have X0 : Stand p l e ({ frames := 0, cells := 0, slots := 0, locals := 0 } : Room) s m #[(.ref r0)] below meth c s₁ [] 0 0 := Stand.of_body Bd
  have e0 : s₁.heap = h0 := by rw [← hh, Bd.state]; rfl
  have N0 := Fr.nil n0
  refine own_by (p := p) (e := e) (below := below) (K := own_KGchannel Z r0 h0 n0 s) (W' := s₁.setTop (mkF m 0 #[.val (.ref r0)] [])) (fun t k => castTop (efGchannel m r0) k) ?_
  obtain ⟨T1, X1, e1, st1⟩ := getF X0 hx hZ hown (host := "") (Or.inl (own_w hw 20)) Via.refl e0 Ff (g := (mkF m 1 #[.val (.ref r0)] [(.ref r0)])) rfl rfl (hb hby dprog_1_9_1)
  obtain ⟨fs, hr, hrun, hended, hW, hsame⟩ := X1.leave (v := some .null) (fun h => by rw [Bd.returns] at h; cases h)
  refine own_by (W' := (T1.setTop (mkF m 4 #[.val (.ref r0)] [.null]))) (fun t k => XS.aloadN X0.here hx rfl (hb hby dprog_1_9_0) rfl rfl (st1 _ k)) ?_
  refine ⟨_, _, retOut X1 hx Bd.returns rfl (Or.inr (Or.inr (Or.inr (Or.inr ⟨rfl, rfl, rfl⟩)))) (hb hby dprog_1_9_4) hr, hrun, hended, _, _, rfl, ?_, ⟨_, rfl⟩, hW, hsame.mono (by decide) (by decide)⟩
  exact ⟨rfl, N0, e1⟩
theorem dprog_1_10_0 : decode prog_1_method_10_code 0 = .ok (.aload_n 0, 1) := by decide +kernel
theorem dprog_1_10_1 : decode prog_1_method_10_code 1 = .ok (.getfield 17, 3) := by decide +kernel
theorem dprog_1_10_4 : decode prog_1_method_10_code 4 = .ok (.lreturn, 1) := by decide +kernel
theorem efGlength (m : MethodId) (r0 : Addr) : entryFrame m #[(.ref r0)] 1 = mkF m 0 #[.val (.ref r0)] [] := by first | (simp [entryFrame, mkF, argsToLocals, Value.category]; done) | rfl
def QGlength (Z : State) (r0 : Addr) (xv : Int64) (h0 : Heap) (n0 : Nat) (v : Option Value) (h : Heap) (L : List Loc) : Prop := v = some (.long xv) ∧ Fr n0 L ∧ h = h0
abbrev own_KGlength (Z : State) (r0 : Addr) (xv : Int64) (h0 : Heap) (n0 : Nat) (s : State) : Outcome → State → Prop := fun o U' => ∃ v L, o = .returned v ∧ QGlength Z r0 xv h0 n0 v U'.heap L ∧ FrameEnd s o U' L ({ frames := 0, cells := 0, slots := 0, locals := 0 } : Room).cells ({ frames := 0, cells := 0, slots := 0, locals := 0 } : Room).slots
set_option maxRecDepth 65536 in
set_option maxHeartbeats 40000000 in
theorem rmGlength (l : Launch) (Z : State) (a0 : Array Value) (hw : ∀ d ∈ tables_1, d.before a0 Z = true) (ws : List Jvm.Cond) (r0 : Addr) (xv : Int64) (h0 : Heap) (n0 : Nat) (Z0 : n0 ≤ h0.size) (Ff : Fld Z h0 r0 "com/example/slipway/slipway/Body" "length" "J" (.long xv)) :
    MetFree l (⟨"com/example/slipway/slipway/Body", "length", "()J"⟩ : MethodName) (head1 (Jvm.Cond.code (⟨"com/example/slipway/slipway/Body", "length", "()J"⟩ : MethodName) prog_1_method_10_code 1 (some .long) :: ws) ({ frames := 0, cells := 0, slots := 0, locals := 0 } : Room)) (fun a U => a = #[(.ref r0)] ∧ Z.Warmed39 U.vm ∧ U.heap = h0) (fun _ _ _ _ _ => True) (fun _ U o U' => ∃ v L, o = .returned v ∧ QGlength Z r0 xv h0 n0 v U'.heap L ∧ FrameEnd U o U' L ({ frames := 0, cells := 0, slots := 0, locals := 0 } : Room).cells ({ frames := 0, cells := 0, slots := 0, locals := 0 } : Room).slots) := by
  refine MetFree.of_bodySF (plainFor_of_name pn_com_example_slipway_slipway_Body) hisR ?_
  intro p e s m args below meth c s₁ Bd hml0 hP hK
  obtain ⟨rfl, hZ, hh⟩ := hP
  have hx := Bd.exec
  have hby := Bd.bytes
  have hml : c.maxLocals = 1 := hml0
  have hown : s.vm.findClass "com/example/slipway/slipway/Body" = some m.cls := findClass_of_methodNamed Bd.named
  have hnm := (name_of_methodNamed Bd.named Bd.method).1
  have X0 : Stand p l e ({ frames := 0, cells := 0, slots := 0, locals := 0 } : Room) s m #[(.ref r0)] below meth c s₁ [] 0 0 := Stand.of_body Bd
  have e0 : s₁.heap = h0 := by rw [← hh, Bd.state]; rfl
  have N0 := Fr.nil n0
  refine own_by (p := p) (e := e) (below := below) (K := own_KGlength Z r0 xv h0 n0 s) (W' := s₁.setTop (mkF m 0 #[.val (.ref r0)] [])) (fun t k => castTop (efGlength m r0) k) ?_
  obtain ⟨T1, X1, e1, st1⟩ := getF X0 hx hZ hown (host := "") (Or.inl (own_w hw 22)) Via.refl e0 Ff (g := (mkF m 1 #[.val (.ref r0)] [(.ref r0)])) rfl rfl (hb hby dprog_1_10_1)
  obtain ⟨fs, hr, hrun, hended, hW, hsame⟩ := X1.leave (v := some (.long xv)) (fun h => by rw [Bd.returns] at h; cases h)
  refine own_by (W' := (T1.setTop (mkF m 4 #[.val (.ref r0)] [(.long xv)]))) (fun t k => XS.aloadN X0.here hx rfl (hb hby dprog_1_10_0) rfl rfl (st1 _ k)) ?_
  refine ⟨_, _, retOut X1 hx Bd.returns rfl (Or.inr (Or.inl ⟨rfl, rfl, _, rfl⟩)) (hb hby dprog_1_10_4) hr, hrun, hended, _, _, rfl, ?_, ⟨_, rfl⟩, hW, hsame.mono (by decide) (by decide)⟩
  exact ⟨rfl, N0, e1⟩
theorem own_and3 (p : Int32) : (p &&& 3) = (0 : Int32) ∨ (p &&& 3) = (1 : Int32) ∨ (p &&& 3) = (2 : Int32) ∨ (p &&& 3) = (3 : Int32) := by
  have e : (p &&& 3).toInt = p.toInt % 2 ^ 2 := Jvm.Kit.i32_mask p 3 (k := 2) (by decide) (by decide)
  have : (p &&& 3).toInt = 0 ∨ (p &&& 3).toInt = 1 ∨ (p &&& 3).toInt = 2 ∨ (p &&& 3).toInt = 3 := by omega
  rcases this with h | h | h | h
  · exact Or.inl (Int32.toInt_inj.mp h)
  · exact Or.inr (Or.inl (Int32.toInt_inj.mp h))
  · exact Or.inr (Or.inr (Or.inl (Int32.toInt_inj.mp h)))
  · exact Or.inr (Or.inr (Or.inr (Int32.toInt_inj.mp h)))
theorem own_narb (x : Int32) : nar .byte (x.toInt8.toInt32) = x.toInt8.toInt32 := by
  show ((x.toInt8.toInt32).toInt8).toInt32 = _
  rw [Int8.toInt8_toInt32]

theorem pd_3 : parseMethodDescriptor "([B)Lcom/example/slipway/slipway/Body;" = some ⟨[(.array .byte)], some (.object "com/example/slipway/slipway/Body")⟩ := by decide +kernel
theorem pd_4 : parseMethodDescriptor "()Ljava/nio/channels/FileChannel;" = some ⟨[], some (.object "java/nio/channels/FileChannel")⟩ := by decide +kernel
theorem pd_5 : parseMethodDescriptor "()J" = some ⟨[], some .long⟩ := by decide +kernel
theorem pd_6 : parseMethodDescriptor "()[B" = some ⟨[], some (.array .byte)⟩ := by decide +kernel
theorem pn_com_example_slipway_slipway_BodyOfPinLaw : plainName "com/example/slipway/slipway/BodyOfPinLaw" = true := by first | (simp [plainName, overriddenIn]; done) | decide +kernel
theorem efL (m : MethodId) (p0 : Int32) (p1 : Int32) (p2 : Int32) (p3 : Int32) : entryFrame m #[(.int p0), (.int p1), (.int p2), (.int p3)] maxLocals = mkF m 0 #[.val (.int p0), .val (.int p1), .val (.int p2), .val (.int p3), .unset, .unset, .unset, .unset] [] := by first | (simp [entryFrame, mkF, argsToLocals, Value.category, maxLocals]; done) | rfl
def QL (Z : State) (p0 : Int32) (p1 : Int32) (p2 : Int32) (p3 : Int32) (h0 : Heap) (n0 : Nat) (v : Option Value) (h : Heap) (L : List Loc) : Prop := v = some (.int 1) ∧ Fr n0 L
abbrev own_KL (Z : State) (p0 : Int32) (p1 : Int32) (p2 : Int32) (p3 : Int32) (h0 : Heap) (n0 : Nat) (s : State) : Outcome → State → Prop := fun o U' => ∃ v L, o = .returned v ∧ QL Z p0 p1 p2 p3 h0 n0 v U'.heap L ∧ FrameEnd s o U' L room_1.cells room_1.slots
set_option maxRecDepth 65536 in
set_option maxHeartbeats 40000000 in
theorem rmL (l : Launch) (Z : State) (a0 : Array Value) (hw : ∀ d ∈ tables_1, d.before a0 Z = true) (ws : List Jvm.Cond) (p0 : Int32) (p1 : Int32) (p2 : Int32) (p3 : Int32) (h0 : Heap) (n0 : Nat) (Z0 : n0 ≤ h0.size) (O0 : Old Z n0 h0) :
    MetFree l x (head1 (Jvm.Cond.code x code maxLocals ret :: ws) room_1) (fun a U => a = #[(.int p0), (.int p1), (.int p2), (.int p3)] ∧ Z.Warmed39 U.vm ∧ U.heap = h0) (fun _ _ _ _ _ => True) (fun _ U o U' => ∃ v L, o = .returned v ∧ QL Z p0 p1 p2 p3 h0 n0 v U'.heap L ∧ FrameEnd U o U' L room_1.cells room_1.slots) := by
  refine MetFree.of_bodySF (plainFor_of_name pn_com_example_slipway_slipway_BodyOfPinLaw) hisR ?_
  intro p e s m args below meth c s₁ Bd hml0 hP hK
  obtain ⟨rfl, hZ, hh⟩ := hP
  have hx := Bd.exec
  have hby := Bd.bytes
  have hml : c.maxLocals = 8 := hml0
  have hown : s.vm.findClass "com/example/slipway/slipway/BodyOfPinLaw" = some m.cls := findClass_of_methodNamed Bd.named
  have hnm := (name_of_methodNamed Bd.named Bd.method).1
  have X0 : Stand p l e room_1 s m #[(.int p0), (.int p1), (.int p2), (.int p3)] below meth c s₁ [] 0 0 := Stand.of_body Bd
  have e0 : s₁.heap = h0 := by rw [← hh, Bd.state]; rfl
  have N0 := Fr.nil n0
  refine own_by (p := p) (e := e) (below := below) (K := own_KL Z p0 p1 p2 p3 h0 n0 s) (W' := s₁.setTop (mkF m 0 #[.val (.int p0), .val (.int p1), .val (.int p2), .val (.int p3), .unset, .unset, .unset, .unset] [])) (fun t k => castTop (efL m p0 p1 p2 p3) k) ?_
  refine own_by (W' := (s₁.setTop (mkF m 5 #[.val (.int p0), .val (.int p1), .val (.int p2), .val (.int p3), .val (.int (p0 &&& (3 : Int32))), .unset, .unset, .unset] []))) (fun t k => XS.iloadN X0.here hx rfl (hb hby at_0) rfl (XS.iconst X0.here hx rfl (hb hby at_1) (XS.iand X0.here hx rfl (hb hby at_2) rfl (XS.istore X0.here hx rfl (hb hby at_3) rfl (l' := #[.val (.int p0), .val (.int p1), .val (.int p2), .val (.int p3), .val (.int (p0 &&& (3 : Int32))), .unset, .unset, .unset]) rfl k)))) ?_
  rcases own_and3 p0 with hs | hs | hs | hs
  ·
    rw [hs]
    obtain ⟨T1, h1, k1, X1, e1, E1, A1, st1⟩ := newP X0 hx hZ (own_w hw 0) e0 (g := (mkF m 7 #[.val (.int p0), .val (.int p1), .val (.int p2), .val (.int p3), .val (.int (0 : Int32)), .unset, .unset, .unset] [(.int (0 : Int32))])) rfl (hb hby at_7) rfl (by decide) (cap := 0) (by decide) (by decide) (by decide) (by decide)
    obtain ⟨b1, g1⟩ : ∃ z, z = h0.size := ⟨_, rfl⟩
    rw [← g1] at A1 st1
    have g_b1 : n0 ≤ b1 := Nat.le_trans (own_le O0) (Nat.le_of_eq g1.symm)
    have sz_b1 : h0.size ≤ b1 := Nat.le_trans (Keep.refl h0 []).1 (Nat.le_of_eq g1.symm)
    have O1 := O0.ext E1
    have K1 := Keep.ext (Keep.refl h0 []) E1
    have V_b1 : Arv Z h1 b1 k1 .byte (0 : Int32) [] (.int (0 : Int32)) := Arv.new A1 (by decide)
    refine own_by (W' := (T1.setTop (mkF m 24 #[.val (.int p0), .val (.int p1), .val (.int p2), .val (.int p3), .val (.int (0 : Int32)), .val (.ref b1), .unset, .unset] [(.int (0 : Int32))]))) (fun t k => XS.iload X0.here hx rfl (hb hby at_5) rfl (st1 _ (XS.astore X1.here hx rfl (hb hby at_9) rfl rfl (l' := #[.val (.int p0), .val (.int p1), .val (.int p2), .val (.int p3), .val (.int (0 : Int32)), .val (.ref b1), .unset, .unset]) rfl (XS.iload X1.here hx rfl (hb hby at_11) rfl (XS.ifYes X1.here hx rfl (pc0 := 13) (pc' := 22) rfl (hb hby at_13) rfl ((if0 _ _).trans (flt (by decide : ¬ ((0 : Int32) < (0 : Int32)))).2.2.2) (by decide) (by decide) (XS.iload X1.here hx rfl (hb hby at_22) rfl k)))))) ?_
    refine own_by (W' := (T1.setTop (mkF m 48 #[.val (.int p0), .val (.int p1), .val (.int p2), .val (.int p3), .val (.int (0 : Int32)), .val (.ref b1), .unset, .unset] [(.ref b1)]))) (fun t k => XS.iconst X1.here hx rfl (hb hby at_24) (XS.icmpYes X1.here hx rfl (pc0 := 25) (pc' := 34) rfl (hb hby at_25) rfl (flt (by decide : ¬ ((1 : Int32) < (0 : Int32)))).2.2.2 (by decide) (by decide) (XS.iload X1.here hx rfl (hb hby at_34) rfl (XS.iconst X1.here hx rfl (hb hby at_36) (XS.icmpYes X1.here hx rfl (pc0 := 37) (pc' := 46) rfl (hb hby at_37) rfl (flt (by decide : ¬ ((2 : Int32) < (0 : Int32)))).2.2.2 (by decide) (by decide) (XS.aload X1.here hx rfl (hb hby at_46) rfl rfl k)))))) ?_
    obtain ⟨_, _, ⟨T2, L2, k2, n2⟩, -, X2, ⟨Lc2, hQ2, l2, y2, z2⟩, st2⟩ := Jvm.LawKit.callS X1 hx (y := (⟨"com/example/slipway/slipway/Body", "of", "([B)Lcom/example/slipway/slipway/Body;"⟩ : MethodName)) hown (mvT hZ (own_w hw 1)) (mvT hZ (own_w hw 2)) (mvT hZ (own_w hw 3)) (mvT hZ (own_w hw 4)) (by decide) (backOf (W := 0) (rmF l Z a0 hw [] b1 k1 (0 : Int32) [] (.int (0 : Int32)) h1 n0 (own_le O1) O1 V_b1) hZ (own_w hw 4) (own_w hw 3) (by decide) (by decide)) (g := (mkF m 48 #[.val (.int p0), .val (.int p1), .val (.int p2), .val (.int p3), .val (.int (0 : Int32)), .val (.ref b1), .unset, .unset] [(.ref b1)])) rfl (by rw [hml]; rfl) (argsL := [(.ref b1)]) (rest := []) (lenOf pd_3 rfl) rfl (by show 2 * 0 + _ ≤ _; exact Nat.le_of_eq rfl) (hb hby at_48) (fun _ _ => ⟨rfl, e1, (by decide : 1 + 1 ≤ _), (by decide : 0 + 3 ≤ _)⟩)
    dsimp only [Pt.U, Pt.locs, Pt.cells, Pt.slots] at X2 l2 y2 z2 st2 hQ2
    subst l2 y2 z2
    obtain ⟨q2, rfl, N2q, Kq2, Eq2, Fq2_bytes, Fq2_channel, Fq2_length⟩ := hQ2
    have O2 := Old.keep O1 Kq2 all0
    have K2 := Keep.trans K1 Kq2 all0
    have N2 := Fr.app N0 N2q
    obtain ⟨cq3, kq3, q3a, q3b, q3c⟩ := isOf hZ rfl Eq2
    obtain ⟨_, _, ⟨T3, L3, k3, n3⟩, -, X3, ⟨Lc3, hQ3, l3, y3, z3⟩, st3⟩ := X2.virtualBack hx (y := (⟨"com/example/slipway/slipway/Body", "channel", "()Ljava/nio/channels/FileChannel;"⟩ : MethodName)) (z := (⟨"com/example/slipway/slipway/Body", "channel", "()Ljava/nio/channels/FileChannel;"⟩ : MethodName)) hown (mvT hZ (own_w hw 24)) (mvT hZ (own_w hw 25)) (notFace_of_selects (args := #[]) (mvT hZ (own_w hw 27))) (mvT hZ (own_w hw 27)) (mvT hZ (own_w hw 26)) (by decide) (backOf (W := 0) (rmGchannel l Z a0 hw [] q2 T2.heap n0 (own_le O2) Fq2_channel) hZ (own_w hw 28) (own_w hw 3) (by decide) (by decide)) q3a q3c (g := (mkF m 55 #[.val (.int p0), .val (.int p1), .val (.int p2), .val (.int p3), .val (.int (0 : Int32)), .val (.ref b1), .val (.ref q2), .unset] [(.ref q2)])) rfl (by rw [hml]; rfl) (Steps.refl _) (argsL := []) (rest := []) (lenOf pd_4 rfl) rfl (by show 2 * 0 + _ ≤ _; exact Nat.le_of_eq rfl) (hb hby at_55) (fun _ _ => ⟨rfl, rfl, (by decide : 2 + 0 ≤ _), (by decide : 3 + 0 ≤ _)⟩)
    dsimp only [Pt.U, Pt.locs, Pt.cells, Pt.slots] at X3 l3 y3 z3 st3 hQ3
    subst l3 y3 z3
    obtain ⟨rfl, N3q, e3⟩ := hQ3
    have N3 := Fr.app N2 N3q
    refine own_by (W' := (T3.setTop (mkF m 65 #[.val (.int p0), .val (.int p1), .val (.int p2), .val (.int p3), .val (.int (0 : Int32)), .val (.ref b1), .val (.ref q2), .unset] [(.ref q2)]))) (fun t k => st2 _ (XS.astore X2.here hx rfl (hb hby at_51) rfl rfl (l' := #[.val (.int p0), .val (.int p1), .val (.int p2), .val (.int p3), .val (.int (0 : Int32)), .val (.ref b1), .val (.ref q2), .unset]) rfl (XS.aload X2.here hx rfl (hb hby at_53) rfl rfl (Steps.trans st3 (XS.ifnullYes X3.here hx rfl (pc0 := 58) (pc' := 63) rfl (hb hby at_58) rfl (by decide) (by decide) (XS.aload X3.here hx rfl (hb hby at_63) rfl rfl k)))))) ?_
    obtain ⟨cq4, kq4, q4a, q4b, q4c⟩ := isOf hZ e3 Eq2
    obtain ⟨_, _, ⟨T4, L4, k4, n4⟩, -, X4, ⟨Lc4, hQ4, l4, y4, z4⟩, st4⟩ := X3.virtualBack hx (y := (⟨"com/example/slipway/slipway/Body", "length", "()J"⟩ : MethodName)) (z := (⟨"com/example/slipway/slipway/Body", "length", "()J"⟩ : MethodName)) hown (mvT hZ (own_w hw 29)) (mvT hZ (own_w hw 30)) (notFace_of_selects (args := #[]) (mvT hZ (own_w hw 32))) (mvT hZ (own_w hw 32)) (mvT hZ (own_w hw 31)) (by decide) (backOf (W := 0) (rmGlength l Z a0 hw [] q2 ((0 : Int32).toInt64) T2.heap n0 (own_le O2) Fq2_length) hZ (own_w hw 33) (own_w hw 3) (by decide) (by decide)) q4a q4c (g := (mkF m 65 #[.val (.int p0), .val (.int p1), .val (.int p2), .val (.int p3), .val (.int (0 : Int32)), .val (.ref b1), .val (.ref q2), .unset] [(.ref q2)])) rfl (by rw [hml]; rfl) (Steps.refl _) (argsL := []) (rest := []) (lenOf pd_5 rfl) rfl (by show 2 * 0 + _ ≤ _; exact Nat.le_of_eq rfl) (hb hby at_65) (fun _ _ => ⟨rfl, e3, (by decide : 2 + 0 ≤ _), (by decide : 3 + 0 ≤ _)⟩)
    dsimp only [Pt.U, Pt.locs, Pt.cells, Pt.slots] at X4 l4 y4 z4 st4 hQ4
    subst l4 y4 z4
    obtain ⟨rfl, N4q, e4⟩ := hQ4
    have N4 := Fr.app N3 N4q
    refine own_by (W' := (T4.setTop (mkF m 79 #[.val (.int p0), .val (.int p1), .val (.int p2), .val (.int p3), .val (.int (0 : Int32)), .val (.ref b1), .val (.ref q2), .unset] [(.ref q2)]))) (fun t k => Steps.trans st4 (XS.iload X4.here hx rfl (hb hby at_68) rfl (XS.i2l X4.here hx rfl (hb hby at_70) rfl (XS.lcmp X4.here hx rfl (hb hby at_71) rfl (XS.ifYes X4.here hx rfl (pc0 := 72) (pc' := 77) rfl (hb hby at_72) rfl (own_lceq (rfl : ((0 : Int32).toInt64) = ((0 : Int32).toInt64))).1 (by decide) (by decide) (XS.aload X4.here hx rfl (hb hby at_77) rfl rfl k)))))) ?_
    obtain ⟨cq5, kq5, q5a, q5b, q5c⟩ := isOf hZ e4 Eq2
    obtain ⟨_, _, ⟨T5, L5, k5, n5⟩, -, X5, ⟨Lc5, hQ5, l5, y5, z5⟩, st5⟩ := X4.virtualBack hx (y := (⟨"com/example/slipway/slipway/Body", "bytes", "()[B"⟩ : MethodName)) (z := (⟨"com/example/slipway/slipway/Body", "bytes", "()[B"⟩ : MethodName)) hown (mvT hZ (own_w hw 34)) (mvT hZ (own_w hw 35)) (notFace_of_selects (args := #[]) (mvT hZ (own_w hw 37))) (mvT hZ (own_w hw 37)) (mvT hZ (own_w hw 36)) (by decide) (backOf (W := 0) (rmGbytes l Z a0 hw [] q2 b1 T2.heap n0 (own_le O2) Fq2_bytes) hZ (own_w hw 38) (own_w hw 3) (by decide) (by decide)) q5a q5c (g := (mkF m 79 #[.val (.int p0), .val (.int p1), .val (.int p2), .val (.int p3), .val (.int (0 : Int32)), .val (.ref b1), .val (.ref q2), .unset] [(.ref q2)])) rfl (by rw [hml]; rfl) (Steps.refl _) (argsL := []) (rest := []) (lenOf pd_6 rfl) rfl (by show 2 * 0 + _ ≤ _; exact Nat.le_of_eq rfl) (hb hby at_79) (fun _ _ => ⟨rfl, e4, (by decide : 2 + 0 ≤ _), (by decide : 3 + 0 ≤ _)⟩)
    dsimp only [Pt.U, Pt.locs, Pt.cells, Pt.slots] at X5 l5 y5 z5 st5 hQ5
    subst l5 y5 z5
    obtain ⟨rfl, N5q, e5⟩ := hQ5
    have N5 := Fr.app N4 N5q
    obtain ⟨clu6, Aru6, qu6, Su6, Ngu6, Hau6, Gau6⟩ := (V_b1.keep Kq2 nin0)
    refine own_by (W' := (T5.setTop (mkF m 92 #[.val (.int p0), .val (.int p1), .val (.int p2), .val (.int p3), .val (.int (0 : Int32)), .val (.ref b1), .val (.ref q2), .val (.ref b1)] [(.int clu6.slots.size.toInt32)]))) (fun t k => Steps.trans st5 (XS.astore X5.here hx rfl (hb hby at_82) rfl rfl (l' := #[.val (.int p0), .val (.int p1), .val (.int p2), .val (.int p3), .val (.int (0 : Int32)), .val (.ref b1), .val (.ref q2), .val (.ref b1)]) rfl (XS.aload X5.here hx rfl (hb hby at_84) rfl rfl (XS.ifnullNo X5.here hx rfl (hb hby at_86) rfl (XS.aload X5.here hx rfl (hb hby at_89) rfl rfl ((X5.arraylength hx (by rw [e5]; exact Aru6.1) (State.isArrayOf_alike hZ.alike Aru6.2.1) (g := (mkF m 91 #[.val (.int p0), .val (.int p1), .val (.int p2), .val (.int p3), .val (.int (0 : Int32)), .val (.ref b1), .val (.ref q2), .val (.ref b1)] [(.ref b1)])) rfl rfl (hb hby at_91)) _ k)))))) ?_
    rw [len_of Su6 Ngu6]
    refine own_by (W' := (T5.setTop (mkF m 118 #[.val (.int p0), .val (.int p1), .val (.int p2), .val (.int p3), .val (.int (0 : Int32)), .val (.ref b1), .val (.ref q2), .val (.ref b1)] [(.int (1 : Int32)), (.int (0 : Int32))]))) (fun t k => XS.iload X5.here hx rfl (hb hby at_92) rfl (XS.icmpYes X5.here hx rfl (pc0 := 94) (pc' := 99) rfl (hb hby at_94) rfl (teq (rfl : (0 : Int32) = (0 : Int32))).1 (by decide) (by decide) (XS.iload X5.here hx rfl (hb hby at_99) rfl (XS.ifYes X5.here hx rfl (pc0 := 101) (pc' := 115) rfl (hb hby at_101) rfl ((if0 _ _).trans (flt (by decide : ¬ ((0 : Int32) < (0 : Int32)))).2.2.2) (by decide) (by decide) (XS.iload X5.here hx rfl (hb hby at_115) rfl (XS.iconst X5.here hx rfl (hb hby at_117) k)))))) ?_
    obtain ⟨fs, hr, hrun, hended, hW, hsame⟩ := X5.leave (v := some (.int (1 : Int32))) (fun h => by rw [Bd.returns] at h; cases h)
    refine own_by (W' := (T5.setTop (mkF m 150 #[.val (.int p0), .val (.int p1), .val (.int p2), .val (.int p3), .val (.int (0 : Int32)), .val (.ref b1), .val (.ref q2), .val (.ref b1)] [(.int (1 : Int32))]))) (fun t k => XS.icmpYes X5.here hx rfl (pc0 := 118) (pc' := 132) rfl (hb hby at_118) rfl (flt (by decide : ¬ ((1 : Int32) < (0 : Int32)))).2.2.2 (by decide) (by decide) (XS.iload X5.here hx rfl (hb hby at_132) rfl (XS.iconst X5.here hx rfl (hb hby at_134) (XS.icmpYes X5.here hx rfl (pc0 := 135) (pc' := 149) rfl (hb hby at_135) rfl (flt (by decide : ¬ ((2 : Int32) < (0 : Int32)))).2.2.2 (by decide) (by decide) (XS.iconst X5.here hx rfl (hb hby at_149) k))))) ?_
    refine ⟨_, _, retOut X5 hx Bd.returns rfl (Or.inl ⟨rfl, Or.inr (Or.inl rfl), _, rfl⟩) (hb hby at_150) hr, hrun, hended, _, _, rfl, ?_, ⟨_, rfl⟩, hW, hsame.mono (by decide) (by decide)⟩
    exact ⟨rfl, N5⟩
  ·
    rw [hs]
    obtain ⟨T7, h7, k7, X7, e7, E7, A7, st7⟩ := newP X0 hx hZ (own_w hw 0) e0 (g := (mkF m 7 #[.val (.int p0), .val (.int p1), .val (.int p2), .val (.int p3), .val (.int (1 : Int32)), .unset, .unset, .unset] [(.int (1 : Int32))])) rfl (hb hby at_7) rfl (by decide) (cap := 1) (by decide) (by decide) (by decide) (by decide)
    obtain ⟨b7, g7⟩ : ∃ z, z = h0.size := ⟨_, rfl⟩
    rw [← g7] at A7 st7
    have g_b7 : n0 ≤ b7 := Nat.le_trans (own_le O0) (Nat.le_of_eq g7.symm)
    have sz_b7 : h0.size ≤ b7 := Nat.le_trans (Keep.refl h0 []).1 (Nat.le_of_eq g7.symm)
    have O7 := O0.ext E7
    have K7 := Keep.ext (Keep.refl h0 []) E7
    have V_b7 : Arv Z h7 b7 k7 .byte (1 : Int32) [(.int (0 : Int32))] (.int (0 : Int32)) := (Arv.new A7 (by decide)).pad (pad_rep [] (.int (0 : Int32)) 1)
    refine own_by (W' := (T7.setTop (mkF m 18 #[.val (.int p0), .val (.int p1), .val (.int p2), .val (.int p3), .val (.int (1 : Int32)), .val (.ref b7), .unset, .unset] [(.ref b7)]))) (fun t k => XS.iload X0.here hx rfl (hb hby at_5) rfl (st7 _ (XS.astore X7.here hx rfl (hb hby at_9) rfl rfl (l' := #[.val (.int p0), .val (.int p1), .val (.int p2), .val (.int p3), .val (.int (1 : Int32)), .val (.ref b7), .unset, .unset]) rfl (XS.iload X7.here hx rfl (hb hby at_11) rfl (XS.ifNo X7.here hx rfl (hb hby at_13) rfl ((if0 _ _).trans (tlt (by decide : (0 : Int32) < (1 : Int32))).2.2.2) (XS.aload X7.here hx rfl (hb hby at_16) rfl rfl k)))))) ?_
    obtain ⟨clu8, Aru8, qu8, Su8, Ngu8, Hau8, Gau8⟩ := V_b7
    have hinu8 : ¬ ((0 : Int32) < 0 ∨ clu8.slots.size ≤ ((0 : Int32)).toNatClampNeg) := inb_of Su8 ⟨by decide, by decide⟩
    obtain ⟨T9, h9, X9, e9, W9, st9⟩ := stB X7 hx hZ e7 Aru8 (j := (0 : Int32)) hinu8 (g := (mkF m 21 #[.val (.int p0), .val (.int p1), .val (.int p2), .val (.int p3), .val (.int (1 : Int32)), .val (.ref b7), .unset, .unset] [(.int (p1.toInt8.toInt32)), (.int (0 : Int32)), (.ref b7)])) rfl rfl (hb hby at_21)
    have Vu8 : Arv Z h9 b7 k7 .byte (1 : Int32) [(.int (nar .byte (p1.toInt8.toInt32)))] (.int (0 : Int32)) := Arv.set Aru8 qu8 Su8 Ngu8 Hau8 Gau8 (fits_nar_byte _) W9 0 rfl (Nat.le_of_ble_eq_true rfl)
    have O9 := Old.wr O7 W9 g_b7
    have N9 := Fr.snoc X9 N0 g_b7
    have K9 := Keep.wr K7 W9 (Or.inr sz_b7)
    refine own_by (W' := (T9.setTop (mkF m 25 #[.val (.int p0), .val (.int p1), .val (.int p2), .val (.int p3), .val (.int (1 : Int32)), .val (.ref b7), .unset, .unset] [(.int (1 : Int32)), (.int (1 : Int32))]))) (fun t k => XS.iconst X7.here hx rfl (hb hby at_18) (XS.iloadN X7.here hx rfl (hb hby at_19) rfl (XS.i2b X7.here hx rfl (hb hby at_20) rfl (st9 _ (XS.iload X9.here hx rfl (hb hby at_22) rfl (XS.iconst X9.here hx rfl (hb hby at_24) k)))))) ?_
    obtain ⟨_, _, ⟨T10, L10, k10, n10⟩, -, X10, ⟨Lc10, hQ10, l10, y10, z10⟩, st10⟩ := Jvm.LawKit.callS X9 hx (y := (⟨"com/example/slipway/slipway/Body", "of", "([B)Lcom/example/slipway/slipway/Body;"⟩ : MethodName)) hown (mvT hZ (own_w hw 1)) (mvT hZ (own_w hw 2)) (mvT hZ (own_w hw 3)) (mvT hZ (own_w hw 4)) (by decide) (backOf (W := 0) (rmF l Z a0 hw [] b7 k7 (1 : Int32) [(.int (nar .byte (p1.toInt8.toInt32)))] (.int (0 : Int32)) h9 n0 (own_le O9) O9 Vu8) hZ (own_w hw 4) (own_w hw 3) (by decide) (by decide)) (g := (mkF m 48 #[.val (.int p0), .val (.int p1), .val (.int p2), .val (.int p3), .val (.int (1 : Int32)), .val (.ref b7), .unset, .unset] [(.ref b7)])) rfl (by rw [hml]; rfl) (argsL := [(.ref b7)]) (rest := []) (lenOf pd_3 rfl) rfl (by show 2 * 0 + _ ≤ _; exact Nat.le_of_eq rfl) (hb hby at_48) (fun _ _ => ⟨rfl, e9, (by decide : 1 + 1 ≤ _), (by decide : 1 + 3 ≤ _)⟩)
    dsimp only [Pt.U, Pt.locs, Pt.cells, Pt.slots] at X10 l10 y10 z10 st10 hQ10
    subst l10 y10 z10
    obtain ⟨q10, rfl, N10q, Kq10, Eq10, Fq10_bytes, Fq10_channel, Fq10_length⟩ := hQ10
    have O10 := Old.keep O9 Kq10 all0
    have K10 := Keep.trans K9 Kq10 all0
    have N10 := Fr.app N9 N10q
    refine own_by (W' := (T10.setTop (mkF m 51 #[.val (.int p0), .val (.int p1), .val (.int p2), .val (.int p3), .val (.int (1 : Int32)), .val (.ref b7), .unset, .unset] [(.ref q10)]))) (fun t k => XS.icmpYes X9.here hx rfl (pc0 := 25) (pc' := 34) rfl (hb hby at_25) rfl (flt (by decide : ¬ ((1 : Int32) < (1 : Int32)))).2.2.2 (by decide) (by decide) (XS.iload X9.here hx rfl (hb hby at_34) rfl (XS.iconst X9.here hx rfl (hb hby at_36) (XS.icmpYes X9.here hx rfl (pc0 := 37) (pc' := 46) rfl (hb hby at_37) rfl (flt (by decide : ¬ ((2 : Int32) < (1 : Int32)))).2.2.2 (by decide) (by decide) (XS.aload X9.here hx rfl (hb hby at_46) rfl rfl (st10 _ k)))))) ?_
    obtain ⟨cq11, kq11, q11a, q11b, q11c⟩ := isOf hZ rfl Eq10
    obtain ⟨_, _, ⟨T11, L11, k11, n11⟩, -, X11, ⟨Lc11, hQ11, l11, y11, z11⟩, st11⟩ := X10.virtualBack hx (y := (⟨"com/example/slipway/slipway/Body", "channel", "()Ljava/nio/channels/FileChannel;"⟩ : MethodName)) (z := (⟨"com/example/slipway/slipway/Body", "channel", "()Ljava/nio/channels/FileChannel;"⟩ : MethodName)) hown (mvT hZ (own_w hw 24)) (mvT hZ (own_w hw 25)) (notFace_of_selects (args := #[]) (mvT hZ (own_w hw 27))) (mvT hZ (own_w hw 27)) (mvT hZ (own_w hw 26)) (by decide) (backOf (W := 0) (rmGchannel l Z a0 hw [] q10 T10.heap n0 (own_le O10) Fq10_channel) hZ (own_w hw 28) (own_w hw 3) (by decide) (by decide)) q11a q11c (g := (mkF m 55 #[.val (.int p0), .val (.int p1), .val (.int p2), .val (.int p3), .val (.int (1 : Int32)), .val (.ref b7), .val (.ref q10), .unset] [(.ref q10)])) rfl (by rw [hml]; rfl) (Steps.refl _) (argsL := []) (rest := []) (lenOf pd_4 rfl) rfl (by show 2 * 0 + _ ≤ _; exact Nat.le_of_eq rfl) (hb hby at_55) (fun _ _ => ⟨rfl, rfl, (by decide : 2 + 0 ≤ _), (by decide : 4 + 0 ≤ _)⟩)
    dsimp only [Pt.U, Pt.locs, Pt.cells, Pt.slots] at X11 l11 y11 z11 st11 hQ11
    subst l11 y11 z11
    obtain ⟨rfl, N11q, e11⟩ := hQ11
    have N11 := Fr.app N10 N11q
    obtain ⟨cq12, kq12, q12a, q12b, q12c⟩ := isOf hZ e11 Eq10
    obtain ⟨_, _, ⟨T12, L12, k12, n12⟩, -, X12, ⟨Lc12, hQ12, l12, y12, z12⟩, st12⟩ := X11.virtualBack hx (y := (⟨"com/example/slipway/slipway/Body", "length", "()J"⟩ : MethodName)) (z := (⟨"com/example/slipway/slipway/Body", "length", "()J"⟩ : MethodName)) hown (mvT hZ (own_w hw 29)) (mvT hZ (own_w hw 30)) (notFace_of_selects (args := #[]) (mvT hZ (own_w hw 32))) (mvT hZ (own_w hw 32)) (mvT hZ (own_w hw 31)) (by decide) (backOf (W := 0) (rmGlength l Z a0 hw [] q10 ((1 : Int32).toInt64) T10.heap n0 (own_le O10) Fq10_length) hZ (own_w hw 33) (own_w hw 3) (by decide) (by decide)) q12a q12c (g := (mkF m 65 #[.val (.int p0), .val (.int p1), .val (.int p2), .val (.int p3), .val (.int (1 : Int32)), .val (.ref b7), .val (.ref q10), .unset] [(.ref q10)])) rfl (by rw [hml]; rfl) (Steps.refl _) (argsL := []) (rest := []) (lenOf pd_5 rfl) rfl (by show 2 * 0 + _ ≤ _; exact Nat.le_of_eq rfl) (hb hby at_65) (fun _ _ => ⟨rfl, e11, (by decide : 2 + 0 ≤ _), (by decide : 4 + 0 ≤ _)⟩)
    dsimp only [Pt.U, Pt.locs, Pt.cells, Pt.slots] at X12 l12 y12 z12 st12 hQ12
    subst l12 y12 z12
    obtain ⟨rfl, N12q, e12⟩ := hQ12
    have N12 := Fr.app N11 N12q
    refine own_by (W' := (T12.setTop (mkF m 68 #[.val (.int p0), .val (.int p1), .val (.int p2), .val (.int p3), .val (.int (1 : Int32)), .val (.ref b7), .val (.ref q10), .unset] [(.long ((1 : Int32).toInt64))]))) (fun t k => XS.astore X10.here hx rfl (hb hby at_51) rfl rfl (l' := #[.val (.int p0), .val (.int p1), .val (.int p2), .val (.int p3), .val (.int (1 : Int32)), .val (.ref b7), .val (.ref q10), .unset]) rfl (XS.aload X10.here hx rfl (hb hby at_53) rfl rfl (Steps.trans st11 (XS.ifnullYes X11.here hx rfl (pc0 := 58) (pc' := 63) rfl (hb hby at_58) rfl (by decide) (by decide) (XS.aload X11.here hx rfl (hb hby at_63) rfl rfl (Steps.trans st12 k)))))) ?_
    obtain ⟨cq13, kq13, q13a, q13b, q13c⟩ := isOf hZ e12 Eq10
    obtain ⟨_, _, ⟨T13, L13, k13, n13⟩, -, X13, ⟨Lc13, hQ13, l13, y13, z13⟩, st13⟩ := X12.virtualBack hx (y := (⟨"com/example/slipway/slipway/Body", "bytes", "()[B"⟩ : MethodName)) (z := (⟨"com/example/slipway/slipway/Body", "bytes", "()[B"⟩ : MethodName)) hown (mvT hZ (own_w hw 34)) (mvT hZ (own_w hw 35)) (notFace_of_selects (args := #[]) (mvT hZ (own_w hw 37))) (mvT hZ (own_w hw 37)) (mvT hZ (own_w hw 36)) (by decide) (backOf (W := 0) (rmGbytes l Z a0 hw [] q10 b7 T10.heap n0 (own_le O10) Fq10_bytes) hZ (own_w hw 38) (own_w hw 3) (by decide) (by decide)) q13a q13c (g := (mkF m 79 #[.val (.int p0), .val (.int p1), .val (.int p2), .val (.int p3), .val (.int (1 : Int32)), .val (.ref b7), .val (.ref q10), .unset] [(.ref q10)])) rfl (by rw [hml]; rfl) (Steps.refl _) (argsL := []) (rest := []) (lenOf pd_6 rfl) rfl (by show 2 * 0 + _ ≤ _; exact Nat.le_of_eq rfl) (hb hby at_79) (fun _ _ => ⟨rfl, e12, (by decide : 2 + 0 ≤ _), (by decide : 4 + 0 ≤ _)⟩)
    dsimp only [Pt.U, Pt.locs, Pt.cells, Pt.slots] at X13 l13 y13 z13 st13 hQ13
    subst l13 y13 z13
    obtain ⟨rfl, N13q, e13⟩ := hQ13
    have N13 := Fr.app N12 N13q
    refine own_by (W' := (T13.setTop (mkF m 82 #[.val (.int p0), .val (.int p1), .val (.int p2), .val (.int p3), .val (.int (1 : Int32)), .val (.ref b7), .val (.ref q10), .unset] [(.ref b7)]))) (fun t k => XS.iload X12.here hx rfl (hb hby at_68) rfl (XS.i2l X12.here hx rfl (hb hby at_70) rfl (XS.lcmp X12.here hx rfl (hb hby at_71) rfl (XS.ifYes X12.here hx rfl (pc0 := 72) (pc' := 77) rfl (hb hby at_72) rfl (own_lceq (rfl : ((1 : Int32).toInt64) = ((1 : Int32).toInt64))).1 (by decide) (by decide) (XS.aload X12.here hx rfl (hb hby at_77) rfl rfl (Steps.trans st13 k)))))) ?_
    obtain ⟨clu14, Aru14, qu14, Su14, Ngu14, Hau14, Gau14⟩ := (Vu8.keep Kq10 nin0)
    refine own_by (W' := (T13.setTop (mkF m 92 #[.val (.int p0), .val (.int p1), .val (.int p2), .val (.int p3), .val (.int (1 : Int32)), .val (.ref b7), .val (.ref q10), .val (.ref b7)] [(.int clu14.slots.size.toInt32)]))) (fun t k => XS.astore X13.here hx rfl (hb hby at_82) rfl rfl (l' := #[.val (.int p0), .val (.int p1), .val (.int p2), .val (.int p3), .val (.int (1 : Int32)), .val (.ref b7), .val (.ref q10), .val (.ref b7)]) rfl (XS.aload X13.here hx rfl (hb hby at_84) rfl rfl (XS.ifnullNo X13.here hx rfl (hb hby at_86) rfl (XS.aload X13.here hx rfl (hb hby at_89) rfl rfl ((X13.arraylength hx (by rw [e13]; exact Aru14.1) (State.isArrayOf_alike hZ.alike Aru14.2.1) (g := (mkF m 91 #[.val (.int p0), .val (.int p1), .val (.int p2), .val (.int p3), .val (.int (1 : Int32)), .val (.ref b7), .val (.ref q10), .val (.ref b7)] [(.ref b7)])) rfl rfl (hb hby at_91)) _ k))))) ?_
    rw [len_of Su14 Ngu14]
    refine own_by (W' := (T13.setTop (mkF m 107 #[.val (.int p0), .val (.int p1), .val (.int p2), .val (.int p3), .val (.int (1 : Int32)), .val (.ref b7), .val (.ref q10), .val (.ref b7)] [(.int (0 : Int32)), (.ref b7)]))) (fun t k => XS.iload X13.here hx rfl (hb hby at_92) rfl (XS.icmpYes X13.here hx rfl (pc0 := 94) (pc' := 99) rfl (hb hby at_94) rfl (teq (rfl : (1 : Int32) = (1 : Int32))).1 (by decide) (by decide) (XS.iload X13.here hx rfl (hb hby at_99) rfl (XS.ifNo X13.here hx rfl (hb hby at_101) rfl ((if0 _ _).trans (tlt (by decide : (0 : Int32) < (1 : Int32))).2.2.2) (XS.aload X13.here hx rfl (hb hby at_104) rfl rfl (XS.iconst X13.here hx rfl (hb hby at_106) k)))))) ?_
    obtain ⟨clu15, Aru15, qu15, Su15, Ngu15, Hau15, Gau15⟩ := (Vu8.keep Kq10 nin0)
    have hinu15 : ¬ ((0 : Int32) < 0 ∨ clu15.slots.size ≤ ((0 : Int32)).toNatClampNeg) := inb_of Su15 ⟨by decide, by decide⟩
    have hatu15 : clu15.slots[((0 : Int32)).toNatClampNeg]? = some (.int (nar .byte (p1.toInt8.toInt32))) := Has.at Hau15 hinu15 rfl
    refine own_by (W' := (T13.setTop (mkF m 118 #[.val (.int p0), .val (.int p1), .val (.int p2), .val (.int p3), .val (.int (1 : Int32)), .val (.ref b7), .val (.ref q10), .val (.ref b7)] [(.int (1 : Int32)), (.int (1 : Int32))]))) (fun t k => (X13.baloadBytes hx (j := (0 : Int32)) (v := (.int (nar .byte (p1.toInt8.toInt32)))) (by rw [e13]; exact Aru15.1) (State.isArrayOf_alike hZ.alike Aru15.2.1) Aru15.2.2 hinu15 hatu15 (g := (mkF m 107 #[.val (.int p0), .val (.int p1), .val (.int p2), .val (.int p3), .val (.int (1 : Int32)), .val (.ref b7), .val (.ref q10), .val (.ref b7)] [(.int (0 : Int32)), (.ref b7)])) rfl rfl (hb hby at_107)) _ (XS.iloadN X13.here hx rfl (hb hby at_108) rfl (XS.i2b X13.here hx rfl (hb hby at_109) rfl (XS.icmpYes X13.here hx rfl (pc0 := 110) (pc' := 115) rfl (hb hby at_110) rfl (teq (own_narb _)).1 (by decide) (by decide) (XS.iload X13.here hx rfl (hb hby at_115) rfl (XS.iconst X13.here hx rfl (hb hby at_117) k)))))) ?_
    obtain ⟨fs, hr, hrun, hended, hW, hsame⟩ := X13.leave (v := some (.int (1 : Int32))) (fun h => by rw [Bd.returns] at h; cases h)
    refine own_by (W' := (T13.setTop (mkF m 150 #[.val (.int p0), .val (.int p1), .val (.int p2), .val (.int p3), .val (.int (1 : Int32)), .val (.ref b7), .val (.ref q10), .val (.ref b7)] [(.int (1 : Int32))]))) (fun t k => XS.icmpYes X13.here hx rfl (pc0 := 118) (pc' := 132) rfl (hb hby at_118) rfl (flt (by decide : ¬ ((1 : Int32) < (1 : Int32)))).2.2.2 (by decide) (by decide) (XS.iload X13.here hx rfl (hb hby at_132) rfl (XS.iconst X13.here hx rfl (hb hby at_134) (XS.icmpYes X13.here hx rfl (pc0 := 135) (pc' := 149) rfl (hb hby at_135) rfl (flt (by decide : ¬ ((2 : Int32) < (1 : Int32)))).2.2.2 (by decide) (by decide) (XS.iconst X13.here hx rfl (hb hby at_149) k))))) ?_
    refine ⟨_, _, retOut X13 hx Bd.returns rfl (Or.inl ⟨rfl, Or.inr (Or.inl rfl), _, rfl⟩) (hb hby at_150) hr, hrun, hended, _, _, rfl, ?_, ⟨_, rfl⟩, hW, hsame.mono (by decide) (by decide)⟩
    exact ⟨rfl, N13⟩
  ·
    rw [hs]
    obtain ⟨T16, h16, k16, X16, e16, E16, A16, st16⟩ := newP X0 hx hZ (own_w hw 0) e0 (g := (mkF m 7 #[.val (.int p0), .val (.int p1), .val (.int p2), .val (.int p3), .val (.int (2 : Int32)), .unset, .unset, .unset] [(.int (2 : Int32))])) rfl (hb hby at_7) rfl (by decide) (cap := 2) (by decide) (by decide) (by decide) (by decide)
    obtain ⟨b16, g16⟩ : ∃ z, z = h0.size := ⟨_, rfl⟩
    rw [← g16] at A16 st16
    have g_b16 : n0 ≤ b16 := Nat.le_trans (own_le O0) (Nat.le_of_eq g16.symm)
    have sz_b16 : h0.size ≤ b16 := Nat.le_trans (Keep.refl h0 []).1 (Nat.le_of_eq g16.symm)
    have O16 := O0.ext E16
    have K16 := Keep.ext (Keep.refl h0 []) E16
    have V_b16 : Arv Z h16 b16 k16 .byte (2 : Int32) [(.int (0 : Int32)), (.int (0 : Int32))] (.int (0 : Int32)) := (Arv.new A16 (by decide)).pad (pad_rep [] (.int (0 : Int32)) 2)
    refine own_by (W' := (T16.setTop (mkF m 18 #[.val (.int p0), .val (.int p1), .val (.int p2), .val (.int p3), .val (.int (2 : Int32)), .val (.ref b16), .unset, .unset] [(.ref b16)]))) (fun t k => XS.iload X0.here hx rfl (hb hby at_5) rfl (st16 _ (XS.astore X16.here hx rfl (hb hby at_9) rfl rfl (l' := #[.val (.int p0), .val (.int p1), .val (.int p2), .val (.int p3), .val (.int (2 : Int32)), .val (.ref b16), .unset, .unset]) rfl (XS.iload X16.here hx rfl (hb hby at_11) rfl (XS.ifNo X16.here hx rfl (hb hby at_13) rfl ((if0 _ _).trans (tlt (by decide : (0 : Int32) < (2 : Int32))).2.2.2) (XS.aload X16.here hx rfl (hb hby at_16) rfl rfl k)))))) ?_
    obtain ⟨clu17, Aru17, qu17, Su17, Ngu17, Hau17, Gau17⟩ := V_b16
    have hinu17 : ¬ ((0 : Int32) < 0 ∨ clu17.slots.size ≤ ((0 : Int32)).toNatClampNeg) := inb_of Su17 ⟨by decide, by decide⟩
    obtain ⟨T18, h18, X18, e18, W18, st18⟩ := stB X16 hx hZ e16 Aru17 (j := (0 : Int32)) hinu17 (g := (mkF m 21 #[.val (.int p0), .val (.int p1), .val (.int p2), .val (.int p3), .val (.int (2 : Int32)), .val (.ref b16), .unset, .unset] [(.int (p1.toInt8.toInt32)), (.int (0 : Int32)), (.ref b16)])) rfl rfl (hb hby at_21)
    have Vu17 : Arv Z h18 b16 k16 .byte (2 : Int32) [(.int (nar .byte (p1.toInt8.toInt32))), (.int (0 : Int32))] (.int (0 : Int32)) := Arv.set Aru17 qu17 Su17 Ngu17 Hau17 Gau17 (fits_nar_byte _) W18 0 rfl (Nat.le_of_ble_eq_true rfl)
    have O18 := Old.wr O16 W18 g_b16
    have N18 := Fr.snoc X18 N0 g_b16
    have K18 := Keep.wr K16 W18 (Or.inr sz_b16)
    refine own_by (W' := (T18.setTop (mkF m 25 #[.val (.int p0), .val (.int p1), .val (.int p2), .val (.int p3), .val (.int (2 : Int32)), .val (.ref b16), .unset, .unset] [(.int (1 : Int32)), (.int (2 : Int32))]))) (fun t k => XS.iconst X16.here hx rfl (hb hby at_18) (XS.iloadN X16.here hx rfl (hb hby at_19) rfl (XS.i2b X16.here hx rfl (hb hby at_20) rfl (st18 _ (XS.iload X18.here hx rfl (hb hby at_22) rfl (XS.iconst X18.here hx rfl (hb hby at_24) k)))))) ?_
    obtain ⟨clu19, Aru19, qu19, Su19, Ngu19, Hau19, Gau19⟩ := Vu17
    have hinu19 : ¬ ((1 : Int32) < 0 ∨ clu19.slots.size ≤ ((1 : Int32)).toNatClampNeg) := inb_of Su19 ⟨by decide, by decide⟩
    obtain ⟨T20, h20, X20, e20, W20, st20⟩ := stB X18 hx hZ e18 Aru19 (j := (1 : Int32)) hinu19 (g := (mkF m 33 #[.val (.int p0), .val (.int p1), .val (.int p2), .val (.int p3), .val (.int (2 : Int32)), .val (.ref b16), .unset, .unset] [(.int (p2.toInt8.toInt32)), (.int (1 : Int32)), (.ref b16)])) rfl rfl (hb hby at_33)
    have Vu19 : Arv Z h20 b16 k16 .byte (2 : Int32) [(.int (nar .byte (p1.toInt8.toInt32))), (.int (nar .byte (p2.toInt8.toInt32)))] (.int (0 : Int32)) := Arv.set Aru19 qu19 Su19 Ngu19 Hau19 Gau19 (fits_nar_byte _) W20 1 rfl (Nat.le_of_ble_eq_true rfl)
    have O20 := Old.wr O18 W20 g_b16
    have N20 := Fr.snoc X20 N18 g_b16
    have K20 := Keep.wr K18 W20 (Or.inr sz_b16)
    refine own_by (W' := (T20.setTop (mkF m 34 #[.val (.int p0), .val (.int p1), .val (.int p2), .val (.int p3), .val (.int (2 : Int32)), .val (.ref b16), .unset, .unset] []))) (fun t k => XS.icmpNo X18.here hx rfl (hb hby at_25) rfl (tlt (by decide : (1 : Int32) < (2 : Int32))).2.2.2 (XS.aload X18.here hx rfl (hb hby at_28) rfl rfl (XS.iconst X18.here hx rfl (hb hby at_30) (XS.iloadN X18.here hx rfl (hb hby at_31) rfl (XS.i2b X18.here hx rfl (hb hby at_32) rfl (st20 _ k)))))) ?_
    obtain ⟨_, _, ⟨T21, L21, k21, n21⟩, -, X21, ⟨Lc21, hQ21, l21, y21, z21⟩, st21⟩ := Jvm.LawKit.callS X20 hx (y := (⟨"com/example/slipway/slipway/Body", "of", "([B)Lcom/example/slipway/slipway/Body;"⟩ : MethodName)) hown (mvT hZ (own_w hw 1)) (mvT hZ (own_w hw 2)) (mvT hZ (own_w hw 3)) (mvT hZ (own_w hw 4)) (by decide) (backOf (W := 0) (rmF l Z a0 hw [] b16 k16 (2 : Int32) [(.int (nar .byte (p1.toInt8.toInt32))), (.int (nar .byte (p2.toInt8.toInt32)))] (.int (0 : Int32)) h20 n0 (own_le O20) O20 Vu19) hZ (own_w hw 4) (own_w hw 3) (by decide) (by decide)) (g := (mkF m 48 #[.val (.int p0), .val (.int p1), .val (.int p2), .val (.int p3), .val (.int (2 : Int32)), .val (.ref b16), .unset, .unset] [(.ref b16)])) rfl (by rw [hml]; rfl) (argsL := [(.ref b16)]) (rest := []) (lenOf pd_3 rfl) rfl (by show 2 * 0 + _ ≤ _; exact Nat.le_of_eq rfl) (hb hby at_48) (fun _ _ => ⟨rfl, e20, (by decide : 1 + 1 ≤ _), (by decide : 2 + 3 ≤ _)⟩)
    dsimp only [Pt.U, Pt.locs, Pt.cells, Pt.slots] at X21 l21 y21 z21 st21 hQ21
    subst l21 y21 z21
    obtain ⟨q21, rfl, N21q, Kq21, Eq21, Fq21_bytes, Fq21_channel, Fq21_length⟩ := hQ21
    have O21 := Old.keep O20 Kq21 all0
    have K21 := Keep.trans K20 Kq21 all0
    have N21 := Fr.app N20 N21q
    refine own_by (W' := (T21.setTop (mkF m 53 #[.val (.int p0), .val (.int p1), .val (.int p2), .val (.int p3), .val (.int (2 : Int32)), .val (.ref b16), .val (.ref q21), .unset] []))) (fun t k => XS.iload X20.here hx rfl (hb hby at_34) rfl (XS.iconst X20.here hx rfl (hb hby at_36) (XS.icmpYes X20.here hx rfl (pc0 := 37) (pc' := 46) rfl (hb hby at_37) rfl (flt (by decide : ¬ ((2 : Int32) < (2 : Int32)))).2.2.2 (by decide) (by decide) (XS.aload X20.here hx rfl (hb hby at_46) rfl rfl (st21 _ (XS.astore X21.here hx rfl (hb hby at_51) rfl rfl (l' := #[.val (.int p0), .val (.int p1), .val (.int p2), .val (.int p3), .val (.int (2 : Int32)), .val (.ref b16), .val (.ref q21), .unset]) rfl k)))))) ?_
    obtain ⟨cq22, kq22, q22a, q22b, q22c⟩ := isOf hZ rfl Eq21
    obtain ⟨_, _, ⟨T22, L22, k22, n22⟩, -, X22, ⟨Lc22, hQ22, l22, y22, z22⟩, st22⟩ := X21.virtualBack hx (y := (⟨"com/example/slipway/slipway/Body", "channel", "()Ljava/nio/channels/FileChannel;"⟩ : MethodName)) (z := (⟨"com/example/slipway/slipway/Body", "channel", "()Ljava/nio/channels/FileChannel;"⟩ : MethodName)) hown (mvT hZ (own_w hw 24)) (mvT hZ (own_w hw 25)) (notFace_of_selects (args := #[]) (mvT hZ (own_w hw 27))) (mvT hZ (own_w hw 27)) (mvT hZ (own_w hw 26)) (by decide) (backOf (W := 0) (rmGchannel l Z a0 hw [] q21 T21.heap n0 (own_le O21) Fq21_channel) hZ (own_w hw 28) (own_w hw 3) (by decide) (by decide)) q22a q22c (g := (mkF m 55 #[.val (.int p0), .val (.int p1), .val (.int p2), .val (.int p3), .val (.int (2 : Int32)), .val (.ref b16), .val (.ref q21), .unset] [(.ref q21)])) rfl (by rw [hml]; rfl) (Steps.refl _) (argsL := []) (rest := []) (lenOf pd_4 rfl) rfl (by show 2 * 0 + _ ≤ _; exact Nat.le_of_eq rfl) (hb hby at_55) (fun _ _ => ⟨rfl, rfl, (by decide : 2 + 0 ≤ _), (by decide : 5 + 0 ≤ _)⟩)
    dsimp only [Pt.U, Pt.locs, Pt.cells, Pt.slots] at X22 l22 y22 z22 st22 hQ22
    subst l22 y22 z22
    obtain ⟨rfl, N22q, e22⟩ := hQ22
    have N22 := Fr.app N21 N22q
    obtain ⟨cq23, kq23, q23a, q23b, q23c⟩ := isOf hZ e22 Eq21
    obtain ⟨_, _, ⟨T23, L23, k23, n23⟩, -, X23, ⟨Lc23, hQ23, l23, y23, z23⟩, st23⟩ := X22.virtualBack hx (y := (⟨"com/example/slipway/slipway/Body", "length", "()J"⟩ : MethodName)) (z := (⟨"com/example/slipway/slipway/Body", "length", "()J"⟩ : MethodName)) hown (mvT hZ (own_w hw 29)) (mvT hZ (own_w hw 30)) (notFace_of_selects (args := #[]) (mvT hZ (own_w hw 32))) (mvT hZ (own_w hw 32)) (mvT hZ (own_w hw 31)) (by decide) (backOf (W := 0) (rmGlength l Z a0 hw [] q21 ((2 : Int32).toInt64) T21.heap n0 (own_le O21) Fq21_length) hZ (own_w hw 33) (own_w hw 3) (by decide) (by decide)) q23a q23c (g := (mkF m 65 #[.val (.int p0), .val (.int p1), .val (.int p2), .val (.int p3), .val (.int (2 : Int32)), .val (.ref b16), .val (.ref q21), .unset] [(.ref q21)])) rfl (by rw [hml]; rfl) (Steps.refl _) (argsL := []) (rest := []) (lenOf pd_5 rfl) rfl (by show 2 * 0 + _ ≤ _; exact Nat.le_of_eq rfl) (hb hby at_65) (fun _ _ => ⟨rfl, e22, (by decide : 2 + 0 ≤ _), (by decide : 5 + 0 ≤ _)⟩)
    dsimp only [Pt.U, Pt.locs, Pt.cells, Pt.slots] at X23 l23 y23 z23 st23 hQ23
    subst l23 y23 z23
    obtain ⟨rfl, N23q, e23⟩ := hQ23
    have N23 := Fr.app N22 N23q
    refine own_by (W' := (T23.setTop (mkF m 70 #[.val (.int p0), .val (.int p1), .val (.int p2), .val (.int p3), .val (.int (2 : Int32)), .val (.ref b16), .val (.ref q21), .unset] [(.int (2 : Int32)), (.long ((2 : Int32).toInt64))]))) (fun t k => XS.aload X21.here hx rfl (hb hby at_53) rfl rfl (Steps.trans st22 (XS.ifnullYes X22.here hx rfl (pc0 := 58) (pc' := 63) rfl (hb hby at_58) rfl (by decide) (by decide) (XS.aload X22.here hx rfl (hb hby at_63) rfl rfl (Steps.trans st23 (XS.iload X23.here hx rfl (hb hby at_68) rfl k)))))) ?_
    obtain ⟨cq24, kq24, q24a, q24b, q24c⟩ := isOf hZ e23 Eq21
    obtain ⟨_, _, ⟨T24, L24, k24, n24⟩, -, X24, ⟨Lc24, hQ24, l24, y24, z24⟩, st24⟩ := X23.virtualBack hx (y := (⟨"com/example/slipway/slipway/Body", "bytes", "()[B"⟩ : MethodName)) (z := (⟨"com/example/slipway/slipway/Body", "bytes", "()[B"⟩ : MethodName)) hown (mvT hZ (own_w hw 34)) (mvT hZ (own_w hw 35)) (notFace_of_selects (args := #[]) (mvT hZ (own_w hw 37))) (mvT hZ (own_w hw 37)) (mvT hZ (own_w hw 36)) (by decide) (backOf (W := 0) (rmGbytes l Z a0 hw [] q21 b16 T21.heap n0 (own_le O21) Fq21_bytes) hZ (own_w hw 38) (own_w hw 3) (by decide) (by decide)) q24a q24c (g := (mkF m 79 #[.val (.int p0), .val (.int p1), .val (.int p2), .val (.int p3), .val (.int (2 : Int32)), .val (.ref b16), .val (.ref q21), .unset] [(.ref q21)])) rfl (by rw [hml]; rfl) (Steps.refl _) (argsL := []) (rest := []) (lenOf pd_6 rfl) rfl (by show 2 * 0 + _ ≤ _; exact Nat.le_of_eq rfl) (hb hby at_79) (fun _ _ => ⟨rfl, e23, (by decide : 2 + 0 ≤ _), (by decide : 5 + 0 ≤ _)⟩)
    dsimp only [Pt.U, Pt.locs, Pt.cells, Pt.slots] at X24 l24 y24 z24 st24 hQ24
    subst l24 y24 z24
    obtain ⟨rfl, N24q, e24⟩ := hQ24
    have N24 := Fr.app N23 N24q
    refine own_by (W' := (T24.setTop (mkF m 84 #[.val (.int p0), .val (.int p1), .val (.int p2), .val (.int p3), .val (.int (2 : Int32)), .val (.ref b16), .val (.ref q21), .val (.ref b16)] []))) (fun t k => XS.i2l X23.here hx rfl (hb hby at_70) rfl (XS.lcmp X23.here hx rfl (hb hby at_71) rfl (XS.ifYes X23.here hx rfl (pc0 := 72) (pc' := 77) rfl (hb hby at_72) rfl (own_lceq (rfl : ((2 : Int32).toInt64) = ((2 : Int32).toInt64))).1 (by decide) (by decide) (XS.aload X23.here hx rfl (hb hby at_77) rfl rfl (Steps.trans st24 (XS.astore X24.here hx rfl (hb hby at_82) rfl rfl (l' := #[.val (.int p0), .val (.int p1), .val (.int p2), .val (.int p3), .val (.int (2 : Int32)), .val (.ref b16), .val (.ref q21), .val (.ref b16)]) rfl k)))))) ?_
    obtain ⟨clu25, Aru25, qu25, Su25, Ngu25, Hau25, Gau25⟩ := (Vu19.keep Kq21 nin0)
    refine own_by (W' := (T24.setTop (mkF m 92 #[.val (.int p0), .val (.int p1), .val (.int p2), .val (.int p3), .val (.int (2 : Int32)), .val (.ref b16), .val (.ref q21), .val (.ref b16)] [(.int clu25.slots.size.toInt32)]))) (fun t k => XS.aload X24.here hx rfl (hb hby at_84) rfl rfl (XS.ifnullNo X24.here hx rfl (hb hby at_86) rfl (XS.aload X24.here hx rfl (hb hby at_89) rfl rfl ((X24.arraylength hx (by rw [e24]; exact Aru25.1) (State.isArrayOf_alike hZ.alike Aru25.2.1) (g := (mkF m 91 #[.val (.int p0), .val (.int p1), .val (.int p2), .val (.int p3), .val (.int (2 : Int32)), .val (.ref b16), .val (.ref q21), .val (.ref b16)] [(.ref b16)])) rfl rfl (hb hby at_91)) _ k)))) ?_
    rw [len_of Su25 Ngu25]
    refine own_by (W' := (T24.setTop (mkF m 107 #[.val (.int p0), .val (.int p1), .val (.int p2), .val (.int p3), .val (.int (2 : Int32)), .val (.ref b16), .val (.ref q21), .val (.ref b16)] [(.int (0 : Int32)), (.ref b16)]))) (fun t k => XS.iload X24.here hx rfl (hb hby at_92) rfl (XS.icmpYes X24.here hx rfl (pc0 := 94) (pc' := 99) rfl (hb hby at_94) rfl (teq (rfl : (2 : Int32) = (2 : Int32))).1 (by decide) (by decide) (XS.iload X24.here hx rfl (hb hby at_99) rfl (XS.ifNo X24.here hx rfl (hb hby at_101) rfl ((if0 _ _).trans (tlt (by decide : (0 : Int32) < (2 : Int32))).2.2.2) (XS.aload X24.here hx rfl (hb hby at_104) rfl rfl (XS.iconst X24.here hx rfl (hb hby at_106) k)))))) ?_
    obtain ⟨clu26, Aru26, qu26, Su26, Ngu26, Hau26, Gau26⟩ := (Vu19.keep Kq21 nin0)
    have hinu26 : ¬ ((0 : Int32) < 0 ∨ clu26.slots.size ≤ ((0 : Int32)).toNatClampNeg) := inb_of Su26 ⟨by decide, by decide⟩
    have hatu26 : clu26.slots[((0 : Int32)).toNatClampNeg]? = some (.int (nar .byte (p1.toInt8.toInt32))) := Has.at Hau26 hinu26 rfl
    refine own_by (W' := (T24.setTop (mkF m 118 #[.val (.int p0), .val (.int p1), .val (.int p2), .val (.int p3), .val (.int (2 : Int32)), .val (.ref b16), .val (.ref q21), .val (.ref b16)] [(.int (1 : Int32)), (.int (2 : Int32))]))) (fun t k => (X24.baloadBytes hx (j := (0 : Int32)) (v := (.int (nar .byte (p1.toInt8.toInt32)))) (by rw [e24]; exact Aru26.1) (State.isArrayOf_alike hZ.alike Aru26.2.1) Aru26.2.2 hinu26 hatu26 (g := (mkF m 107 #[.val (.int p0), .val (.int p1), .val (.int p2), .val (.int p3), .val (.int (2 : Int32)), .val (.ref b16), .val (.ref q21), .val (.ref b16)] [(.int (0 : Int32)), (.ref b16)])) rfl rfl (hb hby at_107)) _ (XS.iloadN X24.here hx rfl (hb hby at_108) rfl (XS.i2b X24.here hx rfl (hb hby at_109) rfl (XS.icmpYes X24.here hx rfl (pc0 := 110) (pc' := 115) rfl (hb hby at_110) rfl (teq (own_narb _)).1 (by decide) (by decide) (XS.iload X24.here hx rfl (hb hby at_115) rfl (XS.iconst X24.here hx rfl (hb hby at_117) k)))))) ?_
    obtain ⟨clu27, Aru27, qu27, Su27, Ngu27, Hau27, Gau27⟩ := (Vu19.keep Kq21 nin0)
    have hinu27 : ¬ ((1 : Int32) < 0 ∨ clu27.slots.size ≤ ((1 : Int32)).toNatClampNeg) := inb_of Su27 ⟨by decide, by decide⟩
    have hatu27 : clu27.slots[((1 : Int32)).toNatClampNeg]? = some (.int (nar .byte (p2.toInt8.toInt32))) := Has.at Hau27 hinu27 rfl
    refine own_by (W' := (T24.setTop (mkF m 127 #[.val (.int p0), .val (.int p1), .val (.int p2), .val (.int p3), .val (.int (2 : Int32)), .val (.ref b16), .val (.ref q21), .val (.ref b16)] [(.int (p2.toInt8.toInt32)), (.int (nar .byte (p2.toInt8.toInt32)))]))) (fun t k => XS.icmpNo X24.here hx rfl (hb hby at_118) rfl (tlt (by decide : (1 : Int32) < (2 : Int32))).2.2.2 (XS.aload X24.here hx rfl (hb hby at_121) rfl rfl (XS.iconst X24.here hx rfl (hb hby at_123) ((X24.baloadBytes hx (j := (1 : Int32)) (v := (.int (nar .byte (p2.toInt8.toInt32)))) (by rw [e24]; exact Aru27.1) (State.isArrayOf_alike hZ.alike Aru27.2.1) Aru27.2.2 hinu27 hatu27 (g := (mkF m 124 #[.val (.int p0), .val (.int p1), .val (.int p2), .val (.int p3), .val (.int (2 : Int32)), .val (.ref b16), .val (.ref q21), .val (.ref b16)] [(.int (1 : Int32)), (.ref b16)])) rfl rfl (hb hby at_124)) _ (XS.iloadN X24.here hx rfl (hb hby at_125) rfl (XS.i2b X24.here hx rfl (hb hby at_126) rfl k)))))) ?_
    obtain ⟨fs, hr, hrun, hended, hW, hsame⟩ := X24.leave (v := some (.int (1 : Int32))) (fun h => by rw [Bd.returns] at h; cases h)
    refine own_by (W' := (T24.setTop (mkF m 150 #[.val (.int p0), .val (.int p1), .val (.int p2), .val (.int p3), .val (.int (2 : Int32)), .val (.ref b16), .val (.ref q21), .val (.ref b16)] [(.int (1 : Int32))]))) (fun t k => XS.icmpYes X24.here hx rfl (pc0 := 127) (pc' := 132) rfl (hb hby at_127) rfl (teq (own_narb _)).1 (by decide) (by decide) (XS.iload X24.here hx rfl (hb hby at_132) rfl (XS.iconst X24.here hx rfl (hb hby at_134) (XS.icmpYes X24.here hx rfl (pc0 := 135) (pc' := 149) rfl (hb hby at_135) rfl (flt (by decide : ¬ ((2 : Int32) < (2 : Int32)))).2.2.2 (by decide) (by decide) (XS.iconst X24.here hx rfl (hb hby at_149) k))))) ?_
    refine ⟨_, _, retOut X24 hx Bd.returns rfl (Or.inl ⟨rfl, Or.inr (Or.inl rfl), _, rfl⟩) (hb hby at_150) hr, hrun, hended, _, _, rfl, ?_, ⟨_, rfl⟩, hW, hsame.mono (by decide) (by decide)⟩
    exact ⟨rfl, N24⟩
  ·
    rw [hs]
    obtain ⟨T28, h28, k28, X28, e28, E28, A28, st28⟩ := newP X0 hx hZ (own_w hw 0) e0 (g := (mkF m 7 #[.val (.int p0), .val (.int p1), .val (.int p2), .val (.int p3), .val (.int (3 : Int32)), .unset, .unset, .unset] [(.int (3 : Int32))])) rfl (hb hby at_7) rfl (by decide) (cap := 3) (by decide) (by decide) (by decide) (by decide)
    obtain ⟨b28, g28⟩ : ∃ z, z = h0.size := ⟨_, rfl⟩
    rw [← g28] at A28 st28
    have g_b28 : n0 ≤ b28 := Nat.le_trans (own_le O0) (Nat.le_of_eq g28.symm)
    have sz_b28 : h0.size ≤ b28 := Nat.le_trans (Keep.refl h0 []).1 (Nat.le_of_eq g28.symm)
    have O28 := O0.ext E28
    have K28 := Keep.ext (Keep.refl h0 []) E28
    have V_b28 : Arv Z h28 b28 k28 .byte (3 : Int32) [(.int (0 : Int32)), (.int (0 : Int32)), (.int (0 : Int32))] (.int (0 : Int32)) := (Arv.new A28 (by decide)).pad (pad_rep [] (.int (0 : Int32)) 3)
    refine own_by (W' := (T28.setTop (mkF m 18 #[.val (.int p0), .val (.int p1), .val (.int p2), .val (.int p3), .val (.int (3 : Int32)), .val (.ref b28), .unset, .unset] [(.ref b28)]))) (fun t k => XS.iload X0.here hx rfl (hb hby at_5) rfl (st28 _ (XS.astore X28.here hx rfl (hb hby at_9) rfl rfl (l' := #[.val (.int p0), .val (.int p1), .val (.int p2), .val (.int p3), .val (.int (3 : Int32)), .val (.ref b28), .unset, .unset]) rfl (XS.iload X28.here hx rfl (hb hby at_11) rfl (XS.ifNo X28.here hx rfl (hb hby at_13) rfl ((if0 _ _).trans (tlt (by decide : (0 : Int32) < (3 : Int32))).2.2.2) (XS.aload X28.here hx rfl (hb hby at_16) rfl rfl k)))))) ?_
    obtain ⟨clu29, Aru29, qu29, Su29, Ngu29, Hau29, Gau29⟩ := V_b28
    have hinu29 : ¬ ((0 : Int32) < 0 ∨ clu29.slots.size ≤ ((0 : Int32)).toNatClampNeg) := inb_of Su29 ⟨by decide, by decide⟩
    obtain ⟨T30, h30, X30, e30, W30, st30⟩ := stB X28 hx hZ e28 Aru29 (j := (0 : Int32)) hinu29 (g := (mkF m 21 #[.val (.int p0), .val (.int p1), .val (.int p2), .val (.int p3), .val (.int (3 : Int32)), .val (.ref b28), .unset, .unset] [(.int (p1.toInt8.toInt32)), (.int (0 : Int32)), (.ref b28)])) rfl rfl (hb hby at_21)
    have Vu29 : Arv Z h30 b28 k28 .byte (3 : Int32) [(.int (nar .byte (p1.toInt8.toInt32))), (.int (0 : Int32)), (.int (0 : Int32))] (.int (0 : Int32)) := Arv.set Aru29 qu29 Su29 Ngu29 Hau29 Gau29 (fits_nar_byte _) W30 0 rfl (Nat.le_of_ble_eq_true rfl)
    have O30 := Old.wr O28 W30 g_b28
    have N30 := Fr.snoc X30 N0 g_b28
    have K30 := Keep.wr K28 W30 (Or.inr sz_b28)
    refine own_by (W' := (T30.setTop (mkF m 25 #[.val (.int p0), .val (.int p1), .val (.int p2), .val (.int p3), .val (.int (3 : Int32)), .val (.ref b28), .unset, .unset] [(.int (1 : Int32)), (.int (3 : Int32))]))) (fun t k => XS.iconst X28.here hx rfl (hb hby at_18) (XS.iloadN X28.here hx rfl (hb hby at_19) rfl (XS.i2b X28.here hx rfl (hb hby at_20) rfl (st30 _ (XS.iload X30.here hx rfl (hb hby at_22) rfl (XS.iconst X30.here hx rfl (hb hby at_24) k)))))) ?_
    obtain ⟨clu31, Aru31, qu31, Su31, Ngu31, Hau31, Gau31⟩ := Vu29
    have hinu31 : ¬ ((1 : Int32) < 0 ∨ clu31.slots.size ≤ ((1 : Int32)).toNatClampNeg) := inb_of Su31 ⟨by decide, by decide⟩
    obtain ⟨T32, h32, X32, e32, W32, st32⟩ := stB X30 hx hZ e30 Aru31 (j := (1 : Int32)) hinu31 (g := (mkF m 33 #[.val (.int p0), .val (.int p1), .val (.int p2), .val (.int p3), .val (.int (3 : Int32)), .val (.ref b28), .unset, .unset] [(.int (p2.toInt8.toInt32)), (.int (1 : Int32)), (.ref b28)])) rfl rfl (hb hby at_33)
    have Vu31 : Arv Z h32 b28 k28 .byte (3 : Int32) [(.int (nar .byte (p1.toInt8.toInt32))), (.int (nar .byte (p2.toInt8.toInt32))), (.int (0 : Int32))] (.int (0 : Int32)) := Arv.set Aru31 qu31 Su31 Ngu31 Hau31 Gau31 (fits_nar_byte _) W32 1 rfl (Nat.le_of_ble_eq_true rfl)
    have O32 := Old.wr O30 W32 g_b28
    have N32 := Fr.snoc X32 N30 g_b28
    have K32 := Keep.wr K30 W32 (Or.inr sz_b28)
    refine own_by (W' := (T32.setTop (mkF m 34 #[.val (.int p0), .val (.int p1), .val (.int p2), .val (.int p3), .val (.int (3 : Int32)), .val (.ref b28), .unset, .unset] []))) (fun t k => XS.icmpNo X30.here hx rfl (hb hby at_25) rfl (tlt (by decide : (1 : Int32) < (3 : Int32))).2.2.2 (XS.aload X30.here hx rfl (hb hby at_28) rfl rfl (XS.iconst X30.here hx rfl (hb hby at_30) (XS.iloadN X30.here hx rfl (hb hby at_31) rfl (XS.i2b X30.here hx rfl (hb hby at_32) rfl (st32 _ k)))))) ?_
    refine own_by (W' := (T32.setTop (mkF m 44 #[.val (.int p0), .val (.int p1), .val (.int p2), .val (.int p3), .val (.int (3 : Int32)), .val (.ref b28), .unset, .unset] [(.int p3), (.int (2 : Int32)), (.ref b28)]))) (fun t k => XS.iload X32.here hx rfl (hb hby at_34) rfl (XS.iconst X32.here hx rfl (hb hby at_36) (XS.icmpNo X32.here hx rfl (hb hby at_37) rfl (tlt (by decide : (2 : Int32) < (3 : Int32))).2.2.2 (XS.aload X32.here hx rfl (hb hby at_40) rfl rfl (XS.iconst X32.here hx rfl (hb hby at_42) (XS.iloadN X32.here hx rfl (hb hby at_43) rfl k)))))) ?_
    obtain ⟨clu33, Aru33, qu33, Su33, Ngu33, Hau33, Gau33⟩ := Vu31
    have hinu33 : ¬ ((2 : Int32) < 0 ∨ clu33.slots.size ≤ ((2 : Int32)).toNatClampNeg) := inb_of Su33 ⟨by decide, by decide⟩
    obtain ⟨T34, h34, X34, e34, W34, st34⟩ := stB X32 hx hZ e32 Aru33 (j := (2 : Int32)) hinu33 (g := (mkF m 45 #[.val (.int p0), .val (.int p1), .val (.int p2), .val (.int p3), .val (.int (3 : Int32)), .val (.ref b28), .unset, .unset] [(.int (p3.toInt8.toInt32)), (.int (2 : Int32)), (.ref b28)])) rfl rfl (hb hby at_45)
    have Vu33 : Arv Z h34 b28 k28 .byte (3 : Int32) [(.int (nar .byte (p1.toInt8.toInt32))), (.int (nar .byte (p2.toInt8.toInt32))), (.int (nar .byte (p3.toInt8.toInt32)))] (.int (0 : Int32)) := Arv.set Aru33 qu33 Su33 Ngu33 Hau33 Gau33 (fits_nar_byte _) W34 2 rfl (Nat.le_of_ble_eq_true rfl)
    have O34 := Old.wr O32 W34 g_b28
    have N34 := Fr.snoc X34 N32 g_b28
    have K34 := Keep.wr K32 W34 (Or.inr sz_b28)
    obtain ⟨_, _, ⟨T35, L35, k35, n35⟩, -, X35, ⟨Lc35, hQ35, l35, y35, z35⟩, st35⟩ := Jvm.LawKit.callS X34 hx (y := (⟨"com/example/slipway/slipway/Body", "of", "([B)Lcom/example/slipway/slipway/Body;"⟩ : MethodName)) hown (mvT hZ (own_w hw 1)) (mvT hZ (own_w hw 2)) (mvT hZ (own_w hw 3)) (mvT hZ (own_w hw 4)) (by decide) (backOf (W := 0) (rmF l Z a0 hw [] b28 k28 (3 : Int32) [(.int (nar .byte (p1.toInt8.toInt32))), (.int (nar .byte (p2.toInt8.toInt32))), (.int (nar .byte (p3.toInt8.toInt32)))] (.int (0 : Int32)) h34 n0 (own_le O34) O34 Vu33) hZ (own_w hw 4) (own_w hw 3) (by decide) (by decide)) (g := (mkF m 48 #[.val (.int p0), .val (.int p1), .val (.int p2), .val (.int p3), .val (.int (3 : Int32)), .val (.ref b28), .unset, .unset] [(.ref b28)])) rfl (by rw [hml]; rfl) (argsL := [(.ref b28)]) (rest := []) (lenOf pd_3 rfl) rfl (by show 2 * 0 + _ ≤ _; exact Nat.le_of_eq rfl) (hb hby at_48) (fun _ _ => ⟨rfl, e34, (by decide : 1 + 1 ≤ _), (by decide : 3 + 3 ≤ _)⟩)
    dsimp only [Pt.U, Pt.locs, Pt.cells, Pt.slots] at X35 l35 y35 z35 st35 hQ35
    subst l35 y35 z35
    obtain ⟨q35, rfl, N35q, Kq35, Eq35, Fq35_bytes, Fq35_channel, Fq35_length⟩ := hQ35
    have O35 := Old.keep O34 Kq35 all0
    have K35 := Keep.trans K34 Kq35 all0
    have N35 := Fr.app N34 N35q
    refine own_by (W' := (T35.setTop (mkF m 55 #[.val (.int p0), .val (.int p1), .val (.int p2), .val (.int p3), .val (.int (3 : Int32)), .val (.ref b28), .val (.ref q35), .unset] [(.ref q35)]))) (fun t k => XS.i2b X32.here hx rfl (hb hby at_44) rfl (st34 _ (XS.aload X34.here hx rfl (hb hby at_46) rfl rfl (st35 _ (XS.astore X35.here hx rfl (hb hby at_51) rfl rfl (l' := #[.val (.int p0), .val (.int p1), .val (.int p2), .val (.int p3), .val (.int (3 : Int32)), .val (.ref b28), .val (.ref q35), .unset]) rfl (XS.aload X35.here hx rfl (hb hby at_53) rfl rfl k)))))) ?_
    obtain ⟨cq36, kq36, q36a, q36b, q36c⟩ := isOf hZ rfl Eq35
    obtain ⟨_, _, ⟨T36, L36, k36, n36⟩, -, X36, ⟨Lc36, hQ36, l36, y36, z36⟩, st36⟩ := X35.virtualBack hx (y := (⟨"com/example/slipway/slipway/Body", "channel", "()Ljava/nio/channels/FileChannel;"⟩ : MethodName)) (z := (⟨"com/example/slipway/slipway/Body", "channel", "()Ljava/nio/channels/FileChannel;"⟩ : MethodName)) hown (mvT hZ (own_w hw 24)) (mvT hZ (own_w hw 25)) (notFace_of_selects (args := #[]) (mvT hZ (own_w hw 27))) (mvT hZ (own_w hw 27)) (mvT hZ (own_w hw 26)) (by decide) (backOf (W := 0) (rmGchannel l Z a0 hw [] q35 T35.heap n0 (own_le O35) Fq35_channel) hZ (own_w hw 28) (own_w hw 3) (by decide) (by decide)) q36a q36c (g := (mkF m 55 #[.val (.int p0), .val (.int p1), .val (.int p2), .val (.int p3), .val (.int (3 : Int32)), .val (.ref b28), .val (.ref q35), .unset] [(.ref q35)])) rfl (by rw [hml]; rfl) (Steps.refl _) (argsL := []) (rest := []) (lenOf pd_4 rfl) rfl (by show 2 * 0 + _ ≤ _; exact Nat.le_of_eq rfl) (hb hby at_55) (fun _ _ => ⟨rfl, rfl, (by decide : 2 + 0 ≤ _), (by decide : 6 + 0 ≤ _)⟩)
    dsimp only [Pt.U, Pt.locs, Pt.cells, Pt.slots] at X36 l36 y36 z36 st36 hQ36
    subst l36 y36 z36
    obtain ⟨rfl, N36q, e36⟩ := hQ36
    have N36 := Fr.app N35 N36q
    obtain ⟨cq37, kq37, q37a, q37b, q37c⟩ := isOf hZ e36 Eq35
    obtain ⟨_, _, ⟨T37, L37, k37, n37⟩, -, X37, ⟨Lc37, hQ37, l37, y37, z37⟩, st37⟩ := X36.virtualBack hx (y := (⟨"com/example/slipway/slipway/Body", "length", "()J"⟩ : MethodName)) (z := (⟨"com/example/slipway/slipway/Body", "length", "()J"⟩ : MethodName)) hown (mvT hZ (own_w hw 29)) (mvT hZ (own_w hw 30)) (notFace_of_selects (args := #[]) (mvT hZ (own_w hw 32))) (mvT hZ (own_w hw 32)) (mvT hZ (own_w hw 31)) (by decide) (backOf (W := 0) (rmGlength l Z a0 hw [] q35 ((3 : Int32).toInt64) T35.heap n0 (own_le O35) Fq35_length) hZ (own_w hw 33) (own_w hw 3) (by decide) (by decide)) q37a q37c (g := (mkF m 65 #[.val (.int p0), .val (.int p1), .val (.int p2), .val (.int p3), .val (.int (3 : Int32)), .val (.ref b28), .val (.ref q35), .unset] [(.ref q35)])) rfl (by rw [hml]; rfl) (Steps.refl _) (argsL := []) (rest := []) (lenOf pd_5 rfl) rfl (by show 2 * 0 + _ ≤ _; exact Nat.le_of_eq rfl) (hb hby at_65) (fun _ _ => ⟨rfl, e36, (by decide : 2 + 0 ≤ _), (by decide : 6 + 0 ≤ _)⟩)
    dsimp only [Pt.U, Pt.locs, Pt.cells, Pt.slots] at X37 l37 y37 z37 st37 hQ37
    subst l37 y37 z37
    obtain ⟨rfl, N37q, e37⟩ := hQ37
    have N37 := Fr.app N36 N37q
    refine own_by (W' := (T37.setTop (mkF m 71 #[.val (.int p0), .val (.int p1), .val (.int p2), .val (.int p3), .val (.int (3 : Int32)), .val (.ref b28), .val (.ref q35), .unset] [(.long ((3 : Int32).toInt64)), (.long ((3 : Int32).toInt64))]))) (fun t k => Steps.trans st36 (XS.ifnullYes X36.here hx rfl (pc0 := 58) (pc' := 63) rfl (hb hby at_58) rfl (by decide) (by decide) (XS.aload X36.here hx rfl (hb hby at_63) rfl rfl (Steps.trans st37 (XS.iload X37.here hx rfl (hb hby at_68) rfl (XS.i2l X37.here hx rfl (hb hby at_70) rfl k)))))) ?_
    obtain ⟨cq38, kq38, q38a, q38b, q38c⟩ := isOf hZ e37 Eq35
    obtain ⟨_, _, ⟨T38, L38, k38, n38⟩, -, X38, ⟨Lc38, hQ38, l38, y38, z38⟩, st38⟩ := X37.virtualBack hx (y := (⟨"com/example/slipway/slipway/Body", "bytes", "()[B"⟩ : MethodName)) (z := (⟨"com/example/slipway/slipway/Body", "bytes", "()[B"⟩ : MethodName)) hown (mvT hZ (own_w hw 34)) (mvT hZ (own_w hw 35)) (notFace_of_selects (args := #[]) (mvT hZ (own_w hw 37))) (mvT hZ (own_w hw 37)) (mvT hZ (own_w hw 36)) (by decide) (backOf (W := 0) (rmGbytes l Z a0 hw [] q35 b28 T35.heap n0 (own_le O35) Fq35_bytes) hZ (own_w hw 38) (own_w hw 3) (by decide) (by decide)) q38a q38c (g := (mkF m 79 #[.val (.int p0), .val (.int p1), .val (.int p2), .val (.int p3), .val (.int (3 : Int32)), .val (.ref b28), .val (.ref q35), .unset] [(.ref q35)])) rfl (by rw [hml]; rfl) (Steps.refl _) (argsL := []) (rest := []) (lenOf pd_6 rfl) rfl (by show 2 * 0 + _ ≤ _; exact Nat.le_of_eq rfl) (hb hby at_79) (fun _ _ => ⟨rfl, e37, (by decide : 2 + 0 ≤ _), (by decide : 6 + 0 ≤ _)⟩)
    dsimp only [Pt.U, Pt.locs, Pt.cells, Pt.slots] at X38 l38 y38 z38 st38 hQ38
    subst l38 y38 z38
    obtain ⟨rfl, N38q, e38⟩ := hQ38
    have N38 := Fr.app N37 N38q
    refine own_by (W' := (T38.setTop (mkF m 86 #[.val (.int p0), .val (.int p1), .val (.int p2), .val (.int p3), .val (.int (3 : Int32)), .val (.ref b28), .val (.ref q35), .val (.ref b28)] [(.ref b28)]))) (fun t k => XS.lcmp X37.here hx rfl (hb hby at_71) rfl (XS.ifYes X37.here hx rfl (pc0 := 72) (pc' := 77) rfl (hb hby at_72) rfl (own_lceq (rfl : ((3 : Int32).toInt64) = ((3 : Int32).toInt64))).1 (by decide) (by decide) (XS.aload X37.here hx rfl (hb hby at_77) rfl rfl (Steps.trans st38 (XS.astore X38.here hx rfl (hb hby at_82) rfl rfl (l' := #[.val (.int p0), .val (.int p1), .val (.int p2), .val (.int p3), .val (.int (3 : Int32)), .val (.ref b28), .val (.ref q35), .val (.ref b28)]) rfl (XS.aload X38.here hx rfl (hb hby at_84) rfl rfl k)))))) ?_
    obtain ⟨clu39, Aru39, qu39, Su39, Ngu39, Hau39, Gau39⟩ := (Vu33.keep Kq35 nin0)
    refine own_by (W' := (T38.setTop (mkF m 92 #[.val (.int p0), .val (.int p1), .val (.int p2), .val (.int p3), .val (.int (3 : Int32)), .val (.ref b28), .val (.ref q35), .val (.ref b28)] [(.int clu39.slots.size.toInt32)]))) (fun t k => XS.ifnullNo X38.here hx rfl (hb hby at_86) rfl (XS.aload X38.here hx rfl (hb hby at_89) rfl rfl ((X38.arraylength hx (by rw [e38]; exact Aru39.1) (State.isArrayOf_alike hZ.alike Aru39.2.1) (g := (mkF m 91 #[.val (.int p0), .val (.int p1), .val (.int p2), .val (.int p3), .val (.int (3 : Int32)), .val (.ref b28), .val (.ref q35), .val (.ref b28)] [(.ref b28)])) rfl rfl (hb hby at_91)) _ k))) ?_
    rw [len_of Su39 Ngu39]
    refine own_by (W' := (T38.setTop (mkF m 107 #[.val (.int p0), .val (.int p1), .val (.int p2), .val (.int p3), .val (.int (3 : Int32)), .val (.ref b28), .val (.ref q35), .val (.ref b28)] [(.int (0 : Int32)), (.ref b28)]))) (fun t k => XS.iload X38.here hx rfl (hb hby at_92) rfl (XS.icmpYes X38.here hx rfl (pc0 := 94) (pc' := 99) rfl (hb hby at_94) rfl (teq (rfl : (3 : Int32) = (3 : Int32))).1 (by decide) (by decide) (XS.iload X38.here hx rfl (hb hby at_99) rfl (XS.ifNo X38.here hx rfl (hb hby at_101) rfl ((if0 _ _).trans (tlt (by decide : (0 : Int32) < (3 : Int32))).2.2.2) (XS.aload X38.here hx rfl (hb hby at_104) rfl rfl (XS.iconst X38.here hx rfl (hb hby at_106) k)))))) ?_
    obtain ⟨clu40, Aru40, qu40, Su40, Ngu40, Hau40, Gau40⟩ := (Vu33.keep Kq35 nin0)
    have hinu40 : ¬ ((0 : Int32) < 0 ∨ clu40.slots.size ≤ ((0 : Int32)).toNatClampNeg) := inb_of Su40 ⟨by decide, by decide⟩
    have hatu40 : clu40.slots[((0 : Int32)).toNatClampNeg]? = some (.int (nar .byte (p1.toInt8.toInt32))) := Has.at Hau40 hinu40 rfl
    refine own_by (W' := (T38.setTop (mkF m 118 #[.val (.int p0), .val (.int p1), .val (.int p2), .val (.int p3), .val (.int (3 : Int32)), .val (.ref b28), .val (.ref q35), .val (.ref b28)] [(.int (1 : Int32)), (.int (3 : Int32))]))) (fun t k => (X38.baloadBytes hx (j := (0 : Int32)) (v := (.int (nar .byte (p1.toInt8.toInt32)))) (by rw [e38]; exact Aru40.1) (State.isArrayOf_alike hZ.alike Aru40.2.1) Aru40.2.2 hinu40 hatu40 (g := (mkF m 107 #[.val (.int p0), .val (.int p1), .val (.int p2), .val (.int p3), .val (.int (3 : Int32)), .val (.ref b28), .val (.ref q35), .val (.ref b28)] [(.int (0 : Int32)), (.ref b28)])) rfl rfl (hb hby at_107)) _ (XS.iloadN X38.here hx rfl (hb hby at_108) rfl (XS.i2b X38.here hx rfl (hb hby at_109) rfl (XS.icmpYes X38.here hx rfl (pc0 := 110) (pc' := 115) rfl (hb hby at_110) rfl (teq (own_narb _)).1 (by decide) (by decide) (XS.iload X38.here hx rfl (hb hby at_115) rfl (XS.iconst X38.here hx rfl (hb hby at_117) k)))))) ?_
    obtain ⟨clu41, Aru41, qu41, Su41, Ngu41, Hau41, Gau41⟩ := (Vu33.keep Kq35 nin0)
    have hinu41 : ¬ ((1 : Int32) < 0 ∨ clu41.slots.size ≤ ((1 : Int32)).toNatClampNeg) := inb_of Su41 ⟨by decide, by decide⟩
    have hatu41 : clu41.slots[((1 : Int32)).toNatClampNeg]? = some (.int (nar .byte (p2.toInt8.toInt32))) := Has.at Hau41 hinu41 rfl
    refine own_by (W' := (T38.setTop (mkF m 127 #[.val (.int p0), .val (.int p1), .val (.int p2), .val (.int p3), .val (.int (3 : Int32)), .val (.ref b28), .val (.ref q35), .val (.ref b28)] [(.int (p2.toInt8.toInt32)), (.int (nar .byte (p2.toInt8.toInt32)))]))) (fun t k => XS.icmpNo X38.here hx rfl (hb hby at_118) rfl (tlt (by decide : (1 : Int32) < (3 : Int32))).2.2.2 (XS.aload X38.here hx rfl (hb hby at_121) rfl rfl (XS.iconst X38.here hx rfl (hb hby at_123) ((X38.baloadBytes hx (j := (1 : Int32)) (v := (.int (nar .byte (p2.toInt8.toInt32)))) (by rw [e38]; exact Aru41.1) (State.isArrayOf_alike hZ.alike Aru41.2.1) Aru41.2.2 hinu41 hatu41 (g := (mkF m 124 #[.val (.int p0), .val (.int p1), .val (.int p2), .val (.int p3), .val (.int (3 : Int32)), .val (.ref b28), .val (.ref q35), .val (.ref b28)] [(.int (1 : Int32)), (.ref b28)])) rfl rfl (hb hby at_124)) _ (XS.iloadN X38.here hx rfl (hb hby at_125) rfl (XS.i2b X38.here hx rfl (hb hby at_126) rfl k)))))) ?_
    refine own_by (W' := (T38.setTop (mkF m 141 #[.val (.int p0), .val (.int p1), .val (.int p2), .val (.int p3), .val (.int (3 : Int32)), .val (.ref b28), .val (.ref q35), .val (.ref b28)] [(.int (2 : Int32)), (.ref b28)]))) (fun t k => XS.icmpYes X38.here hx rfl (pc0 := 127) (pc' := 132) rfl (hb hby at_127) rfl (teq (own_narb _)).1 (by decide) (by decide) (XS.iload X38.here hx rfl (hb hby at_132) rfl (XS.iconst X38.here hx rfl (hb hby at_134) (XS.icmpNo X38.here hx rfl (hb hby at_135) rfl (tlt (by decide : (2 : Int32) < (3 : Int32))).2.2.2 (XS.aload X38.here hx rfl (hb hby at_138) rfl rfl (XS.iconst X38.here hx rfl (hb hby at_140) k)))))) ?_
    obtain ⟨clu42, Aru42, qu42, Su42, Ngu42, Hau42, Gau42⟩ := (Vu33.keep Kq35 nin0)
    have hinu42 : ¬ ((2 : Int32) < 0 ∨ clu42.slots.size ≤ ((2 : Int32)).toNatClampNeg) := inb_of Su42 ⟨by decide, by decide⟩
    have hatu42 : clu42.slots[((2 : Int32)).toNatClampNeg]? = some (.int (nar .byte (p3.toInt8.toInt32))) := Has.at Hau42 hinu42 rfl
    obtain ⟨fs, hr, hrun, hended, hW, hsame⟩ := X38.leave (v := some (.int (1 : Int32))) (fun h => by rw [Bd.returns] at h; cases h)
    refine own_by (W' := (T38.setTop (mkF m 150 #[.val (.int p0), .val (.int p1), .val (.int p2), .val (.int p3), .val (.int (3 : Int32)), .val (.ref b28), .val (.ref q35), .val (.ref b28)] [(.int (1 : Int32))]))) (fun t k => (X38.baloadBytes hx (j := (2 : Int32)) (v := (.int (nar .byte (p3.toInt8.toInt32)))) (by rw [e38]; exact Aru42.1) (State.isArrayOf_alike hZ.alike Aru42.2.1) Aru42.2.2 hinu42 hatu42 (g := (mkF m 141 #[.val (.int p0), .val (.int p1), .val (.int p2), .val (.int p3), .val (.int (3 : Int32)), .val (.ref b28), .val (.ref q35), .val (.ref b28)] [(.int (2 : Int32)), (.ref b28)])) rfl rfl (hb hby at_141)) _ (XS.iloadN X38.here hx rfl (hb hby at_142) rfl (XS.i2b X38.here hx rfl (hb hby at_143) rfl (XS.icmpYes X38.here hx rfl (pc0 := 144) (pc' := 149) rfl (hb hby at_144) rfl (teq (own_narb _)).1 (by decide) (by decide) (XS.iconst X38.here hx rfl (hb hby at_149) k))))) ?_
    refine ⟨_, _, retOut X38 hx Bd.returns rfl (Or.inl ⟨rfl, Or.inr (Or.inl rfl), _, rfl⟩) (hb hby at_150) hr, hrun, hended, _, _, rfl, ?_, ⟨_, rfl⟩, hW, hsame.mono (by decide) (by decide)⟩
    exact ⟨rfl, N38⟩
set_option maxRecDepth 65536 in
set_option maxHeartbeats 40000000 in
theorem comes_1 {Post : Tables → Env → Array Value → State → Outcome → State → Prop} (hpost : ∀ tb e args s v u, (limb_1_1.after args s (.returned v) u = true ∧ limb_1_2.after args s (.returned v) u = true ∧ True) → FrameEnd s (.returned v) u (Jvm.fieldLocs frame_1_writes args s ++ Jvm.arrayLocs frame_1_arrays args s ++ Jvm.staticLocs frame_1_statics s) 16 128 → Post tb e args s (.returned v) u) :
    ArmFor flags0 classFile x code maxLocals ret World_1 tables_1 room_1 Calls_1 rest_1 Pre_1 Post := by
  intro l hfl _ _ p e ha hc hk s m args below hf hA hF happ hP
  obtain ⟨hcalls, hrest, hpre⟩ := hP
  obtain ⟨-, -, -, hnamed, -, -, -, hat⟩ := (Spec.applies_iff hf).mp happ
  obtain ⟨hg, hn⟩ := and_e (Cond.before_iff.mp (show (Jvm.Cond.and given_1 narrow_1).before args s = true from hpre))
  obtain ⟨ga1, gb1⟩ := and_e hg
  obtain ⟨ga2, gb2⟩ := and_e gb1
  obtain ⟨ga3, gb3⟩ := and_e gb2
  obtain ⟨ga4, gb4⟩ := and_e gb3
  obtain ⟨w0, w1, w2, w3, rfl⟩ : ∃ w0 w1 w2 w3 : Value, args = #[w0, w1, w2, w3] := by
    have hs : args.size = 4 := by simpa [Cond.value, given_1] using ga1
    obtain ⟨L⟩ := args
    match L, hs with
    | [w0, w1, w2, w3], _ => exact ⟨w0, w1, w2, w3, rfl⟩
  have hw := fun d (hd : d ∈ tables_1) => atoms_spec (ws := Jvm.Cond.code x code maxLocals ret :: tables_1) hat d (List.mem_cons_of_mem _ hd)
  have hfit : Fit s := fun {y c} hc i hi => by
    obtain ⟨ha, rfl⟩ := Array.getElem?_eq_some_iff.mp hc
    have q := List.all_eq_true.mp ((Array.all_eq_true_iff_forall_mem.mp hF) _ (Array.getElem_mem ha)) i (List.mem_range.mpr hi)
    simpa [Array.getElem?_eq_getElem hi] using q
  obtain ⟨i0, ei0⟩ := is_v ga2
  obtain rfl : w0 = (.int i0) := Option.some.inj ei0
  obtain ⟨i1, ei1⟩ := is_v ga3
  obtain rfl : w1 = (.int i1) := Option.some.inj ei1
  obtain ⟨i2, ei2⟩ := is_v ga4
  obtain rfl : w2 = (.int i2) := Option.some.inj ei2
  obtain ⟨i3, ei3⟩ := is_v gb4
  obtain rfl : w3 = (.int i3) := Option.some.inj ei3
  obtain ⟨n, o, h1, h2, h3, _, L, rfl, ⟨rfl, N⟩, hq⟩ := rmL l s _ hw tables_1 i0 i1 i2 i3 s.heap s.heap.size (Nat.le_refl _) (Old.start s) p e ha hc hk s m _ below hf ((Spec.applies_iff_loose hf).mp happ).1 ⟨rfl, State.Warmed39.refl s, rfl⟩ trivial
  refine ⟨n, _, h1, h2, h3, hpost _ _ _ _ _ _ ⟨Cond.after_iff.mpr rfl, Cond.after_iff.mpr (eq_i res_at (Term.int_eval (1)) rfl), trivial⟩ ⟨hq.1, hq.2.1, (hq.2.2.sift fun y hy => Or.inr (N y hy)).mono (by decide) (by decide)⟩⟩
theorem main_1_1 : Claimed_1_1 := comes_1 fun _ _ _ _ _ _ h hF => ⟨h.1, hF⟩
theorem main_1_2 : Claimed_1_2 := comes_1 fun _ _ _ _ _ _ h hF => ⟨h.2.1, hF⟩
end Jvm.Pilot.@@N@@
namespace Jvm.Pilot.@@N@@
open Jvm Jvm.ClassFile Sem Op Lib Jvm.Free Jvm.Stand Jvm.Pilot.@@N@@.Jvm.D
/-! MADE BY PROGRAM (witnessworld.py) out of the Statement's table words and the real class files: 10 classes; the members and pool entries that the words name. The judged class is class 1, her method 1. -/
namespace start1
open Jvm.ClassFile
def u (s : String) : CpInfo := .utf8 (stringToUtf16 s)
/-- a pool by its gaps: so many unusable entries, then the entry; so many at the end -/
def gap : Nat → List CpInfo → List CpInfo
  | 0, r => r
  | n + 1, r => .unusable :: gap n r
def poolList (es : List (Nat × CpInfo)) (last : Nat) : List CpInfo := es.foldr (fun e r => gap e.1 (e.2 :: r)) (gap last [])
def pool (es : List (Nat × CpInfo)) (last : Nat) : Array CpInfo := ⟨poolList es last⟩
def fileOf (pool : Array CpInfo) (this : Nat) (attrs : Array Attribute := #[]) (ms : Array MethodInfo := #[]) (fl : Nat := 33) (sup : Nat := 0) (ifs : Array Nat := #[]) (fds : Array FieldInfo := #[]) : ClassFile where
  minorVersion := 0
  majorVersion := 65
  constantPool := pool
  accessFlags := fl
  thisClass := this
  superClass := sup
  interfaces := ifs
  fields := fds
  methods := ms
  attributes := attrs
def plain (name : String) (sup : Option ClassId) : Class where
  name := name
  kind := .ordinary
  loader := none
  accessFlags := 33
  super := sup
  interfaces := #[]
  cf := none
  fields := #[]
  methods := #[]
  instanceTypes := #[]
  staticTypes := #[]
  resolved := #[]
  callSites := []
  init := .initialized
  statics := none
  mirror := none

def pool0 : Array CpInfo := pool [(5, u "<init>"), (0, u "()V"), (1, .class_ 10), (1, u "java/lang/Object")] 113

def k0c0 : Code := { maxStack := 0, maxLocals := 1, code := object_method_1_code, exceptionTable := #[], attributes := #[] }
def k0m0 : Method := { name := "<init>", desc := "()V", sig := { parameters := [], returnType := none }, accessFlags := 1, code := some k0c0 }
/-- java/lang/Object -/
def k0 : Class := { plain "java/lang/Object" none with
  accessFlags := 33
  interfaces := #[]
  cf := some (fileOf pool0 8 #[] #[{ accessFlags := 1, nameIndex := 5, descriptorIndex := 6, attributes := #[] }] 33 0 #[] #[])
  fields := #[]
  methods := #[k0m0]
  instanceTypes := #[]
  staticTypes := #[]
  resolved := Array.replicate 124 none
  statics := none }

def pool1 : Array CpInfo := pool [(2, .class_ 4), (1, u "java/lang/Object"), (0, u "<init>"), (0, u "()V"), (0, .methodref 8 9), (0, .class_ 10), (0, .nameAndType 11 12), (0, u "com/example/slipway/slipway/Body"), (0, u "of"), (0, u "([B)Lcom/example/slipway/slipway/Body;"), (0, .methodref 8 14), (0, .nameAndType 15 16), (0, u "channel"), (0, u "()Ljava/nio/channels/FileChannel;"), (0, .methodref 8 18), (0, .nameAndType 19 20), (0, u "length"), (0, u "()J"), (0, .methodref 8 22), (0, .nameAndType 23 24), (0, u "bytes"), (0, u "()[B"), (0, .class_ 26), (0, u "com/example/slipway/slipway/BodyOfPinLaw"), (2, u "law"), (0, u "(IIII)Z")] 5

def k1m0 : Method := { name := "<init>", desc := "()V", sig := { parameters := [], returnType := none }, accessFlags := 1, code := none }
def k1c1 : Code := { maxStack := 4, maxLocals := 8, code := code, exceptionTable := #[], attributes := #[] }
def k1m1 : Method := { name := "law", desc := "(IIII)Z", sig := { parameters := [.int, .int, .int, .int], returnType := some .boolean }, accessFlags := 9, code := some k1c1 }
/-- com/example/slipway/slipway/BodyOfPinLaw -/
def k1 : Class := { plain "com/example/slipway/slipway/BodyOfPinLaw" (some 0) with
  accessFlags := 49
  interfaces := #[]
  cf := some (fileOf pool1 25 #[] #[{ accessFlags := 1, nameIndex := 5, descriptorIndex := 6, attributes := #[] }, { accessFlags := 9, nameIndex := 29, descriptorIndex := 30, attributes := #[] }] 49 2 #[] #[])
  fields := #[]
  methods := #[k1m0, k1m1]
  instanceTypes := #[]
  staticTypes := #[]
  resolved := Array.replicate 36 none
  statics := none }

def pool2 : Array CpInfo := pool [(1, .methodref 2 3), (0, .class_ 4), (0, .nameAndType 5 6), (0, u "java/lang/Object"), (0, u "<init>"), (0, u "()V"), (0, .class_ 8), (0, u "java/lang/Record")] 13

def k2c0 : Code := { maxStack := 1, maxLocals := 1, code := jdk_30_method_1_code, exceptionTable := #[], attributes := #[] }
def k2m0 : Method := { name := "<init>", desc := "()V", sig := { parameters := [], returnType := none }, accessFlags := 4, code := some k2c0 }
/-- java/lang/Record -/
def k2 : Class := { plain "java/lang/Record" (some 0) with
  accessFlags := 1057
  interfaces := #[]
  cf := some (fileOf pool2 7 #[] #[{ accessFlags := 4, nameIndex := 5, descriptorIndex := 6, attributes := #[] }] 1057 2 #[] #[])
  fields := #[]
  methods := #[k2m0]
  instanceTypes := #[]
  staticTypes := #[]
  resolved := Array.replicate 22 none
  statics := none }

def pool3 : Array CpInfo := pool [(1, .methodref 2 3), (0, .class_ 4), (0, .nameAndType 5 6), (0, u "java/lang/Record"), (0, u "<init>"), (0, u "()V"), (0, .fieldref 8 9), (0, .class_ 10), (0, .nameAndType 11 12), (0, u "com/example/slipway/slipway/Body"), (0, u "bytes"), (0, u "[B"), (0, .fieldref 8 14), (0, .nameAndType 15 16), (0, u "channel"), (0, u "Ljava/nio/channels/FileChannel;"), (0, .fieldref 8 18), (0, .nameAndType 19 20), (0, u "length"), (0, u "J"), (0, .methodref 8 22), (0, .nameAndType 5 23), (0, u "([BLjava/nio/channels/FileChannel;J)V"), (5, u "()J"), (39, u "SLICE"), (0, u "I"), (4, u "of"), (0, u "([B)Lcom/example/slipway/slipway/Body;"), (12, u "()[B"), (0, u "()Ljava/nio/channels/FileChannel;")] 22

def k3c0 : Code := { maxStack := 3, maxLocals := 5, code := prog_1_method_1_code, exceptionTable := #[], attributes := #[] }
def k3m0 : Method := { name := "<init>", desc := "([BLjava/nio/channels/FileChannel;J)V", sig := { parameters := [(.array .byte), (.object "java/nio/channels/FileChannel"), .long], returnType := none }, accessFlags := 0, code := some k3c0 }
def k3c1 : Code := { maxStack := 6, maxLocals := 1, code := prog_1_method_2_code, exceptionTable := #[], attributes := #[] }
def k3m1 : Method := { name := "of", desc := "([B)Lcom/example/slipway/slipway/Body;", sig := { parameters := [(.array .byte)], returnType := some (.object "com/example/slipway/slipway/Body") }, accessFlags := 8, code := some k3c1 }
def k3c2 : Code := { maxStack := 1, maxLocals := 1, code := prog_1_method_8_code, exceptionTable := #[], attributes := #[] }
def k3m2 : Method := { name := "bytes", desc := "()[B", sig := { parameters := [], returnType := some (.array .byte) }, accessFlags := 1, code := some k3c2 }
def k3c3 : Code := { maxStack := 1, maxLocals := 1, code := prog_1_method_9_code, exceptionTable := #[], attributes := #[] }
def k3m3 : Method := { name := "channel", desc := "()Ljava/nio/channels/FileChannel;", sig := { parameters := [], returnType := some (.object "java/nio/channels/FileChannel") }, accessFlags := 1, code := some k3c3 }
def k3c4 : Code := { maxStack := 2, maxLocals := 1, code := prog_1_method_10_code, exceptionTable := #[], attributes := #[] }
def k3m4 : Method := { name := "length", desc := "()J", sig := { parameters := [], returnType := some .long }, accessFlags := 1, code := some k3c4 }
/-- com/example/slipway/slipway/Body -/
def k3 : Class := { plain "com/example/slipway/slipway/Body" (some 2) with
  accessFlags := 48
  interfaces := #[]
  cf := some (fileOf pool3 8 #[] #[{ accessFlags := 0, nameIndex := 5, descriptorIndex := 23, attributes := #[] }, { accessFlags := 8, nameIndex := 75, descriptorIndex := 76, attributes := #[] }, { accessFlags := 1, nameIndex := 11, descriptorIndex := 89, attributes := #[] }, { accessFlags := 1, nameIndex := 15, descriptorIndex := 90, attributes := #[] }, { accessFlags := 1, nameIndex := 19, descriptorIndex := 29, attributes := #[] }] 48 2 #[] #[{ accessFlags := 18, nameIndex := 11, descriptorIndex := 12, attributes := #[] }, { accessFlags := 18, nameIndex := 15, descriptorIndex := 16, attributes := #[] }, { accessFlags := 18, nameIndex := 19, descriptorIndex := 20, attributes := #[] }, { accessFlags := 24, nameIndex := 69, descriptorIndex := 70, attributes := #[] }])
  fields := #[{ name := "bytes", type := (.array .byte), accessFlags := 18, slot := 0, constantValue := 0 }, { name := "channel", type := (.object "java/nio/channels/FileChannel"), accessFlags := 18, slot := 1, constantValue := 0 }, { name := "length", type := .long, accessFlags := 18, slot := 2, constantValue := 0 }, { name := "SLICE", type := .int, accessFlags := 24, slot := 0, constantValue := 0 }]
  methods := #[k3m0, k3m1, k3m2, k3m3, k3m4]
  instanceTypes := #[(.array .byte), (.object "java/nio/channels/FileChannel"), .long]
  staticTypes := #[.int]
  resolved := Array.replicate 113 none
  statics := none }

def pool4 : Array CpInfo := pool [(1, u "java/lang/Cloneable"), (0, .class_ 1), (0, u "java/lang/Object"), (0, .class_ 3)] 3

/-- java/lang/Cloneable -/
def k4 : Class := { plain "java/lang/Cloneable" (some 0) with
  accessFlags := 1537
  interfaces := #[]
  cf := some (fileOf pool4 2 #[] #[] 1537 4 #[] #[])
  fields := #[]
  methods := #[]
  instanceTypes := #[]
  staticTypes := #[]
  resolved := Array.replicate 8 none
  statics := none }

def pool5 : Array CpInfo := pool [(1, u "java/io/Serializable"), (0, .class_ 1), (0, u "java/lang/Object"), (0, .class_ 3)] 3

/-- java/io/Serializable -/
def k5 : Class := { plain "java/io/Serializable" (some 0) with
  accessFlags := 1537
  interfaces := #[]
  cf := some (fileOf pool5 2 #[] #[] 1537 4 #[] #[])
  fields := #[]
  methods := #[]
  instanceTypes := #[]
  staticTypes := #[]
  resolved := Array.replicate 8 none
  statics := none }

/-- the primitive byte -/
def k6 : Class := { plain "byte" none with kind := .primitive 'B', accessFlags := 0x411 }
/-- [B -/
def k7 : Class := { plain "[B" (some 0) with kind := .array 6 .byte, interfaces := #[4, 5], accessFlags := 1041 }

/-- the primitive int -/
def k8 : Class := { plain "int" none with kind := .primitive 'I', accessFlags := 0x411 }
/-- [I -/
def k9 : Class := { plain "[I" (some 0) with kind := .array 8 .int, interfaces := #[4, 5], accessFlags := 1041 }

def heap : Heap := #[]
def classes : Array Class := #[k0, k1, k2, k3, k4, k5, k6, k7, k8, k9]
def interned : List (Array UInt16 × Addr) := []
def slotsUsed : Nat := 0
def theMethod : MethodId := ⟨1, 1⟩
def args0 : Array Value := #[.int 2, .int 7, .int 8, .int 9]
def aboutOver (below : List Frame) : State where
  vm := { classes := classes, interned := interned.toArray }
  heap := heap
  slotsUsed := slotsUsed
  threads := #[{ frames := .invoking theMethod args0 :: below }]
def below0 : List Frame := [.native { method := ⟨0, 0⟩, args := #[] }]
def about1 : State := aboutOver below0
def p0 : Program := .bare "" "" ""
def e0 : Env := launch0.env 0 0 0
theorem w_frames : about1.frames = Frame.invoking theMethod args0 :: below0 := rfl
set_option maxRecDepth 65536 in
theorem w_args : argsFit about1.vm theMethod args0 = true := by decide +kernel
set_option maxRecDepth 65536 in
theorem w_heap : heapFits about1 = true := by decide +kernel
set_option maxRecDepth 65536 in
theorem w_runnable : about1.curStatus? = some .runnable := by decide +kernel
set_option maxRecDepth 65536 in
theorem w_alone : about1.alone = true := by decide +kernel
set_option maxRecDepth 65536 in
theorem w_named : about1.methodNamed? x = some theMethod := by decide +kernel
set_option maxRecDepth 65536 in
theorem w_hears : about1.hears theMethod below0 = true := by decide +kernel
set_option maxRecDepth 65536 in
theorem w_ripe : about1.ripe theMethod args0 below0 = true := by decide +kernel
theorem w_running : about1.status = .running := rfl
set_option maxRecDepth 65536 in
theorem w_room : about1.hasRoom e0.platform room_1 = true :=
  launch0.hasRoom_least _ room_1 (by decide +kernel) (by decide +kernel) (by decide +kernel) (by decide +kernel) (by decide +kernel) (by decide +kernel)
theorem allAtoms_all (ts : List Jvm.Cond) (a : Array Jvm.Value) (st : Jvm.State) : (allAtoms ts).before a st = ts.all (fun c => c.before a st) := by
  induction ts with
  | nil => rfl
  | cons c t ih =>
    show (Jvm.Cond.and c (allAtoms t)).before a st = _
    rw [Jvm.Cond.before_and, ih, List.all_cons]
def words1 : List Jvm.Cond := Jvm.Cond.code x code maxLocals ret :: tables_1
/-- a 'code' word, met by the world's own term for the bytes: nothing is compared byte by byte -/
theorem code_word {y : MethodName} {bytes : ByteArray} {mx : Nat} {rt : Option FieldType} {a : Array Value} {s : State} {m : MethodId} {meth : Method} {c : Code} (h1 : s.methodNamed? y = some m) (h2 : s.vm.method? m = some meth) (h3 : meth.code = some c) (h4 : c.code = bytes)
    (h5 : (c.maxLocals == mx && c.exceptionTable.isEmpty && decide (c.maxStack ≤ mostOperands) && decide (meth.sig.returnType = rt) && !meth.locks && decide (parseMethodDescriptor y.desc = some meth.sig)) = true) : (Jvm.Cond.code y bytes mx rt).before a s = true := by
  simp only [Bool.and_eq_true, beq_iff_eq, Bool.not_eq_true', decide_eq_true_eq] at h5
  obtain ⟨⟨⟨⟨⟨g1, g2⟩, g3⟩, g4⟩, g5⟩, g6⟩ := h5
  simp [Cond.before, Cond.holds, Cond.value, h1, h2, h3, h4, g1, g2, g3, g4, g5, g6]
def isCode : Jvm.Cond → Bool
  | .code _ _ _ _ => true
  | _ => false
theorem all_split {L : List Jvm.Cond} {P : Jvm.Cond → Bool} (h1 : L.all (fun c => isCode c || P c) = true) (h2 : ∀ c ∈ L.filter isCode, P c = true) : L.all P = true := by
  refine List.all_eq_true.mpr fun c hc => ?_
  have h := List.all_eq_true.mp h1 c hc
  rcases Bool.eq_false_or_eq_true (isCode c) with hi | hi
  · exact h2 c (List.mem_filter.mpr ⟨hc, hi⟩)
  · simpa [hi] using h
set_option maxRecDepth 65536 in
theorem w_c0 : (Jvm.Cond.code x code maxLocals ret).before args0 about1 = true := code_word (m := ⟨1, 1⟩) (meth := k1m1) (c := k1c1) (by decide +kernel) rfl rfl rfl (by decide +kernel)
set_option maxRecDepth 65536 in
theorem w_c1 : (Jvm.Cond.code ({ cls := "com/example/slipway/slipway/Body", name := "of", desc := "([B)Lcom/example/slipway/slipway/Body;" } : Jvm.MethodName) prog_1_method_2_code (1 : Nat) (Option.some (Jvm.ClassFile.FieldType.object "com/example/slipway/slipway/Body"))).before args0 about1 = true := code_word (m := ⟨3, 1⟩) (meth := k3m1) (c := k3c1) (by decide +kernel) rfl rfl rfl (by decide +kernel)
set_option maxRecDepth 65536 in
theorem w_c2 : (Jvm.Cond.code ({ cls := "com/example/slipway/slipway/Body", name := "<init>", desc := "([BLjava/nio/channels/FileChannel;J)V" } : Jvm.MethodName) prog_1_method_1_code (5 : Nat) (Option.none : Option Jvm.ClassFile.FieldType)).before args0 about1 = true := code_word (m := ⟨3, 0⟩) (meth := k3m0) (c := k3c0) (by decide +kernel) rfl rfl rfl (by decide +kernel)
set_option maxRecDepth 65536 in
theorem w_c3 : (Jvm.Cond.code ({ cls := "java/lang/Record", name := "<init>", desc := "()V" } : Jvm.MethodName) jdk_30_method_1_code (1 : Nat) (Option.none : Option Jvm.ClassFile.FieldType)).before args0 about1 = true := code_word (m := ⟨2, 0⟩) (meth := k2m0) (c := k2c0) (by decide +kernel) rfl rfl rfl (by decide +kernel)
set_option maxRecDepth 65536 in
theorem w_c4 : (Jvm.Cond.code ({ cls := "java/lang/Object", name := "<init>", desc := "()V" } : Jvm.MethodName) object_method_1_code (1 : Nat) (Option.none : Option Jvm.ClassFile.FieldType)).before args0 about1 = true := code_word (m := ⟨0, 0⟩) (meth := k0m0) (c := k0c0) (by decide +kernel) rfl rfl rfl (by decide +kernel)
set_option maxRecDepth 65536 in
theorem w_c5 : (Jvm.Cond.code ({ cls := "com/example/slipway/slipway/Body", name := "channel", desc := "()Ljava/nio/channels/FileChannel;" } : Jvm.MethodName) prog_1_method_9_code (1 : Nat) (Option.some (Jvm.ClassFile.FieldType.object "java/nio/channels/FileChannel"))).before args0 about1 = true := code_word (m := ⟨3, 3⟩) (meth := k3m3) (c := k3c3) (by decide +kernel) rfl rfl rfl (by decide +kernel)
set_option maxRecDepth 65536 in
theorem w_c6 : (Jvm.Cond.code ({ cls := "com/example/slipway/slipway/Body", name := "length", desc := "()J" } : Jvm.MethodName) prog_1_method_10_code (1 : Nat) (Option.some Jvm.ClassFile.FieldType.long)).before args0 about1 = true := code_word (m := ⟨3, 4⟩) (meth := k3m4) (c := k3c4) (by decide +kernel) rfl rfl rfl (by decide +kernel)
set_option maxRecDepth 65536 in
theorem w_c7 : (Jvm.Cond.code ({ cls := "com/example/slipway/slipway/Body", name := "bytes", desc := "()[B" } : Jvm.MethodName) prog_1_method_8_code (1 : Nat) (Option.some (Jvm.ClassFile.FieldType.array Jvm.ClassFile.FieldType.byte))).before args0 about1 = true := code_word (m := ⟨3, 2⟩) (meth := k3m2) (c := k3c2) (by decide +kernel) rfl rfl rfl (by decide +kernel)
def codes1 : List Jvm.Cond := [Jvm.Cond.code x code maxLocals ret, Jvm.Cond.code ({ cls := "com/example/slipway/slipway/Body", name := "of", desc := "([B)Lcom/example/slipway/slipway/Body;" } : Jvm.MethodName) prog_1_method_2_code (1 : Nat) (Option.some (Jvm.ClassFile.FieldType.object "com/example/slipway/slipway/Body")), Jvm.Cond.code ({ cls := "com/example/slipway/slipway/Body", name := "<init>", desc := "([BLjava/nio/channels/FileChannel;J)V" } : Jvm.MethodName) prog_1_method_1_code (5 : Nat) (Option.none : Option Jvm.ClassFile.FieldType), Jvm.Cond.code ({ cls := "java/lang/Record", name := "<init>", desc := "()V" } : Jvm.MethodName) jdk_30_method_1_code (1 : Nat) (Option.none : Option Jvm.ClassFile.FieldType), Jvm.Cond.code ({ cls := "java/lang/Object", name := "<init>", desc := "()V" } : Jvm.MethodName) object_method_1_code (1 : Nat) (Option.none : Option Jvm.ClassFile.FieldType), Jvm.Cond.code ({ cls := "com/example/slipway/slipway/Body", name := "channel", desc := "()Ljava/nio/channels/FileChannel;" } : Jvm.MethodName) prog_1_method_9_code (1 : Nat) (Option.some (Jvm.ClassFile.FieldType.object "java/nio/channels/FileChannel")), Jvm.Cond.code ({ cls := "com/example/slipway/slipway/Body", name := "length", desc := "()J" } : Jvm.MethodName) prog_1_method_10_code (1 : Nat) (Option.some Jvm.ClassFile.FieldType.long), Jvm.Cond.code ({ cls := "com/example/slipway/slipway/Body", name := "bytes", desc := "()[B" } : Jvm.MethodName) prog_1_method_8_code (1 : Nat) (Option.some (Jvm.ClassFile.FieldType.array Jvm.ClassFile.FieldType.byte))]
set_option maxRecDepth 65536 in
theorem codes_eq : words1.filter isCode = codes1 := rfl
theorem w_codes : ∀ c ∈ words1.filter isCode, c.before args0 about1 = true := by
  rw [codes_eq]
  intro c hc
  simp only [codes1, List.mem_cons, List.not_mem_nil, or_false] at hc
  rcases hc with rfl | rfl | rfl | rfl | rfl | rfl | rfl | rfl
  · exact w_c0
  · exact w_c1
  · exact w_c2
  · exact w_c3
  · exact w_c4
  · exact w_c5
  · exact w_c6
  · exact w_c7
set_option maxRecDepth 65536 in
theorem w_t1 : (words1.take 24).all (fun c => isCode c || c.before args0 about1) = true := by decide +kernel
set_option maxRecDepth 65536 in
theorem w_t2 : (words1.drop 24).all (fun c => isCode c || c.before args0 about1) = true := by decide +kernel
theorem w_tables : (allAtoms (Jvm.Cond.code x code maxLocals ret :: tables_1)).before args0 about1 = true := by
  rw [allAtoms_all]
  show words1.all (fun c => c.before args0 about1) = true
  refine all_split ?_ w_codes
  rw [← List.take_append_drop 24 words1, List.all_append, w_t1, w_t2]
  rfl
set_option maxRecDepth 65536 in
theorem w_case : (Jvm.Cond.and given_1 narrow_1).before args0 about1 = true := by decide +kernel
theorem w_applies : (headSpec (Jvm.Cond.code x code maxLocals ret :: tables_1) room_1).applies x e0.platform about1 = true :=
  (Spec.applies_iff w_frames).mpr ⟨w_running, w_runnable, w_alone, w_named, w_hears, w_ripe, w_room, w_tables⟩
theorem atStart : AtStart classFile x code maxLocals ret World_1 tables_1 room_1 Calls_1 rest_1 Pre_1 launch0 p0 e0 about1 theMethod args0 below0 :=
  ⟨lists_1, trivial, launch0.admits_env _ _ _, launch0.least_env, fairChoices_fair.cas, fairChoices_fair.clock, w_frames, w_args, w_heap, w_applies, trivial, trivial, w_case⟩
end start1
theorem witness_1 : WitnessClaimed_1 := ⟨start1.p0, start1.e0, start1.about1, start1.theMethod, start1.args0, start1.below0, start1.atStart⟩
end Jvm.Pilot.@@N@@
