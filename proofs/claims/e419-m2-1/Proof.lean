import JvmDerived
import JvmDerived.Pilot.@@N@@Statement
import JvmDerived.Pilot.@@N@@Code
set_option linter.unusedVariables false
set_option linter.unusedSimpArgs false

namespace Jvm.Pilot.@@N@@
open Jvm Jvm.ClassFile Sem Op Lib Jvm.Free Jvm.Stand Jvm.LawKit Jvm.RoadKit Bundle Jvm.Pilot.@@N@@.Jvm.D

def own_G (p : Program) (e : Env) (below : List Frame) (B : State → Outcome → Prop) (U : State) : Prop := ∃ t o, Steps p.tables e below U t ∧ t.status = .running ∧ Ended t below o ∧ B t o
theorem own_via {p : Program} {e : Env} {below : List Frame} {B : State → Outcome → Prop} {U U' : State} (h : ∀ t, Steps p.tables e below U' t → Steps p.tables e below U t) (k : own_G p e below B U') : own_G p e below B U := by
  obtain ⟨t, o, a, r⟩ := k
  exact ⟨t, o, h t a, r⟩
theorem own_start {p : Program} {e : Env} {below : List Frame} {B : State → Outcome → Prop} {U : State} (k : own_G p e below B U) : ∃ t o, Steps p.tables e below U t ∧ t.status = .running ∧ Ended t below o ∧ B t o := k

theorem own_ord {args : Array Value} {s : State} {t : Term} {C n d : String} {x : Addr} {k : Int32} (ht : t.eval args s none [] s = some (.ref x)) (h : (Jvm.Cond.eq (.field t C n d) (.int k)).value args s none s [] = some true) : s.fieldOf? x C n d = some (.int k) := by
  have e := fld_at (C := C) (n := n) (dd := d) ht
  cases hf : s.fieldOf? x C n d with
  | none => rw [hf] at e; simp [Cond.value, e] at h
  | some v =>
    cases v <;> simp [Cond.value, Term.eval, ht, hf] at h
    subst h; rfl

def own_pick (k : Int32) (wT wF wU : Addr) : Addr := if k = 0 then wT else if k = 1 then wF else wU
def own_rank (a wT wF wU : Addr) : Int32 := if a = wF then 0 else if a = wU then 1 else if a = wT then 2 else -1
def own_and (a b wT wF wU : Addr) : Addr := if a = wF then wF else if b = wF then wF else if a = wU then wU else if b = wU then wU else wT
def own_or (a b wT wF wU : Addr) : Addr := if a = wT then wT else if b = wT then wT else if a = wU then wU else if b = wU then wU else wF
def own_min (a b : Int32) : Int32 := if b < a then b else a
def own_max (a b : Int32) : Int32 := if a < b then b else a
theorem own_pickE {Z : State} {h : Heap} {C : String} {wT wF wU : Addr} (k : Int32) (e1 : Exa Z h wT C) (e2 : Exa Z h wF C) (e3 : Exa Z h wU C) : Exa Z h (own_pick k wT wF wU) C := by
  unfold own_pick; repeat' split
  all_goals assumption
theorem own_law_and (j k : Int32) {wT wF wU : Addr} (n1 : wT ≠ wF) (n2 : wT ≠ wU) (n3 : wF ≠ wU) : own_rank (own_and (own_pick j wT wF wU) (own_pick k wT wF wU) wT wF wU) wT wF wU = own_min (own_rank (own_pick j wT wF wU) wT wF wU) (own_rank (own_pick k wT wF wU) wT wF wU) := by
  have m1 := n1.symm; have m2 := n2.symm; have m3 := n3.symm
  by_cases a : j = 0 <;> by_cases b : j = 1 <;> by_cases c : k = 0 <;> by_cases d : k = 1 <;> simp [own_pick, own_and, own_rank, own_min, a, b, c, d, n1, n2, n3, m1, m2, m3]
theorem own_law_or (j k : Int32) {wT wF wU : Addr} (n1 : wT ≠ wF) (n2 : wT ≠ wU) (n3 : wF ≠ wU) : own_rank (own_or (own_pick j wT wF wU) (own_pick k wT wF wU) wT wF wU) wT wF wU = own_max (own_rank (own_pick j wT wF wU) wT wF wU) (own_rank (own_pick k wT wF wU) wT wF wU) := by
  have m1 := n1.symm; have m2 := n2.symm; have m3 := n3.symm
  by_cases a : j = 0 <;> by_cases b : j = 1 <;> by_cases c : k = 0 <;> by_cases d : k = 1 <;> simp [own_pick, own_or, own_rank, own_max, a, b, c, d, n1, n2, n3, m1, m2, m3]

theorem d1_0 : decode method_2_code 0 = .ok (.iload_n 0, 1) := by decide +kernel
theorem d1_1 : decode method_2_code 1 = .ok (.ifCond .ne 10, 3) := by decide +kernel
theorem d1_4 : decode method_2_code 4 = .ok (.getstatic 7, 3) := by decide +kernel
theorem d1_7 : decode method_2_code 7 = .ok (.astore_n 1, 1) := by decide +kernel
theorem d1_8 : decode method_2_code 8 = .ok (.goto 19, 3) := by decide +kernel
theorem d1_11 : decode method_2_code 11 = .ok (.iload_n 0, 1) := by decide +kernel
theorem d1_12 : decode method_2_code 12 = .ok (.iconst 1, 1) := by decide +kernel
theorem d1_13 : decode method_2_code 13 = .ok (.if_icmp .ne 10, 3) := by decide +kernel
theorem d1_16 : decode method_2_code 16 = .ok (.getstatic 13, 3) := by decide +kernel
theorem d1_19 : decode method_2_code 19 = .ok (.astore_n 1, 1) := by decide +kernel
theorem d1_20 : decode method_2_code 20 = .ok (.goto 7, 3) := by decide +kernel
theorem d1_23 : decode method_2_code 23 = .ok (.getstatic 16, 3) := by decide +kernel
theorem d1_26 : decode method_2_code 26 = .ok (.astore_n 1, 1) := by decide +kernel
theorem d1_27 : decode method_2_code 27 = .ok (.aload_n 1, 1) := by decide +kernel
theorem d1_28 : decode method_2_code 28 = .ok (.areturn, 1) := by decide +kernel
theorem rm1_pn : plainName "com/example/tasc/tasc/value/TruthOrPinLaw" = true := by first | (simp [plainName, overriddenIn]; done) | decide +kernel
theorem rm1_ef (m : MethodId) (z0 : Int32) : entryFrame m #[(.int z0)] 2 = mkF m 0 #[.val (.int z0), .unset] [] := by first | (simp [entryFrame, mkF, argsToLocals, Value.category]; done) | rfl
def rm1_Q (Z : State) (p1 : Int32) (wT : Addr) (wF : Addr) (wU : Addr) (h0 : Heap) (n0 : Nat) (v : Option Value) (h : Heap) (L : List Loc) : Prop := v = some (.ref (own_pick p1 wT wF wU)) ∧ Fr n0 L ∧ h = h0
set_option maxRecDepth 65536 in
set_option maxHeartbeats 40000000 in
theorem rm1 (l : Launch) (Z : State) (a0 : Array Value) (hw : ∀ d ∈ tables_1, d.before a0 Z = true) (ws : List Jvm.Cond) (p1 : Int32) (wT : Addr) (wF : Addr) (wU : Addr) (h0 : Heap) (n0 : Nat) (Z0 : n0 ≤ h0.size) (S_TRUE : Sta Z h0 "com/example/tasc/tasc/value/Truth" "TRUE" "Lcom/example/tasc/tasc/value/Truth;" (.ref wT)) (S_FALSE : Sta Z h0 "com/example/tasc/tasc/value/Truth" "FALSE" "Lcom/example/tasc/tasc/value/Truth;" (.ref wF)) (S_UNKNOWN : Sta Z h0 "com/example/tasc/tasc/value/Truth" "UNKNOWN" "Lcom/example/tasc/tasc/value/Truth;" (.ref wU)) :
    MetFree l (⟨"com/example/tasc/tasc/value/TruthOrPinLaw", "pick", "(I)Lcom/example/tasc/tasc/value/Truth;"⟩ : MethodName) (head1 (Jvm.Cond.code (⟨"com/example/tasc/tasc/value/TruthOrPinLaw", "pick", "(I)Lcom/example/tasc/tasc/value/Truth;"⟩ : MethodName) method_2_code 2 (some (.object "com/example/tasc/tasc/value/Truth")) :: ws) ({ frames := 0, cells := 0, slots := 0, locals := 0 } : Room)) (fun a U => a = #[(.int p1)] ∧ Z.Warmed39 U.vm ∧ U.heap = h0) (fun _ _ _ _ _ => True) (fun _ U o U' => ∃ v L, o = .returned v ∧ rm1_Q Z p1 wT wF wU h0 n0 v U'.heap L ∧ FrameEnd U o U' L ({ frames := 0, cells := 0, slots := 0, locals := 0 } : Room).cells ({ frames := 0, cells := 0, slots := 0, locals := 0 } : Room).slots) := by
  refine MetFree.of_bodySF (plainFor_of_name rm1_pn) hisR ?_
  intro p e s m args below meth c s₁ Bd hml0 hP hK
  obtain ⟨rfl, hZ, hh⟩ := hP
  have hx := Bd.exec
  have hby := Bd.bytes
  have hml : c.maxLocals = 2 := hml0
  have hown : s.vm.findClass "com/example/tasc/tasc/value/TruthOrPinLaw" = some m.cls := findClass_of_methodNamed Bd.named
  have hnm := (name_of_methodNamed Bd.named Bd.method).1
  have X0 : Stand p l e ({ frames := 0, cells := 0, slots := 0, locals := 0 } : Room) s m #[(.int p1)] below meth c s₁ [] 0 0 := Stand.of_body Bd
  have e0 : s₁.heap = h0 := by rw [← hh, Bd.state]; rfl
  have N0 := Fr.nil n0
  refine own_via (fun t k => castTop (rm1_ef m p1) k) ?_
  show own_G p e below _ (s₁.setTop (mkF m 0 #[.val (.int p1), .unset] []))
  refine own_via (fun t k => XS.iloadN X0.here hx rfl (hb hby d1_0) rfl k) ?_
  show own_G p e below _ (s₁.setTop (mkF m 1 #[.val (.int p1), .unset] [(.int p1)]))
  by_cases c1_1 : p1 = (0 : Int32)
  · skip
    refine own_via (fun t k => XS.ifNo X0.here hx rfl (hb hby d1_1) rfl ((if0 _ _).trans (teq c1_1).2) k) ?_
    show own_G p e below _ (s₁.setTop (mkF m 4 #[.val (.int p1), .unset] []))
    obtain ⟨T2, X2, e2, st2⟩ := getS2 X0 hx hZ hown (host := "") (Or.inl (hw _ (List.mem_of_getElem? (i := 5) rfl))) Via.refl e0 S_TRUE (g := (mkF m 4 #[.val (.int p1), .unset] [])) rfl (hb hby d1_4)
    refine own_via st2 ?_
    show own_G p e below _ (T2.setTop (mkF m 7 #[.val (.int p1), .unset] [(.ref wT)]))
    refine own_via (fun t k => XS.astoreN X2.here hx rfl (hb hby d1_7) rfl rfl (l' := #[.val (.int p1), .val (.ref wT)]) rfl k) ?_
    show own_G p e below _ (T2.setTop (mkF m 8 #[.val (.int p1), .val (.ref wT)] []))
    refine own_via (fun t k => XS.goto X2.here hx rfl (pc0 := 8) (pc' := 27) rfl (hb hby d1_8) (by decide) (by decide) k) ?_
    show own_G p e below _ (T2.setTop (mkF m 27 #[.val (.int p1), .val (.ref wT)] []))
    refine own_via (fun t k => XS.aloadN X2.here hx rfl (hb hby d1_27) rfl rfl k) ?_
    show own_G p e below _ (T2.setTop (mkF m 28 #[.val (.int p1), .val (.ref wT)] [(.ref wT)]))
    obtain ⟨fs, hr, hrun, hended, hW, hsame⟩ := X2.leave (v := some (.ref wT)) (fun h => by rw [Bd.returns] at h; cases h)
    refine ⟨_, _, retOut X2 hx Bd.returns rfl (Or.inr (Or.inr (Or.inr (Or.inr ⟨rfl, rfl, rfl⟩)))) (hb hby d1_28) hr, hrun, hended, _, _, rfl, ?_, ⟨_, rfl⟩, hW, hsame.mono (by decide) (by decide)⟩
    show rm1_Q Z p1 wT wF wU h0 n0 _ T2.heap _
    rw [e2]
    exact ⟨by simp only [own_pick, if_pos c1_1], N0, rfl⟩
  · skip
    refine own_via (fun t k => XS.ifYes X0.here hx rfl (pc0 := 1) (pc' := 11) rfl (hb hby d1_1) rfl ((if0 _ _).trans (feq c1_1).2) (by decide) (by decide) k) ?_
    show own_G p e below _ (s₁.setTop (mkF m 11 #[.val (.int p1), .unset] []))
    refine own_via (fun t k => XS.iloadN X0.here hx rfl (hb hby d1_11) rfl k) ?_
    show own_G p e below _ (s₁.setTop (mkF m 12 #[.val (.int p1), .unset] [(.int p1)]))
    refine own_via (fun t k => XS.iconst X0.here hx rfl (hb hby d1_12) k) ?_
    show own_G p e below _ (s₁.setTop (mkF m 13 #[.val (.int p1), .unset] [(.int (1 : Int32)), (.int p1)]))
    by_cases c13_3 : p1 = (1 : Int32)
    · skip
      refine own_via (fun t k => XS.icmpNo X0.here hx rfl (hb hby d1_13) rfl (teq c13_3).2 k) ?_
      show own_G p e below _ (s₁.setTop (mkF m 16 #[.val (.int p1), .unset] []))
      obtain ⟨T4, X4, e4, st4⟩ := getS2 X0 hx hZ hown (host := "") (Or.inl (hw _ (List.mem_of_getElem? (i := 17) rfl))) Via.refl e0 S_FALSE (g := (mkF m 16 #[.val (.int p1), .unset] [])) rfl (hb hby d1_16)
      refine own_via st4 ?_
      show own_G p e below _ (T4.setTop (mkF m 19 #[.val (.int p1), .unset] [(.ref wF)]))
      refine own_via (fun t k => XS.astoreN X4.here hx rfl (hb hby d1_19) rfl rfl (l' := #[.val (.int p1), .val (.ref wF)]) rfl k) ?_
      show own_G p e below _ (T4.setTop (mkF m 20 #[.val (.int p1), .val (.ref wF)] []))
      refine own_via (fun t k => XS.goto X4.here hx rfl (pc0 := 20) (pc' := 27) rfl (hb hby d1_20) (by decide) (by decide) k) ?_
      show own_G p e below _ (T4.setTop (mkF m 27 #[.val (.int p1), .val (.ref wF)] []))
      refine own_via (fun t k => XS.aloadN X4.here hx rfl (hb hby d1_27) rfl rfl k) ?_
      show own_G p e below _ (T4.setTop (mkF m 28 #[.val (.int p1), .val (.ref wF)] [(.ref wF)]))
      obtain ⟨fs, hr, hrun, hended, hW, hsame⟩ := X4.leave (v := some (.ref wF)) (fun h => by rw [Bd.returns] at h; cases h)
      refine ⟨_, _, retOut X4 hx Bd.returns rfl (Or.inr (Or.inr (Or.inr (Or.inr ⟨rfl, rfl, rfl⟩)))) (hb hby d1_28) hr, hrun, hended, _, _, rfl, ?_, ⟨_, rfl⟩, hW, hsame.mono (by decide) (by decide)⟩
      show rm1_Q Z p1 wT wF wU h0 n0 _ T4.heap _
      rw [e4]
      exact ⟨by simp only [own_pick, if_neg c1_1, if_pos c13_3], N0, rfl⟩
    · skip
      refine own_via (fun t k => XS.icmpYes X0.here hx rfl (pc0 := 13) (pc' := 23) rfl (hb hby d1_13) rfl (feq c13_3).2 (by decide) (by decide) k) ?_
      show own_G p e below _ (s₁.setTop (mkF m 23 #[.val (.int p1), .unset] []))
      obtain ⟨T5, X5, e5, st5⟩ := getS2 X0 hx hZ hown (host := "") (Or.inl (hw _ (List.mem_of_getElem? (i := 19) rfl))) Via.refl e0 S_UNKNOWN (g := (mkF m 23 #[.val (.int p1), .unset] [])) rfl (hb hby d1_23)
      refine own_via st5 ?_
      show own_G p e below _ (T5.setTop (mkF m 26 #[.val (.int p1), .unset] [(.ref wU)]))
      refine own_via (fun t k => XS.astoreN X5.here hx rfl (hb hby d1_26) rfl rfl (l' := #[.val (.int p1), .val (.ref wU)]) rfl k) ?_
      show own_G p e below _ (T5.setTop (mkF m 27 #[.val (.int p1), .val (.ref wU)] []))
      refine own_via (fun t k => XS.aloadN X5.here hx rfl (hb hby d1_27) rfl rfl k) ?_
      show own_G p e below _ (T5.setTop (mkF m 28 #[.val (.int p1), .val (.ref wU)] [(.ref wU)]))
      obtain ⟨fs, hr, hrun, hended, hW, hsame⟩ := X5.leave (v := some (.ref wU)) (fun h => by rw [Bd.returns] at h; cases h)
      refine ⟨_, _, retOut X5 hx Bd.returns rfl (Or.inr (Or.inr (Or.inr (Or.inr ⟨rfl, rfl, rfl⟩)))) (hb hby d1_28) hr, hrun, hended, _, _, rfl, ?_, ⟨_, rfl⟩, hW, hsame.mono (by decide) (by decide)⟩
      show rm1_Q Z p1 wT wF wU h0 n0 _ T5.heap _
      rw [e5]
      exact ⟨by simp only [own_pick, if_neg c1_1, if_neg c13_3], N0, rfl⟩

theorem d2_0 : decode prog_210_method_8_code 0 = .ok (.aload_n 0, 1) := by decide +kernel
theorem d2_1 : decode prog_210_method_8_code 1 = .ok (.getstatic 3, 3) := by decide +kernel
theorem d2_4 : decode prog_210_method_8_code 4 = .ok (.if_acmp .eq 10, 3) := by decide +kernel
theorem d2_7 : decode prog_210_method_8_code 7 = .ok (.aload_n 1, 1) := by decide +kernel
theorem d2_8 : decode prog_210_method_8_code 8 = .ok (.getstatic 3, 3) := by decide +kernel
theorem d2_11 : decode prog_210_method_8_code 11 = .ok (.if_acmp .ne 10, 3) := by decide +kernel
theorem d2_14 : decode prog_210_method_8_code 14 = .ok (.getstatic 3, 3) := by decide +kernel
theorem d2_17 : decode prog_210_method_8_code 17 = .ok (.astore_n 2, 1) := by decide +kernel
theorem d2_18 : decode prog_210_method_8_code 18 = .ok (.goto 27, 3) := by decide +kernel
theorem d2_21 : decode prog_210_method_8_code 21 = .ok (.aload_n 0, 1) := by decide +kernel
theorem d2_22 : decode prog_210_method_8_code 22 = .ok (.getstatic 10, 3) := by decide +kernel
theorem d2_25 : decode prog_210_method_8_code 25 = .ok (.if_acmp .eq 10, 3) := by decide +kernel
theorem d2_28 : decode prog_210_method_8_code 28 = .ok (.aload_n 1, 1) := by decide +kernel
theorem d2_29 : decode prog_210_method_8_code 29 = .ok (.getstatic 10, 3) := by decide +kernel
theorem d2_32 : decode prog_210_method_8_code 32 = .ok (.if_acmp .ne 9, 3) := by decide +kernel
theorem d2_35 : decode prog_210_method_8_code 35 = .ok (.getstatic 10, 3) := by decide +kernel
theorem d2_38 : decode prog_210_method_8_code 38 = .ok (.goto 6, 3) := by decide +kernel
theorem d2_41 : decode prog_210_method_8_code 41 = .ok (.getstatic 7, 3) := by decide +kernel
theorem d2_44 : decode prog_210_method_8_code 44 = .ok (.astore_n 2, 1) := by decide +kernel
theorem d2_45 : decode prog_210_method_8_code 45 = .ok (.aload_n 2, 1) := by decide +kernel
theorem d2_46 : decode prog_210_method_8_code 46 = .ok (.areturn, 1) := by decide +kernel
theorem rm2_pn : plainName "com/example/tasc/tasc/value/Truth" = true := by first | (simp [plainName, overriddenIn]; done) | decide +kernel
theorem rm2_ef (m : MethodId) (z0 : Addr) (z1 : Addr) : entryFrame m #[(.ref z0), (.ref z1)] 3 = mkF m 0 #[.val (.ref z0), .val (.ref z1), .unset] [] := by first | (simp [entryFrame, mkF, argsToLocals, Value.category]; done) | rfl
def rm2_Q (Z : State) (a1 : Addr) (a2 : Addr) (wT : Addr) (wF : Addr) (wU : Addr) (h0 : Heap) (n0 : Nat) (v : Option Value) (h : Heap) (L : List Loc) : Prop := v = some (.ref (own_or a1 a2 wT wF wU)) ∧ Fr n0 L ∧ h = h0
set_option maxRecDepth 65536 in
set_option maxHeartbeats 40000000 in
theorem rm2 (l : Launch) (Z : State) (a0 : Array Value) (hw : ∀ d ∈ tables_1, d.before a0 Z = true) (ws : List Jvm.Cond) (a1 : Addr) (a2 : Addr) (wT : Addr) (wF : Addr) (wU : Addr) (h0 : Heap) (n0 : Nat) (Z0 : n0 ≤ h0.size) (S_TRUE : Sta Z h0 "com/example/tasc/tasc/value/Truth" "TRUE" "Lcom/example/tasc/tasc/value/Truth;" (.ref wT)) (S_FALSE : Sta Z h0 "com/example/tasc/tasc/value/Truth" "FALSE" "Lcom/example/tasc/tasc/value/Truth;" (.ref wF)) (S_UNKNOWN : Sta Z h0 "com/example/tasc/tasc/value/Truth" "UNKNOWN" "Lcom/example/tasc/tasc/value/Truth;" (.ref wU)) :
    MetFree l (⟨"com/example/tasc/tasc/value/Truth", "or", "(Lcom/example/tasc/tasc/value/Truth;)Lcom/example/tasc/tasc/value/Truth;"⟩ : MethodName) (head1 (Jvm.Cond.code (⟨"com/example/tasc/tasc/value/Truth", "or", "(Lcom/example/tasc/tasc/value/Truth;)Lcom/example/tasc/tasc/value/Truth;"⟩ : MethodName) prog_210_method_8_code 3 (some (.object "com/example/tasc/tasc/value/Truth")) :: ws) ({ frames := 0, cells := 0, slots := 0, locals := 0 } : Room)) (fun a U => a = #[(.ref a1), (.ref a2)] ∧ Z.Warmed39 U.vm ∧ U.heap = h0) (fun _ _ _ _ _ => True) (fun _ U o U' => ∃ v L, o = .returned v ∧ rm2_Q Z a1 a2 wT wF wU h0 n0 v U'.heap L ∧ FrameEnd U o U' L ({ frames := 0, cells := 0, slots := 0, locals := 0 } : Room).cells ({ frames := 0, cells := 0, slots := 0, locals := 0 } : Room).slots) := by
  refine MetFree.of_bodySF (plainFor_of_name rm2_pn) hisR ?_
  intro p e s m args below meth c s₁ Bd hml0 hP hK
  obtain ⟨rfl, hZ, hh⟩ := hP
  have hx := Bd.exec
  have hby := Bd.bytes
  have hml : c.maxLocals = 3 := hml0
  have hown : s.vm.findClass "com/example/tasc/tasc/value/Truth" = some m.cls := findClass_of_methodNamed Bd.named
  have hnm := (name_of_methodNamed Bd.named Bd.method).1
  have X0 : Stand p l e ({ frames := 0, cells := 0, slots := 0, locals := 0 } : Room) s m #[(.ref a1), (.ref a2)] below meth c s₁ [] 0 0 := Stand.of_body Bd
  have e0 : s₁.heap = h0 := by rw [← hh, Bd.state]; rfl
  have N0 := Fr.nil n0
  refine own_via (fun t k => castTop (rm2_ef m a1 a2) k) ?_
  show own_G p e below _ (s₁.setTop (mkF m 0 #[.val (.ref a1), .val (.ref a2), .unset] []))
  refine own_via (fun t k => XS.aloadN X0.here hx rfl (hb hby d2_0) rfl rfl k) ?_
  show own_G p e below _ (s₁.setTop (mkF m 1 #[.val (.ref a1), .val (.ref a2), .unset] [(.ref a1)]))
  obtain ⟨T1, X1, e1, st1⟩ := getS2 X0 hx hZ hown (host := "") (Or.inl (hw _ (List.mem_of_getElem? (i := 13) rfl))) Via.refl e0 S_TRUE (g := (mkF m 1 #[.val (.ref a1), .val (.ref a2), .unset] [(.ref a1)])) rfl (hb hby d2_1)
  refine own_via st1 ?_
  show own_G p e below _ (T1.setTop (mkF m 4 #[.val (.ref a1), .val (.ref a2), .unset] [(.ref wT), (.ref a1)]))
  by_cases c4_2 : a1 = wT
  · skip
    refine own_via (fun t k => Jvm.RoadKit.acmp (g := (mkF m 4 #[.val (.ref a1), .val (.ref a2), .unset] [(.ref wT), (.ref a1)])) X1 hx rfl rfl rfl (pc0 := 4) (pc' := 14) (same := true) rfl (hb hby d2_4) rfl (decide_eq_true (congrArg Value.ref c4_2)) (by decide) (by decide) k) ?_
    show own_G p e below _ (T1.setTop (mkF m 14 #[.val (.ref a1), .val (.ref a2), .unset] []))
    obtain ⟨T3, X3, e3, st3⟩ := getS2 X1 hx hZ hown (host := "") (Or.inl (hw _ (List.mem_of_getElem? (i := 13) rfl))) Via.refl e1 S_TRUE (g := (mkF m 14 #[.val (.ref a1), .val (.ref a2), .unset] [])) rfl (hb hby d2_14)
    refine own_via st3 ?_
    show own_G p e below _ (T3.setTop (mkF m 17 #[.val (.ref a1), .val (.ref a2), .unset] [(.ref wT)]))
    refine own_via (fun t k => XS.astoreN X3.here hx rfl (hb hby d2_17) rfl rfl (l' := #[.val (.ref a1), .val (.ref a2), .val (.ref wT)]) rfl k) ?_
    show own_G p e below _ (T3.setTop (mkF m 18 #[.val (.ref a1), .val (.ref a2), .val (.ref wT)] []))
    refine own_via (fun t k => XS.goto X3.here hx rfl (pc0 := 18) (pc' := 45) rfl (hb hby d2_18) (by decide) (by decide) k) ?_
    show own_G p e below _ (T3.setTop (mkF m 45 #[.val (.ref a1), .val (.ref a2), .val (.ref wT)] []))
    refine own_via (fun t k => XS.aloadN X3.here hx rfl (hb hby d2_45) rfl rfl k) ?_
    show own_G p e below _ (T3.setTop (mkF m 46 #[.val (.ref a1), .val (.ref a2), .val (.ref wT)] [(.ref wT)]))
    obtain ⟨fs, hr, hrun, hended, hW, hsame⟩ := X3.leave (v := some (.ref wT)) (fun h => by rw [Bd.returns] at h; cases h)
    refine ⟨_, _, retOut X3 hx Bd.returns rfl (Or.inr (Or.inr (Or.inr (Or.inr ⟨rfl, rfl, rfl⟩)))) (hb hby d2_46) hr, hrun, hended, _, _, rfl, ?_, ⟨_, rfl⟩, hW, hsame.mono (by decide) (by decide)⟩
    show rm2_Q Z a1 a2 wT wF wU h0 n0 _ T3.heap _
    rw [e3]
    exact ⟨by simp only [own_or, if_pos c4_2], N0, rfl⟩
  · skip
    refine own_via (fun t k => Jvm.RoadKit.acmp (g := (mkF m 4 #[.val (.ref a1), .val (.ref a2), .unset] [(.ref wT), (.ref a1)])) X1 hx rfl rfl rfl (pc0 := 4) (pc' := 7) (same := false) rfl (hb hby d2_4) rfl (decide_eq_false fun q => c4_2 (Value.ref.inj q)) (by decide) (by decide) k) ?_
    show own_G p e below _ (T1.setTop (mkF m 7 #[.val (.ref a1), .val (.ref a2), .unset] []))
    refine own_via (fun t k => XS.aloadN X1.here hx rfl (hb hby d2_7) rfl rfl k) ?_
    show own_G p e below _ (T1.setTop (mkF m 8 #[.val (.ref a1), .val (.ref a2), .unset] [(.ref a2)]))
    obtain ⟨T4, X4, e4, st4⟩ := getS2 X1 hx hZ hown (host := "") (Or.inl (hw _ (List.mem_of_getElem? (i := 13) rfl))) Via.refl e1 S_TRUE (g := (mkF m 8 #[.val (.ref a1), .val (.ref a2), .unset] [(.ref a2)])) rfl (hb hby d2_8)
    refine own_via st4 ?_
    show own_G p e below _ (T4.setTop (mkF m 11 #[.val (.ref a1), .val (.ref a2), .unset] [(.ref wT), (.ref a2)]))
    by_cases c11_5 : a2 = wT
    · skip
      refine own_via (fun t k => Jvm.RoadKit.acmp (g := (mkF m 11 #[.val (.ref a1), .val (.ref a2), .unset] [(.ref wT), (.ref a2)])) X4 hx rfl rfl rfl (pc0 := 11) (pc' := 14) (same := true) rfl (hb hby d2_11) rfl (decide_eq_true (congrArg Value.ref c11_5)) (by decide) (by decide) k) ?_
      show own_G p e below _ (T4.setTop (mkF m 14 #[.val (.ref a1), .val (.ref a2), .unset] []))
      obtain ⟨T6, X6, e6, st6⟩ := getS2 X4 hx hZ hown (host := "") (Or.inl (hw _ (List.mem_of_getElem? (i := 13) rfl))) Via.refl e4 S_TRUE (g := (mkF m 14 #[.val (.ref a1), .val (.ref a2), .unset] [])) rfl (hb hby d2_14)
      refine own_via st6 ?_
      show own_G p e below _ (T6.setTop (mkF m 17 #[.val (.ref a1), .val (.ref a2), .unset] [(.ref wT)]))
      refine own_via (fun t k => XS.astoreN X6.here hx rfl (hb hby d2_17) rfl rfl (l' := #[.val (.ref a1), .val (.ref a2), .val (.ref wT)]) rfl k) ?_
      show own_G p e below _ (T6.setTop (mkF m 18 #[.val (.ref a1), .val (.ref a2), .val (.ref wT)] []))
      refine own_via (fun t k => XS.goto X6.here hx rfl (pc0 := 18) (pc' := 45) rfl (hb hby d2_18) (by decide) (by decide) k) ?_
      show own_G p e below _ (T6.setTop (mkF m 45 #[.val (.ref a1), .val (.ref a2), .val (.ref wT)] []))
      refine own_via (fun t k => XS.aloadN X6.here hx rfl (hb hby d2_45) rfl rfl k) ?_
      show own_G p e below _ (T6.setTop (mkF m 46 #[.val (.ref a1), .val (.ref a2), .val (.ref wT)] [(.ref wT)]))
      obtain ⟨fs, hr, hrun, hended, hW, hsame⟩ := X6.leave (v := some (.ref wT)) (fun h => by rw [Bd.returns] at h; cases h)
      refine ⟨_, _, retOut X6 hx Bd.returns rfl (Or.inr (Or.inr (Or.inr (Or.inr ⟨rfl, rfl, rfl⟩)))) (hb hby d2_46) hr, hrun, hended, _, _, rfl, ?_, ⟨_, rfl⟩, hW, hsame.mono (by decide) (by decide)⟩
      show rm2_Q Z a1 a2 wT wF wU h0 n0 _ T6.heap _
      rw [e6]
      exact ⟨by simp only [own_or, if_neg c4_2, if_pos c11_5], N0, rfl⟩
    · skip
      refine own_via (fun t k => Jvm.RoadKit.acmp (g := (mkF m 11 #[.val (.ref a1), .val (.ref a2), .unset] [(.ref wT), (.ref a2)])) X4 hx rfl rfl rfl (pc0 := 11) (pc' := 21) (same := false) rfl (hb hby d2_11) rfl (decide_eq_false fun q => c11_5 (Value.ref.inj q)) (by decide) (by decide) k) ?_
      show own_G p e below _ (T4.setTop (mkF m 21 #[.val (.ref a1), .val (.ref a2), .unset] []))
      refine own_via (fun t k => XS.aloadN X4.here hx rfl (hb hby d2_21) rfl rfl k) ?_
      show own_G p e below _ (T4.setTop (mkF m 22 #[.val (.ref a1), .val (.ref a2), .unset] [(.ref a1)]))
      obtain ⟨T7, X7, e7, st7⟩ := getS2 X4 hx hZ hown (host := "") (Or.inl (hw _ (List.mem_of_getElem? (i := 25) rfl))) Via.refl e4 S_UNKNOWN (g := (mkF m 22 #[.val (.ref a1), .val (.ref a2), .unset] [(.ref a1)])) rfl (hb hby d2_22)
      refine own_via st7 ?_
      show own_G p e below _ (T7.setTop (mkF m 25 #[.val (.ref a1), .val (.ref a2), .unset] [(.ref wU), (.ref a1)]))
      by_cases c25_8 : a1 = wU
      · skip
        refine own_via (fun t k => Jvm.RoadKit.acmp (g := (mkF m 25 #[.val (.ref a1), .val (.ref a2), .unset] [(.ref wU), (.ref a1)])) X7 hx rfl rfl rfl (pc0 := 25) (pc' := 35) (same := true) rfl (hb hby d2_25) rfl (decide_eq_true (congrArg Value.ref c25_8)) (by decide) (by decide) k) ?_
        show own_G p e below _ (T7.setTop (mkF m 35 #[.val (.ref a1), .val (.ref a2), .unset] []))
        obtain ⟨T9, X9, e9, st9⟩ := getS2 X7 hx hZ hown (host := "") (Or.inl (hw _ (List.mem_of_getElem? (i := 25) rfl))) Via.refl e7 S_UNKNOWN (g := (mkF m 35 #[.val (.ref a1), .val (.ref a2), .unset] [])) rfl (hb hby d2_35)
        refine own_via st9 ?_
        show own_G p e below _ (T9.setTop (mkF m 38 #[.val (.ref a1), .val (.ref a2), .unset] [(.ref wU)]))
        refine own_via (fun t k => XS.goto X9.here hx rfl (pc0 := 38) (pc' := 44) rfl (hb hby d2_38) (by decide) (by decide) k) ?_
        show own_G p e below _ (T9.setTop (mkF m 44 #[.val (.ref a1), .val (.ref a2), .unset] [(.ref wU)]))
        refine own_via (fun t k => XS.astoreN X9.here hx rfl (hb hby d2_44) rfl rfl (l' := #[.val (.ref a1), .val (.ref a2), .val (.ref wU)]) rfl k) ?_
        show own_G p e below _ (T9.setTop (mkF m 45 #[.val (.ref a1), .val (.ref a2), .val (.ref wU)] []))
        refine own_via (fun t k => XS.aloadN X9.here hx rfl (hb hby d2_45) rfl rfl k) ?_
        show own_G p e below _ (T9.setTop (mkF m 46 #[.val (.ref a1), .val (.ref a2), .val (.ref wU)] [(.ref wU)]))
        obtain ⟨fs, hr, hrun, hended, hW, hsame⟩ := X9.leave (v := some (.ref wU)) (fun h => by rw [Bd.returns] at h; cases h)
        refine ⟨_, _, retOut X9 hx Bd.returns rfl (Or.inr (Or.inr (Or.inr (Or.inr ⟨rfl, rfl, rfl⟩)))) (hb hby d2_46) hr, hrun, hended, _, _, rfl, ?_, ⟨_, rfl⟩, hW, hsame.mono (by decide) (by decide)⟩
        show rm2_Q Z a1 a2 wT wF wU h0 n0 _ T9.heap _
        rw [e9]
        exact ⟨by simp only [own_or, if_neg c4_2, if_neg c11_5, if_pos c25_8], N0, rfl⟩
      · skip
        refine own_via (fun t k => Jvm.RoadKit.acmp (g := (mkF m 25 #[.val (.ref a1), .val (.ref a2), .unset] [(.ref wU), (.ref a1)])) X7 hx rfl rfl rfl (pc0 := 25) (pc' := 28) (same := false) rfl (hb hby d2_25) rfl (decide_eq_false fun q => c25_8 (Value.ref.inj q)) (by decide) (by decide) k) ?_
        show own_G p e below _ (T7.setTop (mkF m 28 #[.val (.ref a1), .val (.ref a2), .unset] []))
        refine own_via (fun t k => XS.aloadN X7.here hx rfl (hb hby d2_28) rfl rfl k) ?_
        show own_G p e below _ (T7.setTop (mkF m 29 #[.val (.ref a1), .val (.ref a2), .unset] [(.ref a2)]))
        obtain ⟨T10, X10, e10, st10⟩ := getS2 X7 hx hZ hown (host := "") (Or.inl (hw _ (List.mem_of_getElem? (i := 25) rfl))) Via.refl e7 S_UNKNOWN (g := (mkF m 29 #[.val (.ref a1), .val (.ref a2), .unset] [(.ref a2)])) rfl (hb hby d2_29)
        refine own_via st10 ?_
        show own_G p e below _ (T10.setTop (mkF m 32 #[.val (.ref a1), .val (.ref a2), .unset] [(.ref wU), (.ref a2)]))
        by_cases c32_11 : a2 = wU
        · skip
          refine own_via (fun t k => Jvm.RoadKit.acmp (g := (mkF m 32 #[.val (.ref a1), .val (.ref a2), .unset] [(.ref wU), (.ref a2)])) X10 hx rfl rfl rfl (pc0 := 32) (pc' := 35) (same := true) rfl (hb hby d2_32) rfl (decide_eq_true (congrArg Value.ref c32_11)) (by decide) (by decide) k) ?_
          show own_G p e below _ (T10.setTop (mkF m 35 #[.val (.ref a1), .val (.ref a2), .unset] []))
          obtain ⟨T12, X12, e12, st12⟩ := getS2 X10 hx hZ hown (host := "") (Or.inl (hw _ (List.mem_of_getElem? (i := 25) rfl))) Via.refl e10 S_UNKNOWN (g := (mkF m 35 #[.val (.ref a1), .val (.ref a2), .unset] [])) rfl (hb hby d2_35)
          refine own_via st12 ?_
          show own_G p e below _ (T12.setTop (mkF m 38 #[.val (.ref a1), .val (.ref a2), .unset] [(.ref wU)]))
          refine own_via (fun t k => XS.goto X12.here hx rfl (pc0 := 38) (pc' := 44) rfl (hb hby d2_38) (by decide) (by decide) k) ?_
          show own_G p e below _ (T12.setTop (mkF m 44 #[.val (.ref a1), .val (.ref a2), .unset] [(.ref wU)]))
          refine own_via (fun t k => XS.astoreN X12.here hx rfl (hb hby d2_44) rfl rfl (l' := #[.val (.ref a1), .val (.ref a2), .val (.ref wU)]) rfl k) ?_
          show own_G p e below _ (T12.setTop (mkF m 45 #[.val (.ref a1), .val (.ref a2), .val (.ref wU)] []))
          refine own_via (fun t k => XS.aloadN X12.here hx rfl (hb hby d2_45) rfl rfl k) ?_
          show own_G p e below _ (T12.setTop (mkF m 46 #[.val (.ref a1), .val (.ref a2), .val (.ref wU)] [(.ref wU)]))
          obtain ⟨fs, hr, hrun, hended, hW, hsame⟩ := X12.leave (v := some (.ref wU)) (fun h => by rw [Bd.returns] at h; cases h)
          refine ⟨_, _, retOut X12 hx Bd.returns rfl (Or.inr (Or.inr (Or.inr (Or.inr ⟨rfl, rfl, rfl⟩)))) (hb hby d2_46) hr, hrun, hended, _, _, rfl, ?_, ⟨_, rfl⟩, hW, hsame.mono (by decide) (by decide)⟩
          show rm2_Q Z a1 a2 wT wF wU h0 n0 _ T12.heap _
          rw [e12]
          exact ⟨by simp only [own_or, if_neg c4_2, if_neg c11_5, if_neg c25_8, if_pos c32_11], N0, rfl⟩
        · skip
          refine own_via (fun t k => Jvm.RoadKit.acmp (g := (mkF m 32 #[.val (.ref a1), .val (.ref a2), .unset] [(.ref wU), (.ref a2)])) X10 hx rfl rfl rfl (pc0 := 32) (pc' := 41) (same := false) rfl (hb hby d2_32) rfl (decide_eq_false fun q => c32_11 (Value.ref.inj q)) (by decide) (by decide) k) ?_
          show own_G p e below _ (T10.setTop (mkF m 41 #[.val (.ref a1), .val (.ref a2), .unset] []))
          obtain ⟨T13, X13, e13, st13⟩ := getS2 X10 hx hZ hown (host := "") (Or.inl (hw _ (List.mem_of_getElem? (i := 26) rfl))) Via.refl e10 S_FALSE (g := (mkF m 41 #[.val (.ref a1), .val (.ref a2), .unset] [])) rfl (hb hby d2_41)
          refine own_via st13 ?_
          show own_G p e below _ (T13.setTop (mkF m 44 #[.val (.ref a1), .val (.ref a2), .unset] [(.ref wF)]))
          refine own_via (fun t k => XS.astoreN X13.here hx rfl (hb hby d2_44) rfl rfl (l' := #[.val (.ref a1), .val (.ref a2), .val (.ref wF)]) rfl k) ?_
          show own_G p e below _ (T13.setTop (mkF m 45 #[.val (.ref a1), .val (.ref a2), .val (.ref wF)] []))
          refine own_via (fun t k => XS.aloadN X13.here hx rfl (hb hby d2_45) rfl rfl k) ?_
          show own_G p e below _ (T13.setTop (mkF m 46 #[.val (.ref a1), .val (.ref a2), .val (.ref wF)] [(.ref wF)]))
          obtain ⟨fs, hr, hrun, hended, hW, hsame⟩ := X13.leave (v := some (.ref wF)) (fun h => by rw [Bd.returns] at h; cases h)
          refine ⟨_, _, retOut X13 hx Bd.returns rfl (Or.inr (Or.inr (Or.inr (Or.inr ⟨rfl, rfl, rfl⟩)))) (hb hby d2_46) hr, hrun, hended, _, _, rfl, ?_, ⟨_, rfl⟩, hW, hsame.mono (by decide) (by decide)⟩
          show rm2_Q Z a1 a2 wT wF wU h0 n0 _ T13.heap _
          rw [e13]
          exact ⟨by simp only [own_or, if_neg c4_2, if_neg c11_5, if_neg c25_8, if_neg c32_11], N0, rfl⟩

theorem d3_0 : decode method_3_code 0 = .ok (.aload_n 0, 1) := by decide +kernel
theorem d3_1 : decode method_3_code 1 = .ok (.getstatic 13, 3) := by decide +kernel
theorem d3_4 : decode method_3_code 4 = .ok (.if_acmp .ne 8, 3) := by decide +kernel
theorem d3_7 : decode method_3_code 7 = .ok (.iconst 0, 1) := by decide +kernel
theorem d3_8 : decode method_3_code 8 = .ok (.istore_n 1, 1) := by decide +kernel
theorem d3_9 : decode method_3_code 9 = .ok (.goto 29, 3) := by decide +kernel
theorem d3_12 : decode method_3_code 12 = .ok (.aload_n 0, 1) := by decide +kernel
theorem d3_13 : decode method_3_code 13 = .ok (.getstatic 16, 3) := by decide +kernel
theorem d3_16 : decode method_3_code 16 = .ok (.if_acmp .ne 8, 3) := by decide +kernel
theorem d3_19 : decode method_3_code 19 = .ok (.iconst 1, 1) := by decide +kernel
theorem d3_20 : decode method_3_code 20 = .ok (.istore_n 1, 1) := by decide +kernel
theorem d3_21 : decode method_3_code 21 = .ok (.goto 17, 3) := by decide +kernel
theorem d3_24 : decode method_3_code 24 = .ok (.aload_n 0, 1) := by decide +kernel
theorem d3_25 : decode method_3_code 25 = .ok (.getstatic 7, 3) := by decide +kernel
theorem d3_28 : decode method_3_code 28 = .ok (.if_acmp .ne 8, 3) := by decide +kernel
theorem d3_31 : decode method_3_code 31 = .ok (.iconst 2, 1) := by decide +kernel
theorem d3_32 : decode method_3_code 32 = .ok (.istore_n 1, 1) := by decide +kernel
theorem d3_33 : decode method_3_code 33 = .ok (.goto 5, 3) := by decide +kernel
theorem d3_36 : decode method_3_code 36 = .ok (.iconst (-1), 1) := by decide +kernel
theorem d3_37 : decode method_3_code 37 = .ok (.istore_n 1, 1) := by decide +kernel
theorem d3_38 : decode method_3_code 38 = .ok (.iload_n 1, 1) := by decide +kernel
theorem d3_39 : decode method_3_code 39 = .ok (.ireturn, 1) := by decide +kernel
theorem rm3_pn : plainName "com/example/tasc/tasc/value/TruthOrPinLaw" = true := by first | (simp [plainName, overriddenIn]; done) | decide +kernel
theorem rm3_ef (m : MethodId) (z0 : Addr) : entryFrame m #[(.ref z0)] 2 = mkF m 0 #[.val (.ref z0), .unset] [] := by first | (simp [entryFrame, mkF, argsToLocals, Value.category]; done) | rfl
def rm3_Q (Z : State) (a1 : Addr) (wT : Addr) (wF : Addr) (wU : Addr) (h0 : Heap) (n0 : Nat) (v : Option Value) (h : Heap) (L : List Loc) : Prop := v = some (.int (own_rank a1 wT wF wU)) ∧ Fr n0 L ∧ h = h0
set_option maxRecDepth 65536 in
set_option maxHeartbeats 40000000 in
theorem rm3 (l : Launch) (Z : State) (a0 : Array Value) (hw : ∀ d ∈ tables_1, d.before a0 Z = true) (ws : List Jvm.Cond) (a1 : Addr) (wT : Addr) (wF : Addr) (wU : Addr) (h0 : Heap) (n0 : Nat) (Z0 : n0 ≤ h0.size) (S_TRUE : Sta Z h0 "com/example/tasc/tasc/value/Truth" "TRUE" "Lcom/example/tasc/tasc/value/Truth;" (.ref wT)) (S_FALSE : Sta Z h0 "com/example/tasc/tasc/value/Truth" "FALSE" "Lcom/example/tasc/tasc/value/Truth;" (.ref wF)) (S_UNKNOWN : Sta Z h0 "com/example/tasc/tasc/value/Truth" "UNKNOWN" "Lcom/example/tasc/tasc/value/Truth;" (.ref wU)) :
    MetFree l (⟨"com/example/tasc/tasc/value/TruthOrPinLaw", "rank", "(Lcom/example/tasc/tasc/value/Truth;)I"⟩ : MethodName) (head1 (Jvm.Cond.code (⟨"com/example/tasc/tasc/value/TruthOrPinLaw", "rank", "(Lcom/example/tasc/tasc/value/Truth;)I"⟩ : MethodName) method_3_code 2 (some .int) :: ws) ({ frames := 0, cells := 0, slots := 0, locals := 0 } : Room)) (fun a U => a = #[(.ref a1)] ∧ Z.Warmed39 U.vm ∧ U.heap = h0) (fun _ _ _ _ _ => True) (fun _ U o U' => ∃ v L, o = .returned v ∧ rm3_Q Z a1 wT wF wU h0 n0 v U'.heap L ∧ FrameEnd U o U' L ({ frames := 0, cells := 0, slots := 0, locals := 0 } : Room).cells ({ frames := 0, cells := 0, slots := 0, locals := 0 } : Room).slots) := by
  refine MetFree.of_bodySF (plainFor_of_name rm3_pn) hisR ?_
  intro p e s m args below meth c s₁ Bd hml0 hP hK
  obtain ⟨rfl, hZ, hh⟩ := hP
  have hx := Bd.exec
  have hby := Bd.bytes
  have hml : c.maxLocals = 2 := hml0
  have hown : s.vm.findClass "com/example/tasc/tasc/value/TruthOrPinLaw" = some m.cls := findClass_of_methodNamed Bd.named
  have hnm := (name_of_methodNamed Bd.named Bd.method).1
  have X0 : Stand p l e ({ frames := 0, cells := 0, slots := 0, locals := 0 } : Room) s m #[(.ref a1)] below meth c s₁ [] 0 0 := Stand.of_body Bd
  have e0 : s₁.heap = h0 := by rw [← hh, Bd.state]; rfl
  have N0 := Fr.nil n0
  refine own_via (fun t k => castTop (rm3_ef m a1) k) ?_
  show own_G p e below _ (s₁.setTop (mkF m 0 #[.val (.ref a1), .unset] []))
  refine own_via (fun t k => XS.aloadN X0.here hx rfl (hb hby d3_0) rfl rfl k) ?_
  show own_G p e below _ (s₁.setTop (mkF m 1 #[.val (.ref a1), .unset] [(.ref a1)]))
  obtain ⟨T1, X1, e1, st1⟩ := getS2 X0 hx hZ hown (host := "") (Or.inl (hw _ (List.mem_of_getElem? (i := 17) rfl))) Via.refl e0 S_FALSE (g := (mkF m 1 #[.val (.ref a1), .unset] [(.ref a1)])) rfl (hb hby d3_1)
  refine own_via st1 ?_
  show own_G p e below _ (T1.setTop (mkF m 4 #[.val (.ref a1), .unset] [(.ref wF), (.ref a1)]))
  by_cases c4_2 : a1 = wF
  · skip
    refine own_via (fun t k => Jvm.RoadKit.acmp (g := (mkF m 4 #[.val (.ref a1), .unset] [(.ref wF), (.ref a1)])) X1 hx rfl rfl rfl (pc0 := 4) (pc' := 7) (same := true) rfl (hb hby d3_4) rfl (decide_eq_true (congrArg Value.ref c4_2)) (by decide) (by decide) k) ?_
    show own_G p e below _ (T1.setTop (mkF m 7 #[.val (.ref a1), .unset] []))
    refine own_via (fun t k => XS.iconst X1.here hx rfl (hb hby d3_7) k) ?_
    show own_G p e below _ (T1.setTop (mkF m 8 #[.val (.ref a1), .unset] [(.int (0 : Int32))]))
    refine own_via (fun t k => XS.istoreN X1.here hx rfl (hb hby d3_8) rfl (l' := #[.val (.ref a1), .val (.int (0 : Int32))]) rfl k) ?_
    show own_G p e below _ (T1.setTop (mkF m 9 #[.val (.ref a1), .val (.int (0 : Int32))] []))
    refine own_via (fun t k => XS.goto X1.here hx rfl (pc0 := 9) (pc' := 38) rfl (hb hby d3_9) (by decide) (by decide) k) ?_
    show own_G p e below _ (T1.setTop (mkF m 38 #[.val (.ref a1), .val (.int (0 : Int32))] []))
    refine own_via (fun t k => XS.iloadN X1.here hx rfl (hb hby d3_38) rfl k) ?_
    show own_G p e below _ (T1.setTop (mkF m 39 #[.val (.ref a1), .val (.int (0 : Int32))] [(.int (0 : Int32))]))
    obtain ⟨fs, hr, hrun, hended, hW, hsame⟩ := X1.leave (v := some (.int (0 : Int32))) (fun h => by rw [Bd.returns] at h; cases h)
    refine ⟨_, _, retOut X1 hx Bd.returns rfl (Or.inl ⟨rfl, Or.inl rfl, _, rfl⟩) (hb hby d3_39) hr, hrun, hended, _, _, rfl, ?_, ⟨_, rfl⟩, hW, hsame.mono (by decide) (by decide)⟩
    show rm3_Q Z a1 wT wF wU h0 n0 _ T1.heap _
    rw [e1]
    exact ⟨by simp only [own_rank, if_pos c4_2], N0, rfl⟩
  · skip
    refine own_via (fun t k => Jvm.RoadKit.acmp (g := (mkF m 4 #[.val (.ref a1), .unset] [(.ref wF), (.ref a1)])) X1 hx rfl rfl rfl (pc0 := 4) (pc' := 12) (same := false) rfl (hb hby d3_4) rfl (decide_eq_false fun q => c4_2 (Value.ref.inj q)) (by decide) (by decide) k) ?_
    show own_G p e below _ (T1.setTop (mkF m 12 #[.val (.ref a1), .unset] []))
    refine own_via (fun t k => XS.aloadN X1.here hx rfl (hb hby d3_12) rfl rfl k) ?_
    show own_G p e below _ (T1.setTop (mkF m 13 #[.val (.ref a1), .unset] [(.ref a1)]))
    obtain ⟨T3, X3, e3, st3⟩ := getS2 X1 hx hZ hown (host := "") (Or.inl (hw _ (List.mem_of_getElem? (i := 19) rfl))) Via.refl e1 S_UNKNOWN (g := (mkF m 13 #[.val (.ref a1), .unset] [(.ref a1)])) rfl (hb hby d3_13)
    refine own_via st3 ?_
    show own_G p e below _ (T3.setTop (mkF m 16 #[.val (.ref a1), .unset] [(.ref wU), (.ref a1)]))
    by_cases c16_4 : a1 = wU
    · skip
      refine own_via (fun t k => Jvm.RoadKit.acmp (g := (mkF m 16 #[.val (.ref a1), .unset] [(.ref wU), (.ref a1)])) X3 hx rfl rfl rfl (pc0 := 16) (pc' := 19) (same := true) rfl (hb hby d3_16) rfl (decide_eq_true (congrArg Value.ref c16_4)) (by decide) (by decide) k) ?_
      show own_G p e below _ (T3.setTop (mkF m 19 #[.val (.ref a1), .unset] []))
      refine own_via (fun t k => XS.iconst X3.here hx rfl (hb hby d3_19) k) ?_
      show own_G p e below _ (T3.setTop (mkF m 20 #[.val (.ref a1), .unset] [(.int (1 : Int32))]))
      refine own_via (fun t k => XS.istoreN X3.here hx rfl (hb hby d3_20) rfl (l' := #[.val (.ref a1), .val (.int (1 : Int32))]) rfl k) ?_
      show own_G p e below _ (T3.setTop (mkF m 21 #[.val (.ref a1), .val (.int (1 : Int32))] []))
      refine own_via (fun t k => XS.goto X3.here hx rfl (pc0 := 21) (pc' := 38) rfl (hb hby d3_21) (by decide) (by decide) k) ?_
      show own_G p e below _ (T3.setTop (mkF m 38 #[.val (.ref a1), .val (.int (1 : Int32))] []))
      refine own_via (fun t k => XS.iloadN X3.here hx rfl (hb hby d3_38) rfl k) ?_
      show own_G p e below _ (T3.setTop (mkF m 39 #[.val (.ref a1), .val (.int (1 : Int32))] [(.int (1 : Int32))]))
      obtain ⟨fs, hr, hrun, hended, hW, hsame⟩ := X3.leave (v := some (.int (1 : Int32))) (fun h => by rw [Bd.returns] at h; cases h)
      refine ⟨_, _, retOut X3 hx Bd.returns rfl (Or.inl ⟨rfl, Or.inl rfl, _, rfl⟩) (hb hby d3_39) hr, hrun, hended, _, _, rfl, ?_, ⟨_, rfl⟩, hW, hsame.mono (by decide) (by decide)⟩
      show rm3_Q Z a1 wT wF wU h0 n0 _ T3.heap _
      rw [e3]
      exact ⟨by simp only [own_rank, if_neg c4_2, if_pos c16_4], N0, rfl⟩
    · skip
      refine own_via (fun t k => Jvm.RoadKit.acmp (g := (mkF m 16 #[.val (.ref a1), .unset] [(.ref wU), (.ref a1)])) X3 hx rfl rfl rfl (pc0 := 16) (pc' := 24) (same := false) rfl (hb hby d3_16) rfl (decide_eq_false fun q => c16_4 (Value.ref.inj q)) (by decide) (by decide) k) ?_
      show own_G p e below _ (T3.setTop (mkF m 24 #[.val (.ref a1), .unset] []))
      refine own_via (fun t k => XS.aloadN X3.here hx rfl (hb hby d3_24) rfl rfl k) ?_
      show own_G p e below _ (T3.setTop (mkF m 25 #[.val (.ref a1), .unset] [(.ref a1)]))
      obtain ⟨T5, X5, e5, st5⟩ := getS2 X3 hx hZ hown (host := "") (Or.inl (hw _ (List.mem_of_getElem? (i := 5) rfl))) Via.refl e3 S_TRUE (g := (mkF m 25 #[.val (.ref a1), .unset] [(.ref a1)])) rfl (hb hby d3_25)
      refine own_via st5 ?_
      show own_G p e below _ (T5.setTop (mkF m 28 #[.val (.ref a1), .unset] [(.ref wT), (.ref a1)]))
      by_cases c28_6 : a1 = wT
      · skip
        refine own_via (fun t k => Jvm.RoadKit.acmp (g := (mkF m 28 #[.val (.ref a1), .unset] [(.ref wT), (.ref a1)])) X5 hx rfl rfl rfl (pc0 := 28) (pc' := 31) (same := true) rfl (hb hby d3_28) rfl (decide_eq_true (congrArg Value.ref c28_6)) (by decide) (by decide) k) ?_
        show own_G p e below _ (T5.setTop (mkF m 31 #[.val (.ref a1), .unset] []))
        refine own_via (fun t k => XS.iconst X5.here hx rfl (hb hby d3_31) k) ?_
        show own_G p e below _ (T5.setTop (mkF m 32 #[.val (.ref a1), .unset] [(.int (2 : Int32))]))
        refine own_via (fun t k => XS.istoreN X5.here hx rfl (hb hby d3_32) rfl (l' := #[.val (.ref a1), .val (.int (2 : Int32))]) rfl k) ?_
        show own_G p e below _ (T5.setTop (mkF m 33 #[.val (.ref a1), .val (.int (2 : Int32))] []))
        refine own_via (fun t k => XS.goto X5.here hx rfl (pc0 := 33) (pc' := 38) rfl (hb hby d3_33) (by decide) (by decide) k) ?_
        show own_G p e below _ (T5.setTop (mkF m 38 #[.val (.ref a1), .val (.int (2 : Int32))] []))
        refine own_via (fun t k => XS.iloadN X5.here hx rfl (hb hby d3_38) rfl k) ?_
        show own_G p e below _ (T5.setTop (mkF m 39 #[.val (.ref a1), .val (.int (2 : Int32))] [(.int (2 : Int32))]))
        obtain ⟨fs, hr, hrun, hended, hW, hsame⟩ := X5.leave (v := some (.int (2 : Int32))) (fun h => by rw [Bd.returns] at h; cases h)
        refine ⟨_, _, retOut X5 hx Bd.returns rfl (Or.inl ⟨rfl, Or.inl rfl, _, rfl⟩) (hb hby d3_39) hr, hrun, hended, _, _, rfl, ?_, ⟨_, rfl⟩, hW, hsame.mono (by decide) (by decide)⟩
        show rm3_Q Z a1 wT wF wU h0 n0 _ T5.heap _
        rw [e5]
        exact ⟨by simp only [own_rank, if_neg c4_2, if_neg c16_4, if_pos c28_6], N0, rfl⟩
      · skip
        refine own_via (fun t k => Jvm.RoadKit.acmp (g := (mkF m 28 #[.val (.ref a1), .unset] [(.ref wT), (.ref a1)])) X5 hx rfl rfl rfl (pc0 := 28) (pc' := 36) (same := false) rfl (hb hby d3_28) rfl (decide_eq_false fun q => c28_6 (Value.ref.inj q)) (by decide) (by decide) k) ?_
        show own_G p e below _ (T5.setTop (mkF m 36 #[.val (.ref a1), .unset] []))
        refine own_via (fun t k => XS.iconst X5.here hx rfl (hb hby d3_36) k) ?_
        show own_G p e below _ (T5.setTop (mkF m 37 #[.val (.ref a1), .unset] [(.int (-1 : Int32))]))
        refine own_via (fun t k => XS.istoreN X5.here hx rfl (hb hby d3_37) rfl (l' := #[.val (.ref a1), .val (.int (-1 : Int32))]) rfl k) ?_
        show own_G p e below _ (T5.setTop (mkF m 38 #[.val (.ref a1), .val (.int (-1 : Int32))] []))
        refine own_via (fun t k => XS.iloadN X5.here hx rfl (hb hby d3_38) rfl k) ?_
        show own_G p e below _ (T5.setTop (mkF m 39 #[.val (.ref a1), .val (.int (-1 : Int32))] [(.int (-1 : Int32))]))
        obtain ⟨fs, hr, hrun, hended, hW, hsame⟩ := X5.leave (v := some (.int (-1 : Int32))) (fun h => by rw [Bd.returns] at h; cases h)
        refine ⟨_, _, retOut X5 hx Bd.returns rfl (Or.inl ⟨rfl, Or.inl rfl, _, rfl⟩) (hb hby d3_39) hr, hrun, hended, _, _, rfl, ?_, ⟨_, rfl⟩, hW, hsame.mono (by decide) (by decide)⟩
        show rm3_Q Z a1 wT wF wU h0 n0 _ T5.heap _
        rw [e5]
        exact ⟨by simp only [own_rank, if_neg c4_2, if_neg c16_4, if_neg c28_6], N0, rfl⟩

theorem d4_0 : decode jdk_29_method_65_code 0 = .ok (.iload_n 0, 1) := by decide +kernel
theorem d4_1 : decode jdk_29_method_65_code 1 = .ok (.iload_n 1, 1) := by decide +kernel
theorem d4_2 : decode jdk_29_method_65_code 2 = .ok (.if_icmp .lt 7, 3) := by decide +kernel
theorem d4_5 : decode jdk_29_method_65_code 5 = .ok (.iload_n 0, 1) := by decide +kernel
theorem d4_6 : decode jdk_29_method_65_code 6 = .ok (.goto 4, 3) := by decide +kernel
theorem d4_9 : decode jdk_29_method_65_code 9 = .ok (.iload_n 1, 1) := by decide +kernel
theorem d4_10 : decode jdk_29_method_65_code 10 = .ok (.ireturn, 1) := by decide +kernel
theorem rm4_ef (m : MethodId) (z0 : Int32) (z1 : Int32) : entryFrame m #[(.int z0), (.int z1)] 2 = mkF m 0 #[.val (.int z0), .val (.int z1)] [] := by first | (simp [entryFrame, mkF, argsToLocals, Value.category]; done) | rfl
def rm4_Q (Z : State) (p1 : Int32) (p2 : Int32)  (h0 : Heap) (n0 : Nat) (v : Option Value) (h : Heap) (L : List Loc) : Prop := v = some (.int (own_max p1 p2)) ∧ Fr n0 L ∧ h = h0
set_option maxRecDepth 65536 in
set_option maxHeartbeats 40000000 in
theorem rm4 (l : Launch) (Z : State) (a0 : Array Value) (hw : ∀ d ∈ tables_1, d.before a0 Z = true) (ws : List Jvm.Cond) (p1 : Int32) (p2 : Int32)  (h0 : Heap) (n0 : Nat) (Z0 : n0 ≤ h0.size)  :
    MetFree l (⟨"java/lang/Math", "max", "(II)I"⟩ : MethodName) (head1 (Jvm.Cond.code (⟨"java/lang/Math", "max", "(II)I"⟩ : MethodName) jdk_29_method_65_code 2 (some .int) :: ws) ({ frames := 0, cells := 0, slots := 0, locals := 0 } : Room)) (fun a U => a = #[(.int p1), (.int p2)] ∧ Z.Warmed39 U.vm ∧ U.heap = h0) (fun _ _ _ _ _ => True) (fun _ U o U' => ∃ v L, o = .returned v ∧ rm4_Q Z p1 p2 h0 n0 v U'.heap L ∧ FrameEnd U o U' L ({ frames := 0, cells := 0, slots := 0, locals := 0 } : Room).cells ({ frames := 0, cells := 0, slots := 0, locals := 0 } : Room).slots) := by
  refine MetFree.of_bodySF (Jvm.Free.JP.mathPlain rfl (by decide +kernel)) hisR ?_
  intro p e s m args below meth c s₁ Bd hml0 hP hK
  obtain ⟨rfl, hZ, hh⟩ := hP
  have hx := Bd.exec
  have hby := Bd.bytes
  have hml : c.maxLocals = 2 := hml0
  have hown : s.vm.findClass "java/lang/Math" = some m.cls := findClass_of_methodNamed Bd.named
  have hnm := (name_of_methodNamed Bd.named Bd.method).1
  have X0 : Stand p l e ({ frames := 0, cells := 0, slots := 0, locals := 0 } : Room) s m #[(.int p1), (.int p2)] below meth c s₁ [] 0 0 := Stand.of_body Bd
  have e0 : s₁.heap = h0 := by rw [← hh, Bd.state]; rfl
  have N0 := Fr.nil n0
  refine own_via (fun t k => castTop (rm4_ef m p1 p2) k) ?_
  show own_G p e below _ (s₁.setTop (mkF m 0 #[.val (.int p1), .val (.int p2)] []))
  refine own_via (fun t k => XS.iloadN X0.here hx rfl (hb hby d4_0) rfl k) ?_
  show own_G p e below _ (s₁.setTop (mkF m 1 #[.val (.int p1), .val (.int p2)] [(.int p1)]))
  refine own_via (fun t k => XS.iloadN X0.here hx rfl (hb hby d4_1) rfl k) ?_
  show own_G p e below _ (s₁.setTop (mkF m 2 #[.val (.int p1), .val (.int p2)] [(.int p2), (.int p1)]))
  by_cases c2_1 : p1 < p2
  · skip
    refine own_via (fun t k => XS.icmpYes X0.here hx rfl (pc0 := 2) (pc' := 9) rfl (hb hby d4_2) rfl (tlt c2_1).1 (by decide) (by decide) k) ?_
    show own_G p e below _ (s₁.setTop (mkF m 9 #[.val (.int p1), .val (.int p2)] []))
    refine own_via (fun t k => XS.iloadN X0.here hx rfl (hb hby d4_9) rfl k) ?_
    show own_G p e below _ (s₁.setTop (mkF m 10 #[.val (.int p1), .val (.int p2)] [(.int p2)]))
    obtain ⟨fs, hr, hrun, hended, hW, hsame⟩ := X0.leave (v := some (.int p2)) (fun h => by rw [Bd.returns] at h; cases h)
    refine ⟨_, _, retOut X0 hx Bd.returns rfl (Or.inl ⟨rfl, Or.inl rfl, _, rfl⟩) (hb hby d4_10) hr, hrun, hended, _, _, rfl, ?_, ⟨_, rfl⟩, hW, hsame.mono (by decide) (by decide)⟩
    show rm4_Q Z p1 p2 h0 n0 _ s₁.heap _
    rw [e0]
    exact ⟨by simp only [own_max, if_pos c2_1], N0, rfl⟩
  · skip
    refine own_via (fun t k => XS.icmpNo X0.here hx rfl (hb hby d4_2) rfl (flt c2_1).1 k) ?_
    show own_G p e below _ (s₁.setTop (mkF m 5 #[.val (.int p1), .val (.int p2)] []))
    refine own_via (fun t k => XS.iloadN X0.here hx rfl (hb hby d4_5) rfl k) ?_
    show own_G p e below _ (s₁.setTop (mkF m 6 #[.val (.int p1), .val (.int p2)] [(.int p1)]))
    refine own_via (fun t k => XS.goto X0.here hx rfl (pc0 := 6) (pc' := 10) rfl (hb hby d4_6) (by decide) (by decide) k) ?_
    show own_G p e below _ (s₁.setTop (mkF m 10 #[.val (.int p1), .val (.int p2)] [(.int p1)]))
    obtain ⟨fs, hr, hrun, hended, hW, hsame⟩ := X0.leave (v := some (.int p1)) (fun h => by rw [Bd.returns] at h; cases h)
    refine ⟨_, _, retOut X0 hx Bd.returns rfl (Or.inl ⟨rfl, Or.inl rfl, _, rfl⟩) (hb hby d4_10) hr, hrun, hended, _, _, rfl, ?_, ⟨_, rfl⟩, hW, hsame.mono (by decide) (by decide)⟩
    show rm4_Q Z p1 p2 h0 n0 _ s₁.heap _
    rw [e0]
    exact ⟨by simp only [own_max, if_neg c2_1], N0, rfl⟩

theorem rm0_pn : plainName "com/example/tasc/tasc/value/TruthOrPinLaw" = true := by first | (simp [plainName, overriddenIn]; done) | decide +kernel
theorem pd_rm0_0 : parseMethodDescriptor "(I)Lcom/example/tasc/tasc/value/Truth;" = some ⟨[.int], some (.object "com/example/tasc/tasc/value/Truth")⟩ := by decide +kernel
theorem pd_rm0_1 : parseMethodDescriptor "(Lcom/example/tasc/tasc/value/Truth;)Lcom/example/tasc/tasc/value/Truth;" = some ⟨[(.object "com/example/tasc/tasc/value/Truth")], some (.object "com/example/tasc/tasc/value/Truth")⟩ := by decide +kernel
theorem pd_rm0_2 : parseMethodDescriptor "(Lcom/example/tasc/tasc/value/Truth;)I" = some ⟨[(.object "com/example/tasc/tasc/value/Truth")], some .int⟩ := by decide +kernel
theorem pd_rm0_3 : parseMethodDescriptor "(II)I" = some ⟨[.int, .int], some .int⟩ := by decide +kernel
theorem rm0_ef (m : MethodId) (z0 : Int32) (z1 : Int32) : entryFrame m #[(.int z0), (.int z1)] maxLocals = mkF m 0 #[.val (.int z0), .val (.int z1), .unset, .unset, .unset, .unset] [] := by first | (simp [entryFrame, mkF, argsToLocals, Value.category, maxLocals]; done) | rfl
def rm0_Q (Z : State) (p1 : Int32) (p2 : Int32) (wT : Addr) (wF : Addr) (wU : Addr) (h0 : Heap) (n0 : Nat) (v : Option Value) (h : Heap) (L : List Loc) : Prop := v = some (.int 1) ∧ Fr n0 L
set_option maxRecDepth 65536 in
set_option maxHeartbeats 40000000 in
theorem rm0 (l : Launch) (Z : State) (a0 : Array Value) (hw : ∀ d ∈ tables_1, d.before a0 Z = true) (ws : List Jvm.Cond) (p1 : Int32) (p2 : Int32) (wT : Addr) (wF : Addr) (wU : Addr) (h0 : Heap) (n0 : Nat) (Z0 : n0 ≤ h0.size) (S_TRUE : Sta Z h0 "com/example/tasc/tasc/value/Truth" "TRUE" "Lcom/example/tasc/tasc/value/Truth;" (.ref wT)) (S_FALSE : Sta Z h0 "com/example/tasc/tasc/value/Truth" "FALSE" "Lcom/example/tasc/tasc/value/Truth;" (.ref wF)) (S_UNKNOWN : Sta Z h0 "com/example/tasc/tasc/value/Truth" "UNKNOWN" "Lcom/example/tasc/tasc/value/Truth;" (.ref wU)) (E_TRUE : Exa Z h0 wT "com/example/tasc/tasc/value/Truth") (E_FALSE : Exa Z h0 wF "com/example/tasc/tasc/value/Truth") (E_UNKNOWN : Exa Z h0 wU "com/example/tasc/tasc/value/Truth") (n1 : wT ≠ wF) (n2 : wT ≠ wU) (n3 : wF ≠ wU) :
    MetFree l x (head1 (Jvm.Cond.code x code maxLocals ret :: ws) room_1) (fun a U => a = #[(.int p1), (.int p2)] ∧ Z.Warmed39 U.vm ∧ U.heap = h0) (fun _ _ _ _ _ => True) (fun _ U o U' => ∃ v L, o = .returned v ∧ rm0_Q Z p1 p2 wT wF wU h0 n0 v U'.heap L ∧ FrameEnd U o U' L room_1.cells room_1.slots) := by
  refine MetFree.of_bodySF (plainFor_of_name rm0_pn) hisR ?_
  intro p e s m args below meth c s₁ Bd hml0 hP hK
  obtain ⟨rfl, hZ, hh⟩ := hP
  have hx := Bd.exec
  have hby := Bd.bytes
  have hml : c.maxLocals = 6 := hml0
  have hown : s.vm.findClass "com/example/tasc/tasc/value/TruthOrPinLaw" = some m.cls := findClass_of_methodNamed Bd.named
  have hnm := (name_of_methodNamed Bd.named Bd.method).1
  have X0 : Stand p l e room_1 s m #[(.int p1), (.int p2)] below meth c s₁ [] 0 0 := Stand.of_body Bd
  have e0 : s₁.heap = h0 := by rw [← hh, Bd.state]; rfl
  have N0 := Fr.nil n0
  refine own_via (fun t k => castTop (rm0_ef m p1 p2) k) ?_
  show own_G p e below _ (s₁.setTop (mkF m 0 #[.val (.int p1), .val (.int p2), .unset, .unset, .unset, .unset] []))
  refine own_via (fun t k => XS.iloadN X0.here hx rfl (hb hby at_0) rfl k) ?_
  show own_G p e below _ (s₁.setTop (mkF m 1 #[.val (.int p1), .val (.int p2), .unset, .unset, .unset, .unset] [(.int p1)]))
  refine own_via (fun t k => X0.ldcInt hx hown (mvT hZ (hw _ (List.mem_of_getElem? (i := 0) rfl))) (g := (mkF m 1 #[.val (.int p1), .val (.int p2), .unset, .unset, .unset, .unset] [(.int p1)])) rfl (hb hby at_1) _ k) ?_
  show own_G p e below _ (s₁.setTop (mkF m 3 #[.val (.int p1), .val (.int p2), .unset, .unset, .unset, .unset] [(.int (2147483647 : Int32)), (.int p1)]))
  refine own_via (fun t k => XS.iand X0.here hx rfl (hb hby at_3) rfl k) ?_
  show own_G p e below _ (s₁.setTop (mkF m 4 #[.val (.int p1), .val (.int p2), .unset, .unset, .unset, .unset] [(.int (p1 &&& (2147483647 : Int32)))]))
  refine own_via (fun t k => XS.iconst X0.here hx rfl (hb hby at_4) k) ?_
  show own_G p e below _ (s₁.setTop (mkF m 5 #[.val (.int p1), .val (.int p2), .unset, .unset, .unset, .unset] [(.int (3 : Int32)), (.int (p1 &&& (2147483647 : Int32)))]))
  refine own_via (fun t k => iremM X0 hx rfl (hb hby at_5) rfl (by decide) k) ?_
  show own_G p e below _ (s₁.setTop (mkF m 6 #[.val (.int p1), .val (.int p2), .unset, .unset, .unset, .unset] [(.int ((p1 &&& (2147483647 : Int32)) % (3 : Int32)))]))
  obtain ⟨_, _, ⟨T1, L1, k1, n1⟩, -, X1, ⟨Lc1, hQ1, l1, y1, z1⟩, st1⟩ := Jvm.LawKit.callS X0 hx (y := (⟨"com/example/tasc/tasc/value/TruthOrPinLaw", "pick", "(I)Lcom/example/tasc/tasc/value/Truth;"⟩ : MethodName)) hown (mvT hZ (hw _ (List.mem_of_getElem? (i := 1) rfl))) (mvT hZ (hw _ (List.mem_of_getElem? (i := 2) rfl))) (mvT hZ (hw _ (List.mem_of_getElem? (i := 3) rfl))) (mvT hZ (hw _ (List.mem_of_getElem? (i := 4) rfl))) (by decide) (backOf (W := 0) (rm1 l Z a0 hw [] ((p1 &&& (2147483647 : Int32)) % (3 : Int32)) wT wF wU h0 n0 Z0 S_TRUE S_FALSE S_UNKNOWN) hZ (hw _ (List.mem_of_getElem? (i := 4) rfl)) (hw _ (List.mem_of_getElem? (i := 3) rfl)) (by decide) (by decide)) (g := (mkF m 6 #[.val (.int p1), .val (.int p2), .unset, .unset, .unset, .unset] [(.int ((p1 &&& (2147483647 : Int32)) % (3 : Int32)))])) rfl (by rw [hml]; rfl) (argsL := [(.int ((p1 &&& (2147483647 : Int32)) % (3 : Int32)))]) (rest := []) (lenOf pd_rm0_0 rfl) rfl (by show 2 * 0 + _ ≤ _; exact Nat.le_of_eq rfl) (hb hby at_6) (fun _ _ => ⟨rfl, e0, (by decide : 0 + 0 ≤ _), (by decide : 0 + 0 ≤ _)⟩)
  dsimp only [Pt.U, Pt.locs, Pt.cells, Pt.slots] at X1 l1 y1 z1 st1 hQ1
  subst l1 y1 z1
  obtain ⟨rfl, N1q, e1⟩ := hQ1
  have N1 := Fr.app N0 N1q
  refine own_via st1 ?_
  show own_G p e below _ (T1.setTop (mkF m 9 #[.val (.int p1), .val (.int p2), .unset, .unset, .unset, .unset] [(.ref (own_pick ((p1 &&& (2147483647 : Int32)) % (3 : Int32)) wT wF wU))]))
  refine own_via (fun t k => XS.astoreN X1.here hx rfl (hb hby at_9) rfl rfl (l' := #[.val (.int p1), .val (.int p2), .val (.ref (own_pick ((p1 &&& (2147483647 : Int32)) % (3 : Int32)) wT wF wU)), .unset, .unset, .unset]) rfl k) ?_
  show own_G p e below _ (T1.setTop (mkF m 10 #[.val (.int p1), .val (.int p2), .val (.ref (own_pick ((p1 &&& (2147483647 : Int32)) % (3 : Int32)) wT wF wU)), .unset, .unset, .unset] []))
  refine own_via (fun t k => XS.iloadN X1.here hx rfl (hb hby at_10) rfl k) ?_
  show own_G p e below _ (T1.setTop (mkF m 11 #[.val (.int p1), .val (.int p2), .val (.ref (own_pick ((p1 &&& (2147483647 : Int32)) % (3 : Int32)) wT wF wU)), .unset, .unset, .unset] [(.int p2)]))
  refine own_via (fun t k => X1.ldcInt hx hown (mvT hZ (hw _ (List.mem_of_getElem? (i := 0) rfl))) (g := (mkF m 11 #[.val (.int p1), .val (.int p2), .val (.ref (own_pick ((p1 &&& (2147483647 : Int32)) % (3 : Int32)) wT wF wU)), .unset, .unset, .unset] [(.int p2)])) rfl (hb hby at_11) _ k) ?_
  show own_G p e below _ (T1.setTop (mkF m 13 #[.val (.int p1), .val (.int p2), .val (.ref (own_pick ((p1 &&& (2147483647 : Int32)) % (3 : Int32)) wT wF wU)), .unset, .unset, .unset] [(.int (2147483647 : Int32)), (.int p2)]))
  refine own_via (fun t k => XS.iand X1.here hx rfl (hb hby at_13) rfl k) ?_
  show own_G p e below _ (T1.setTop (mkF m 14 #[.val (.int p1), .val (.int p2), .val (.ref (own_pick ((p1 &&& (2147483647 : Int32)) % (3 : Int32)) wT wF wU)), .unset, .unset, .unset] [(.int (p2 &&& (2147483647 : Int32)))]))
  refine own_via (fun t k => XS.iconst X1.here hx rfl (hb hby at_14) k) ?_
  show own_G p e below _ (T1.setTop (mkF m 15 #[.val (.int p1), .val (.int p2), .val (.ref (own_pick ((p1 &&& (2147483647 : Int32)) % (3 : Int32)) wT wF wU)), .unset, .unset, .unset] [(.int (3 : Int32)), (.int (p2 &&& (2147483647 : Int32)))]))
  refine own_via (fun t k => iremM X1 hx rfl (hb hby at_15) rfl (by decide) k) ?_
  show own_G p e below _ (T1.setTop (mkF m 16 #[.val (.int p1), .val (.int p2), .val (.ref (own_pick ((p1 &&& (2147483647 : Int32)) % (3 : Int32)) wT wF wU)), .unset, .unset, .unset] [(.int ((p2 &&& (2147483647 : Int32)) % (3 : Int32)))]))
  obtain ⟨_, _, ⟨T2, L2, k2, n2⟩, -, X2, ⟨Lc2, hQ2, l2, y2, z2⟩, st2⟩ := Jvm.LawKit.callS X1 hx (y := (⟨"com/example/tasc/tasc/value/TruthOrPinLaw", "pick", "(I)Lcom/example/tasc/tasc/value/Truth;"⟩ : MethodName)) hown (mvT hZ (hw _ (List.mem_of_getElem? (i := 1) rfl))) (mvT hZ (hw _ (List.mem_of_getElem? (i := 2) rfl))) (mvT hZ (hw _ (List.mem_of_getElem? (i := 3) rfl))) (mvT hZ (hw _ (List.mem_of_getElem? (i := 4) rfl))) (by decide) (backOf (W := 0) (rm1 l Z a0 hw [] ((p2 &&& (2147483647 : Int32)) % (3 : Int32)) wT wF wU h0 n0 Z0 S_TRUE S_FALSE S_UNKNOWN) hZ (hw _ (List.mem_of_getElem? (i := 4) rfl)) (hw _ (List.mem_of_getElem? (i := 3) rfl)) (by decide) (by decide)) (g := (mkF m 16 #[.val (.int p1), .val (.int p2), .val (.ref (own_pick ((p1 &&& (2147483647 : Int32)) % (3 : Int32)) wT wF wU)), .unset, .unset, .unset] [(.int ((p2 &&& (2147483647 : Int32)) % (3 : Int32)))])) rfl (by rw [hml]; rfl) (argsL := [(.int ((p2 &&& (2147483647 : Int32)) % (3 : Int32)))]) (rest := []) (lenOf pd_rm0_0 rfl) rfl (by show 2 * 0 + _ ≤ _; exact Nat.le_of_eq rfl) (hb hby at_16) (fun _ _ => ⟨rfl, e1, (by decide : 0 + 0 ≤ _), (by decide : 0 + 0 ≤ _)⟩)
  dsimp only [Pt.U, Pt.locs, Pt.cells, Pt.slots] at X2 l2 y2 z2 st2 hQ2
  subst l2 y2 z2
  obtain ⟨rfl, N2q, e2⟩ := hQ2
  have N2 := Fr.app N1 N2q
  refine own_via st2 ?_
  show own_G p e below _ (T2.setTop (mkF m 19 #[.val (.int p1), .val (.int p2), .val (.ref (own_pick ((p1 &&& (2147483647 : Int32)) % (3 : Int32)) wT wF wU)), .unset, .unset, .unset] [(.ref (own_pick ((p2 &&& (2147483647 : Int32)) % (3 : Int32)) wT wF wU))]))
  refine own_via (fun t k => XS.astoreN X2.here hx rfl (hb hby at_19) rfl rfl (l' := #[.val (.int p1), .val (.int p2), .val (.ref (own_pick ((p1 &&& (2147483647 : Int32)) % (3 : Int32)) wT wF wU)), .val (.ref (own_pick ((p2 &&& (2147483647 : Int32)) % (3 : Int32)) wT wF wU)), .unset, .unset]) rfl k) ?_
  show own_G p e below _ (T2.setTop (mkF m 20 #[.val (.int p1), .val (.int p2), .val (.ref (own_pick ((p1 &&& (2147483647 : Int32)) % (3 : Int32)) wT wF wU)), .val (.ref (own_pick ((p2 &&& (2147483647 : Int32)) % (3 : Int32)) wT wF wU)), .unset, .unset] []))
  refine own_via (fun t k => XS.aloadN X2.here hx rfl (hb hby at_20) rfl rfl k) ?_
  show own_G p e below _ (T2.setTop (mkF m 21 #[.val (.int p1), .val (.int p2), .val (.ref (own_pick ((p1 &&& (2147483647 : Int32)) % (3 : Int32)) wT wF wU)), .val (.ref (own_pick ((p2 &&& (2147483647 : Int32)) % (3 : Int32)) wT wF wU)), .unset, .unset] [(.ref (own_pick ((p1 &&& (2147483647 : Int32)) % (3 : Int32)) wT wF wU))]))
  refine own_via (fun t k => XS.aloadN X2.here hx rfl (hb hby at_21) rfl rfl k) ?_
  show own_G p e below _ (T2.setTop (mkF m 22 #[.val (.int p1), .val (.int p2), .val (.ref (own_pick ((p1 &&& (2147483647 : Int32)) % (3 : Int32)) wT wF wU)), .val (.ref (own_pick ((p2 &&& (2147483647 : Int32)) % (3 : Int32)) wT wF wU)), .unset, .unset] [(.ref (own_pick ((p2 &&& (2147483647 : Int32)) % (3 : Int32)) wT wF wU)), (.ref (own_pick ((p1 &&& (2147483647 : Int32)) % (3 : Int32)) wT wF wU))]))
  obtain ⟨cq3, kq3, q3a, q3b, q3c⟩ := isOf hZ e2 (own_pickE ((p1 &&& (2147483647 : Int32)) % (3 : Int32)) E_TRUE E_FALSE E_UNKNOWN)
  obtain ⟨_, _, ⟨T3, L3, k3, n3⟩, -, X3, ⟨Lc3, hQ3, l3, y3, z3⟩, st3⟩ := X2.virtualBack hx (y := (⟨"com/example/tasc/tasc/value/Truth", "or", "(Lcom/example/tasc/tasc/value/Truth;)Lcom/example/tasc/tasc/value/Truth;"⟩ : MethodName)) (z := (⟨"com/example/tasc/tasc/value/Truth", "or", "(Lcom/example/tasc/tasc/value/Truth;)Lcom/example/tasc/tasc/value/Truth;"⟩ : MethodName)) hown (mvT hZ (hw _ (List.mem_of_getElem? (i := 8) rfl))) (mvT hZ (hw _ (List.mem_of_getElem? (i := 9) rfl))) (notFace_of_selects (args := #[]) (mvT hZ (hw _ (List.mem_of_getElem? (i := 11) rfl)))) (mvT hZ (hw _ (List.mem_of_getElem? (i := 11) rfl))) (mvT hZ (hw _ (List.mem_of_getElem? (i := 10) rfl))) (by decide) (backOf (W := 0) (rm2 l Z a0 hw [] (own_pick ((p1 &&& (2147483647 : Int32)) % (3 : Int32)) wT wF wU) (own_pick ((p2 &&& (2147483647 : Int32)) % (3 : Int32)) wT wF wU) wT wF wU h0 n0 Z0 S_TRUE S_FALSE S_UNKNOWN) hZ (hw _ (List.mem_of_getElem? (i := 12) rfl)) (hw _ (List.mem_of_getElem? (i := 6) rfl)) (by decide) (by decide)) q3a q3c (g := (mkF m 22 #[.val (.int p1), .val (.int p2), .val (.ref (own_pick ((p1 &&& (2147483647 : Int32)) % (3 : Int32)) wT wF wU)), .val (.ref (own_pick ((p2 &&& (2147483647 : Int32)) % (3 : Int32)) wT wF wU)), .unset, .unset] [(.ref (own_pick ((p2 &&& (2147483647 : Int32)) % (3 : Int32)) wT wF wU)), (.ref (own_pick ((p1 &&& (2147483647 : Int32)) % (3 : Int32)) wT wF wU))])) rfl (by rw [hml]; rfl) (Steps.refl _) (argsL := [(.ref (own_pick ((p2 &&& (2147483647 : Int32)) % (3 : Int32)) wT wF wU))]) (rest := []) (lenOf pd_rm0_1 rfl) rfl (by show 2 * 0 + _ ≤ _; exact Nat.le_of_eq rfl) (hb hby at_22) (fun _ _ => ⟨rfl, e2, (by decide : 0 + 0 ≤ _), (by decide : 0 + 0 ≤ _)⟩)
  dsimp only [Pt.U, Pt.locs, Pt.cells, Pt.slots] at X3 l3 y3 z3 st3 hQ3
  subst l3 y3 z3
  obtain ⟨rfl, N3q, e3⟩ := hQ3
  have N3 := Fr.app N2 N3q
  refine own_via (fun t k => st3.trans k) ?_
  show own_G p e below _ (T3.setTop (mkF m 25 #[.val (.int p1), .val (.int p2), .val (.ref (own_pick ((p1 &&& (2147483647 : Int32)) % (3 : Int32)) wT wF wU)), .val (.ref (own_pick ((p2 &&& (2147483647 : Int32)) % (3 : Int32)) wT wF wU)), .unset, .unset] [(.ref (own_or (own_pick ((p1 &&& (2147483647 : Int32)) % (3 : Int32)) wT wF wU) (own_pick ((p2 &&& (2147483647 : Int32)) % (3 : Int32)) wT wF wU) wT wF wU))]))
  refine own_via (fun t k => XS.astore X3.here hx rfl (hb hby at_25) rfl rfl (l' := #[.val (.int p1), .val (.int p2), .val (.ref (own_pick ((p1 &&& (2147483647 : Int32)) % (3 : Int32)) wT wF wU)), .val (.ref (own_pick ((p2 &&& (2147483647 : Int32)) % (3 : Int32)) wT wF wU)), .val (.ref (own_or (own_pick ((p1 &&& (2147483647 : Int32)) % (3 : Int32)) wT wF wU) (own_pick ((p2 &&& (2147483647 : Int32)) % (3 : Int32)) wT wF wU) wT wF wU)), .unset]) rfl k) ?_
  show own_G p e below _ (T3.setTop (mkF m 27 #[.val (.int p1), .val (.int p2), .val (.ref (own_pick ((p1 &&& (2147483647 : Int32)) % (3 : Int32)) wT wF wU)), .val (.ref (own_pick ((p2 &&& (2147483647 : Int32)) % (3 : Int32)) wT wF wU)), .val (.ref (own_or (own_pick ((p1 &&& (2147483647 : Int32)) % (3 : Int32)) wT wF wU) (own_pick ((p2 &&& (2147483647 : Int32)) % (3 : Int32)) wT wF wU) wT wF wU)), .unset] []))
  refine own_via (fun t k => XS.aloadN X3.here hx rfl (hb hby at_27) rfl rfl k) ?_
  show own_G p e below _ (T3.setTop (mkF m 28 #[.val (.int p1), .val (.int p2), .val (.ref (own_pick ((p1 &&& (2147483647 : Int32)) % (3 : Int32)) wT wF wU)), .val (.ref (own_pick ((p2 &&& (2147483647 : Int32)) % (3 : Int32)) wT wF wU)), .val (.ref (own_or (own_pick ((p1 &&& (2147483647 : Int32)) % (3 : Int32)) wT wF wU) (own_pick ((p2 &&& (2147483647 : Int32)) % (3 : Int32)) wT wF wU) wT wF wU)), .unset] [(.ref (own_pick ((p1 &&& (2147483647 : Int32)) % (3 : Int32)) wT wF wU))]))
  obtain ⟨_, _, ⟨T4, L4, k4, n4⟩, -, X4, ⟨Lc4, hQ4, l4, y4, z4⟩, st4⟩ := Jvm.LawKit.callS X3 hx (y := (⟨"com/example/tasc/tasc/value/TruthOrPinLaw", "rank", "(Lcom/example/tasc/tasc/value/Truth;)I"⟩ : MethodName)) hown (mvT hZ (hw _ (List.mem_of_getElem? (i := 14) rfl))) (mvT hZ (hw _ (List.mem_of_getElem? (i := 15) rfl))) (mvT hZ (hw _ (List.mem_of_getElem? (i := 3) rfl))) (mvT hZ (hw _ (List.mem_of_getElem? (i := 16) rfl))) (by decide) (backOf (W := 0) (rm3 l Z a0 hw [] (own_pick ((p1 &&& (2147483647 : Int32)) % (3 : Int32)) wT wF wU) wT wF wU h0 n0 Z0 S_TRUE S_FALSE S_UNKNOWN) hZ (hw _ (List.mem_of_getElem? (i := 16) rfl)) (hw _ (List.mem_of_getElem? (i := 3) rfl)) (by decide) (by decide)) (g := (mkF m 28 #[.val (.int p1), .val (.int p2), .val (.ref (own_pick ((p1 &&& (2147483647 : Int32)) % (3 : Int32)) wT wF wU)), .val (.ref (own_pick ((p2 &&& (2147483647 : Int32)) % (3 : Int32)) wT wF wU)), .val (.ref (own_or (own_pick ((p1 &&& (2147483647 : Int32)) % (3 : Int32)) wT wF wU) (own_pick ((p2 &&& (2147483647 : Int32)) % (3 : Int32)) wT wF wU) wT wF wU)), .unset] [(.ref (own_pick ((p1 &&& (2147483647 : Int32)) % (3 : Int32)) wT wF wU))])) rfl (by rw [hml]; rfl) (argsL := [(.ref (own_pick ((p1 &&& (2147483647 : Int32)) % (3 : Int32)) wT wF wU))]) (rest := []) (lenOf pd_rm0_2 rfl) rfl (by show 2 * 0 + _ ≤ _; exact Nat.le_of_eq rfl) (hb hby at_28) (fun _ _ => ⟨rfl, e3, (by decide : 0 + 0 ≤ _), (by decide : 0 + 0 ≤ _)⟩)
  dsimp only [Pt.U, Pt.locs, Pt.cells, Pt.slots] at X4 l4 y4 z4 st4 hQ4
  subst l4 y4 z4
  obtain ⟨rfl, N4q, e4⟩ := hQ4
  have N4 := Fr.app N3 N4q
  refine own_via st4 ?_
  show own_G p e below _ (T4.setTop (mkF m 31 #[.val (.int p1), .val (.int p2), .val (.ref (own_pick ((p1 &&& (2147483647 : Int32)) % (3 : Int32)) wT wF wU)), .val (.ref (own_pick ((p2 &&& (2147483647 : Int32)) % (3 : Int32)) wT wF wU)), .val (.ref (own_or (own_pick ((p1 &&& (2147483647 : Int32)) % (3 : Int32)) wT wF wU) (own_pick ((p2 &&& (2147483647 : Int32)) % (3 : Int32)) wT wF wU) wT wF wU)), .unset] [(.int (own_rank (own_pick ((p1 &&& (2147483647 : Int32)) % (3 : Int32)) wT wF wU) wT wF wU))]))
  refine own_via (fun t k => XS.aloadN X4.here hx rfl (hb hby at_31) rfl rfl k) ?_
  show own_G p e below _ (T4.setTop (mkF m 32 #[.val (.int p1), .val (.int p2), .val (.ref (own_pick ((p1 &&& (2147483647 : Int32)) % (3 : Int32)) wT wF wU)), .val (.ref (own_pick ((p2 &&& (2147483647 : Int32)) % (3 : Int32)) wT wF wU)), .val (.ref (own_or (own_pick ((p1 &&& (2147483647 : Int32)) % (3 : Int32)) wT wF wU) (own_pick ((p2 &&& (2147483647 : Int32)) % (3 : Int32)) wT wF wU) wT wF wU)), .unset] [(.ref (own_pick ((p2 &&& (2147483647 : Int32)) % (3 : Int32)) wT wF wU)), (.int (own_rank (own_pick ((p1 &&& (2147483647 : Int32)) % (3 : Int32)) wT wF wU) wT wF wU))]))
  obtain ⟨_, _, ⟨T5, L5, k5, n5⟩, -, X5, ⟨Lc5, hQ5, l5, y5, z5⟩, st5⟩ := Jvm.LawKit.callS X4 hx (y := (⟨"com/example/tasc/tasc/value/TruthOrPinLaw", "rank", "(Lcom/example/tasc/tasc/value/Truth;)I"⟩ : MethodName)) hown (mvT hZ (hw _ (List.mem_of_getElem? (i := 14) rfl))) (mvT hZ (hw _ (List.mem_of_getElem? (i := 15) rfl))) (mvT hZ (hw _ (List.mem_of_getElem? (i := 3) rfl))) (mvT hZ (hw _ (List.mem_of_getElem? (i := 16) rfl))) (by decide) (backOf (W := 1) (rm3 l Z a0 hw [] (own_pick ((p2 &&& (2147483647 : Int32)) % (3 : Int32)) wT wF wU) wT wF wU h0 n0 Z0 S_TRUE S_FALSE S_UNKNOWN) hZ (hw _ (List.mem_of_getElem? (i := 16) rfl)) (hw _ (List.mem_of_getElem? (i := 3) rfl)) (by decide) (by decide)) (g := (mkF m 32 #[.val (.int p1), .val (.int p2), .val (.ref (own_pick ((p1 &&& (2147483647 : Int32)) % (3 : Int32)) wT wF wU)), .val (.ref (own_pick ((p2 &&& (2147483647 : Int32)) % (3 : Int32)) wT wF wU)), .val (.ref (own_or (own_pick ((p1 &&& (2147483647 : Int32)) % (3 : Int32)) wT wF wU) (own_pick ((p2 &&& (2147483647 : Int32)) % (3 : Int32)) wT wF wU) wT wF wU)), .unset] [(.ref (own_pick ((p2 &&& (2147483647 : Int32)) % (3 : Int32)) wT wF wU)), (.int (own_rank (own_pick ((p1 &&& (2147483647 : Int32)) % (3 : Int32)) wT wF wU) wT wF wU))])) rfl (by rw [hml]; rfl) (argsL := [(.ref (own_pick ((p2 &&& (2147483647 : Int32)) % (3 : Int32)) wT wF wU))]) (rest := [(.int (own_rank (own_pick ((p1 &&& (2147483647 : Int32)) % (3 : Int32)) wT wF wU) wT wF wU))]) (lenOf pd_rm0_2 rfl) rfl (by show 2 * 0 + _ ≤ _; exact Nat.le_of_eq rfl) (hb hby at_32) (fun _ _ => ⟨rfl, e4, (by decide : 0 + 0 ≤ _), (by decide : 0 + 0 ≤ _)⟩)
  dsimp only [Pt.U, Pt.locs, Pt.cells, Pt.slots] at X5 l5 y5 z5 st5 hQ5
  subst l5 y5 z5
  obtain ⟨rfl, N5q, e5⟩ := hQ5
  have N5 := Fr.app N4 N5q
  refine own_via st5 ?_
  show own_G p e below _ (T5.setTop (mkF m 35 #[.val (.int p1), .val (.int p2), .val (.ref (own_pick ((p1 &&& (2147483647 : Int32)) % (3 : Int32)) wT wF wU)), .val (.ref (own_pick ((p2 &&& (2147483647 : Int32)) % (3 : Int32)) wT wF wU)), .val (.ref (own_or (own_pick ((p1 &&& (2147483647 : Int32)) % (3 : Int32)) wT wF wU) (own_pick ((p2 &&& (2147483647 : Int32)) % (3 : Int32)) wT wF wU) wT wF wU)), .unset] [(.int (own_rank (own_pick ((p2 &&& (2147483647 : Int32)) % (3 : Int32)) wT wF wU) wT wF wU)), (.int (own_rank (own_pick ((p1 &&& (2147483647 : Int32)) % (3 : Int32)) wT wF wU) wT wF wU))]))
  obtain ⟨_, _, ⟨T6, L6, k6, n6⟩, -, X6, ⟨Lc6, hQ6, l6, y6, z6⟩, st6⟩ := Jvm.LawKit.callS X5 hx (y := (⟨"java/lang/Math", "max", "(II)I"⟩ : MethodName)) hown (mvT hZ (hw _ (List.mem_of_getElem? (i := 21) rfl))) (mvT hZ (hw _ (List.mem_of_getElem? (i := 22) rfl))) (mvT hZ (hw _ (List.mem_of_getElem? (i := 23) rfl))) (mvT hZ (hw _ (List.mem_of_getElem? (i := 24) rfl))) (by decide) (backOf (W := 0) (rm4 l Z a0 hw [] (own_rank (own_pick ((p1 &&& (2147483647 : Int32)) % (3 : Int32)) wT wF wU) wT wF wU) (own_rank (own_pick ((p2 &&& (2147483647 : Int32)) % (3 : Int32)) wT wF wU) wT wF wU)  h0 n0 Z0 ) hZ (hw _ (List.mem_of_getElem? (i := 24) rfl)) (hw _ (List.mem_of_getElem? (i := 23) rfl)) (by decide) (by decide)) (g := (mkF m 35 #[.val (.int p1), .val (.int p2), .val (.ref (own_pick ((p1 &&& (2147483647 : Int32)) % (3 : Int32)) wT wF wU)), .val (.ref (own_pick ((p2 &&& (2147483647 : Int32)) % (3 : Int32)) wT wF wU)), .val (.ref (own_or (own_pick ((p1 &&& (2147483647 : Int32)) % (3 : Int32)) wT wF wU) (own_pick ((p2 &&& (2147483647 : Int32)) % (3 : Int32)) wT wF wU) wT wF wU)), .unset] [(.int (own_rank (own_pick ((p2 &&& (2147483647 : Int32)) % (3 : Int32)) wT wF wU) wT wF wU)), (.int (own_rank (own_pick ((p1 &&& (2147483647 : Int32)) % (3 : Int32)) wT wF wU) wT wF wU))])) rfl (by rw [hml]; rfl) (argsL := [(.int (own_rank (own_pick ((p1 &&& (2147483647 : Int32)) % (3 : Int32)) wT wF wU) wT wF wU)), (.int (own_rank (own_pick ((p2 &&& (2147483647 : Int32)) % (3 : Int32)) wT wF wU) wT wF wU))]) (rest := []) (lenOf pd_rm0_3 rfl) rfl (by show 2 * 0 + _ ≤ _; exact Nat.le_of_eq rfl) (hb hby at_35) (fun _ _ => ⟨rfl, e5, (by decide : 0 + 0 ≤ _), (by decide : 0 + 0 ≤ _)⟩)
  dsimp only [Pt.U, Pt.locs, Pt.cells, Pt.slots] at X6 l6 y6 z6 st6 hQ6
  subst l6 y6 z6
  obtain ⟨rfl, N6q, e6⟩ := hQ6
  have N6 := Fr.app N5 N6q
  refine own_via st6 ?_
  show own_G p e below _ (T6.setTop (mkF m 38 #[.val (.int p1), .val (.int p2), .val (.ref (own_pick ((p1 &&& (2147483647 : Int32)) % (3 : Int32)) wT wF wU)), .val (.ref (own_pick ((p2 &&& (2147483647 : Int32)) % (3 : Int32)) wT wF wU)), .val (.ref (own_or (own_pick ((p1 &&& (2147483647 : Int32)) % (3 : Int32)) wT wF wU) (own_pick ((p2 &&& (2147483647 : Int32)) % (3 : Int32)) wT wF wU) wT wF wU)), .unset] [(.int (own_max (own_rank (own_pick ((p1 &&& (2147483647 : Int32)) % (3 : Int32)) wT wF wU) wT wF wU) (own_rank (own_pick ((p2 &&& (2147483647 : Int32)) % (3 : Int32)) wT wF wU) wT wF wU)))]))
  refine own_via (fun t k => XS.istore X6.here hx rfl (hb hby at_38) rfl (l' := #[.val (.int p1), .val (.int p2), .val (.ref (own_pick ((p1 &&& (2147483647 : Int32)) % (3 : Int32)) wT wF wU)), .val (.ref (own_pick ((p2 &&& (2147483647 : Int32)) % (3 : Int32)) wT wF wU)), .val (.ref (own_or (own_pick ((p1 &&& (2147483647 : Int32)) % (3 : Int32)) wT wF wU) (own_pick ((p2 &&& (2147483647 : Int32)) % (3 : Int32)) wT wF wU) wT wF wU)), .val (.int (own_max (own_rank (own_pick ((p1 &&& (2147483647 : Int32)) % (3 : Int32)) wT wF wU) wT wF wU) (own_rank (own_pick ((p2 &&& (2147483647 : Int32)) % (3 : Int32)) wT wF wU) wT wF wU)))]) rfl k) ?_
  show own_G p e below _ (T6.setTop (mkF m 40 #[.val (.int p1), .val (.int p2), .val (.ref (own_pick ((p1 &&& (2147483647 : Int32)) % (3 : Int32)) wT wF wU)), .val (.ref (own_pick ((p2 &&& (2147483647 : Int32)) % (3 : Int32)) wT wF wU)), .val (.ref (own_or (own_pick ((p1 &&& (2147483647 : Int32)) % (3 : Int32)) wT wF wU) (own_pick ((p2 &&& (2147483647 : Int32)) % (3 : Int32)) wT wF wU) wT wF wU)), .val (.int (own_max (own_rank (own_pick ((p1 &&& (2147483647 : Int32)) % (3 : Int32)) wT wF wU) wT wF wU) (own_rank (own_pick ((p2 &&& (2147483647 : Int32)) % (3 : Int32)) wT wF wU) wT wF wU)))] []))
  refine own_via (fun t k => XS.aload X6.here hx rfl (hb hby at_40) rfl rfl k) ?_
  show own_G p e below _ (T6.setTop (mkF m 42 #[.val (.int p1), .val (.int p2), .val (.ref (own_pick ((p1 &&& (2147483647 : Int32)) % (3 : Int32)) wT wF wU)), .val (.ref (own_pick ((p2 &&& (2147483647 : Int32)) % (3 : Int32)) wT wF wU)), .val (.ref (own_or (own_pick ((p1 &&& (2147483647 : Int32)) % (3 : Int32)) wT wF wU) (own_pick ((p2 &&& (2147483647 : Int32)) % (3 : Int32)) wT wF wU) wT wF wU)), .val (.int (own_max (own_rank (own_pick ((p1 &&& (2147483647 : Int32)) % (3 : Int32)) wT wF wU) wT wF wU) (own_rank (own_pick ((p2 &&& (2147483647 : Int32)) % (3 : Int32)) wT wF wU) wT wF wU)))] [(.ref (own_or (own_pick ((p1 &&& (2147483647 : Int32)) % (3 : Int32)) wT wF wU) (own_pick ((p2 &&& (2147483647 : Int32)) % (3 : Int32)) wT wF wU) wT wF wU))]))
  obtain ⟨_, _, ⟨T7, L7, k7, n7⟩, -, X7, ⟨Lc7, hQ7, l7, y7, z7⟩, st7⟩ := Jvm.LawKit.callS X6 hx (y := (⟨"com/example/tasc/tasc/value/TruthOrPinLaw", "rank", "(Lcom/example/tasc/tasc/value/Truth;)I"⟩ : MethodName)) hown (mvT hZ (hw _ (List.mem_of_getElem? (i := 14) rfl))) (mvT hZ (hw _ (List.mem_of_getElem? (i := 15) rfl))) (mvT hZ (hw _ (List.mem_of_getElem? (i := 3) rfl))) (mvT hZ (hw _ (List.mem_of_getElem? (i := 16) rfl))) (by decide) (backOf (W := 0) (rm3 l Z a0 hw [] (own_or (own_pick ((p1 &&& (2147483647 : Int32)) % (3 : Int32)) wT wF wU) (own_pick ((p2 &&& (2147483647 : Int32)) % (3 : Int32)) wT wF wU) wT wF wU) wT wF wU h0 n0 Z0 S_TRUE S_FALSE S_UNKNOWN) hZ (hw _ (List.mem_of_getElem? (i := 16) rfl)) (hw _ (List.mem_of_getElem? (i := 3) rfl)) (by decide) (by decide)) (g := (mkF m 42 #[.val (.int p1), .val (.int p2), .val (.ref (own_pick ((p1 &&& (2147483647 : Int32)) % (3 : Int32)) wT wF wU)), .val (.ref (own_pick ((p2 &&& (2147483647 : Int32)) % (3 : Int32)) wT wF wU)), .val (.ref (own_or (own_pick ((p1 &&& (2147483647 : Int32)) % (3 : Int32)) wT wF wU) (own_pick ((p2 &&& (2147483647 : Int32)) % (3 : Int32)) wT wF wU) wT wF wU)), .val (.int (own_max (own_rank (own_pick ((p1 &&& (2147483647 : Int32)) % (3 : Int32)) wT wF wU) wT wF wU) (own_rank (own_pick ((p2 &&& (2147483647 : Int32)) % (3 : Int32)) wT wF wU) wT wF wU)))] [(.ref (own_or (own_pick ((p1 &&& (2147483647 : Int32)) % (3 : Int32)) wT wF wU) (own_pick ((p2 &&& (2147483647 : Int32)) % (3 : Int32)) wT wF wU) wT wF wU))])) rfl (by rw [hml]; rfl) (argsL := [(.ref (own_or (own_pick ((p1 &&& (2147483647 : Int32)) % (3 : Int32)) wT wF wU) (own_pick ((p2 &&& (2147483647 : Int32)) % (3 : Int32)) wT wF wU) wT wF wU))]) (rest := []) (lenOf pd_rm0_2 rfl) rfl (by show 2 * 0 + _ ≤ _; exact Nat.le_of_eq rfl) (hb hby at_42) (fun _ _ => ⟨rfl, e6, (by decide : 0 + 0 ≤ _), (by decide : 0 + 0 ≤ _)⟩)
  dsimp only [Pt.U, Pt.locs, Pt.cells, Pt.slots] at X7 l7 y7 z7 st7 hQ7
  subst l7 y7 z7
  obtain ⟨rfl, N7q, e7⟩ := hQ7
  have N7 := Fr.app N6 N7q
  refine own_via st7 ?_
  show own_G p e below _ (T7.setTop (mkF m 45 #[.val (.int p1), .val (.int p2), .val (.ref (own_pick ((p1 &&& (2147483647 : Int32)) % (3 : Int32)) wT wF wU)), .val (.ref (own_pick ((p2 &&& (2147483647 : Int32)) % (3 : Int32)) wT wF wU)), .val (.ref (own_or (own_pick ((p1 &&& (2147483647 : Int32)) % (3 : Int32)) wT wF wU) (own_pick ((p2 &&& (2147483647 : Int32)) % (3 : Int32)) wT wF wU) wT wF wU)), .val (.int (own_max (own_rank (own_pick ((p1 &&& (2147483647 : Int32)) % (3 : Int32)) wT wF wU) wT wF wU) (own_rank (own_pick ((p2 &&& (2147483647 : Int32)) % (3 : Int32)) wT wF wU) wT wF wU)))] [(.int (own_rank (own_or (own_pick ((p1 &&& (2147483647 : Int32)) % (3 : Int32)) wT wF wU) (own_pick ((p2 &&& (2147483647 : Int32)) % (3 : Int32)) wT wF wU) wT wF wU) wT wF wU))]))
  refine own_via (fun t k => XS.iload X7.here hx rfl (hb hby at_45) rfl k) ?_
  show own_G p e below _ (T7.setTop (mkF m 47 #[.val (.int p1), .val (.int p2), .val (.ref (own_pick ((p1 &&& (2147483647 : Int32)) % (3 : Int32)) wT wF wU)), .val (.ref (own_pick ((p2 &&& (2147483647 : Int32)) % (3 : Int32)) wT wF wU)), .val (.ref (own_or (own_pick ((p1 &&& (2147483647 : Int32)) % (3 : Int32)) wT wF wU) (own_pick ((p2 &&& (2147483647 : Int32)) % (3 : Int32)) wT wF wU) wT wF wU)), .val (.int (own_max (own_rank (own_pick ((p1 &&& (2147483647 : Int32)) % (3 : Int32)) wT wF wU) wT wF wU) (own_rank (own_pick ((p2 &&& (2147483647 : Int32)) % (3 : Int32)) wT wF wU) wT wF wU)))] [(.int (own_max (own_rank (own_pick ((p1 &&& (2147483647 : Int32)) % (3 : Int32)) wT wF wU) wT wF wU) (own_rank (own_pick ((p2 &&& (2147483647 : Int32)) % (3 : Int32)) wT wF wU) wT wF wU))), (.int (own_rank (own_or (own_pick ((p1 &&& (2147483647 : Int32)) % (3 : Int32)) wT wF wU) (own_pick ((p2 &&& (2147483647 : Int32)) % (3 : Int32)) wT wF wU) wT wF wU) wT wF wU))]))
  by_cases c47_8 : (own_rank (own_or (own_pick ((p1 &&& (2147483647 : Int32)) % (3 : Int32)) wT wF wU) (own_pick ((p2 &&& (2147483647 : Int32)) % (3 : Int32)) wT wF wU) wT wF wU) wT wF wU) = (own_max (own_rank (own_pick ((p1 &&& (2147483647 : Int32)) % (3 : Int32)) wT wF wU) wT wF wU) (own_rank (own_pick ((p2 &&& (2147483647 : Int32)) % (3 : Int32)) wT wF wU) wT wF wU))
  · skip
    refine own_via (fun t k => XS.icmpNo X7.here hx rfl (hb hby at_47) rfl (teq c47_8).2 k) ?_
    show own_G p e below _ (T7.setTop (mkF m 50 #[.val (.int p1), .val (.int p2), .val (.ref (own_pick ((p1 &&& (2147483647 : Int32)) % (3 : Int32)) wT wF wU)), .val (.ref (own_pick ((p2 &&& (2147483647 : Int32)) % (3 : Int32)) wT wF wU)), .val (.ref (own_or (own_pick ((p1 &&& (2147483647 : Int32)) % (3 : Int32)) wT wF wU) (own_pick ((p2 &&& (2147483647 : Int32)) % (3 : Int32)) wT wF wU) wT wF wU)), .val (.int (own_max (own_rank (own_pick ((p1 &&& (2147483647 : Int32)) % (3 : Int32)) wT wF wU) wT wF wU) (own_rank (own_pick ((p2 &&& (2147483647 : Int32)) % (3 : Int32)) wT wF wU) wT wF wU)))] []))
    refine own_via (fun t k => XS.iconst X7.here hx rfl (hb hby at_50) k) ?_
    show own_G p e below _ (T7.setTop (mkF m 51 #[.val (.int p1), .val (.int p2), .val (.ref (own_pick ((p1 &&& (2147483647 : Int32)) % (3 : Int32)) wT wF wU)), .val (.ref (own_pick ((p2 &&& (2147483647 : Int32)) % (3 : Int32)) wT wF wU)), .val (.ref (own_or (own_pick ((p1 &&& (2147483647 : Int32)) % (3 : Int32)) wT wF wU) (own_pick ((p2 &&& (2147483647 : Int32)) % (3 : Int32)) wT wF wU) wT wF wU)), .val (.int (own_max (own_rank (own_pick ((p1 &&& (2147483647 : Int32)) % (3 : Int32)) wT wF wU) wT wF wU) (own_rank (own_pick ((p2 &&& (2147483647 : Int32)) % (3 : Int32)) wT wF wU) wT wF wU)))] [(.int (1 : Int32))]))
    refine own_via (fun t k => XS.goto X7.here hx rfl (pc0 := 51) (pc' := 55) rfl (hb hby at_51) (by decide) (by decide) k) ?_
    show own_G p e below _ (T7.setTop (mkF m 55 #[.val (.int p1), .val (.int p2), .val (.ref (own_pick ((p1 &&& (2147483647 : Int32)) % (3 : Int32)) wT wF wU)), .val (.ref (own_pick ((p2 &&& (2147483647 : Int32)) % (3 : Int32)) wT wF wU)), .val (.ref (own_or (own_pick ((p1 &&& (2147483647 : Int32)) % (3 : Int32)) wT wF wU) (own_pick ((p2 &&& (2147483647 : Int32)) % (3 : Int32)) wT wF wU) wT wF wU)), .val (.int (own_max (own_rank (own_pick ((p1 &&& (2147483647 : Int32)) % (3 : Int32)) wT wF wU) wT wF wU) (own_rank (own_pick ((p2 &&& (2147483647 : Int32)) % (3 : Int32)) wT wF wU) wT wF wU)))] [(.int (1 : Int32))]))
    obtain ⟨fs, hr, hrun, hended, hW, hsame⟩ := X7.leave (v := some (.int (1 : Int32))) (fun h => by rw [Bd.returns] at h; cases h)
    refine ⟨_, _, retN X7 hx (t := .boolean) Bd.returns (by simp) (hb hby at_55) hr, hrun, hended, _, _, rfl, ?_, ⟨_, rfl⟩, hW, hsame.mono (by decide) (by decide)⟩
    show rm0_Q Z p1 p2 wT wF wU h0 n0 _ T7.heap _
    rw [e7]
    exact ⟨rfl, N7⟩
  · exfalso
    exact c47_8 (own_law_or _ _ n1 n2 n3)

set_option maxRecDepth 65536 in
set_option maxHeartbeats 40000000 in
theorem comes_1 {Post : Tables → Env → Array Value → State → Outcome → State → Prop} (hpost : ∀ tb e args s v u, (limb_1_1.after args s (.returned v) u = true ∧ limb_1_2.after args s (.returned v) u = true ∧ True) → FrameEnd s (.returned v) u (Jvm.fieldLocs frame_1_writes args s ++ Jvm.arrayLocs frame_1_arrays args s ++ Jvm.staticLocs frame_1_statics s) 0 0 → Post tb e args s (.returned v) u) :
    ArmFor flags0 classFile x code maxLocals ret World_1 tables_1 room_1 Calls_1 rest_1 Pre_1 Post := by
  intro l hfl _ _ p e ha hc hk s m args below hf hA hF happ hP
  obtain ⟨hcalls, hrest, hpre⟩ := hP
  obtain ⟨-, -, -, hnamed, -, -, -, hat⟩ := (Spec.applies_iff hf).mp happ
  obtain ⟨hg, hn⟩ := and_e (Cond.before_iff.mp (show (Jvm.Cond.and given_1 narrow_1).before args s = true from hpre))
  obtain ⟨gg1, gg2⟩ := and_e hg
  obtain ⟨gg3, gg4⟩ := and_e gg2
  obtain ⟨w0, w1, rfl⟩ : ∃ w0 w1 : Value, args = #[w0, w1] := by
    have hs : args.size = 2 := by simpa [Cond.value, given_1] using gg1
    obtain ⟨L⟩ := args
    match L, hs with
    | [w0, w1], _ => exact ⟨w0, w1, rfl⟩
  have hw := fun d (hd : d ∈ tables_1) => atoms_spec (ws := Jvm.Cond.code x code maxLocals ret :: tables_1) hat d (List.mem_cons_of_mem _ hd)
  obtain ⟨i0, ei0⟩ := is_v gg3
  obtain rfl : w0 = (.int i0) := Option.some.inj ei0
  obtain ⟨i1, ei1⟩ := is_v gg4
  obtain rfl : w1 = (.int i1) := Option.some.inj ei1
  obtain ⟨hn_1, hn_2⟩ := and_e hn
  obtain ⟨a_TRUE, v_TRUE⟩ := exa_v hn_1
  have S_TRUE := Sta.start v_TRUE (Or.inr ⟨(hw _ (List.mem_of_getElem? (i := 6) rfl)), (hw _ (List.mem_of_getElem? (i := 7) rfl))⟩)
  have E_TRUE := Exa.start v_TRUE hn_1
  obtain ⟨hn_3, hn_4⟩ := and_e hn_2
  obtain ⟨a_FALSE, v_FALSE⟩ := exa_v hn_3
  have S_FALSE := Sta.start v_FALSE (Or.inr ⟨(hw _ (List.mem_of_getElem? (i := 6) rfl)), (hw _ (List.mem_of_getElem? (i := 18) rfl))⟩)
  have E_FALSE := Exa.start v_FALSE hn_3
  obtain ⟨hn_5, hn_6⟩ := and_e hn_4
  obtain ⟨hn_7, hn_8⟩ := and_e hn_6
  obtain ⟨hn_9, hn_10⟩ := and_e hn_8
  obtain ⟨a_UNKNOWN, v_UNKNOWN⟩ := exa_v hn_9
  have S_UNKNOWN := Sta.start v_UNKNOWN (Or.inr ⟨(hw _ (List.mem_of_getElem? (i := 6) rfl)), (hw _ (List.mem_of_getElem? (i := 20) rfl))⟩)
  have E_UNKNOWN := Exa.start v_UNKNOWN hn_9
  have o_TRUE := own_ord v_TRUE hn_5
  have o_FALSE := own_ord v_FALSE hn_7
  have o_UNKNOWN := own_ord v_UNKNOWN hn_10
  have ne_TRUE_FALSE : a_TRUE ≠ a_FALSE := fun q => by rw [q] at o_TRUE; exact absurd (Value.int.inj (Option.some.inj (o_TRUE.symm.trans o_FALSE))) (by decide)
  have ne_TRUE_UNKNOWN : a_TRUE ≠ a_UNKNOWN := fun q => by rw [q] at o_TRUE; exact absurd (Value.int.inj (Option.some.inj (o_TRUE.symm.trans o_UNKNOWN))) (by decide)
  have ne_FALSE_UNKNOWN : a_FALSE ≠ a_UNKNOWN := fun q => by rw [q] at o_FALSE; exact absurd (Value.int.inj (Option.some.inj (o_FALSE.symm.trans o_UNKNOWN))) (by decide)
  obtain ⟨n, o, h1, h2, h3, _, L, rfl, ⟨rfl, N⟩, hq⟩ := rm0 l s _ hw tables_1 i0 i1 a_TRUE a_FALSE a_UNKNOWN s.heap s.heap.size (Nat.le_refl _) S_TRUE S_FALSE S_UNKNOWN E_TRUE E_FALSE E_UNKNOWN ne_TRUE_FALSE ne_TRUE_UNKNOWN ne_FALSE_UNKNOWN p e ha hc hk s m _ below hf ((Spec.applies_iff_loose hf).mp happ).1 ⟨rfl, State.Warmed39.refl s, rfl⟩ trivial
  refine ⟨n, _, h1, h2, h3, hpost _ _ _ _ _ _ ⟨Cond.after_iff.mpr rfl, Cond.after_iff.mpr (eq_i res_at (Term.int_eval (1)) rfl), trivial⟩ ⟨hq.1, hq.2.1, (hq.2.2.sift fun y hy => Or.inr (N y hy)).mono (by decide) (by decide)⟩⟩
theorem main_1_1 : Claimed_1_1 := comes_1 fun _ _ _ _ _ _ h hF => ⟨h.1, hF⟩
theorem main_1_2 : Claimed_1_2 := comes_1 fun _ _ _ _ _ _ h hF => ⟨h.2.1, hF⟩

end Jvm.Pilot.@@N@@
namespace Jvm.Pilot.@@N@@
open Jvm Jvm.ClassFile Sem Op Lib Jvm.Free Jvm.Stand Jvm.Pilot.@@N@@.Jvm.D
/-! MADE BY PROGRAM (witnessworld.py) out of the Statement's table words and the real class files: 13 classes; the members and pool entries that the words name. The judged class is class 1, her method 3. -/
namespace start1
open Jvm.ClassFile
def u (s : String) : CpInfo := .utf8 (stringToUtf16 s)
/-- a pool by its gaps: so many unusable entries, then the entry; so many at the end -/
def gap : Nat → List CpInfo → List CpInfo
  | 0, r => r
  | n + 1, r => .unusable :: gap n r
def poolList (es : List (Nat × CpInfo)) (last : Nat) : List CpInfo := es.foldr (fun e r => gap e.1 (e.2 :: r)) (gap last [])
def pool (es : List (Nat × CpInfo)) (last : Nat) : Array CpInfo := ⟨poolList es last⟩
def fileOf (pool : Array CpInfo) (this : Nat) (attrs : Array Attribute := #[]) (ms : Array MethodInfo := #[]) (fl : Nat := 33) (sup : Nat := 0) (ifs : Array Nat := #[]) (fds : Array FieldInfo := #[]) : ClassFile where
  minorVersion := 0
  majorVersion := 65
  constantPool := pool
  accessFlags := fl
  thisClass := this
  superClass := sup
  interfaces := ifs
  fields := fds
  methods := ms
  attributes := attrs
def plain (name : String) (sup : Option ClassId) : Class where
  name := name
  kind := .ordinary
  loader := none
  accessFlags := 33
  super := sup
  interfaces := #[]
  cf := none
  fields := #[]
  methods := #[]
  instanceTypes := #[]
  staticTypes := #[]
  resolved := #[]
  callSites := []
  init := .initialized
  statics := none
  mirror := none

def pool0 : Array CpInfo := pool [(5, u "<init>"), (0, u "()V"), (1, .class_ 10), (1, u "java/lang/Object")] 113

def k0m0 : Method := { name := "<init>", desc := "()V", sig := { parameters := [], returnType := none }, accessFlags := 1, code := none }
/-- java/lang/Object -/
def k0 : Class := { plain "java/lang/Object" none with
  accessFlags := 33
  interfaces := #[]
  cf := some (fileOf pool0 8 #[] #[{ accessFlags := 1, nameIndex := 5, descriptorIndex := 6, attributes := #[] }] 33 0 #[] #[])
  fields := #[]
  methods := #[k0m0]
  instanceTypes := #[]
  staticTypes := #[]
  resolved := Array.replicate 124 none
  statics := none }

def pool1 : Array CpInfo := pool [(2, .class_ 4), (1, u "java/lang/Object"), (0, u "<init>"), (0, u "()V"), (0, .fieldref 8 9), (0, .class_ 10), (0, .nameAndType 11 12), (0, u "com/example/tasc/tasc/value/Truth"), (0, u "TRUE"), (0, u "Lcom/example/tasc/tasc/value/Truth;"), (0, .fieldref 8 14), (0, .nameAndType 15 12), (0, u "FALSE"), (0, .fieldref 8 17), (0, .nameAndType 18 12), (0, u "UNKNOWN"), (0, .integer 2147483647), (0, .methodref 21 22), (0, .class_ 23), (0, .nameAndType 24 25), (0, u "com/example/tasc/tasc/value/TruthOrPinLaw"), (0, u "pick"), (0, u "(I)Lcom/example/tasc/tasc/value/Truth;"), (0, .methodref 8 27), (0, .nameAndType 28 29), (0, u "or"), (0, u "(Lcom/example/tasc/tasc/value/Truth;)Lcom/example/tasc/tasc/value/Truth;"), (0, .methodref 21 31), (0, .nameAndType 32 33), (0, u "rank"), (0, u "(Lcom/example/tasc/tasc/value/Truth;)I"), (0, .methodref 35 36), (0, .class_ 37), (0, .nameAndType 38 39), (0, u "java/lang/Math"), (0, u "max"), (0, u "(II)I"), (3, u "law"), (0, u "(II)Z")] 2

def k1m0 : Method := { name := "<init>", desc := "()V", sig := { parameters := [], returnType := none }, accessFlags := 2, code := none }
def k1c1 : Code := { maxStack := 2, maxLocals := 2, code := method_2_code, exceptionTable := #[], attributes := #[] }
def k1m1 : Method := { name := "pick", desc := "(I)Lcom/example/tasc/tasc/value/Truth;", sig := { parameters := [.int], returnType := some (.object "com/example/tasc/tasc/value/Truth") }, accessFlags := 10, code := some k1c1 }
def k1c2 : Code := { maxStack := 2, maxLocals := 2, code := method_3_code, exceptionTable := #[], attributes := #[] }
def k1m2 : Method := { name := "rank", desc := "(Lcom/example/tasc/tasc/value/Truth;)I", sig := { parameters := [(.object "com/example/tasc/tasc/value/Truth")], returnType := some .int }, accessFlags := 10, code := some k1c2 }
def k1c3 : Code := { maxStack := 2, maxLocals := 6, code := code, exceptionTable := #[], attributes := #[] }
def k1m3 : Method := { name := "law", desc := "(II)Z", sig := { parameters := [.int, .int], returnType := some .boolean }, accessFlags := 9, code := some k1c3 }
/-- com/example/tasc/tasc/value/TruthOrPinLaw -/
def k1 : Class := { plain "com/example/tasc/tasc/value/TruthOrPinLaw" (some 0) with
  accessFlags := 49
  interfaces := #[]
  cf := some (fileOf pool1 21 #[] #[{ accessFlags := 2, nameIndex := 5, descriptorIndex := 6, attributes := #[] }, { accessFlags := 10, nameIndex := 24, descriptorIndex := 25, attributes := #[] }, { accessFlags := 10, nameIndex := 32, descriptorIndex := 33, attributes := #[] }, { accessFlags := 9, nameIndex := 43, descriptorIndex := 44, attributes := #[] }] 49 2 #[] #[])
  fields := #[]
  methods := #[k1m0, k1m1, k1m2, k1m3]
  instanceTypes := #[]
  staticTypes := #[]
  resolved := Array.replicate 47 none
  statics := none }

def pool2 : Array CpInfo := pool [(1, .class_ 2), (0, u "java/lang/constant/Constable"), (0, .class_ 4), (0, u "java/lang/Object")] 6

/-- java/lang/constant/Constable -/
def k2 : Class := { plain "java/lang/constant/Constable" (some 0) with
  accessFlags := 1537
  interfaces := #[]
  cf := some (fileOf pool2 1 #[] #[] 1537 3 #[] #[])
  fields := #[]
  methods := #[]
  instanceTypes := #[]
  staticTypes := #[]
  resolved := Array.replicate 11 none
  statics := none }

def pool3 : Array CpInfo := pool [(1, .class_ 2), (0, u "java/lang/Comparable"), (0, .class_ 4), (0, u "java/lang/Object")] 7

/-- java/lang/Comparable -/
def k3 : Class := { plain "java/lang/Comparable" (some 0) with
  accessFlags := 1537
  interfaces := #[]
  cf := some (fileOf pool3 1 #[] #[] 1537 3 #[] #[])
  fields := #[]
  methods := #[]
  instanceTypes := #[]
  staticTypes := #[]
  resolved := Array.replicate 12 none
  statics := none }

def pool4 : Array CpInfo := pool [(1, .class_ 2), (0, u "java/io/Serializable"), (0, .class_ 4), (0, u "java/lang/Object")] 2

/-- java/io/Serializable -/
def k4 : Class := { plain "java/io/Serializable" (some 0) with
  accessFlags := 1537
  interfaces := #[]
  cf := some (fileOf pool4 1 #[] #[] 1537 3 #[] #[])
  fields := #[]
  methods := #[]
  instanceTypes := #[]
  staticTypes := #[]
  resolved := Array.replicate 7 none
  statics := none }

def pool5 : Array CpInfo := pool [(2, .class_ 4), (1, u "java/lang/Enum"), (0, u "name"), (0, u "Ljava/lang/String;"), (2, u "ordinal"), (0, u "I"), (1, .class_ 14), (1, u "java/lang/Object"), (4, u "hash"), (86, .class_ 108), (1, u "java/lang/Enum$EnumDesc"), (2, .class_ 112), (0, u "java/lang/constant/Constable"), (0, .class_ 114), (0, u "java/lang/Comparable"), (0, .class_ 116), (0, u "java/io/Serializable")] 87

/-- java/lang/Enum -/
def k5 : Class := { plain "java/lang/Enum" (some 0) with
  accessFlags := 1057
  interfaces := #[2, 3, 4]
  cf := some (fileOf pool5 2 #[.nestMembers #[106]] #[] 1057 12 #[111, 113, 115] #[{ accessFlags := 18, nameIndex := 5, descriptorIndex := 6, attributes := #[] }, { accessFlags := 18, nameIndex := 9, descriptorIndex := 10, attributes := #[] }, { accessFlags := 2, nameIndex := 19, descriptorIndex := 10, attributes := #[] }])
  fields := #[{ name := "name", type := (.object "java/lang/String"), accessFlags := 18, slot := 0, constantValue := 0 }, { name := "ordinal", type := .int, accessFlags := 18, slot := 1, constantValue := 0 }, { name := "hash", type := .int, accessFlags := 2, slot := 2, constantValue := 0 }]
  methods := #[]
  instanceTypes := #[(.object "java/lang/String"), .int, .int]
  staticTypes := #[]
  resolved := Array.replicate 204 none
  statics := none }

def pool6 : Array CpInfo := pool [(1, .class_ 2), (0, u "com/example/tasc/tasc/value/Truth"), (0, .fieldref 1 4), (0, .nameAndType 5 6), (0, u "TRUE"), (0, u "Lcom/example/tasc/tasc/value/Truth;"), (0, .fieldref 1 8), (0, .nameAndType 9 6), (0, u "FALSE"), (0, .fieldref 1 11), (0, .nameAndType 12 6), (0, u "UNKNOWN"), (2, u "$VALUES"), (0, u "[Lcom/example/tasc/tasc/value/Truth;"), (6, .class_ 25), (1, u "java/lang/Enum"), (37, u "Lcom/example/tasc/tasc/value/Value;"), (2, u "ONE"), (2, u "ZERO"), (26, u "(Lcom/example/tasc/tasc/value/Truth;)Lcom/example/tasc/tasc/value/Truth;"), (0, u "or")] 6

def k6c0 : Code := { maxStack := 2, maxLocals := 3, code := prog_210_method_8_code, exceptionTable := #[], attributes := #[] }
def k6m0 : Method := { name := "or", desc := "(Lcom/example/tasc/tasc/value/Truth;)Lcom/example/tasc/tasc/value/Truth;", sig := { parameters := [(.object "com/example/tasc/tasc/value/Truth")], returnType := some (.object "com/example/tasc/tasc/value/Truth") }, accessFlags := 1, code := some k6c0 }
/-- com/example/tasc/tasc/value/Truth -/
def k6 : Class := { plain "com/example/tasc/tasc/value/Truth" (some 5) with
  accessFlags := 16433
  interfaces := #[]
  cf := some (fileOf pool6 1 #[] #[{ accessFlags := 1, nameIndex := 97, descriptorIndex := 96, attributes := #[] }] 16433 23 #[] #[{ accessFlags := 16409, nameIndex := 5, descriptorIndex := 6, attributes := #[] }, { accessFlags := 16409, nameIndex := 9, descriptorIndex := 6, attributes := #[] }, { accessFlags := 16409, nameIndex := 12, descriptorIndex := 6, attributes := #[] }, { accessFlags := 26, nameIndex := 66, descriptorIndex := 63, attributes := #[] }, { accessFlags := 26, nameIndex := 69, descriptorIndex := 63, attributes := #[] }, { accessFlags := 4122, nameIndex := 15, descriptorIndex := 16, attributes := #[] }])
  fields := #[{ name := "TRUE", type := (.object "com/example/tasc/tasc/value/Truth"), accessFlags := 16409, slot := 0, constantValue := 0 }, { name := "FALSE", type := (.object "com/example/tasc/tasc/value/Truth"), accessFlags := 16409, slot := 1, constantValue := 0 }, { name := "UNKNOWN", type := (.object "com/example/tasc/tasc/value/Truth"), accessFlags := 16409, slot := 2, constantValue := 0 }, { name := "ONE", type := (.object "com/example/tasc/tasc/value/Value"), accessFlags := 26, slot := 3, constantValue := 0 }, { name := "ZERO", type := (.object "com/example/tasc/tasc/value/Value"), accessFlags := 26, slot := 4, constantValue := 0 }, { name := "$VALUES", type := (.array (.object "com/example/tasc/tasc/value/Truth")), accessFlags := 4122, slot := 5, constantValue := 0 }]
  methods := #[k6m0]
  instanceTypes := #[(.object "java/lang/String"), .int, .int]
  staticTypes := #[(.object "com/example/tasc/tasc/value/Truth"), (.object "com/example/tasc/tasc/value/Truth"), (.object "com/example/tasc/tasc/value/Truth"), (.object "com/example/tasc/tasc/value/Value"), (.object "com/example/tasc/tasc/value/Value"), (.array (.object "com/example/tasc/tasc/value/Truth"))]
  resolved := Array.replicate 104 none
  statics := some 0 }

def pool7 : Array CpInfo := pool [(1, .class_ 2), (0, u "java/lang/Math"), (1, .class_ 6), (1, u "java/lang/Object"), (0, u "<init>"), (0, u "()V"), (89, .class_ 100), (1, u "java/lang/Math$RandomNumberGeneratorHolder"), (71, u "negativeZeroFloatBits"), (0, u "J"), (2, u "negativeZeroDoubleBits"), (21, u "max"), (46, u "$assertionsDisabled"), (0, u "Z"), (88, u "(II)I"), (2, u "twoToTheDoubleScaleDown"), (0, u "D"), (4, u "twoToTheDoubleScaleUp"), (9, u "E"), (3, u "PI"), (2, u "TAU"), (2, u "DEGREES_TO_RADIANS"), (0, u "RADIANS_TO_DEGREES")] 94

def k7m0 : Method := { name := "<init>", desc := "()V", sig := { parameters := [], returnType := none }, accessFlags := 2, code := none }
def k7c1 : Code := { maxStack := 2, maxLocals := 2, code := jdk_29_method_65_code, exceptionTable := #[], attributes := #[] }
def k7m1 : Method := { name := "max", desc := "(II)I", sig := { parameters := [.int, .int], returnType := some .int }, accessFlags := 9, code := some k7c1 }
/-- java/lang/Math -/
def k7 : Class := { plain "java/lang/Math" (some 0) with
  accessFlags := 49
  interfaces := #[]
  cf := some (fileOf pool7 1 #[.nestMembers #[98]] #[{ accessFlags := 2, nameIndex := 7, descriptorIndex := 8, attributes := #[] }, { accessFlags := 9, nameIndex := 198, descriptorIndex := 335, attributes := #[] }] 49 4 #[] #[{ accessFlags := 25, nameIndex := 354, descriptorIndex := 339, attributes := #[] }, { accessFlags := 25, nameIndex := 358, descriptorIndex := 339, attributes := #[] }, { accessFlags := 25, nameIndex := 361, descriptorIndex := 339, attributes := #[] }, { accessFlags := 26, nameIndex := 364, descriptorIndex := 339, attributes := #[] }, { accessFlags := 26, nameIndex := 365, descriptorIndex := 339, attributes := #[] }, { accessFlags := 26, nameIndex := 172, descriptorIndex := 173, attributes := #[] }, { accessFlags := 26, nameIndex := 176, descriptorIndex := 173, attributes := #[] }, { accessFlags := 8, nameIndex := 344, descriptorIndex := 339, attributes := #[] }, { accessFlags := 8, nameIndex := 338, descriptorIndex := 339, attributes := #[] }, { accessFlags := 4120, nameIndex := 245, descriptorIndex := 246, attributes := #[] }])
  fields := #[{ name := "E", type := .double, accessFlags := 25, slot := 0, constantValue := 0 }, { name := "PI", type := .double, accessFlags := 25, slot := 1, constantValue := 0 }, { name := "TAU", type := .double, accessFlags := 25, slot := 2, constantValue := 0 }, { name := "DEGREES_TO_RADIANS", type := .double, accessFlags := 26, slot := 3, constantValue := 0 }, { name := "RADIANS_TO_DEGREES", type := .double, accessFlags := 26, slot := 4, constantValue := 0 }, { name := "negativeZeroFloatBits", type := .long, accessFlags := 26, slot := 5, constantValue := 0 }, { name := "negativeZeroDoubleBits", type := .long, accessFlags := 26, slot := 6, constantValue := 0 }, { name := "twoToTheDoubleScaleUp", type := .double, accessFlags := 8, slot := 7, constantValue := 0 }, { name := "twoToTheDoubleScaleDown", type := .double, accessFlags := 8, slot := 8, constantValue := 0 }, { name := "$assertionsDisabled", type := .boolean, accessFlags := 4120, slot := 9, constantValue := 0 }]
  methods := #[k7m0, k7m1]
  instanceTypes := #[]
  staticTypes := #[.double, .double, .double, .double, .double, .long, .long, .double, .double, .boolean]
  resolved := Array.replicate 460 none
  statics := none }

def pool8 : Array CpInfo := pool [(1, u "java/lang/Cloneable"), (0, .class_ 1), (0, u "java/lang/Object"), (0, .class_ 3)] 3

/-- java/lang/Cloneable -/
def k8 : Class := { plain "java/lang/Cloneable" (some 0) with
  accessFlags := 1537
  interfaces := #[]
  cf := some (fileOf pool8 2 #[] #[] 1537 4 #[] #[])
  fields := #[]
  methods := #[]
  instanceTypes := #[]
  staticTypes := #[]
  resolved := Array.replicate 8 none
  statics := none }

/-- the primitive byte -/
def k9 : Class := { plain "byte" none with kind := .primitive 'B', accessFlags := 0x411 }
/-- [B -/
def k10 : Class := { plain "[B" (some 0) with kind := .array 9 .byte, interfaces := #[8, 4], accessFlags := 1041 }

/-- the primitive int -/
def k11 : Class := { plain "int" none with kind := .primitive 'I', accessFlags := 0x411 }
/-- [I -/
def k12 : Class := { plain "[I" (some 0) with kind := .array 11 .int, interfaces := #[8, 4], accessFlags := 1041 }

def heap : Heap := #[{ cls := 6, slots := #[.ref 1, .ref 2, .ref 3, .null, .null, .null], vm := .statics 6 },
  { cls := 6, slots := #[.null, .int 0, .int 0], vm := .none },
  { cls := 6, slots := #[.null, .int 1, .int 0], vm := .none },
  { cls := 6, slots := #[.null, .int 2, .int 0], vm := .none }]
def classes : Array Class := #[k0, k1, k2, k3, k4, k5, k6, k7, k8, k9, k10, k11, k12]
def interned : List (Array UInt16 × Addr) := []
def slotsUsed : Nat := 15
def theMethod : MethodId := ⟨1, 3⟩
def args0 : Array Value := #[.int 1, .int 2]
def aboutOver (below : List Frame) : State where
  vm := { classes := classes, interned := interned.toArray }
  heap := heap
  slotsUsed := slotsUsed
  threads := #[{ frames := .invoking theMethod args0 :: below }]
def below0 : List Frame := [.native { method := ⟨0, 0⟩, args := #[] }]
def about1 : State := aboutOver below0
def p0 : Program := .bare "" "" ""
def e0 : Env := launch0.env 0 0 0
theorem w_frames : about1.frames = Frame.invoking theMethod args0 :: below0 := rfl
set_option maxRecDepth 65536 in
theorem w_args : argsFit about1.vm theMethod args0 = true := by decide +kernel
set_option maxRecDepth 65536 in
theorem w_heap : heapFits about1 = true := by decide +kernel
set_option maxRecDepth 65536 in
theorem w_runnable : about1.curStatus? = some .runnable := by decide +kernel
set_option maxRecDepth 65536 in
theorem w_alone : about1.alone = true := by decide +kernel
set_option maxRecDepth 65536 in
theorem w_named : about1.methodNamed? x = some theMethod := by decide +kernel
set_option maxRecDepth 65536 in
theorem w_hears : about1.hears theMethod below0 = true := by decide +kernel
set_option maxRecDepth 65536 in
theorem w_ripe : about1.ripe theMethod args0 below0 = true := by decide +kernel
theorem w_running : about1.status = .running := rfl
set_option maxRecDepth 65536 in
theorem w_room : about1.hasRoom e0.platform room_1 = true :=
  launch0.hasRoom_least _ room_1 (by decide +kernel) (by decide +kernel) (by decide +kernel) (by decide +kernel) (by decide +kernel) (by decide +kernel)
theorem allAtoms_all (ts : List Jvm.Cond) (a : Array Jvm.Value) (st : Jvm.State) : (allAtoms ts).before a st = ts.all (fun c => c.before a st) := by
  induction ts with
  | nil => rfl
  | cons c t ih =>
    show (Jvm.Cond.and c (allAtoms t)).before a st = _
    rw [Jvm.Cond.before_and, ih, List.all_cons]
def words1 : List Jvm.Cond := Jvm.Cond.code x code maxLocals ret :: tables_1
/-- a 'code' word, met by the world's own term for the bytes: nothing is compared byte by byte -/
theorem code_word {y : MethodName} {bytes : ByteArray} {mx : Nat} {rt : Option FieldType} {a : Array Value} {s : State} {m : MethodId} {meth : Method} {c : Code} (h1 : s.methodNamed? y = some m) (h2 : s.vm.method? m = some meth) (h3 : meth.code = some c) (h4 : c.code = bytes)
    (h5 : (c.maxLocals == mx && c.exceptionTable.isEmpty && decide (c.maxStack ≤ mostOperands) && decide (meth.sig.returnType = rt) && !meth.locks && decide (parseMethodDescriptor y.desc = some meth.sig)) = true) : (Jvm.Cond.code y bytes mx rt).before a s = true := by
  simp only [Bool.and_eq_true, beq_iff_eq, Bool.not_eq_true', decide_eq_true_eq] at h5
  obtain ⟨⟨⟨⟨⟨g1, g2⟩, g3⟩, g4⟩, g5⟩, g6⟩ := h5
  simp [Cond.before, Cond.holds, Cond.value, h1, h2, h3, h4, g1, g2, g3, g4, g5, g6]
def isCode : Jvm.Cond → Bool
  | .code _ _ _ _ => true
  | _ => false
theorem all_split {L : List Jvm.Cond} {P : Jvm.Cond → Bool} (h1 : L.all (fun c => isCode c || P c) = true) (h2 : ∀ c ∈ L.filter isCode, P c = true) : L.all P = true := by
  refine List.all_eq_true.mpr fun c hc => ?_
  have h := List.all_eq_true.mp h1 c hc
  rcases Bool.eq_false_or_eq_true (isCode c) with hi | hi
  · exact h2 c (List.mem_filter.mpr ⟨hc, hi⟩)
  · simpa [hi] using h
set_option maxRecDepth 65536 in
theorem w_c0 : (Jvm.Cond.code x code maxLocals ret).before args0 about1 = true := code_word (m := ⟨1, 3⟩) (meth := k1m3) (c := k1c3) (by decide +kernel) rfl rfl rfl (by decide +kernel)
set_option maxRecDepth 65536 in
theorem w_c1 : (Jvm.Cond.code ({ cls := "com/example/tasc/tasc/value/TruthOrPinLaw", name := "pick", desc := "(I)Lcom/example/tasc/tasc/value/Truth;" } : Jvm.MethodName) method_2_code (2 : Nat) (Option.some (Jvm.ClassFile.FieldType.object "com/example/tasc/tasc/value/Truth"))).before args0 about1 = true := code_word (m := ⟨1, 1⟩) (meth := k1m1) (c := k1c1) (by decide +kernel) rfl rfl rfl (by decide +kernel)
set_option maxRecDepth 65536 in
theorem w_c2 : (Jvm.Cond.code ({ cls := "com/example/tasc/tasc/value/Truth", name := "or", desc := "(Lcom/example/tasc/tasc/value/Truth;)Lcom/example/tasc/tasc/value/Truth;" } : Jvm.MethodName) prog_210_method_8_code (3 : Nat) (Option.some (Jvm.ClassFile.FieldType.object "com/example/tasc/tasc/value/Truth"))).before args0 about1 = true := code_word (m := ⟨6, 0⟩) (meth := k6m0) (c := k6c0) (by decide +kernel) rfl rfl rfl (by decide +kernel)
set_option maxRecDepth 65536 in
theorem w_c3 : (Jvm.Cond.code ({ cls := "com/example/tasc/tasc/value/TruthOrPinLaw", name := "rank", desc := "(Lcom/example/tasc/tasc/value/Truth;)I" } : Jvm.MethodName) method_3_code (2 : Nat) (Option.some Jvm.ClassFile.FieldType.int)).before args0 about1 = true := code_word (m := ⟨1, 2⟩) (meth := k1m2) (c := k1c2) (by decide +kernel) rfl rfl rfl (by decide +kernel)
set_option maxRecDepth 65536 in
theorem w_c4 : (Jvm.Cond.code ({ cls := "java/lang/Math", name := "max", desc := "(II)I" } : Jvm.MethodName) jdk_29_method_65_code (2 : Nat) (Option.some Jvm.ClassFile.FieldType.int)).before args0 about1 = true := code_word (m := ⟨7, 1⟩) (meth := k7m1) (c := k7c1) (by decide +kernel) rfl rfl rfl (by decide +kernel)
def codes1 : List Jvm.Cond := [Jvm.Cond.code x code maxLocals ret, Jvm.Cond.code ({ cls := "com/example/tasc/tasc/value/TruthOrPinLaw", name := "pick", desc := "(I)Lcom/example/tasc/tasc/value/Truth;" } : Jvm.MethodName) method_2_code (2 : Nat) (Option.some (Jvm.ClassFile.FieldType.object "com/example/tasc/tasc/value/Truth")), Jvm.Cond.code ({ cls := "com/example/tasc/tasc/value/Truth", name := "or", desc := "(Lcom/example/tasc/tasc/value/Truth;)Lcom/example/tasc/tasc/value/Truth;" } : Jvm.MethodName) prog_210_method_8_code (3 : Nat) (Option.some (Jvm.ClassFile.FieldType.object "com/example/tasc/tasc/value/Truth")), Jvm.Cond.code ({ cls := "com/example/tasc/tasc/value/TruthOrPinLaw", name := "rank", desc := "(Lcom/example/tasc/tasc/value/Truth;)I" } : Jvm.MethodName) method_3_code (2 : Nat) (Option.some Jvm.ClassFile.FieldType.int), Jvm.Cond.code ({ cls := "java/lang/Math", name := "max", desc := "(II)I" } : Jvm.MethodName) jdk_29_method_65_code (2 : Nat) (Option.some Jvm.ClassFile.FieldType.int)]
set_option maxRecDepth 65536 in
theorem codes_eq : words1.filter isCode = codes1 := rfl
theorem w_codes : ∀ c ∈ words1.filter isCode, c.before args0 about1 = true := by
  rw [codes_eq]
  intro c hc
  simp only [codes1, List.mem_cons, List.not_mem_nil, or_false] at hc
  rcases hc with rfl | rfl | rfl | rfl | rfl
  · exact w_c0
  · exact w_c1
  · exact w_c2
  · exact w_c3
  · exact w_c4
set_option maxRecDepth 65536 in
theorem w_t1 : (words1.take 24).all (fun c => isCode c || c.before args0 about1) = true := by decide +kernel
set_option maxRecDepth 65536 in
theorem w_t2 : (words1.drop 24).all (fun c => isCode c || c.before args0 about1) = true := by decide +kernel
theorem w_tables : (allAtoms (Jvm.Cond.code x code maxLocals ret :: tables_1)).before args0 about1 = true := by
  rw [allAtoms_all]
  show words1.all (fun c => c.before args0 about1) = true
  refine all_split ?_ w_codes
  rw [← List.take_append_drop 24 words1, List.all_append, w_t1, w_t2]
  rfl
set_option maxRecDepth 65536 in
theorem w_case : (Jvm.Cond.and given_1 narrow_1).before args0 about1 = true := by decide +kernel
theorem w_applies : (headSpec (Jvm.Cond.code x code maxLocals ret :: tables_1) room_1).applies x e0.platform about1 = true :=
  (Spec.applies_iff w_frames).mpr ⟨w_running, w_runnable, w_alone, w_named, w_hears, w_ripe, w_room, w_tables⟩
theorem atStart : AtStart classFile x code maxLocals ret World_1 tables_1 room_1 Calls_1 rest_1 Pre_1 launch0 p0 e0 about1 theMethod args0 below0 :=
  ⟨lists_1, trivial, launch0.admits_env _ _ _, launch0.least_env, fairChoices_fair.cas, fairChoices_fair.clock, w_frames, w_args, w_heap, w_applies, trivial, trivial, w_case⟩
end start1
theorem witness_1 : WitnessClaimed_1 := ⟨start1.p0, start1.e0, start1.about1, start1.theMethod, start1.args0, start1.below0, start1.atStart⟩
end Jvm.Pilot.@@N@@
