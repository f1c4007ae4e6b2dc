import JvmDerived
import JvmDerived.Pilot.@@N@@Statement
import JvmDerived.Pilot.@@N@@Code
set_option linter.unusedVariables false
set_option linter.unusedSimpArgs false
@@BLOCK:NumsL.lean.txt@@
namespace Jvm.Pilot.@@N@@
open Jvm Jvm.ClassFile Sem Op Lib Jvm.Free Jvm.Stand Jvm.LawKit Jvm.RoadKit Bundle Jvm.Pilot.@@N@@.Jvm.D

def own_G (p : Program) (e : Env) (below : List Frame) (B : State → Outcome → Prop) (U : State) : Prop := ∃ t o, Steps p.tables e below U t ∧ t.status = .running ∧ Ended t below o ∧ B t o
theorem own_via {p : Program} {e : Env} {below : List Frame} {B : State → Outcome → Prop} {U U' : State} (h : ∀ t, Steps p.tables e below U' t → Steps p.tables e below U t) (k : own_G p e below B U') : own_G p e below B U := by
  obtain ⟨t, o, a, r⟩ := k
  exact ⟨t, o, h t a, r⟩
theorem own_start {p : Program} {e : Env} {below : List Frame} {B : State → Outcome → Prop} {U : State} (k : own_G p e below B U) : ∃ t o, Steps p.tables e below U t ∧ t.status = .running ∧ Ended t below o ∧ B t o := k

theorem own_ord {args : Array Value} {s : State} {t : Term} {C n d : String} {x : Addr} {k : Int32} (ht : t.eval args s none [] s = some (.ref x)) (h : (Jvm.Cond.eq (.field t C n d) (.int k)).value args s none s [] = some true) : s.fieldOf? x C n d = some (.int k) := by
  have e := fld_at (C := C) (n := n) (dd := d) ht
  cases hf : s.fieldOf? x C n d with
  | none => rw [hf] at e; simp [Cond.value, e] at h
  | some v =>
    cases v <;> simp [Cond.value, Term.eval, ht, hf] at h
    subst h; rfl

def own_pick (k : Int32) (w0 w1 w2 w3 w4 w5 w6 w7 : Addr) : Addr := if k = 0 then w0 else if k = 1 then w1 else if k = 2 then w2 else if k = 3 then w3 else if k = 4 then w4 else if k = 5 then w5 else if k = 6 then w6 else w7
def own_acc (a b w0 w1 w2 w3 w4 w5 w6 w7 : Addr) : Int32 := if a = w0 then 1 else if b = w0 then 1 else if a = b then 1 else if a = w7 then (if b = w3 then 1 else if b = w4 then 1 else if b = w5 then 1 else if b = w6 then 1 else 0) else 0
theorem own_pickE {Z : State} {h : Heap} {C : String} {w0 w1 w2 w3 w4 w5 w6 w7 : Addr} (k : Int32) (e0 : Exa Z h w0 C) (e1 : Exa Z h w1 C) (e2 : Exa Z h w2 C) (e3 : Exa Z h w3 C) (e4 : Exa Z h w4 C) (e5 : Exa Z h w5 C) (e6 : Exa Z h w6 C) (e7 : Exa Z h w7 C) : Exa Z h (own_pick k w0 w1 w2 w3 w4 w5 w6 w7) C := by
  unfold own_pick; repeat' split
  all_goals assumption
theorem own_and7 (x : Int32) : x &&& 7 = 0 ∨ x &&& 7 = 1 ∨ x &&& 7 = 2 ∨ x &&& 7 = 3 ∨ x &&& 7 = 4 ∨ x &&& 7 = 5 ∨ x &&& 7 = 6 ∨ x &&& 7 = 7 := by
  have e : (x &&& 7).toInt = x.toInt % 2 ^ 3 := Jvm.Kit.i32_mask x 7 (k := 3) (by decide) (by decide)
  generalize x &&& 7 = y at *
  have q : ∀ k : Int32, (y = k) ↔ (y.toInt = k.toInt) := fun k => Int32.toInt_inj.symm
  simp only [q]
  have k0 : (0 : Int32).toInt = 0 := by decide
  have k1 : (1 : Int32).toInt = 1 := by decide
  have k2 : (2 : Int32).toInt = 2 := by decide
  have k3 : (3 : Int32).toInt = 3 := by decide
  have k4 : (4 : Int32).toInt = 4 := by decide
  have k5 : (5 : Int32).toInt = 5 := by decide
  have k6 : (6 : Int32).toInt = 6 := by decide
  have k7 : (7 : Int32).toInt = 7 := by decide
  rw [k0, k1, k2, k3, k4, k5, k6, k7]
  omega
set_option maxHeartbeats 4000000 in
theorem own_law8 {w0 w1 w2 w3 w4 w5 w6 w7 : Addr} (n01 : w0 ≠ w1) (n02 : w0 ≠ w2) (n03 : w0 ≠ w3) (n04 : w0 ≠ w4) (n05 : w0 ≠ w5) (n06 : w0 ≠ w6) (n07 : w0 ≠ w7) (n12 : w1 ≠ w2) (n13 : w1 ≠ w3) (n14 : w1 ≠ w4) (n15 : w1 ≠ w5) (n16 : w1 ≠ w6) (n17 : w1 ≠ w7) (n23 : w2 ≠ w3) (n24 : w2 ≠ w4) (n25 : w2 ≠ w5) (n26 : w2 ≠ w6) (n27 : w2 ≠ w7) (n34 : w3 ≠ w4) (n35 : w3 ≠ w5) (n36 : w3 ≠ w6) (n37 : w3 ≠ w7) (n45 : w4 ≠ w5) (n46 : w4 ≠ w6) (n47 : w4 ≠ w7) (n56 : w5 ≠ w6) (n57 : w5 ≠ w7) (n67 : w6 ≠ w7) (e a : Int32) (he : e = 0 ∨ e = 1 ∨ e = 2 ∨ e = 3 ∨ e = 4 ∨ e = 5 ∨ e = 6 ∨ e = 7) (ha : a = 0 ∨ a = 1 ∨ a = 2 ∨ a = 3 ∨ a = 4 ∨ a = 5 ∨ a = 6 ∨ a = 7) : own_acc (own_pick e w0 w1 w2 w3 w4 w5 w6 w7) (own_pick a w0 w1 w2 w3 w4 w5 w6 w7) w0 w1 w2 w3 w4 w5 w6 w7 = if lcmpW (((-486070927729818625 : Int64).toUInt64 >>> (((e * (8 : Int32)) + a) &&& 0x3f).toInt64.toUInt64).toInt64 &&& (1 : Int64)) 0 = 0 then 0 else 1 := by
  have m01 := n01.symm
  have m02 := n02.symm
  have m03 := n03.symm
  have m04 := n04.symm
  have m05 := n05.symm
  have m06 := n06.symm
  have m07 := n07.symm
  have m12 := n12.symm
  have m13 := n13.symm
  have m14 := n14.symm
  have m15 := n15.symm
  have m16 := n16.symm
  have m17 := n17.symm
  have m23 := n23.symm
  have m24 := n24.symm
  have m25 := n25.symm
  have m26 := n26.symm
  have m27 := n27.symm
  have m34 := n34.symm
  have m35 := n35.symm
  have m36 := n36.symm
  have m37 := n37.symm
  have m45 := n45.symm
  have m46 := n46.symm
  have m47 := n47.symm
  have m56 := n56.symm
  have m57 := n57.symm
  have m67 := n67.symm
  rcases he with rfl | rfl | rfl | rfl | rfl | rfl | rfl | rfl <;> rcases ha with rfl | rfl | rfl | rfl | rfl | rfl | rfl | rfl <;>
    first | (rw [if_pos (by decide +kernel)]; simp [own_pick, own_acc, n01, m01, n02, m02, n03, m03, n04, m04, n05, m05, n06, m06, n07, m07, n12, m12, n13, m13, n14, m14, n15, m15, n16, m16, n17, m17, n23, m23, n24, m24, n25, m25, n26, m26, n27, m27, n34, m34, n35, m35, n36, m36, n37, m37, n45, m45, n46, m46, n47, m47, n56, m56, n57, m57, n67, m67]; done) | (rw [if_neg (by decide +kernel)]; simp [own_pick, own_acc, n01, m01, n02, m02, n03, m03, n04, m04, n05, m05, n06, m06, n07, m07, n12, m12, n13, m13, n14, m14, n15, m15, n16, m16, n17, m17, n23, m23, n24, m24, n25, m25, n26, m26, n27, m27, n34, m34, n35, m35, n36, m36, n37, m37, n45, m45, n46, m46, n47, m47, n56, m56, n57, m57, n67, m67]; done)
theorem d1_0 : decode method_2_code 0 = .ok (.iload_n 0, 1) := by decide +kernel
theorem d1_1 : decode method_2_code 1 = .ok (.ifCond .ne 7, 3) := by decide +kernel
theorem d1_4 : decode method_2_code 4 = .ok (.getstatic 7, 3) := by decide +kernel
theorem d1_7 : decode method_2_code 7 = .ok (.areturn, 1) := by decide +kernel
theorem d1_8 : decode method_2_code 8 = .ok (.iload_n 0, 1) := by decide +kernel
theorem d1_9 : decode method_2_code 9 = .ok (.iconst 1, 1) := by decide +kernel
theorem d1_10 : decode method_2_code 10 = .ok (.if_icmp .ne 7, 3) := by decide +kernel
theorem d1_13 : decode method_2_code 13 = .ok (.getstatic 13, 3) := by decide +kernel
theorem d1_16 : decode method_2_code 16 = .ok (.areturn, 1) := by decide +kernel
theorem d1_17 : decode method_2_code 17 = .ok (.iload_n 0, 1) := by decide +kernel
theorem d1_18 : decode method_2_code 18 = .ok (.iconst 2, 1) := by decide +kernel
theorem d1_19 : decode method_2_code 19 = .ok (.if_icmp .ne 7, 3) := by decide +kernel
theorem d1_22 : decode method_2_code 22 = .ok (.getstatic 16, 3) := by decide +kernel
theorem d1_25 : decode method_2_code 25 = .ok (.areturn, 1) := by decide +kernel
theorem d1_26 : decode method_2_code 26 = .ok (.iload_n 0, 1) := by decide +kernel
theorem d1_27 : decode method_2_code 27 = .ok (.iconst 3, 1) := by decide +kernel
theorem d1_28 : decode method_2_code 28 = .ok (.if_icmp .ne 7, 3) := by decide +kernel
theorem d1_31 : decode method_2_code 31 = .ok (.getstatic 19, 3) := by decide +kernel
theorem d1_34 : decode method_2_code 34 = .ok (.areturn, 1) := by decide +kernel
theorem d1_35 : decode method_2_code 35 = .ok (.iload_n 0, 1) := by decide +kernel
theorem d1_36 : decode method_2_code 36 = .ok (.iconst 4, 1) := by decide +kernel
theorem d1_37 : decode method_2_code 37 = .ok (.if_icmp .ne 7, 3) := by decide +kernel
theorem d1_40 : decode method_2_code 40 = .ok (.getstatic 22, 3) := by decide +kernel
theorem d1_43 : decode method_2_code 43 = .ok (.areturn, 1) := by decide +kernel
theorem d1_44 : decode method_2_code 44 = .ok (.iload_n 0, 1) := by decide +kernel
theorem d1_45 : decode method_2_code 45 = .ok (.iconst 5, 1) := by decide +kernel
theorem d1_46 : decode method_2_code 46 = .ok (.if_icmp .ne 7, 3) := by decide +kernel
theorem d1_49 : decode method_2_code 49 = .ok (.getstatic 25, 3) := by decide +kernel
theorem d1_52 : decode method_2_code 52 = .ok (.areturn, 1) := by decide +kernel
theorem d1_53 : decode method_2_code 53 = .ok (.iload_n 0, 1) := by decide +kernel
theorem d1_54 : decode method_2_code 54 = .ok (.bipush 6, 2) := by decide +kernel
theorem d1_56 : decode method_2_code 56 = .ok (.if_icmp .ne 7, 3) := by decide +kernel
theorem d1_59 : decode method_2_code 59 = .ok (.getstatic 28, 3) := by decide +kernel
theorem d1_62 : decode method_2_code 62 = .ok (.areturn, 1) := by decide +kernel
theorem d1_63 : decode method_2_code 63 = .ok (.getstatic 31, 3) := by decide +kernel
theorem d1_66 : decode method_2_code 66 = .ok (.areturn, 1) := by decide +kernel
theorem rm1_pn : plainName "com/example/meridial/meridial/adql/ValueTypeAcceptsPinLaw" = true := by first | (simp [plainName, overriddenIn]; done) | decide +kernel
theorem rm1_ef (m : MethodId) (z0 : Int32) : entryFrame m #[(.int z0)] 1 = mkF m 0 #[.val (.int z0)] [] := by first | (simp [entryFrame, mkF, argsToLocals, Value.category]; done) | rfl
def rm1_Q (Z : State) (p1 : Int32) (w0 : Addr) (w1 : Addr) (w2 : Addr) (w3 : Addr) (w4 : Addr) (w5 : Addr) (w6 : Addr) (w7 : Addr) (h0 : Heap) (n0 : Nat) (v : Option Value) (h : Heap) (L : List Loc) : Prop := v = some (.ref (own_pick p1 w0 w1 w2 w3 w4 w5 w6 w7)) ∧ Fr n0 L ∧ h = h0
set_option maxRecDepth 65536 in
set_option maxHeartbeats 40000000 in
theorem rm1 (l : Launch) (Z : State) (a0 : Array Value) (hw : ∀ d ∈ tables_1, d.before a0 Z = true) (ws : List Jvm.Cond) (p1 : Int32) (w0 : Addr) (w1 : Addr) (w2 : Addr) (w3 : Addr) (w4 : Addr) (w5 : Addr) (w6 : Addr) (w7 : Addr) (h0 : Heap) (n0 : Nat) (Z0 : n0 ≤ h0.size) (S_ANY : Sta Z h0 "com/example/meridial/meridial/adql/ValueType" "ANY" "Lcom/example/meridial/meridial/adql/ValueType;" (.ref w0)) (S_NUMBER : Sta Z h0 "com/example/meridial/meridial/adql/ValueType" "NUMBER" "Lcom/example/meridial/meridial/adql/ValueType;" (.ref w1)) (S_STRING : Sta Z h0 "com/example/meridial/meridial/adql/ValueType" "STRING" "Lcom/example/meridial/meridial/adql/ValueType;" (.ref w2)) (S_POINT : Sta Z h0 "com/example/meridial/meridial/adql/ValueType" "POINT" "Lcom/example/meridial/meridial/adql/ValueType;" (.ref w3)) (S_CIRCLE : Sta Z h0 "com/example/meridial/meridial/adql/ValueType" "CIRCLE" "Lcom/example/meridial/meridial/adql/ValueType;" (.ref w4)) (S_POLYGON : Sta Z h0 "com/example/meridial/meridial/adql/ValueType" "POLYGON" "Lcom/example/meridial/meridial/adql/ValueType;" (.ref w5)) (S_REGION : Sta Z h0 "com/example/meridial/meridial/adql/ValueType" "REGION" "Lcom/example/meridial/meridial/adql/ValueType;" (.ref w6)) (S_GEOMETRY : Sta Z h0 "com/example/meridial/meridial/adql/ValueType" "GEOMETRY" "Lcom/example/meridial/meridial/adql/ValueType;" (.ref w7)) :
    MetFree l (⟨"com/example/meridial/meridial/adql/ValueTypeAcceptsPinLaw", "pick", "(I)Lcom/example/meridial/meridial/adql/ValueType;"⟩ : MethodName) (head1 (Jvm.Cond.code (⟨"com/example/meridial/meridial/adql/ValueTypeAcceptsPinLaw", "pick", "(I)Lcom/example/meridial/meridial/adql/ValueType;"⟩ : MethodName) method_2_code 1 (some (.object "com/example/meridial/meridial/adql/ValueType")) :: ws) ({ frames := 0, cells := 0, slots := 0, locals := 0 } : Room)) (fun a U => a = #[(.int p1)] ∧ Z.Warmed39 U.vm ∧ U.heap = h0) (fun _ _ _ _ _ => True) (fun _ U o U' => ∃ v L, o = .returned v ∧ rm1_Q Z p1 w0 w1 w2 w3 w4 w5 w6 w7 h0 n0 v U'.heap L ∧ FrameEnd U o U' L ({ frames := 0, cells := 0, slots := 0, locals := 0 } : Room).cells ({ frames := 0, cells := 0, slots := 0, locals := 0 } : Room).slots) := by
  refine MetFree.of_bodySF (plainFor_of_name rm1_pn) hisR ?_
  intro p e s m args below meth c s₁ Bd hml0 hP hK
  obtain ⟨rfl, hZ, hh⟩ := hP
  have hx := Bd.exec
  have hby := Bd.bytes
  have hml : c.maxLocals = 1 := hml0
  have hown : s.vm.findClass "com/example/meridial/meridial/adql/ValueTypeAcceptsPinLaw" = some m.cls := findClass_of_methodNamed Bd.named
  have hnm := (name_of_methodNamed Bd.named Bd.method).1
  have X0 : Stand p l e ({ frames := 0, cells := 0, slots := 0, locals := 0 } : Room) s m #[(.int p1)] below meth c s₁ [] 0 0 := Stand.of_body Bd
  have e0 : s₁.heap = h0 := by rw [← hh, Bd.state]; rfl
  have N0 := Fr.nil n0
  refine own_via (fun t k => castTop (rm1_ef m p1) k) ?_
  show own_G p e below _ (s₁.setTop (mkF m 0 #[.val (.int p1)] []))
  refine own_via (fun t k => XS.iloadN X0.here hx rfl (hb hby d1_0) rfl k) ?_
  show own_G p e below _ (s₁.setTop (mkF m 1 #[.val (.int p1)] [(.int p1)]))
  by_cases c1_1 : p1 = (0 : Int32)
  · skip
    refine own_via (fun t k => XS.ifNo X0.here hx rfl (hb hby d1_1) rfl ((if0 _ _).trans (teq c1_1).2) k) ?_
    show own_G p e below _ (s₁.setTop (mkF m 4 #[.val (.int p1)] []))
    obtain ⟨T2, X2, e2, st2⟩ := getS2 X0 hx hZ hown (host := "") (Or.inl (hw _ (List.mem_of_getElem? (i := 4) rfl))) Via.refl e0 S_ANY (g := (mkF m 4 #[.val (.int p1)] [])) rfl (hb hby d1_4)
    refine own_via st2 ?_
    show own_G p e below _ (T2.setTop (mkF m 7 #[.val (.int p1)] [(.ref w0)]))
    obtain ⟨fs, hr, hrun, hended, hW, hsame⟩ := X2.leave (v := some (.ref w0)) (fun h => by rw [Bd.returns] at h; cases h)
    refine ⟨_, _, retOut X2 hx Bd.returns rfl (Or.inr (Or.inr (Or.inr (Or.inr ⟨rfl, rfl, rfl⟩)))) (hb hby d1_7) hr, hrun, hended, _, _, rfl, ?_, ⟨_, rfl⟩, hW, hsame.mono (by decide) (by decide)⟩
    show rm1_Q Z p1 w0 w1 w2 w3 w4 w5 w6 w7 h0 n0 _ T2.heap _
    rw [e2]
    exact ⟨by simp only [own_pick, if_pos c1_1], N0, rfl⟩
  · skip
    refine own_via (fun t k => XS.ifYes X0.here hx rfl (pc0 := 1) (pc' := 8) rfl (hb hby d1_1) rfl ((if0 _ _).trans (feq c1_1).2) (by decide) (by decide) k) ?_
    show own_G p e below _ (s₁.setTop (mkF m 8 #[.val (.int p1)] []))
    refine own_via (fun t k => XS.iloadN X0.here hx rfl (hb hby d1_8) rfl k) ?_
    show own_G p e below _ (s₁.setTop (mkF m 9 #[.val (.int p1)] [(.int p1)]))
    refine own_via (fun t k => XS.iconst X0.here hx rfl (hb hby d1_9) k) ?_
    show own_G p e below _ (s₁.setTop (mkF m 10 #[.val (.int p1)] [(.int (1 : Int32)), (.int p1)]))
    by_cases c10_3 : p1 = (1 : Int32)
    · skip
      refine own_via (fun t k => XS.icmpNo X0.here hx rfl (hb hby d1_10) rfl (teq c10_3).2 k) ?_
      show own_G p e below _ (s₁.setTop (mkF m 13 #[.val (.int p1)] []))
      obtain ⟨T4, X4, e4, st4⟩ := getS2 X0 hx hZ hown (host := "") (Or.inl (hw _ (List.mem_of_getElem? (i := 18) rfl))) Via.refl e0 S_NUMBER (g := (mkF m 13 #[.val (.int p1)] [])) rfl (hb hby d1_13)
      refine own_via st4 ?_
      show own_G p e below _ (T4.setTop (mkF m 16 #[.val (.int p1)] [(.ref w1)]))
      obtain ⟨fs, hr, hrun, hended, hW, hsame⟩ := X4.leave (v := some (.ref w1)) (fun h => by rw [Bd.returns] at h; cases h)
      refine ⟨_, _, retOut X4 hx Bd.returns rfl (Or.inr (Or.inr (Or.inr (Or.inr ⟨rfl, rfl, rfl⟩)))) (hb hby d1_16) hr, hrun, hended, _, _, rfl, ?_, ⟨_, rfl⟩, hW, hsame.mono (by decide) (by decide)⟩
      show rm1_Q Z p1 w0 w1 w2 w3 w4 w5 w6 w7 h0 n0 _ T4.heap _
      rw [e4]
      exact ⟨by simp only [own_pick, if_neg c1_1, if_pos c10_3], N0, rfl⟩
    · skip
      refine own_via (fun t k => XS.icmpYes X0.here hx rfl (pc0 := 10) (pc' := 17) rfl (hb hby d1_10) rfl (feq c10_3).2 (by decide) (by decide) k) ?_
      show own_G p e below _ (s₁.setTop (mkF m 17 #[.val (.int p1)] []))
      refine own_via (fun t k => XS.iloadN X0.here hx rfl (hb hby d1_17) rfl k) ?_
      show own_G p e below _ (s₁.setTop (mkF m 18 #[.val (.int p1)] [(.int p1)]))
      refine own_via (fun t k => XS.iconst X0.here hx rfl (hb hby d1_18) k) ?_
      show own_G p e below _ (s₁.setTop (mkF m 19 #[.val (.int p1)] [(.int (2 : Int32)), (.int p1)]))
      by_cases c19_5 : p1 = (2 : Int32)
      · skip
        refine own_via (fun t k => XS.icmpNo X0.here hx rfl (hb hby d1_19) rfl (teq c19_5).2 k) ?_
        show own_G p e below _ (s₁.setTop (mkF m 22 #[.val (.int p1)] []))
        obtain ⟨T6, X6, e6, st6⟩ := getS2 X0 hx hZ hown (host := "") (Or.inl (hw _ (List.mem_of_getElem? (i := 31) rfl))) Via.refl e0 S_STRING (g := (mkF m 22 #[.val (.int p1)] [])) rfl (hb hby d1_22)
        refine own_via st6 ?_
        show own_G p e below _ (T6.setTop (mkF m 25 #[.val (.int p1)] [(.ref w2)]))
        obtain ⟨fs, hr, hrun, hended, hW, hsame⟩ := X6.leave (v := some (.ref w2)) (fun h => by rw [Bd.returns] at h; cases h)
        refine ⟨_, _, retOut X6 hx Bd.returns rfl (Or.inr (Or.inr (Or.inr (Or.inr ⟨rfl, rfl, rfl⟩)))) (hb hby d1_25) hr, hrun, hended, _, _, rfl, ?_, ⟨_, rfl⟩, hW, hsame.mono (by decide) (by decide)⟩
        show rm1_Q Z p1 w0 w1 w2 w3 w4 w5 w6 w7 h0 n0 _ T6.heap _
        rw [e6]
        exact ⟨by simp only [own_pick, if_neg c1_1, if_neg c10_3, if_pos c19_5], N0, rfl⟩
      · skip
        refine own_via (fun t k => XS.icmpYes X0.here hx rfl (pc0 := 19) (pc' := 26) rfl (hb hby d1_19) rfl (feq c19_5).2 (by decide) (by decide) k) ?_
        show own_G p e below _ (s₁.setTop (mkF m 26 #[.val (.int p1)] []))
        refine own_via (fun t k => XS.iloadN X0.here hx rfl (hb hby d1_26) rfl k) ?_
        show own_G p e below _ (s₁.setTop (mkF m 27 #[.val (.int p1)] [(.int p1)]))
        refine own_via (fun t k => XS.iconst X0.here hx rfl (hb hby d1_27) k) ?_
        show own_G p e below _ (s₁.setTop (mkF m 28 #[.val (.int p1)] [(.int (3 : Int32)), (.int p1)]))
        by_cases c28_7 : p1 = (3 : Int32)
        · skip
          refine own_via (fun t k => XS.icmpNo X0.here hx rfl (hb hby d1_28) rfl (teq c28_7).2 k) ?_
          show own_G p e below _ (s₁.setTop (mkF m 31 #[.val (.int p1)] []))
          obtain ⟨T8, X8, e8, st8⟩ := getS2 X0 hx hZ hown (host := "") (Or.inl (hw _ (List.mem_of_getElem? (i := 7) rfl))) Via.refl e0 S_POINT (g := (mkF m 31 #[.val (.int p1)] [])) rfl (hb hby d1_31)
          refine own_via st8 ?_
          show own_G p e below _ (T8.setTop (mkF m 34 #[.val (.int p1)] [(.ref w3)]))
          obtain ⟨fs, hr, hrun, hended, hW, hsame⟩ := X8.leave (v := some (.ref w3)) (fun h => by rw [Bd.returns] at h; cases h)
          refine ⟨_, _, retOut X8 hx Bd.returns rfl (Or.inr (Or.inr (Or.inr (Or.inr ⟨rfl, rfl, rfl⟩)))) (hb hby d1_34) hr, hrun, hended, _, _, rfl, ?_, ⟨_, rfl⟩, hW, hsame.mono (by decide) (by decide)⟩
          show rm1_Q Z p1 w0 w1 w2 w3 w4 w5 w6 w7 h0 n0 _ T8.heap _
          rw [e8]
          exact ⟨by simp only [own_pick, if_neg c1_1, if_neg c10_3, if_neg c19_5, if_pos c28_7], N0, rfl⟩
        · skip
          refine own_via (fun t k => XS.icmpYes X0.here hx rfl (pc0 := 28) (pc' := 35) rfl (hb hby d1_28) rfl (feq c28_7).2 (by decide) (by decide) k) ?_
          show own_G p e below _ (s₁.setTop (mkF m 35 #[.val (.int p1)] []))
          refine own_via (fun t k => XS.iloadN X0.here hx rfl (hb hby d1_35) rfl k) ?_
          show own_G p e below _ (s₁.setTop (mkF m 36 #[.val (.int p1)] [(.int p1)]))
          refine own_via (fun t k => XS.iconst X0.here hx rfl (hb hby d1_36) k) ?_
          show own_G p e below _ (s₁.setTop (mkF m 37 #[.val (.int p1)] [(.int (4 : Int32)), (.int p1)]))
          by_cases c37_9 : p1 = (4 : Int32)
          · skip
            refine own_via (fun t k => XS.icmpNo X0.here hx rfl (hb hby d1_37) rfl (teq c37_9).2 k) ?_
            show own_G p e below _ (s₁.setTop (mkF m 40 #[.val (.int p1)] []))
            obtain ⟨T10, X10, e10, st10⟩ := getS2 X0 hx hZ hown (host := "") (Or.inl (hw _ (List.mem_of_getElem? (i := 22) rfl))) Via.refl e0 S_CIRCLE (g := (mkF m 40 #[.val (.int p1)] [])) rfl (hb hby d1_40)
            refine own_via st10 ?_
            show own_G p e below _ (T10.setTop (mkF m 43 #[.val (.int p1)] [(.ref w4)]))
            obtain ⟨fs, hr, hrun, hended, hW, hsame⟩ := X10.leave (v := some (.ref w4)) (fun h => by rw [Bd.returns] at h; cases h)
            refine ⟨_, _, retOut X10 hx Bd.returns rfl (Or.inr (Or.inr (Or.inr (Or.inr ⟨rfl, rfl, rfl⟩)))) (hb hby d1_43) hr, hrun, hended, _, _, rfl, ?_, ⟨_, rfl⟩, hW, hsame.mono (by decide) (by decide)⟩
            show rm1_Q Z p1 w0 w1 w2 w3 w4 w5 w6 w7 h0 n0 _ T10.heap _
            rw [e10]
            exact ⟨by simp only [own_pick, if_neg c1_1, if_neg c10_3, if_neg c19_5, if_neg c28_7, if_pos c37_9], N0, rfl⟩
          · skip
            refine own_via (fun t k => XS.icmpYes X0.here hx rfl (pc0 := 37) (pc' := 44) rfl (hb hby d1_37) rfl (feq c37_9).2 (by decide) (by decide) k) ?_
            show own_G p e below _ (s₁.setTop (mkF m 44 #[.val (.int p1)] []))
            refine own_via (fun t k => XS.iloadN X0.here hx rfl (hb hby d1_44) rfl k) ?_
            show own_G p e below _ (s₁.setTop (mkF m 45 #[.val (.int p1)] [(.int p1)]))
            refine own_via (fun t k => XS.iconst X0.here hx rfl (hb hby d1_45) k) ?_
            show own_G p e below _ (s₁.setTop (mkF m 46 #[.val (.int p1)] [(.int (5 : Int32)), (.int p1)]))
            by_cases c46_11 : p1 = (5 : Int32)
            · skip
              refine own_via (fun t k => XS.icmpNo X0.here hx rfl (hb hby d1_46) rfl (teq c46_11).2 k) ?_
              show own_G p e below _ (s₁.setTop (mkF m 49 #[.val (.int p1)] []))
              obtain ⟨T12, X12, e12, st12⟩ := getS2 X0 hx hZ hown (host := "") (Or.inl (hw _ (List.mem_of_getElem? (i := 24) rfl))) Via.refl e0 S_POLYGON (g := (mkF m 49 #[.val (.int p1)] [])) rfl (hb hby d1_49)
              refine own_via st12 ?_
              show own_G p e below _ (T12.setTop (mkF m 52 #[.val (.int p1)] [(.ref w5)]))
              obtain ⟨fs, hr, hrun, hended, hW, hsame⟩ := X12.leave (v := some (.ref w5)) (fun h => by rw [Bd.returns] at h; cases h)
              refine ⟨_, _, retOut X12 hx Bd.returns rfl (Or.inr (Or.inr (Or.inr (Or.inr ⟨rfl, rfl, rfl⟩)))) (hb hby d1_52) hr, hrun, hended, _, _, rfl, ?_, ⟨_, rfl⟩, hW, hsame.mono (by decide) (by decide)⟩
              show rm1_Q Z p1 w0 w1 w2 w3 w4 w5 w6 w7 h0 n0 _ T12.heap _
              rw [e12]
              exact ⟨by simp only [own_pick, if_neg c1_1, if_neg c10_3, if_neg c19_5, if_neg c28_7, if_neg c37_9, if_pos c46_11], N0, rfl⟩
            · skip
              refine own_via (fun t k => XS.icmpYes X0.here hx rfl (pc0 := 46) (pc' := 53) rfl (hb hby d1_46) rfl (feq c46_11).2 (by decide) (by decide) k) ?_
              show own_G p e below _ (s₁.setTop (mkF m 53 #[.val (.int p1)] []))
              refine own_via (fun t k => XS.iloadN X0.here hx rfl (hb hby d1_53) rfl k) ?_
              show own_G p e below _ (s₁.setTop (mkF m 54 #[.val (.int p1)] [(.int p1)]))
              refine own_via (fun t k => XS.bipush X0.here hx rfl (hb hby d1_54) k) ?_
              show own_G p e below _ (s₁.setTop (mkF m 56 #[.val (.int p1)] [(.int (6 : Int32)), (.int p1)]))
              by_cases c56_13 : p1 = (6 : Int32)
              · skip
                refine own_via (fun t k => XS.icmpNo X0.here hx rfl (hb hby d1_56) rfl (teq c56_13).2 k) ?_
                show own_G p e below _ (s₁.setTop (mkF m 59 #[.val (.int p1)] []))
                obtain ⟨T14, X14, e14, st14⟩ := getS2 X0 hx hZ hown (host := "") (Or.inl (hw _ (List.mem_of_getElem? (i := 16) rfl))) Via.refl e0 S_REGION (g := (mkF m 59 #[.val (.int p1)] [])) rfl (hb hby d1_59)
                refine own_via st14 ?_
                show own_G p e below _ (T14.setTop (mkF m 62 #[.val (.int p1)] [(.ref w6)]))
                obtain ⟨fs, hr, hrun, hended, hW, hsame⟩ := X14.leave (v := some (.ref w6)) (fun h => by rw [Bd.returns] at h; cases h)
                refine ⟨_, _, retOut X14 hx Bd.returns rfl (Or.inr (Or.inr (Or.inr (Or.inr ⟨rfl, rfl, rfl⟩)))) (hb hby d1_62) hr, hrun, hended, _, _, rfl, ?_, ⟨_, rfl⟩, hW, hsame.mono (by decide) (by decide)⟩
                show rm1_Q Z p1 w0 w1 w2 w3 w4 w5 w6 w7 h0 n0 _ T14.heap _
                rw [e14]
                exact ⟨by simp only [own_pick, if_neg c1_1, if_neg c10_3, if_neg c19_5, if_neg c28_7, if_neg c37_9, if_neg c46_11, if_pos c56_13], N0, rfl⟩
              · skip
                refine own_via (fun t k => XS.icmpYes X0.here hx rfl (pc0 := 56) (pc' := 63) rfl (hb hby d1_56) rfl (feq c56_13).2 (by decide) (by decide) k) ?_
                show own_G p e below _ (s₁.setTop (mkF m 63 #[.val (.int p1)] []))
                obtain ⟨T15, X15, e15, st15⟩ := getS2 X0 hx hZ hown (host := "") (Or.inl (hw _ (List.mem_of_getElem? (i := 26) rfl))) Via.refl e0 S_GEOMETRY (g := (mkF m 63 #[.val (.int p1)] [])) rfl (hb hby d1_63)
                refine own_via st15 ?_
                show own_G p e below _ (T15.setTop (mkF m 66 #[.val (.int p1)] [(.ref w7)]))
                obtain ⟨fs, hr, hrun, hended, hW, hsame⟩ := X15.leave (v := some (.ref w7)) (fun h => by rw [Bd.returns] at h; cases h)
                refine ⟨_, _, retOut X15 hx Bd.returns rfl (Or.inr (Or.inr (Or.inr (Or.inr ⟨rfl, rfl, rfl⟩)))) (hb hby d1_66) hr, hrun, hended, _, _, rfl, ?_, ⟨_, rfl⟩, hW, hsame.mono (by decide) (by decide)⟩
                show rm1_Q Z p1 w0 w1 w2 w3 w4 w5 w6 w7 h0 n0 _ T15.heap _
                rw [e15]
                exact ⟨by simp only [own_pick, if_neg c1_1, if_neg c10_3, if_neg c19_5, if_neg c28_7, if_neg c37_9, if_neg c46_11, if_neg c56_13], N0, rfl⟩

theorem d2_0 : decode prog_56_method_4_code 0 = .ok (.aload_n 0, 1) := by decide +kernel
theorem d2_1 : decode prog_56_method_4_code 1 = .ok (.getstatic 3, 3) := by decide +kernel
theorem d2_4 : decode prog_56_method_4_code 4 = .ok (.if_acmp .eq 50, 3) := by decide +kernel
theorem d2_7 : decode prog_56_method_4_code 7 = .ok (.aload_n 1, 1) := by decide +kernel
theorem d2_8 : decode prog_56_method_4_code 8 = .ok (.getstatic 3, 3) := by decide +kernel
theorem d2_11 : decode prog_56_method_4_code 11 = .ok (.if_acmp .eq 43, 3) := by decide +kernel
theorem d2_14 : decode prog_56_method_4_code 14 = .ok (.aload_n 0, 1) := by decide +kernel
theorem d2_15 : decode prog_56_method_4_code 15 = .ok (.aload_n 1, 1) := by decide +kernel
theorem d2_16 : decode prog_56_method_4_code 16 = .ok (.if_acmp .eq 38, 3) := by decide +kernel
theorem d2_19 : decode prog_56_method_4_code 19 = .ok (.aload_n 0, 1) := by decide +kernel
theorem d2_20 : decode prog_56_method_4_code 20 = .ok (.getstatic 25, 3) := by decide +kernel
theorem d2_23 : decode prog_56_method_4_code 23 = .ok (.if_acmp .ne 35, 3) := by decide +kernel
theorem d2_26 : decode prog_56_method_4_code 26 = .ok (.aload_n 1, 1) := by decide +kernel
theorem d2_27 : decode prog_56_method_4_code 27 = .ok (.getstatic 13, 3) := by decide +kernel
theorem d2_30 : decode prog_56_method_4_code 30 = .ok (.if_acmp .eq 24, 3) := by decide +kernel
theorem d2_33 : decode prog_56_method_4_code 33 = .ok (.aload_n 1, 1) := by decide +kernel
theorem d2_34 : decode prog_56_method_4_code 34 = .ok (.getstatic 16, 3) := by decide +kernel
theorem d2_37 : decode prog_56_method_4_code 37 = .ok (.if_acmp .eq 17, 3) := by decide +kernel
theorem d2_40 : decode prog_56_method_4_code 40 = .ok (.aload_n 1, 1) := by decide +kernel
theorem d2_41 : decode prog_56_method_4_code 41 = .ok (.getstatic 19, 3) := by decide +kernel
theorem d2_44 : decode prog_56_method_4_code 44 = .ok (.if_acmp .eq 10, 3) := by decide +kernel
theorem d2_47 : decode prog_56_method_4_code 47 = .ok (.aload_n 1, 1) := by decide +kernel
theorem d2_48 : decode prog_56_method_4_code 48 = .ok (.getstatic 22, 3) := by decide +kernel
theorem d2_51 : decode prog_56_method_4_code 51 = .ok (.if_acmp .ne 7, 3) := by decide +kernel
theorem d2_54 : decode prog_56_method_4_code 54 = .ok (.iconst 1, 1) := by decide +kernel
theorem d2_55 : decode prog_56_method_4_code 55 = .ok (.goto 4, 3) := by decide +kernel
theorem d2_58 : decode prog_56_method_4_code 58 = .ok (.iconst 0, 1) := by decide +kernel
theorem d2_59 : decode prog_56_method_4_code 59 = .ok (.ireturn, 1) := by decide +kernel
theorem rm2_pn : plainName "com/example/meridial/meridial/adql/ValueType" = true := by first | (simp [plainName, overriddenIn]; done) | decide +kernel
theorem rm2_ef (m : MethodId) (z0 : Addr) (z1 : Addr) : entryFrame m #[(.ref z0), (.ref z1)] 2 = mkF m 0 #[.val (.ref z0), .val (.ref z1)] [] := by first | (simp [entryFrame, mkF, argsToLocals, Value.category]; done) | rfl
def rm2_Q (Z : State) (a1 : Addr) (a2 : Addr) (w0 : Addr) (w1 : Addr) (w2 : Addr) (w3 : Addr) (w4 : Addr) (w5 : Addr) (w6 : Addr) (w7 : Addr) (h0 : Heap) (n0 : Nat) (v : Option Value) (h : Heap) (L : List Loc) : Prop := v = some (.int (own_acc a1 a2 w0 w1 w2 w3 w4 w5 w6 w7)) ∧ Fr n0 L ∧ h = h0
set_option maxRecDepth 65536 in
set_option maxHeartbeats 40000000 in
theorem rm2 (l : Launch) (Z : State) (a0 : Array Value) (hw : ∀ d ∈ tables_1, d.before a0 Z = true) (ws : List Jvm.Cond) (a1 : Addr) (a2 : Addr) (w0 : Addr) (w1 : Addr) (w2 : Addr) (w3 : Addr) (w4 : Addr) (w5 : Addr) (w6 : Addr) (w7 : Addr) (h0 : Heap) (n0 : Nat) (Z0 : n0 ≤ h0.size) (S_ANY : Sta Z h0 "com/example/meridial/meridial/adql/ValueType" "ANY" "Lcom/example/meridial/meridial/adql/ValueType;" (.ref w0)) (S_NUMBER : Sta Z h0 "com/example/meridial/meridial/adql/ValueType" "NUMBER" "Lcom/example/meridial/meridial/adql/ValueType;" (.ref w1)) (S_STRING : Sta Z h0 "com/example/meridial/meridial/adql/ValueType" "STRING" "Lcom/example/meridial/meridial/adql/ValueType;" (.ref w2)) (S_POINT : Sta Z h0 "com/example/meridial/meridial/adql/ValueType" "POINT" "Lcom/example/meridial/meridial/adql/ValueType;" (.ref w3)) (S_CIRCLE : Sta Z h0 "com/example/meridial/meridial/adql/ValueType" "CIRCLE" "Lcom/example/meridial/meridial/adql/ValueType;" (.ref w4)) (S_POLYGON : Sta Z h0 "com/example/meridial/meridial/adql/ValueType" "POLYGON" "Lcom/example/meridial/meridial/adql/ValueType;" (.ref w5)) (S_REGION : Sta Z h0 "com/example/meridial/meridial/adql/ValueType" "REGION" "Lcom/example/meridial/meridial/adql/ValueType;" (.ref w6)) (S_GEOMETRY : Sta Z h0 "com/example/meridial/meridial/adql/ValueType" "GEOMETRY" "Lcom/example/meridial/meridial/adql/ValueType;" (.ref w7)) :
    MetFree l (⟨"com/example/meridial/meridial/adql/ValueType", "accepts", "(Lcom/example/meridial/meridial/adql/ValueType;)Z"⟩ : MethodName) (head1 (Jvm.Cond.code (⟨"com/example/meridial/meridial/adql/ValueType", "accepts", "(Lcom/example/meridial/meridial/adql/ValueType;)Z"⟩ : MethodName) prog_56_method_4_code 2 (some .boolean) :: ws) ({ frames := 0, cells := 0, slots := 0, locals := 0 } : Room)) (fun a U => a = #[(.ref a1), (.ref a2)] ∧ Z.Warmed39 U.vm ∧ U.heap = h0) (fun _ _ _ _ _ => True) (fun _ U o U' => ∃ v L, o = .returned v ∧ rm2_Q Z a1 a2 w0 w1 w2 w3 w4 w5 w6 w7 h0 n0 v U'.heap L ∧ FrameEnd U o U' L ({ frames := 0, cells := 0, slots := 0, locals := 0 } : Room).cells ({ frames := 0, cells := 0, slots := 0, locals := 0 } : Room).slots) := by
  refine MetFree.of_bodySF (plainFor_of_name rm2_pn) hisR ?_
  intro p e s m args below meth c s₁ Bd hml0 hP hK
  obtain ⟨rfl, hZ, hh⟩ := hP
  have hx := Bd.exec
  have hby := Bd.bytes
  have hml : c.maxLocals = 2 := hml0
  have hown : s.vm.findClass "com/example/meridial/meridial/adql/ValueType" = some m.cls := findClass_of_methodNamed Bd.named
  have hnm := (name_of_methodNamed Bd.named Bd.method).1
  have X0 : Stand p l e ({ frames := 0, cells := 0, slots := 0, locals := 0 } : Room) s m #[(.ref a1), (.ref a2)] below meth c s₁ [] 0 0 := Stand.of_body Bd
  have e0 : s₁.heap = h0 := by rw [← hh, Bd.state]; rfl
  have N0 := Fr.nil n0
  refine own_via (fun t k => castTop (rm2_ef m a1 a2) k) ?_
  show own_G p e below _ (s₁.setTop (mkF m 0 #[.val (.ref a1), .val (.ref a2)] []))
  refine own_via (fun t k => XS.aloadN X0.here hx rfl (hb hby d2_0) rfl rfl k) ?_
  show own_G p e below _ (s₁.setTop (mkF m 1 #[.val (.ref a1), .val (.ref a2)] [(.ref a1)]))
  obtain ⟨T1, X1, e1, st1⟩ := getS2 X0 hx hZ hown (host := "") (Or.inl (hw _ (List.mem_of_getElem? (i := 15) rfl))) Via.refl e0 S_ANY (g := (mkF m 1 #[.val (.ref a1), .val (.ref a2)] [(.ref a1)])) rfl (hb hby d2_1)
  refine own_via st1 ?_
  show own_G p e below _ (T1.setTop (mkF m 4 #[.val (.ref a1), .val (.ref a2)] [(.ref w0), (.ref a1)]))
  by_cases c4_2 : a1 = w0
  · skip
    refine own_via (fun t k => Jvm.RoadKit.acmp (g := (mkF m 4 #[.val (.ref a1), .val (.ref a2)] [(.ref w0), (.ref a1)])) X1 hx rfl rfl rfl (pc0 := 4) (pc' := 54) (same := true) rfl (hb hby d2_4) rfl (decide_eq_true (congrArg Value.ref c4_2)) (by decide) (by decide) k) ?_
    show own_G p e below _ (T1.setTop (mkF m 54 #[.val (.ref a1), .val (.ref a2)] []))
    refine own_via (fun t k => XS.iconst X1.here hx rfl (hb hby d2_54) k) ?_
    show own_G p e below _ (T1.setTop (mkF m 55 #[.val (.ref a1), .val (.ref a2)] [(.int (1 : Int32))]))
    refine own_via (fun t k => XS.goto X1.here hx rfl (pc0 := 55) (pc' := 59) rfl (hb hby d2_55) (by decide) (by decide) k) ?_
    show own_G p e below _ (T1.setTop (mkF m 59 #[.val (.ref a1), .val (.ref a2)] [(.int (1 : Int32))]))
    obtain ⟨fs, hr, hrun, hended, hW, hsame⟩ := X1.leave (v := some (.int (1 : Int32))) (fun h => by rw [Bd.returns] at h; cases h)
    refine ⟨_, _, retN X1 hx (t := .boolean) Bd.returns (by simp) (hb hby d2_59) hr, hrun, hended, _, _, rfl, ?_, ⟨_, rfl⟩, hW, hsame.mono (by decide) (by decide)⟩
    show rm2_Q Z a1 a2 w0 w1 w2 w3 w4 w5 w6 w7 h0 n0 _ T1.heap _
    rw [e1]
    exact ⟨by simp only [own_acc, if_pos c4_2], N0, rfl⟩
  · skip
    refine own_via (fun t k => Jvm.RoadKit.acmp (g := (mkF m 4 #[.val (.ref a1), .val (.ref a2)] [(.ref w0), (.ref a1)])) X1 hx rfl rfl rfl (pc0 := 4) (pc' := 7) (same := false) rfl (hb hby d2_4) rfl (decide_eq_false fun q => c4_2 (Value.ref.inj q)) (by decide) (by decide) k) ?_
    show own_G p e below _ (T1.setTop (mkF m 7 #[.val (.ref a1), .val (.ref a2)] []))
    refine own_via (fun t k => XS.aloadN X1.here hx rfl (hb hby d2_7) rfl rfl k) ?_
    show own_G p e below _ (T1.setTop (mkF m 8 #[.val (.ref a1), .val (.ref a2)] [(.ref a2)]))
    obtain ⟨T3, X3, e3, st3⟩ := getS2 X1 hx hZ hown (host := "") (Or.inl (hw _ (List.mem_of_getElem? (i := 15) rfl))) Via.refl e1 S_ANY (g := (mkF m 8 #[.val (.ref a1), .val (.ref a2)] [(.ref a2)])) rfl (hb hby d2_8)
    refine own_via st3 ?_
    show own_G p e below _ (T3.setTop (mkF m 11 #[.val (.ref a1), .val (.ref a2)] [(.ref w0), (.ref a2)]))
    by_cases c11_4 : a2 = w0
    · skip
      refine own_via (fun t k => Jvm.RoadKit.acmp (g := (mkF m 11 #[.val (.ref a1), .val (.ref a2)] [(.ref w0), (.ref a2)])) X3 hx rfl rfl rfl (pc0 := 11) (pc' := 54) (same := true) rfl (hb hby d2_11) rfl (decide_eq_true (congrArg Value.ref c11_4)) (by decide) (by decide) k) ?_
      show own_G p e below _ (T3.setTop (mkF m 54 #[.val (.ref a1), .val (.ref a2)] []))
      refine own_via (fun t k => XS.iconst X3.here hx rfl (hb hby d2_54) k) ?_
      show own_G p e below _ (T3.setTop (mkF m 55 #[.val (.ref a1), .val (.ref a2)] [(.int (1 : Int32))]))
      refine own_via (fun t k => XS.goto X3.here hx rfl (pc0 := 55) (pc' := 59) rfl (hb hby d2_55) (by decide) (by decide) k) ?_
      show own_G p e below _ (T3.setTop (mkF m 59 #[.val (.ref a1), .val (.ref a2)] [(.int (1 : Int32))]))
      obtain ⟨fs, hr, hrun, hended, hW, hsame⟩ := X3.leave (v := some (.int (1 : Int32))) (fun h => by rw [Bd.returns] at h; cases h)
      refine ⟨_, _, retN X3 hx (t := .boolean) Bd.returns (by simp) (hb hby d2_59) hr, hrun, hended, _, _, rfl, ?_, ⟨_, rfl⟩, hW, hsame.mono (by decide) (by decide)⟩
      show rm2_Q Z a1 a2 w0 w1 w2 w3 w4 w5 w6 w7 h0 n0 _ T3.heap _
      rw [e3]
      exact ⟨by simp only [own_acc, if_neg c4_2, if_pos c11_4], N0, rfl⟩
    · skip
      refine own_via (fun t k => Jvm.RoadKit.acmp (g := (mkF m 11 #[.val (.ref a1), .val (.ref a2)] [(.ref w0), (.ref a2)])) X3 hx rfl rfl rfl (pc0 := 11) (pc' := 14) (same := false) rfl (hb hby d2_11) rfl (decide_eq_false fun q => c11_4 (Value.ref.inj q)) (by decide) (by decide) k) ?_
      show own_G p e below _ (T3.setTop (mkF m 14 #[.val (.ref a1), .val (.ref a2)] []))
      refine own_via (fun t k => XS.aloadN X3.here hx rfl (hb hby d2_14) rfl rfl k) ?_
      show own_G p e below _ (T3.setTop (mkF m 15 #[.val (.ref a1), .val (.ref a2)] [(.ref a1)]))
      refine own_via (fun t k => XS.aloadN X3.here hx rfl (hb hby d2_15) rfl rfl k) ?_
      show own_G p e below _ (T3.setTop (mkF m 16 #[.val (.ref a1), .val (.ref a2)] [(.ref a2), (.ref a1)]))
      by_cases c16_5 : a1 = a2
      · skip
        refine own_via (fun t k => Jvm.RoadKit.acmp (g := (mkF m 16 #[.val (.ref a1), .val (.ref a2)] [(.ref a2), (.ref a1)])) X3 hx rfl rfl rfl (pc0 := 16) (pc' := 54) (same := true) rfl (hb hby d2_16) rfl (decide_eq_true (congrArg Value.ref c16_5)) (by decide) (by decide) k) ?_
        show own_G p e below _ (T3.setTop (mkF m 54 #[.val (.ref a1), .val (.ref a2)] []))
        refine own_via (fun t k => XS.iconst X3.here hx rfl (hb hby d2_54) k) ?_
        show own_G p e below _ (T3.setTop (mkF m 55 #[.val (.ref a1), .val (.ref a2)] [(.int (1 : Int32))]))
        refine own_via (fun t k => XS.goto X3.here hx rfl (pc0 := 55) (pc' := 59) rfl (hb hby d2_55) (by decide) (by decide) k) ?_
        show own_G p e below _ (T3.setTop (mkF m 59 #[.val (.ref a1), .val (.ref a2)] [(.int (1 : Int32))]))
        obtain ⟨fs, hr, hrun, hended, hW, hsame⟩ := X3.leave (v := some (.int (1 : Int32))) (fun h => by rw [Bd.returns] at h; cases h)
        refine ⟨_, _, retN X3 hx (t := .boolean) Bd.returns (by simp) (hb hby d2_59) hr, hrun, hended, _, _, rfl, ?_, ⟨_, rfl⟩, hW, hsame.mono (by decide) (by decide)⟩
        show rm2_Q Z a1 a2 w0 w1 w2 w3 w4 w5 w6 w7 h0 n0 _ T3.heap _
        rw [e3]
        exact ⟨by simp only [own_acc, if_neg c4_2, if_neg c11_4, if_pos c16_5], N0, rfl⟩
      · skip
        refine own_via (fun t k => Jvm.RoadKit.acmp (g := (mkF m 16 #[.val (.ref a1), .val (.ref a2)] [(.ref a2), (.ref a1)])) X3 hx rfl rfl rfl (pc0 := 16) (pc' := 19) (same := false) rfl (hb hby d2_16) rfl (decide_eq_false fun q => c16_5 (Value.ref.inj q)) (by decide) (by decide) k) ?_
        show own_G p e below _ (T3.setTop (mkF m 19 #[.val (.ref a1), .val (.ref a2)] []))
        refine own_via (fun t k => XS.aloadN X3.here hx rfl (hb hby d2_19) rfl rfl k) ?_
        show own_G p e below _ (T3.setTop (mkF m 20 #[.val (.ref a1), .val (.ref a2)] [(.ref a1)]))
        obtain ⟨T6, X6, e6, st6⟩ := getS2 X3 hx hZ hown (host := "") (Or.inl (hw _ (List.mem_of_getElem? (i := 20) rfl))) Via.refl e3 S_GEOMETRY (g := (mkF m 20 #[.val (.ref a1), .val (.ref a2)] [(.ref a1)])) rfl (hb hby d2_20)
        refine own_via st6 ?_
        show own_G p e below _ (T6.setTop (mkF m 23 #[.val (.ref a1), .val (.ref a2)] [(.ref w7), (.ref a1)]))
        by_cases c23_7 : a1 = w7
        · skip
          refine own_via (fun t k => Jvm.RoadKit.acmp (g := (mkF m 23 #[.val (.ref a1), .val (.ref a2)] [(.ref w7), (.ref a1)])) X6 hx rfl rfl rfl (pc0 := 23) (pc' := 26) (same := true) rfl (hb hby d2_23) rfl (decide_eq_true (congrArg Value.ref c23_7)) (by decide) (by decide) k) ?_
          show own_G p e below _ (T6.setTop (mkF m 26 #[.val (.ref a1), .val (.ref a2)] []))
          refine own_via (fun t k => XS.aloadN X6.here hx rfl (hb hby d2_26) rfl rfl k) ?_
          show own_G p e below _ (T6.setTop (mkF m 27 #[.val (.ref a1), .val (.ref a2)] [(.ref a2)]))
          obtain ⟨T8, X8, e8, st8⟩ := getS2 X6 hx hZ hown (host := "") (Or.inl (hw _ (List.mem_of_getElem? (i := 27) rfl))) Via.refl e6 S_POINT (g := (mkF m 27 #[.val (.ref a1), .val (.ref a2)] [(.ref a2)])) rfl (hb hby d2_27)
          refine own_via st8 ?_
          show own_G p e below _ (T8.setTop (mkF m 30 #[.val (.ref a1), .val (.ref a2)] [(.ref w3), (.ref a2)]))
          by_cases c30_9 : a2 = w3
          · skip
            refine own_via (fun t k => Jvm.RoadKit.acmp (g := (mkF m 30 #[.val (.ref a1), .val (.ref a2)] [(.ref w3), (.ref a2)])) X8 hx rfl rfl rfl (pc0 := 30) (pc' := 54) (same := true) rfl (hb hby d2_30) rfl (decide_eq_true (congrArg Value.ref c30_9)) (by decide) (by decide) k) ?_
            show own_G p e below _ (T8.setTop (mkF m 54 #[.val (.ref a1), .val (.ref a2)] []))
            refine own_via (fun t k => XS.iconst X8.here hx rfl (hb hby d2_54) k) ?_
            show own_G p e below _ (T8.setTop (mkF m 55 #[.val (.ref a1), .val (.ref a2)] [(.int (1 : Int32))]))
            refine own_via (fun t k => XS.goto X8.here hx rfl (pc0 := 55) (pc' := 59) rfl (hb hby d2_55) (by decide) (by decide) k) ?_
            show own_G p e below _ (T8.setTop (mkF m 59 #[.val (.ref a1), .val (.ref a2)] [(.int (1 : Int32))]))
            obtain ⟨fs, hr, hrun, hended, hW, hsame⟩ := X8.leave (v := some (.int (1 : Int32))) (fun h => by rw [Bd.returns] at h; cases h)
            refine ⟨_, _, retN X8 hx (t := .boolean) Bd.returns (by simp) (hb hby d2_59) hr, hrun, hended, _, _, rfl, ?_, ⟨_, rfl⟩, hW, hsame.mono (by decide) (by decide)⟩
            show rm2_Q Z a1 a2 w0 w1 w2 w3 w4 w5 w6 w7 h0 n0 _ T8.heap _
            rw [e8]
            exact ⟨by simp only [own_acc, if_neg c4_2, if_neg c11_4, if_neg c16_5, if_pos c23_7, if_pos c30_9], N0, rfl⟩
          · skip
            refine own_via (fun t k => Jvm.RoadKit.acmp (g := (mkF m 30 #[.val (.ref a1), .val (.ref a2)] [(.ref w3), (.ref a2)])) X8 hx rfl rfl rfl (pc0 := 30) (pc' := 33) (same := false) rfl (hb hby d2_30) rfl (decide_eq_false fun q => c30_9 (Value.ref.inj q)) (by decide) (by decide) k) ?_
            show own_G p e below _ (T8.setTop (mkF m 33 #[.val (.ref a1), .val (.ref a2)] []))
            refine own_via (fun t k => XS.aloadN X8.here hx rfl (hb hby d2_33) rfl rfl k) ?_
            show own_G p e below _ (T8.setTop (mkF m 34 #[.val (.ref a1), .val (.ref a2)] [(.ref a2)]))
            obtain ⟨T10, X10, e10, st10⟩ := getS2 X8 hx hZ hown (host := "") (Or.inl (hw _ (List.mem_of_getElem? (i := 28) rfl))) Via.refl e8 S_CIRCLE (g := (mkF m 34 #[.val (.ref a1), .val (.ref a2)] [(.ref a2)])) rfl (hb hby d2_34)
            refine own_via st10 ?_
            show own_G p e below _ (T10.setTop (mkF m 37 #[.val (.ref a1), .val (.ref a2)] [(.ref w4), (.ref a2)]))
            by_cases c37_11 : a2 = w4
            · skip
              refine own_via (fun t k => Jvm.RoadKit.acmp (g := (mkF m 37 #[.val (.ref a1), .val (.ref a2)] [(.ref w4), (.ref a2)])) X10 hx rfl rfl rfl (pc0 := 37) (pc' := 54) (same := true) rfl (hb hby d2_37) rfl (decide_eq_true (congrArg Value.ref c37_11)) (by decide) (by decide) k) ?_
              show own_G p e below _ (T10.setTop (mkF m 54 #[.val (.ref a1), .val (.ref a2)] []))
              refine own_via (fun t k => XS.iconst X10.here hx rfl (hb hby d2_54) k) ?_
              show own_G p e below _ (T10.setTop (mkF m 55 #[.val (.ref a1), .val (.ref a2)] [(.int (1 : Int32))]))
              refine own_via (fun t k => XS.goto X10.here hx rfl (pc0 := 55) (pc' := 59) rfl (hb hby d2_55) (by decide) (by decide) k) ?_
              show own_G p e below _ (T10.setTop (mkF m 59 #[.val (.ref a1), .val (.ref a2)] [(.int (1 : Int32))]))
              obtain ⟨fs, hr, hrun, hended, hW, hsame⟩ := X10.leave (v := some (.int (1 : Int32))) (fun h => by rw [Bd.returns] at h; cases h)
              refine ⟨_, _, retN X10 hx (t := .boolean) Bd.returns (by simp) (hb hby d2_59) hr, hrun, hended, _, _, rfl, ?_, ⟨_, rfl⟩, hW, hsame.mono (by decide) (by decide)⟩
              show rm2_Q Z a1 a2 w0 w1 w2 w3 w4 w5 w6 w7 h0 n0 _ T10.heap _
              rw [e10]
              exact ⟨by simp only [own_acc, if_neg c4_2, if_neg c11_4, if_neg c16_5, if_pos c23_7, if_neg c30_9, if_pos c37_11], N0, rfl⟩
            · skip
              refine own_via (fun t k => Jvm.RoadKit.acmp (g := (mkF m 37 #[.val (.ref a1), .val (.ref a2)] [(.ref w4), (.ref a2)])) X10 hx rfl rfl rfl (pc0 := 37) (pc' := 40) (same := false) rfl (hb hby d2_37) rfl (decide_eq_false fun q => c37_11 (Value.ref.inj q)) (by decide) (by decide) k) ?_
              show own_G p e below _ (T10.setTop (mkF m 40 #[.val (.ref a1), .val (.ref a2)] []))
              refine own_via (fun t k => XS.aloadN X10.here hx rfl (hb hby d2_40) rfl rfl k) ?_
              show own_G p e below _ (T10.setTop (mkF m 41 #[.val (.ref a1), .val (.ref a2)] [(.ref a2)]))
              obtain ⟨T12, X12, e12, st12⟩ := getS2 X10 hx hZ hown (host := "") (Or.inl (hw _ (List.mem_of_getElem? (i := 29) rfl))) Via.refl e10 S_POLYGON (g := (mkF m 41 #[.val (.ref a1), .val (.ref a2)] [(.ref a2)])) rfl (hb hby d2_41)
              refine own_via st12 ?_
              show own_G p e below _ (T12.setTop (mkF m 44 #[.val (.ref a1), .val (.ref a2)] [(.ref w5), (.ref a2)]))
              by_cases c44_13 : a2 = w5
              · skip
                refine own_via (fun t k => Jvm.RoadKit.acmp (g := (mkF m 44 #[.val (.ref a1), .val (.ref a2)] [(.ref w5), (.ref a2)])) X12 hx rfl rfl rfl (pc0 := 44) (pc' := 54) (same := true) rfl (hb hby d2_44) rfl (decide_eq_true (congrArg Value.ref c44_13)) (by decide) (by decide) k) ?_
                show own_G p e below _ (T12.setTop (mkF m 54 #[.val (.ref a1), .val (.ref a2)] []))
                refine own_via (fun t k => XS.iconst X12.here hx rfl (hb hby d2_54) k) ?_
                show own_G p e below _ (T12.setTop (mkF m 55 #[.val (.ref a1), .val (.ref a2)] [(.int (1 : Int32))]))
                refine own_via (fun t k => XS.goto X12.here hx rfl (pc0 := 55) (pc' := 59) rfl (hb hby d2_55) (by decide) (by decide) k) ?_
                show own_G p e below _ (T12.setTop (mkF m 59 #[.val (.ref a1), .val (.ref a2)] [(.int (1 : Int32))]))
                obtain ⟨fs, hr, hrun, hended, hW, hsame⟩ := X12.leave (v := some (.int (1 : Int32))) (fun h => by rw [Bd.returns] at h; cases h)
                refine ⟨_, _, retN X12 hx (t := .boolean) Bd.returns (by simp) (hb hby d2_59) hr, hrun, hended, _, _, rfl, ?_, ⟨_, rfl⟩, hW, hsame.mono (by decide) (by decide)⟩
                show rm2_Q Z a1 a2 w0 w1 w2 w3 w4 w5 w6 w7 h0 n0 _ T12.heap _
                rw [e12]
                exact ⟨by simp only [own_acc, if_neg c4_2, if_neg c11_4, if_neg c16_5, if_pos c23_7, if_neg c30_9, if_neg c37_11, if_pos c44_13], N0, rfl⟩
              · skip
                refine own_via (fun t k => Jvm.RoadKit.acmp (g := (mkF m 44 #[.val (.ref a1), .val (.ref a2)] [(.ref w5), (.ref a2)])) X12 hx rfl rfl rfl (pc0 := 44) (pc' := 47) (same := false) rfl (hb hby d2_44) rfl (decide_eq_false fun q => c44_13 (Value.ref.inj q)) (by decide) (by decide) k) ?_
                show own_G p e below _ (T12.setTop (mkF m 47 #[.val (.ref a1), .val (.ref a2)] []))
                refine own_via (fun t k => XS.aloadN X12.here hx rfl (hb hby d2_47) rfl rfl k) ?_
                show own_G p e below _ (T12.setTop (mkF m 48 #[.val (.ref a1), .val (.ref a2)] [(.ref a2)]))
                obtain ⟨T14, X14, e14, st14⟩ := getS2 X12 hx hZ hown (host := "") (Or.inl (hw _ (List.mem_of_getElem? (i := 30) rfl))) Via.refl e12 S_REGION (g := (mkF m 48 #[.val (.ref a1), .val (.ref a2)] [(.ref a2)])) rfl (hb hby d2_48)
                refine own_via st14 ?_
                show own_G p e below _ (T14.setTop (mkF m 51 #[.val (.ref a1), .val (.ref a2)] [(.ref w6), (.ref a2)]))
                by_cases c51_15 : a2 = w6
                · skip
                  refine own_via (fun t k => Jvm.RoadKit.acmp (g := (mkF m 51 #[.val (.ref a1), .val (.ref a2)] [(.ref w6), (.ref a2)])) X14 hx rfl rfl rfl (pc0 := 51) (pc' := 54) (same := true) rfl (hb hby d2_51) rfl (decide_eq_true (congrArg Value.ref c51_15)) (by decide) (by decide) k) ?_
                  show own_G p e below _ (T14.setTop (mkF m 54 #[.val (.ref a1), .val (.ref a2)] []))
                  refine own_via (fun t k => XS.iconst X14.here hx rfl (hb hby d2_54) k) ?_
                  show own_G p e below _ (T14.setTop (mkF m 55 #[.val (.ref a1), .val (.ref a2)] [(.int (1 : Int32))]))
                  refine own_via (fun t k => XS.goto X14.here hx rfl (pc0 := 55) (pc' := 59) rfl (hb hby d2_55) (by decide) (by decide) k) ?_
                  show own_G p e below _ (T14.setTop (mkF m 59 #[.val (.ref a1), .val (.ref a2)] [(.int (1 : Int32))]))
                  obtain ⟨fs, hr, hrun, hended, hW, hsame⟩ := X14.leave (v := some (.int (1 : Int32))) (fun h => by rw [Bd.returns] at h; cases h)
                  refine ⟨_, _, retN X14 hx (t := .boolean) Bd.returns (by simp) (hb hby d2_59) hr, hrun, hended, _, _, rfl, ?_, ⟨_, rfl⟩, hW, hsame.mono (by decide) (by decide)⟩
                  show rm2_Q Z a1 a2 w0 w1 w2 w3 w4 w5 w6 w7 h0 n0 _ T14.heap _
                  rw [e14]
                  exact ⟨by simp only [own_acc, if_neg c4_2, if_neg c11_4, if_neg c16_5, if_pos c23_7, if_neg c30_9, if_neg c37_11, if_neg c44_13, if_pos c51_15], N0, rfl⟩
                · skip
                  refine own_via (fun t k => Jvm.RoadKit.acmp (g := (mkF m 51 #[.val (.ref a1), .val (.ref a2)] [(.ref w6), (.ref a2)])) X14 hx rfl rfl rfl (pc0 := 51) (pc' := 58) (same := false) rfl (hb hby d2_51) rfl (decide_eq_false fun q => c51_15 (Value.ref.inj q)) (by decide) (by decide) k) ?_
                  show own_G p e below _ (T14.setTop (mkF m 58 #[.val (.ref a1), .val (.ref a2)] []))
                  refine own_via (fun t k => XS.iconst X14.here hx rfl (hb hby d2_58) k) ?_
                  show own_G p e below _ (T14.setTop (mkF m 59 #[.val (.ref a1), .val (.ref a2)] [(.int (0 : Int32))]))
                  obtain ⟨fs, hr, hrun, hended, hW, hsame⟩ := X14.leave (v := some (.int (0 : Int32))) (fun h => by rw [Bd.returns] at h; cases h)
                  refine ⟨_, _, retN X14 hx (t := .boolean) Bd.returns (by simp) (hb hby d2_59) hr, hrun, hended, _, _, rfl, ?_, ⟨_, rfl⟩, hW, hsame.mono (by decide) (by decide)⟩
                  show rm2_Q Z a1 a2 w0 w1 w2 w3 w4 w5 w6 w7 h0 n0 _ T14.heap _
                  rw [e14]
                  exact ⟨by simp only [own_acc, if_neg c4_2, if_neg c11_4, if_neg c16_5, if_pos c23_7, if_neg c30_9, if_neg c37_11, if_neg c44_13, if_neg c51_15], N0, rfl⟩
        · skip
          refine own_via (fun t k => Jvm.RoadKit.acmp (g := (mkF m 23 #[.val (.ref a1), .val (.ref a2)] [(.ref w7), (.ref a1)])) X6 hx rfl rfl rfl (pc0 := 23) (pc' := 58) (same := false) rfl (hb hby d2_23) rfl (decide_eq_false fun q => c23_7 (Value.ref.inj q)) (by decide) (by decide) k) ?_
          show own_G p e below _ (T6.setTop (mkF m 58 #[.val (.ref a1), .val (.ref a2)] []))
          refine own_via (fun t k => XS.iconst X6.here hx rfl (hb hby d2_58) k) ?_
          show own_G p e below _ (T6.setTop (mkF m 59 #[.val (.ref a1), .val (.ref a2)] [(.int (0 : Int32))]))
          obtain ⟨fs, hr, hrun, hended, hW, hsame⟩ := X6.leave (v := some (.int (0 : Int32))) (fun h => by rw [Bd.returns] at h; cases h)
          refine ⟨_, _, retN X6 hx (t := .boolean) Bd.returns (by simp) (hb hby d2_59) hr, hrun, hended, _, _, rfl, ?_, ⟨_, rfl⟩, hW, hsame.mono (by decide) (by decide)⟩
          show rm2_Q Z a1 a2 w0 w1 w2 w3 w4 w5 w6 w7 h0 n0 _ T6.heap _
          rw [e6]
          exact ⟨by simp only [own_acc, if_neg c4_2, if_neg c11_4, if_neg c16_5, if_neg c23_7], N0, rfl⟩

theorem rm0_pn : plainName "com/example/meridial/meridial/adql/ValueTypeAcceptsPinLaw" = true := by first | (simp [plainName, overriddenIn]; done) | decide +kernel
theorem pd_rm0_0 : parseMethodDescriptor "(I)Lcom/example/meridial/meridial/adql/ValueType;" = some ⟨[.int], some (.object "com/example/meridial/meridial/adql/ValueType")⟩ := by decide +kernel
theorem pd_rm0_1 : parseMethodDescriptor "(Lcom/example/meridial/meridial/adql/ValueType;)Z" = some ⟨[(.object "com/example/meridial/meridial/adql/ValueType")], some .boolean⟩ := by decide +kernel
theorem rm0_ef (m : MethodId) (z0 : Int32) (z1 : Int32) : entryFrame m #[(.int z0), (.int z1)] maxLocals = mkF m 0 #[.val (.int z0), .val (.int z1), .unset, .unset, .unset, .unset, .unset] [] := by first | (simp [entryFrame, mkF, argsToLocals, Value.category, maxLocals]; done) | rfl
def rm0_Q (Z : State) (p1 : Int32) (p2 : Int32) (w0 : Addr) (w1 : Addr) (w2 : Addr) (w3 : Addr) (w4 : Addr) (w5 : Addr) (w6 : Addr) (w7 : Addr) (h0 : Heap) (n0 : Nat) (v : Option Value) (h : Heap) (L : List Loc) : Prop := v = some (.int 1) ∧ Fr n0 L
set_option maxRecDepth 65536 in
set_option maxHeartbeats 40000000 in
theorem rm0 (l : Launch) (Z : State) (a0 : Array Value) (hw : ∀ d ∈ tables_1, d.before a0 Z = true) (ws : List Jvm.Cond) (p1 : Int32) (p2 : Int32) (w0 : Addr) (w1 : Addr) (w2 : Addr) (w3 : Addr) (w4 : Addr) (w5 : Addr) (w6 : Addr) (w7 : Addr) (h0 : Heap) (n0 : Nat) (Z0 : n0 ≤ h0.size) (S_ANY : Sta Z h0 "com/example/meridial/meridial/adql/ValueType" "ANY" "Lcom/example/meridial/meridial/adql/ValueType;" (.ref w0)) (S_NUMBER : Sta Z h0 "com/example/meridial/meridial/adql/ValueType" "NUMBER" "Lcom/example/meridial/meridial/adql/ValueType;" (.ref w1)) (S_STRING : Sta Z h0 "com/example/meridial/meridial/adql/ValueType" "STRING" "Lcom/example/meridial/meridial/adql/ValueType;" (.ref w2)) (S_POINT : Sta Z h0 "com/example/meridial/meridial/adql/ValueType" "POINT" "Lcom/example/meridial/meridial/adql/ValueType;" (.ref w3)) (S_CIRCLE : Sta Z h0 "com/example/meridial/meridial/adql/ValueType" "CIRCLE" "Lcom/example/meridial/meridial/adql/ValueType;" (.ref w4)) (S_POLYGON : Sta Z h0 "com/example/meridial/meridial/adql/ValueType" "POLYGON" "Lcom/example/meridial/meridial/adql/ValueType;" (.ref w5)) (S_REGION : Sta Z h0 "com/example/meridial/meridial/adql/ValueType" "REGION" "Lcom/example/meridial/meridial/adql/ValueType;" (.ref w6)) (S_GEOMETRY : Sta Z h0 "com/example/meridial/meridial/adql/ValueType" "GEOMETRY" "Lcom/example/meridial/meridial/adql/ValueType;" (.ref w7)) (E_ANY : Exa Z h0 w0 "com/example/meridial/meridial/adql/ValueType") (E_NUMBER : Exa Z h0 w1 "com/example/meridial/meridial/adql/ValueType") (E_STRING : Exa Z h0 w2 "com/example/meridial/meridial/adql/ValueType") (E_POINT : Exa Z h0 w3 "com/example/meridial/meridial/adql/ValueType") (E_CIRCLE : Exa Z h0 w4 "com/example/meridial/meridial/adql/ValueType") (E_POLYGON : Exa Z h0 w5 "com/example/meridial/meridial/adql/ValueType") (E_REGION : Exa Z h0 w6 "com/example/meridial/meridial/adql/ValueType") (E_GEOMETRY : Exa Z h0 w7 "com/example/meridial/meridial/adql/ValueType") (n01 : w0 ≠ w1) (n02 : w0 ≠ w2) (n03 : w0 ≠ w3) (n04 : w0 ≠ w4) (n05 : w0 ≠ w5) (n06 : w0 ≠ w6) (n07 : w0 ≠ w7) (n12 : w1 ≠ w2) (n13 : w1 ≠ w3) (n14 : w1 ≠ w4) (n15 : w1 ≠ w5) (n16 : w1 ≠ w6) (n17 : w1 ≠ w7) (n23 : w2 ≠ w3) (n24 : w2 ≠ w4) (n25 : w2 ≠ w5) (n26 : w2 ≠ w6) (n27 : w2 ≠ w7) (n34 : w3 ≠ w4) (n35 : w3 ≠ w5) (n36 : w3 ≠ w6) (n37 : w3 ≠ w7) (n45 : w4 ≠ w5) (n46 : w4 ≠ w6) (n47 : w4 ≠ w7) (n56 : w5 ≠ w6) (n57 : w5 ≠ w7) (n67 : w6 ≠ w7) :
    MetFree l x (head1 (Jvm.Cond.code x code maxLocals ret :: ws) room_1) (fun a U => a = #[(.int p1), (.int p2)] ∧ Z.Warmed39 U.vm ∧ U.heap = h0) (fun _ _ _ _ _ => True) (fun _ U o U' => ∃ v L, o = .returned v ∧ rm0_Q Z p1 p2 w0 w1 w2 w3 w4 w5 w6 w7 h0 n0 v U'.heap L ∧ FrameEnd U o U' L room_1.cells room_1.slots) := by
  refine MetFree.of_bodySF (plainFor_of_name rm0_pn) hisR ?_
  intro p e s m args below meth c s₁ Bd hml0 hP hK
  obtain ⟨rfl, hZ, hh⟩ := hP
  have hx := Bd.exec
  have hby := Bd.bytes
  have hml : c.maxLocals = 7 := hml0
  have hown : s.vm.findClass "com/example/meridial/meridial/adql/ValueTypeAcceptsPinLaw" = some m.cls := findClass_of_methodNamed Bd.named
  have hnm := (name_of_methodNamed Bd.named Bd.method).1
  have X0 : Stand p l e room_1 s m #[(.int p1), (.int p2)] below meth c s₁ [] 0 0 := Stand.of_body Bd
  have e0 : s₁.heap = h0 := by rw [← hh, Bd.state]; rfl
  have N0 := Fr.nil n0
  refine own_via (fun t k => castTop (rm0_ef m p1 p2) k) ?_
  show own_G p e below _ (s₁.setTop (mkF m 0 #[.val (.int p1), .val (.int p2), .unset, .unset, .unset, .unset, .unset] []))
  refine own_via (fun t k => XS.iloadN X0.here hx rfl (hb hby at_0) rfl k) ?_
  show own_G p e below _ (s₁.setTop (mkF m 1 #[.val (.int p1), .val (.int p2), .unset, .unset, .unset, .unset, .unset] [(.int p1)]))
  refine own_via (fun t k => XS.bipush X0.here hx rfl (hb hby at_1) k) ?_
  show own_G p e below _ (s₁.setTop (mkF m 3 #[.val (.int p1), .val (.int p2), .unset, .unset, .unset, .unset, .unset] [(.int (7 : Int32)), (.int p1)]))
  refine own_via (fun t k => XS.iand X0.here hx rfl (hb hby at_3) rfl k) ?_
  show own_G p e below _ (s₁.setTop (mkF m 4 #[.val (.int p1), .val (.int p2), .unset, .unset, .unset, .unset, .unset] [(.int (p1 &&& (7 : Int32)))]))
  refine own_via (fun t k => XS.istoreN X0.here hx rfl (hb hby at_4) rfl (l' := #[.val (.int p1), .val (.int p2), .val (.int (p1 &&& (7 : Int32))), .unset, .unset, .unset, .unset]) rfl k) ?_
  show own_G p e below _ (s₁.setTop (mkF m 5 #[.val (.int p1), .val (.int p2), .val (.int (p1 &&& (7 : Int32))), .unset, .unset, .unset, .unset] []))
  refine own_via (fun t k => XS.iloadN X0.here hx rfl (hb hby at_5) rfl k) ?_
  show own_G p e below _ (s₁.setTop (mkF m 6 #[.val (.int p1), .val (.int p2), .val (.int (p1 &&& (7 : Int32))), .unset, .unset, .unset, .unset] [(.int p2)]))
  refine own_via (fun t k => XS.bipush X0.here hx rfl (hb hby at_6) k) ?_
  show own_G p e below _ (s₁.setTop (mkF m 8 #[.val (.int p1), .val (.int p2), .val (.int (p1 &&& (7 : Int32))), .unset, .unset, .unset, .unset] [(.int (7 : Int32)), (.int p2)]))
  refine own_via (fun t k => XS.iand X0.here hx rfl (hb hby at_8) rfl k) ?_
  show own_G p e below _ (s₁.setTop (mkF m 9 #[.val (.int p1), .val (.int p2), .val (.int (p1 &&& (7 : Int32))), .unset, .unset, .unset, .unset] [(.int (p2 &&& (7 : Int32)))]))
  refine own_via (fun t k => XS.istoreN X0.here hx rfl (hb hby at_9) rfl (l' := #[.val (.int p1), .val (.int p2), .val (.int (p1 &&& (7 : Int32))), .val (.int (p2 &&& (7 : Int32))), .unset, .unset, .unset]) rfl k) ?_
  show own_G p e below _ (s₁.setTop (mkF m 10 #[.val (.int p1), .val (.int p2), .val (.int (p1 &&& (7 : Int32))), .val (.int (p2 &&& (7 : Int32))), .unset, .unset, .unset] []))
  refine own_via (fun t k => XS.iloadN X0.here hx rfl (hb hby at_10) rfl k) ?_
  show own_G p e below _ (s₁.setTop (mkF m 11 #[.val (.int p1), .val (.int p2), .val (.int (p1 &&& (7 : Int32))), .val (.int (p2 &&& (7 : Int32))), .unset, .unset, .unset] [(.int (p1 &&& (7 : Int32)))]))
  obtain ⟨_, _, ⟨T1, L1, k1, n1⟩, -, X1, ⟨Lc1, hQ1, l1, y1, z1⟩, st1⟩ := Jvm.LawKit.callS X0 hx (y := (⟨"com/example/meridial/meridial/adql/ValueTypeAcceptsPinLaw", "pick", "(I)Lcom/example/meridial/meridial/adql/ValueType;"⟩ : MethodName)) hown (mvT hZ (hw _ (List.mem_of_getElem? (i := 0) rfl))) (mvT hZ (hw _ (List.mem_of_getElem? (i := 1) rfl))) (mvT hZ (hw _ (List.mem_of_getElem? (i := 2) rfl))) (mvT hZ (hw _ (List.mem_of_getElem? (i := 3) rfl))) (by decide) (backOf (W := 0) (rm1 l Z a0 hw [] (p1 &&& (7 : Int32)) w0 w1 w2 w3 w4 w5 w6 w7 h0 n0 Z0 S_ANY S_NUMBER S_STRING S_POINT S_CIRCLE S_POLYGON S_REGION S_GEOMETRY) hZ (hw _ (List.mem_of_getElem? (i := 3) rfl)) (hw _ (List.mem_of_getElem? (i := 2) rfl)) (by decide) (by decide)) (g := (mkF m 11 #[.val (.int p1), .val (.int p2), .val (.int (p1 &&& (7 : Int32))), .val (.int (p2 &&& (7 : Int32))), .unset, .unset, .unset] [(.int (p1 &&& (7 : Int32)))])) rfl (by rw [hml]; rfl) (argsL := [(.int (p1 &&& (7 : Int32)))]) (rest := []) (lenOf pd_rm0_0 rfl) rfl (by show 2 * 0 + _ ≤ _; exact Nat.le_of_eq rfl) (hb hby at_11) (fun _ _ => ⟨rfl, e0, (by decide : 0 + 0 ≤ _), (by decide : 0 + 0 ≤ _)⟩)
  dsimp only [Pt.U, Pt.locs, Pt.cells, Pt.slots] at X1 l1 y1 z1 st1 hQ1
  subst l1 y1 z1
  obtain ⟨rfl, N1q, e1⟩ := hQ1
  have N1 := Fr.app N0 N1q
  refine own_via st1 ?_
  show own_G p e below _ (T1.setTop (mkF m 14 #[.val (.int p1), .val (.int p2), .val (.int (p1 &&& (7 : Int32))), .val (.int (p2 &&& (7 : Int32))), .unset, .unset, .unset] [(.ref (own_pick (p1 &&& (7 : Int32)) w0 w1 w2 w3 w4 w5 w6 w7))]))
  refine own_via (fun t k => XS.astore X1.here hx rfl (hb hby at_14) rfl rfl (l' := #[.val (.int p1), .val (.int p2), .val (.int (p1 &&& (7 : Int32))), .val (.int (p2 &&& (7 : Int32))), .val (.ref (own_pick (p1 &&& (7 : Int32)) w0 w1 w2 w3 w4 w5 w6 w7)), .unset, .unset]) rfl k) ?_
  show own_G p e below _ (T1.setTop (mkF m 16 #[.val (.int p1), .val (.int p2), .val (.int (p1 &&& (7 : Int32))), .val (.int (p2 &&& (7 : Int32))), .val (.ref (own_pick (p1 &&& (7 : Int32)) w0 w1 w2 w3 w4 w5 w6 w7)), .unset, .unset] []))
  refine own_via (fun t k => XS.iloadN X1.here hx rfl (hb hby at_16) rfl k) ?_
  show own_G p e below _ (T1.setTop (mkF m 17 #[.val (.int p1), .val (.int p2), .val (.int (p1 &&& (7 : Int32))), .val (.int (p2 &&& (7 : Int32))), .val (.ref (own_pick (p1 &&& (7 : Int32)) w0 w1 w2 w3 w4 w5 w6 w7)), .unset, .unset] [(.int (p2 &&& (7 : Int32)))]))
  obtain ⟨_, _, ⟨T2, L2, k2, n2⟩, -, X2, ⟨Lc2, hQ2, l2, y2, z2⟩, st2⟩ := Jvm.LawKit.callS X1 hx (y := (⟨"com/example/meridial/meridial/adql/ValueTypeAcceptsPinLaw", "pick", "(I)Lcom/example/meridial/meridial/adql/ValueType;"⟩ : MethodName)) hown (mvT hZ (hw _ (List.mem_of_getElem? (i := 0) rfl))) (mvT hZ (hw _ (List.mem_of_getElem? (i := 1) rfl))) (mvT hZ (hw _ (List.mem_of_getElem? (i := 2) rfl))) (mvT hZ (hw _ (List.mem_of_getElem? (i := 3) rfl))) (by decide) (backOf (W := 0) (rm1 l Z a0 hw [] (p2 &&& (7 : Int32)) w0 w1 w2 w3 w4 w5 w6 w7 h0 n0 Z0 S_ANY S_NUMBER S_STRING S_POINT S_CIRCLE S_POLYGON S_REGION S_GEOMETRY) hZ (hw _ (List.mem_of_getElem? (i := 3) rfl)) (hw _ (List.mem_of_getElem? (i := 2) rfl)) (by decide) (by decide)) (g := (mkF m 17 #[.val (.int p1), .val (.int p2), .val (.int (p1 &&& (7 : Int32))), .val (.int (p2 &&& (7 : Int32))), .val (.ref (own_pick (p1 &&& (7 : Int32)) w0 w1 w2 w3 w4 w5 w6 w7)), .unset, .unset] [(.int (p2 &&& (7 : Int32)))])) rfl (by rw [hml]; rfl) (argsL := [(.int (p2 &&& (7 : Int32)))]) (rest := []) (lenOf pd_rm0_0 rfl) rfl (by show 2 * 0 + _ ≤ _; exact Nat.le_of_eq rfl) (hb hby at_17) (fun _ _ => ⟨rfl, e1, (by decide : 0 + 0 ≤ _), (by decide : 0 + 0 ≤ _)⟩)
  dsimp only [Pt.U, Pt.locs, Pt.cells, Pt.slots] at X2 l2 y2 z2 st2 hQ2
  subst l2 y2 z2
  obtain ⟨rfl, N2q, e2⟩ := hQ2
  have N2 := Fr.app N1 N2q
  refine own_via st2 ?_
  show own_G p e below _ (T2.setTop (mkF m 20 #[.val (.int p1), .val (.int p2), .val (.int (p1 &&& (7 : Int32))), .val (.int (p2 &&& (7 : Int32))), .val (.ref (own_pick (p1 &&& (7 : Int32)) w0 w1 w2 w3 w4 w5 w6 w7)), .unset, .unset] [(.ref (own_pick (p2 &&& (7 : Int32)) w0 w1 w2 w3 w4 w5 w6 w7))]))
  refine own_via (fun t k => XS.astore X2.here hx rfl (hb hby at_20) rfl rfl (l' := #[.val (.int p1), .val (.int p2), .val (.int (p1 &&& (7 : Int32))), .val (.int (p2 &&& (7 : Int32))), .val (.ref (own_pick (p1 &&& (7 : Int32)) w0 w1 w2 w3 w4 w5 w6 w7)), .val (.ref (own_pick (p2 &&& (7 : Int32)) w0 w1 w2 w3 w4 w5 w6 w7)), .unset]) rfl k) ?_
  show own_G p e below _ (T2.setTop (mkF m 22 #[.val (.int p1), .val (.int p2), .val (.int (p1 &&& (7 : Int32))), .val (.int (p2 &&& (7 : Int32))), .val (.ref (own_pick (p1 &&& (7 : Int32)) w0 w1 w2 w3 w4 w5 w6 w7)), .val (.ref (own_pick (p2 &&& (7 : Int32)) w0 w1 w2 w3 w4 w5 w6 w7)), .unset] []))
  refine own_via (fun t k => X2.ldc2Long hx hown (mvT hZ (hw _ (List.mem_of_getElem? (i := 9) rfl))) (g := (mkF m 22 #[.val (.int p1), .val (.int p2), .val (.int (p1 &&& (7 : Int32))), .val (.int (p2 &&& (7 : Int32))), .val (.ref (own_pick (p1 &&& (7 : Int32)) w0 w1 w2 w3 w4 w5 w6 w7)), .val (.ref (own_pick (p2 &&& (7 : Int32)) w0 w1 w2 w3 w4 w5 w6 w7)), .unset] [])) rfl (hb hby at_22) _ k) ?_
  show own_G p e below _ (T2.setTop (mkF m 25 #[.val (.int p1), .val (.int p2), .val (.int (p1 &&& (7 : Int32))), .val (.int (p2 &&& (7 : Int32))), .val (.ref (own_pick (p1 &&& (7 : Int32)) w0 w1 w2 w3 w4 w5 w6 w7)), .val (.ref (own_pick (p2 &&& (7 : Int32)) w0 w1 w2 w3 w4 w5 w6 w7)), .unset] [(.long (-486070927729818625 : Int64))]))
  refine own_via (fun t k => XS.iloadN X2.here hx rfl (hb hby at_25) rfl k) ?_
  show own_G p e below _ (T2.setTop (mkF m 26 #[.val (.int p1), .val (.int p2), .val (.int (p1 &&& (7 : Int32))), .val (.int (p2 &&& (7 : Int32))), .val (.ref (own_pick (p1 &&& (7 : Int32)) w0 w1 w2 w3 w4 w5 w6 w7)), .val (.ref (own_pick (p2 &&& (7 : Int32)) w0 w1 w2 w3 w4 w5 w6 w7)), .unset] [(.int (p1 &&& (7 : Int32))), (.long (-486070927729818625 : Int64))]))
  refine own_via (fun t k => XS.bipush X2.here hx rfl (hb hby at_26) k) ?_
  show own_G p e below _ (T2.setTop (mkF m 28 #[.val (.int p1), .val (.int p2), .val (.int (p1 &&& (7 : Int32))), .val (.int (p2 &&& (7 : Int32))), .val (.ref (own_pick (p1 &&& (7 : Int32)) w0 w1 w2 w3 w4 w5 w6 w7)), .val (.ref (own_pick (p2 &&& (7 : Int32)) w0 w1 w2 w3 w4 w5 w6 w7)), .unset] [(.int (8 : Int32)), (.int (p1 &&& (7 : Int32))), (.long (-486070927729818625 : Int64))]))
  refine own_via (fun t k => XS.imul X2.here hx rfl (hb hby at_28) rfl k) ?_
  show own_G p e below _ (T2.setTop (mkF m 29 #[.val (.int p1), .val (.int p2), .val (.int (p1 &&& (7 : Int32))), .val (.int (p2 &&& (7 : Int32))), .val (.ref (own_pick (p1 &&& (7 : Int32)) w0 w1 w2 w3 w4 w5 w6 w7)), .val (.ref (own_pick (p2 &&& (7 : Int32)) w0 w1 w2 w3 w4 w5 w6 w7)), .unset] [(.int ((p1 &&& (7 : Int32)) * (8 : Int32))), (.long (-486070927729818625 : Int64))]))
  refine own_via (fun t k => XS.iloadN X2.here hx rfl (hb hby at_29) rfl k) ?_
  show own_G p e below _ (T2.setTop (mkF m 30 #[.val (.int p1), .val (.int p2), .val (.int (p1 &&& (7 : Int32))), .val (.int (p2 &&& (7 : Int32))), .val (.ref (own_pick (p1 &&& (7 : Int32)) w0 w1 w2 w3 w4 w5 w6 w7)), .val (.ref (own_pick (p2 &&& (7 : Int32)) w0 w1 w2 w3 w4 w5 w6 w7)), .unset] [(.int (p2 &&& (7 : Int32))), (.int ((p1 &&& (7 : Int32)) * (8 : Int32))), (.long (-486070927729818625 : Int64))]))
  refine own_via (fun t k => XS.iadd X2.here hx rfl (hb hby at_30) rfl k) ?_
  show own_G p e below _ (T2.setTop (mkF m 31 #[.val (.int p1), .val (.int p2), .val (.int (p1 &&& (7 : Int32))), .val (.int (p2 &&& (7 : Int32))), .val (.ref (own_pick (p1 &&& (7 : Int32)) w0 w1 w2 w3 w4 w5 w6 w7)), .val (.ref (own_pick (p2 &&& (7 : Int32)) w0 w1 w2 w3 w4 w5 w6 w7)), .unset] [(.int (((p1 &&& (7 : Int32)) * (8 : Int32)) + (p2 &&& (7 : Int32)))), (.long (-486070927729818625 : Int64))]))
  refine own_via (fun t k => XS.lushr X2.here hx rfl (hb hby at_31) rfl k) ?_
  show own_G p e below _ (T2.setTop (mkF m 32 #[.val (.int p1), .val (.int p2), .val (.int (p1 &&& (7 : Int32))), .val (.int (p2 &&& (7 : Int32))), .val (.ref (own_pick (p1 &&& (7 : Int32)) w0 w1 w2 w3 w4 w5 w6 w7)), .val (.ref (own_pick (p2 &&& (7 : Int32)) w0 w1 w2 w3 w4 w5 w6 w7)), .unset] [(.long (((-486070927729818625 : Int64).toUInt64 >>> ((((p1 &&& (7 : Int32)) * (8 : Int32)) + (p2 &&& (7 : Int32))) &&& 0x3f).toInt64.toUInt64).toInt64))]))
  refine own_via (fun t k => XS.lconst X2.here hx rfl (hb hby at_32) k) ?_
  show own_G p e below _ (T2.setTop (mkF m 33 #[.val (.int p1), .val (.int p2), .val (.int (p1 &&& (7 : Int32))), .val (.int (p2 &&& (7 : Int32))), .val (.ref (own_pick (p1 &&& (7 : Int32)) w0 w1 w2 w3 w4 w5 w6 w7)), .val (.ref (own_pick (p2 &&& (7 : Int32)) w0 w1 w2 w3 w4 w5 w6 w7)), .unset] [(.long (1 : Int64)), (.long (((-486070927729818625 : Int64).toUInt64 >>> ((((p1 &&& (7 : Int32)) * (8 : Int32)) + (p2 &&& (7 : Int32))) &&& 0x3f).toInt64.toUInt64).toInt64))]))
  refine own_via (fun t k => XS.land X2.here hx rfl (hb hby at_33) rfl k) ?_
  show own_G p e below _ (T2.setTop (mkF m 34 #[.val (.int p1), .val (.int p2), .val (.int (p1 &&& (7 : Int32))), .val (.int (p2 &&& (7 : Int32))), .val (.ref (own_pick (p1 &&& (7 : Int32)) w0 w1 w2 w3 w4 w5 w6 w7)), .val (.ref (own_pick (p2 &&& (7 : Int32)) w0 w1 w2 w3 w4 w5 w6 w7)), .unset] [(.long ((((-486070927729818625 : Int64).toUInt64 >>> ((((p1 &&& (7 : Int32)) * (8 : Int32)) + (p2 &&& (7 : Int32))) &&& 0x3f).toInt64.toUInt64).toInt64) &&& (1 : Int64)))]))
  refine own_via (fun t k => XS.lconst X2.here hx rfl (hb hby at_34) k) ?_
  show own_G p e below _ (T2.setTop (mkF m 35 #[.val (.int p1), .val (.int p2), .val (.int (p1 &&& (7 : Int32))), .val (.int (p2 &&& (7 : Int32))), .val (.ref (own_pick (p1 &&& (7 : Int32)) w0 w1 w2 w3 w4 w5 w6 w7)), .val (.ref (own_pick (p2 &&& (7 : Int32)) w0 w1 w2 w3 w4 w5 w6 w7)), .unset] [(.long (0 : Int64)), (.long ((((-486070927729818625 : Int64).toUInt64 >>> ((((p1 &&& (7 : Int32)) * (8 : Int32)) + (p2 &&& (7 : Int32))) &&& 0x3f).toInt64.toUInt64).toInt64) &&& (1 : Int64)))]))
  refine own_via (fun t k => XS.lcmp X2.here hx rfl (hb hby at_35) rfl k) ?_
  show own_G p e below _ (T2.setTop (mkF m 36 #[.val (.int p1), .val (.int p2), .val (.int (p1 &&& (7 : Int32))), .val (.int (p2 &&& (7 : Int32))), .val (.ref (own_pick (p1 &&& (7 : Int32)) w0 w1 w2 w3 w4 w5 w6 w7)), .val (.ref (own_pick (p2 &&& (7 : Int32)) w0 w1 w2 w3 w4 w5 w6 w7)), .unset] [(.int (lcmpW ((((-486070927729818625 : Int64).toUInt64 >>> ((((p1 &&& (7 : Int32)) * (8 : Int32)) + (p2 &&& (7 : Int32))) &&& 0x3f).toInt64.toUInt64).toInt64) &&& (1 : Int64)) (0 : Int64)))]))
  by_cases c36_3 : (lcmpW ((((-486070927729818625 : Int64).toUInt64 >>> ((((p1 &&& (7 : Int32)) * (8 : Int32)) + (p2 &&& (7 : Int32))) &&& 0x3f).toInt64.toUInt64).toInt64) &&& (1 : Int64)) (0 : Int64)) = (0 : Int32)
  · skip
    refine own_via (fun t k => XS.ifYes X2.here hx rfl (pc0 := 36) (pc' := 43) rfl (hb hby at_36) rfl ((if0 _ _).trans (teq c36_3).1) (by decide) (by decide) k) ?_
    show own_G p e below _ (T2.setTop (mkF m 43 #[.val (.int p1), .val (.int p2), .val (.int (p1 &&& (7 : Int32))), .val (.int (p2 &&& (7 : Int32))), .val (.ref (own_pick (p1 &&& (7 : Int32)) w0 w1 w2 w3 w4 w5 w6 w7)), .val (.ref (own_pick (p2 &&& (7 : Int32)) w0 w1 w2 w3 w4 w5 w6 w7)), .unset] []))
    refine own_via (fun t k => XS.iconst X2.here hx rfl (hb hby at_43) k) ?_
    show own_G p e below _ (T2.setTop (mkF m 44 #[.val (.int p1), .val (.int p2), .val (.int (p1 &&& (7 : Int32))), .val (.int (p2 &&& (7 : Int32))), .val (.ref (own_pick (p1 &&& (7 : Int32)) w0 w1 w2 w3 w4 w5 w6 w7)), .val (.ref (own_pick (p2 &&& (7 : Int32)) w0 w1 w2 w3 w4 w5 w6 w7)), .unset] [(.int (0 : Int32))]))
    refine own_via (fun t k => XS.istore X2.here hx rfl (hb hby at_44) rfl (l' := #[.val (.int p1), .val (.int p2), .val (.int (p1 &&& (7 : Int32))), .val (.int (p2 &&& (7 : Int32))), .val (.ref (own_pick (p1 &&& (7 : Int32)) w0 w1 w2 w3 w4 w5 w6 w7)), .val (.ref (own_pick (p2 &&& (7 : Int32)) w0 w1 w2 w3 w4 w5 w6 w7)), .val (.int (0 : Int32))]) rfl k) ?_
    show own_G p e below _ (T2.setTop (mkF m 46 #[.val (.int p1), .val (.int p2), .val (.int (p1 &&& (7 : Int32))), .val (.int (p2 &&& (7 : Int32))), .val (.ref (own_pick (p1 &&& (7 : Int32)) w0 w1 w2 w3 w4 w5 w6 w7)), .val (.ref (own_pick (p2 &&& (7 : Int32)) w0 w1 w2 w3 w4 w5 w6 w7)), .val (.int (0 : Int32))] []))
    refine own_via (fun t k => XS.aload X2.here hx rfl (hb hby at_46) rfl rfl k) ?_
    show own_G p e below _ (T2.setTop (mkF m 48 #[.val (.int p1), .val (.int p2), .val (.int (p1 &&& (7 : Int32))), .val (.int (p2 &&& (7 : Int32))), .val (.ref (own_pick (p1 &&& (7 : Int32)) w0 w1 w2 w3 w4 w5 w6 w7)), .val (.ref (own_pick (p2 &&& (7 : Int32)) w0 w1 w2 w3 w4 w5 w6 w7)), .val (.int (0 : Int32))] [(.ref (own_pick (p1 &&& (7 : Int32)) w0 w1 w2 w3 w4 w5 w6 w7))]))
    refine own_via (fun t k => XS.aload X2.here hx rfl (hb hby at_48) rfl rfl k) ?_
    show own_G p e below _ (T2.setTop (mkF m 50 #[.val (.int p1), .val (.int p2), .val (.int (p1 &&& (7 : Int32))), .val (.int (p2 &&& (7 : Int32))), .val (.ref (own_pick (p1 &&& (7 : Int32)) w0 w1 w2 w3 w4 w5 w6 w7)), .val (.ref (own_pick (p2 &&& (7 : Int32)) w0 w1 w2 w3 w4 w5 w6 w7)), .val (.int (0 : Int32))] [(.ref (own_pick (p2 &&& (7 : Int32)) w0 w1 w2 w3 w4 w5 w6 w7)), (.ref (own_pick (p1 &&& (7 : Int32)) w0 w1 w2 w3 w4 w5 w6 w7))]))
    obtain ⟨cq4, kq4, q4a, q4b, q4c⟩ := isOf hZ e2 (own_pickE (p1 &&& (7 : Int32)) E_ANY E_NUMBER E_STRING E_POINT E_CIRCLE E_POLYGON E_REGION E_GEOMETRY)
    obtain ⟨_, _, ⟨T4, L4, k4, n4⟩, -, X4, ⟨Lc4, hQ4, l4, y4, z4⟩, st4⟩ := X2.virtualBack hx (y := (⟨"com/example/meridial/meridial/adql/ValueType", "accepts", "(Lcom/example/meridial/meridial/adql/ValueType;)Z"⟩ : MethodName)) (z := (⟨"com/example/meridial/meridial/adql/ValueType", "accepts", "(Lcom/example/meridial/meridial/adql/ValueType;)Z"⟩ : MethodName)) hown (mvT hZ (hw _ (List.mem_of_getElem? (i := 10) rfl))) (mvT hZ (hw _ (List.mem_of_getElem? (i := 11) rfl))) (notFace_of_selects (args := #[]) (mvT hZ (hw _ (List.mem_of_getElem? (i := 13) rfl)))) (mvT hZ (hw _ (List.mem_of_getElem? (i := 13) rfl))) (mvT hZ (hw _ (List.mem_of_getElem? (i := 12) rfl))) (by decide) (backOf (W := 0) (rm2 l Z a0 hw [] (own_pick (p1 &&& (7 : Int32)) w0 w1 w2 w3 w4 w5 w6 w7) (own_pick (p2 &&& (7 : Int32)) w0 w1 w2 w3 w4 w5 w6 w7) w0 w1 w2 w3 w4 w5 w6 w7 h0 n0 Z0 S_ANY S_NUMBER S_STRING S_POINT S_CIRCLE S_POLYGON S_REGION S_GEOMETRY) hZ (hw _ (List.mem_of_getElem? (i := 14) rfl)) (hw _ (List.mem_of_getElem? (i := 5) rfl)) (by decide) (by decide)) q4a q4c (g := (mkF m 50 #[.val (.int p1), .val (.int p2), .val (.int (p1 &&& (7 : Int32))), .val (.int (p2 &&& (7 : Int32))), .val (.ref (own_pick (p1 &&& (7 : Int32)) w0 w1 w2 w3 w4 w5 w6 w7)), .val (.ref (own_pick (p2 &&& (7 : Int32)) w0 w1 w2 w3 w4 w5 w6 w7)), .val (.int (0 : Int32))] [(.ref (own_pick (p2 &&& (7 : Int32)) w0 w1 w2 w3 w4 w5 w6 w7)), (.ref (own_pick (p1 &&& (7 : Int32)) w0 w1 w2 w3 w4 w5 w6 w7))])) rfl (by rw [hml]; rfl) (Steps.refl _) (argsL := [(.ref (own_pick (p2 &&& (7 : Int32)) w0 w1 w2 w3 w4 w5 w6 w7))]) (rest := []) (lenOf pd_rm0_1 rfl) rfl (by show 2 * 0 + _ ≤ _; exact Nat.le_of_eq rfl) (hb hby at_50) (fun _ _ => ⟨rfl, e2, (by decide : 0 + 0 ≤ _), (by decide : 0 + 0 ≤ _)⟩)
    dsimp only [Pt.U, Pt.locs, Pt.cells, Pt.slots] at X4 l4 y4 z4 st4 hQ4
    subst l4 y4 z4
    obtain ⟨rfl, N4q, e4⟩ := hQ4
    have N4 := Fr.app N2 N4q
    refine own_via (fun t k => st4.trans k) ?_
    show own_G p e below _ (T4.setTop (mkF m 53 #[.val (.int p1), .val (.int p2), .val (.int (p1 &&& (7 : Int32))), .val (.int (p2 &&& (7 : Int32))), .val (.ref (own_pick (p1 &&& (7 : Int32)) w0 w1 w2 w3 w4 w5 w6 w7)), .val (.ref (own_pick (p2 &&& (7 : Int32)) w0 w1 w2 w3 w4 w5 w6 w7)), .val (.int (0 : Int32))] [(.int (own_acc (own_pick (p1 &&& (7 : Int32)) w0 w1 w2 w3 w4 w5 w6 w7) (own_pick (p2 &&& (7 : Int32)) w0 w1 w2 w3 w4 w5 w6 w7) w0 w1 w2 w3 w4 w5 w6 w7))]))
    refine own_via (fun t k => XS.iload X4.here hx rfl (hb hby at_53) rfl k) ?_
    show own_G p e below _ (T4.setTop (mkF m 55 #[.val (.int p1), .val (.int p2), .val (.int (p1 &&& (7 : Int32))), .val (.int (p2 &&& (7 : Int32))), .val (.ref (own_pick (p1 &&& (7 : Int32)) w0 w1 w2 w3 w4 w5 w6 w7)), .val (.ref (own_pick (p2 &&& (7 : Int32)) w0 w1 w2 w3 w4 w5 w6 w7)), .val (.int (0 : Int32))] [(.int (0 : Int32)), (.int (own_acc (own_pick (p1 &&& (7 : Int32)) w0 w1 w2 w3 w4 w5 w6 w7) (own_pick (p2 &&& (7 : Int32)) w0 w1 w2 w3 w4 w5 w6 w7) w0 w1 w2 w3 w4 w5 w6 w7))]))
    by_cases c55_5 : (own_acc (own_pick (p1 &&& (7 : Int32)) w0 w1 w2 w3 w4 w5 w6 w7) (own_pick (p2 &&& (7 : Int32)) w0 w1 w2 w3 w4 w5 w6 w7) w0 w1 w2 w3 w4 w5 w6 w7) = (0 : Int32)
    · skip
      refine own_via (fun t k => XS.icmpNo X4.here hx rfl (hb hby at_55) rfl (teq c55_5).2 k) ?_
      show own_G p e below _ (T4.setTop (mkF m 58 #[.val (.int p1), .val (.int p2), .val (.int (p1 &&& (7 : Int32))), .val (.int (p2 &&& (7 : Int32))), .val (.ref (own_pick (p1 &&& (7 : Int32)) w0 w1 w2 w3 w4 w5 w6 w7)), .val (.ref (own_pick (p2 &&& (7 : Int32)) w0 w1 w2 w3 w4 w5 w6 w7)), .val (.int (0 : Int32))] []))
      refine own_via (fun t k => XS.iconst X4.here hx rfl (hb hby at_58) k) ?_
      show own_G p e below _ (T4.setTop (mkF m 59 #[.val (.int p1), .val (.int p2), .val (.int (p1 &&& (7 : Int32))), .val (.int (p2 &&& (7 : Int32))), .val (.ref (own_pick (p1 &&& (7 : Int32)) w0 w1 w2 w3 w4 w5 w6 w7)), .val (.ref (own_pick (p2 &&& (7 : Int32)) w0 w1 w2 w3 w4 w5 w6 w7)), .val (.int (0 : Int32))] [(.int (1 : Int32))]))
      refine own_via (fun t k => XS.goto X4.here hx rfl (pc0 := 59) (pc' := 63) rfl (hb hby at_59) (by decide) (by decide) k) ?_
      show own_G p e below _ (T4.setTop (mkF m 63 #[.val (.int p1), .val (.int p2), .val (.int (p1 &&& (7 : Int32))), .val (.int (p2 &&& (7 : Int32))), .val (.ref (own_pick (p1 &&& (7 : Int32)) w0 w1 w2 w3 w4 w5 w6 w7)), .val (.ref (own_pick (p2 &&& (7 : Int32)) w0 w1 w2 w3 w4 w5 w6 w7)), .val (.int (0 : Int32))] [(.int (1 : Int32))]))
      obtain ⟨fs, hr, hrun, hended, hW, hsame⟩ := X4.leave (v := some (.int (1 : Int32))) (fun h => by rw [Bd.returns] at h; cases h)
      refine ⟨_, _, retN X4 hx (t := .boolean) Bd.returns (by simp) (hb hby at_63) hr, hrun, hended, _, _, rfl, ?_, ⟨_, rfl⟩, hW, hsame.mono (by decide) (by decide)⟩
      show rm0_Q Z p1 p2 w0 w1 w2 w3 w4 w5 w6 w7 h0 n0 _ T4.heap _
      rw [e4]
      exact ⟨rfl, N4⟩
    · exfalso
      exact c55_5 ((own_law8 n01 n02 n03 n04 n05 n06 n07 n12 n13 n14 n15 n16 n17 n23 n24 n25 n26 n27 n34 n35 n36 n37 n45 n46 n47 n56 n57 n67 _ _ (own_and7 p1) (own_and7 p2)).trans (if_pos c36_3))
  · skip
    refine own_via (fun t k => XS.ifNo X2.here hx rfl (hb hby at_36) rfl ((if0 _ _).trans (feq c36_3).1) k) ?_
    show own_G p e below _ (T2.setTop (mkF m 39 #[.val (.int p1), .val (.int p2), .val (.int (p1 &&& (7 : Int32))), .val (.int (p2 &&& (7 : Int32))), .val (.ref (own_pick (p1 &&& (7 : Int32)) w0 w1 w2 w3 w4 w5 w6 w7)), .val (.ref (own_pick (p2 &&& (7 : Int32)) w0 w1 w2 w3 w4 w5 w6 w7)), .unset] []))
    refine own_via (fun t k => XS.iconst X2.here hx rfl (hb hby at_39) k) ?_
    show own_G p e below _ (T2.setTop (mkF m 40 #[.val (.int p1), .val (.int p2), .val (.int (p1 &&& (7 : Int32))), .val (.int (p2 &&& (7 : Int32))), .val (.ref (own_pick (p1 &&& (7 : Int32)) w0 w1 w2 w3 w4 w5 w6 w7)), .val (.ref (own_pick (p2 &&& (7 : Int32)) w0 w1 w2 w3 w4 w5 w6 w7)), .unset] [(.int (1 : Int32))]))
    refine own_via (fun t k => XS.goto X2.here hx rfl (pc0 := 40) (pc' := 44) rfl (hb hby at_40) (by decide) (by decide) k) ?_
    show own_G p e below _ (T2.setTop (mkF m 44 #[.val (.int p1), .val (.int p2), .val (.int (p1 &&& (7 : Int32))), .val (.int (p2 &&& (7 : Int32))), .val (.ref (own_pick (p1 &&& (7 : Int32)) w0 w1 w2 w3 w4 w5 w6 w7)), .val (.ref (own_pick (p2 &&& (7 : Int32)) w0 w1 w2 w3 w4 w5 w6 w7)), .unset] [(.int (1 : Int32))]))
    refine own_via (fun t k => XS.istore X2.here hx rfl (hb hby at_44) rfl (l' := #[.val (.int p1), .val (.int p2), .val (.int (p1 &&& (7 : Int32))), .val (.int (p2 &&& (7 : Int32))), .val (.ref (own_pick (p1 &&& (7 : Int32)) w0 w1 w2 w3 w4 w5 w6 w7)), .val (.ref (own_pick (p2 &&& (7 : Int32)) w0 w1 w2 w3 w4 w5 w6 w7)), .val (.int (1 : Int32))]) rfl k) ?_
    show own_G p e below _ (T2.setTop (mkF m 46 #[.val (.int p1), .val (.int p2), .val (.int (p1 &&& (7 : Int32))), .val (.int (p2 &&& (7 : Int32))), .val (.ref (own_pick (p1 &&& (7 : Int32)) w0 w1 w2 w3 w4 w5 w6 w7)), .val (.ref (own_pick (p2 &&& (7 : Int32)) w0 w1 w2 w3 w4 w5 w6 w7)), .val (.int (1 : Int32))] []))
    refine own_via (fun t k => XS.aload X2.here hx rfl (hb hby at_46) rfl rfl k) ?_
    show own_G p e below _ (T2.setTop (mkF m 48 #[.val (.int p1), .val (.int p2), .val (.int (p1 &&& (7 : Int32))), .val (.int (p2 &&& (7 : Int32))), .val (.ref (own_pick (p1 &&& (7 : Int32)) w0 w1 w2 w3 w4 w5 w6 w7)), .val (.ref (own_pick (p2 &&& (7 : Int32)) w0 w1 w2 w3 w4 w5 w6 w7)), .val (.int (1 : Int32))] [(.ref (own_pick (p1 &&& (7 : Int32)) w0 w1 w2 w3 w4 w5 w6 w7))]))
    refine own_via (fun t k => XS.aload X2.here hx rfl (hb hby at_48) rfl rfl k) ?_
    show own_G p e below _ (T2.setTop (mkF m 50 #[.val (.int p1), .val (.int p2), .val (.int (p1 &&& (7 : Int32))), .val (.int (p2 &&& (7 : Int32))), .val (.ref (own_pick (p1 &&& (7 : Int32)) w0 w1 w2 w3 w4 w5 w6 w7)), .val (.ref (own_pick (p2 &&& (7 : Int32)) w0 w1 w2 w3 w4 w5 w6 w7)), .val (.int (1 : Int32))] [(.ref (own_pick (p2 &&& (7 : Int32)) w0 w1 w2 w3 w4 w5 w6 w7)), (.ref (own_pick (p1 &&& (7 : Int32)) w0 w1 w2 w3 w4 w5 w6 w7))]))
    obtain ⟨cq6, kq6, q6a, q6b, q6c⟩ := isOf hZ e2 (own_pickE (p1 &&& (7 : Int32)) E_ANY E_NUMBER E_STRING E_POINT E_CIRCLE E_POLYGON E_REGION E_GEOMETRY)
    obtain ⟨_, _, ⟨T6, L6, k6, n6⟩, -, X6, ⟨Lc6, hQ6, l6, y6, z6⟩, st6⟩ := X2.virtualBack hx (y := (⟨"com/example/meridial/meridial/adql/ValueType", "accepts", "(Lcom/example/meridial/meridial/adql/ValueType;)Z"⟩ : MethodName)) (z := (⟨"com/example/meridial/meridial/adql/ValueType", "accepts", "(Lcom/example/meridial/meridial/adql/ValueType;)Z"⟩ : MethodName)) hown (mvT hZ (hw _ (List.mem_of_getElem? (i := 10) rfl))) (mvT hZ (hw _ (List.mem_of_getElem? (i := 11) rfl))) (notFace_of_selects (args := #[]) (mvT hZ (hw _ (List.mem_of_getElem? (i := 13) rfl)))) (mvT hZ (hw _ (List.mem_of_getElem? (i := 13) rfl))) (mvT hZ (hw _ (List.mem_of_getElem? (i := 12) rfl))) (by decide) (backOf (W := 0) (rm2 l Z a0 hw [] (own_pick (p1 &&& (7 : Int32)) w0 w1 w2 w3 w4 w5 w6 w7) (own_pick (p2 &&& (7 : Int32)) w0 w1 w2 w3 w4 w5 w6 w7) w0 w1 w2 w3 w4 w5 w6 w7 h0 n0 Z0 S_ANY S_NUMBER S_STRING S_POINT S_CIRCLE S_POLYGON S_REGION S_GEOMETRY) hZ (hw _ (List.mem_of_getElem? (i := 14) rfl)) (hw _ (List.mem_of_getElem? (i := 5) rfl)) (by decide) (by decide)) q6a q6c (g := (mkF m 50 #[.val (.int p1), .val (.int p2), .val (.int (p1 &&& (7 : Int32))), .val (.int (p2 &&& (7 : Int32))), .val (.ref (own_pick (p1 &&& (7 : Int32)) w0 w1 w2 w3 w4 w5 w6 w7)), .val (.ref (own_pick (p2 &&& (7 : Int32)) w0 w1 w2 w3 w4 w5 w6 w7)), .val (.int (1 : Int32))] [(.ref (own_pick (p2 &&& (7 : Int32)) w0 w1 w2 w3 w4 w5 w6 w7)), (.ref (own_pick (p1 &&& (7 : Int32)) w0 w1 w2 w3 w4 w5 w6 w7))])) rfl (by rw [hml]; rfl) (Steps.refl _) (argsL := [(.ref (own_pick (p2 &&& (7 : Int32)) w0 w1 w2 w3 w4 w5 w6 w7))]) (rest := []) (lenOf pd_rm0_1 rfl) rfl (by show 2 * 0 + _ ≤ _; exact Nat.le_of_eq rfl) (hb hby at_50) (fun _ _ => ⟨rfl, e2, (by decide : 0 + 0 ≤ _), (by decide : 0 + 0 ≤ _)⟩)
    dsimp only [Pt.U, Pt.locs, Pt.cells, Pt.slots] at X6 l6 y6 z6 st6 hQ6
    subst l6 y6 z6
    obtain ⟨rfl, N6q, e6⟩ := hQ6
    have N6 := Fr.app N2 N6q
    refine own_via (fun t k => st6.trans k) ?_
    show own_G p e below _ (T6.setTop (mkF m 53 #[.val (.int p1), .val (.int p2), .val (.int (p1 &&& (7 : Int32))), .val (.int (p2 &&& (7 : Int32))), .val (.ref (own_pick (p1 &&& (7 : Int32)) w0 w1 w2 w3 w4 w5 w6 w7)), .val (.ref (own_pick (p2 &&& (7 : Int32)) w0 w1 w2 w3 w4 w5 w6 w7)), .val (.int (1 : Int32))] [(.int (own_acc (own_pick (p1 &&& (7 : Int32)) w0 w1 w2 w3 w4 w5 w6 w7) (own_pick (p2 &&& (7 : Int32)) w0 w1 w2 w3 w4 w5 w6 w7) w0 w1 w2 w3 w4 w5 w6 w7))]))
    refine own_via (fun t k => XS.iload X6.here hx rfl (hb hby at_53) rfl k) ?_
    show own_G p e below _ (T6.setTop (mkF m 55 #[.val (.int p1), .val (.int p2), .val (.int (p1 &&& (7 : Int32))), .val (.int (p2 &&& (7 : Int32))), .val (.ref (own_pick (p1 &&& (7 : Int32)) w0 w1 w2 w3 w4 w5 w6 w7)), .val (.ref (own_pick (p2 &&& (7 : Int32)) w0 w1 w2 w3 w4 w5 w6 w7)), .val (.int (1 : Int32))] [(.int (1 : Int32)), (.int (own_acc (own_pick (p1 &&& (7 : Int32)) w0 w1 w2 w3 w4 w5 w6 w7) (own_pick (p2 &&& (7 : Int32)) w0 w1 w2 w3 w4 w5 w6 w7) w0 w1 w2 w3 w4 w5 w6 w7))]))
    by_cases c55_7 : (own_acc (own_pick (p1 &&& (7 : Int32)) w0 w1 w2 w3 w4 w5 w6 w7) (own_pick (p2 &&& (7 : Int32)) w0 w1 w2 w3 w4 w5 w6 w7) w0 w1 w2 w3 w4 w5 w6 w7) = (1 : Int32)
    · skip
      refine own_via (fun t k => XS.icmpNo X6.here hx rfl (hb hby at_55) rfl (teq c55_7).2 k) ?_
      show own_G p e below _ (T6.setTop (mkF m 58 #[.val (.int p1), .val (.int p2), .val (.int (p1 &&& (7 : Int32))), .val (.int (p2 &&& (7 : Int32))), .val (.ref (own_pick (p1 &&& (7 : Int32)) w0 w1 w2 w3 w4 w5 w6 w7)), .val (.ref (own_pick (p2 &&& (7 : Int32)) w0 w1 w2 w3 w4 w5 w6 w7)), .val (.int (1 : Int32))] []))
      refine own_via (fun t k => XS.iconst X6.here hx rfl (hb hby at_58) k) ?_
      show own_G p e below _ (T6.setTop (mkF m 59 #[.val (.int p1), .val (.int p2), .val (.int (p1 &&& (7 : Int32))), .val (.int (p2 &&& (7 : Int32))), .val (.ref (own_pick (p1 &&& (7 : Int32)) w0 w1 w2 w3 w4 w5 w6 w7)), .val (.ref (own_pick (p2 &&& (7 : Int32)) w0 w1 w2 w3 w4 w5 w6 w7)), .val (.int (1 : Int32))] [(.int (1 : Int32))]))
      refine own_via (fun t k => XS.goto X6.here hx rfl (pc0 := 59) (pc' := 63) rfl (hb hby at_59) (by decide) (by decide) k) ?_
      show own_G p e below _ (T6.setTop (mkF m 63 #[.val (.int p1), .val (.int p2), .val (.int (p1 &&& (7 : Int32))), .val (.int (p2 &&& (7 : Int32))), .val (.ref (own_pick (p1 &&& (7 : Int32)) w0 w1 w2 w3 w4 w5 w6 w7)), .val (.ref (own_pick (p2 &&& (7 : Int32)) w0 w1 w2 w3 w4 w5 w6 w7)), .val (.int (1 : Int32))] [(.int (1 : Int32))]))
      obtain ⟨fs, hr, hrun, hended, hW, hsame⟩ := X6.leave (v := some (.int (1 : Int32))) (fun h => by rw [Bd.returns] at h; cases h)
      refine ⟨_, _, retN X6 hx (t := .boolean) Bd.returns (by simp) (hb hby at_63) hr, hrun, hended, _, _, rfl, ?_, ⟨_, rfl⟩, hW, hsame.mono (by decide) (by decide)⟩
      show rm0_Q Z p1 p2 w0 w1 w2 w3 w4 w5 w6 w7 h0 n0 _ T6.heap _
      rw [e6]
      exact ⟨rfl, N6⟩
    · exfalso
      exact c55_7 ((own_law8 n01 n02 n03 n04 n05 n06 n07 n12 n13 n14 n15 n16 n17 n23 n24 n25 n26 n27 n34 n35 n36 n37 n45 n46 n47 n56 n57 n67 _ _ (own_and7 p1) (own_and7 p2)).trans (if_neg c36_3))

set_option maxRecDepth 65536 in
set_option maxHeartbeats 40000000 in
theorem comes_1 {Post : Tables → Env → Array Value → State → Outcome → State → Prop} (hpost : ∀ tb e args s v u, (limb_1_1.after args s (.returned v) u = true ∧ limb_1_2.after args s (.returned v) u = true ∧ True) → FrameEnd s (.returned v) u (Jvm.fieldLocs frame_1_writes args s ++ Jvm.arrayLocs frame_1_arrays args s ++ Jvm.staticLocs frame_1_statics s) 0 0 → Post tb e args s (.returned v) u) :
    ArmFor flags0 classFile x code maxLocals ret World_1 tables_1 room_1 Calls_1 rest_1 Pre_1 Post := by
  intro l hfl _ _ p e ha hc hk s m args below hf hA hF happ hP
  obtain ⟨hcalls, hrest, hpre⟩ := hP
  obtain ⟨-, -, -, hnamed, -, -, -, hat⟩ := (Spec.applies_iff hf).mp happ
  obtain ⟨hg, hn⟩ := and_e (Cond.before_iff.mp (show (Jvm.Cond.and given_1 narrow_1).before args s = true from hpre))
  obtain ⟨gg1, gg2⟩ := and_e hg
  obtain ⟨gg3, gg4⟩ := and_e gg2
  obtain ⟨w0, w1, rfl⟩ : ∃ w0 w1 : Value, args = #[w0, w1] := by
    have hs : args.size = 2 := by simpa [Cond.value, given_1] using gg1
    obtain ⟨L⟩ := args
    match L, hs with
    | [w0, w1], _ => exact ⟨w0, w1, rfl⟩
  have hw := fun d (hd : d ∈ tables_1) => atoms_spec (ws := Jvm.Cond.code x code maxLocals ret :: tables_1) hat d (List.mem_cons_of_mem _ hd)
  obtain ⟨i0, ei0⟩ := is_v gg3
  obtain rfl : w0 = (.int i0) := Option.some.inj ei0
  obtain ⟨i1, ei1⟩ := is_v gg4
  obtain rfl : w1 = (.int i1) := Option.some.inj ei1
  obtain ⟨hn_1, hn_2⟩ := and_e hn
  obtain ⟨a_ANY, v_ANY⟩ := exa_v hn_1
  have S_ANY := Sta.start v_ANY (Or.inr ⟨(hw _ (List.mem_of_getElem? (i := 5) rfl)), (hw _ (List.mem_of_getElem? (i := 6) rfl))⟩)
  have E_ANY := Exa.start v_ANY hn_1
  obtain ⟨hn_3, hn_4⟩ := and_e hn_2
  obtain ⟨a_POINT, v_POINT⟩ := exa_v hn_3
  have S_POINT := Sta.start v_POINT (Or.inr ⟨(hw _ (List.mem_of_getElem? (i := 5) rfl)), (hw _ (List.mem_of_getElem? (i := 8) rfl))⟩)
  have E_POINT := Exa.start v_POINT hn_3
  obtain ⟨hn_5, hn_6⟩ := and_e hn_4
  obtain ⟨a_REGION, v_REGION⟩ := exa_v hn_5
  have S_REGION := Sta.start v_REGION (Or.inr ⟨(hw _ (List.mem_of_getElem? (i := 5) rfl)), (hw _ (List.mem_of_getElem? (i := 17) rfl))⟩)
  have E_REGION := Exa.start v_REGION hn_5
  obtain ⟨hn_7, hn_8⟩ := and_e hn_6
  obtain ⟨a_NUMBER, v_NUMBER⟩ := exa_v hn_7
  have S_NUMBER := Sta.start v_NUMBER (Or.inr ⟨(hw _ (List.mem_of_getElem? (i := 5) rfl)), (hw _ (List.mem_of_getElem? (i := 19) rfl))⟩)
  have E_NUMBER := Exa.start v_NUMBER hn_7
  obtain ⟨hn_9, hn_10⟩ := and_e hn_8
  obtain ⟨hn_11, hn_12⟩ := and_e hn_10
  obtain ⟨hn_13, hn_14⟩ := and_e hn_12
  obtain ⟨hn_15, hn_16⟩ := and_e hn_14
  obtain ⟨a_GEOMETRY, v_GEOMETRY⟩ := exa_v hn_15
  have S_GEOMETRY := Sta.start v_GEOMETRY (Or.inr ⟨(hw _ (List.mem_of_getElem? (i := 5) rfl)), (hw _ (List.mem_of_getElem? (i := 21) rfl))⟩)
  have E_GEOMETRY := Exa.start v_GEOMETRY hn_15
  obtain ⟨hn_17, hn_18⟩ := and_e hn_16
  obtain ⟨hn_19, hn_20⟩ := and_e hn_18
  obtain ⟨a_CIRCLE, v_CIRCLE⟩ := exa_v hn_19
  have S_CIRCLE := Sta.start v_CIRCLE (Or.inr ⟨(hw _ (List.mem_of_getElem? (i := 5) rfl)), (hw _ (List.mem_of_getElem? (i := 23) rfl))⟩)
  have E_CIRCLE := Exa.start v_CIRCLE hn_19
  obtain ⟨hn_21, hn_22⟩ := and_e hn_20
  obtain ⟨hn_23, hn_24⟩ := and_e hn_22
  obtain ⟨hn_25, hn_26⟩ := and_e hn_24
  obtain ⟨a_POLYGON, v_POLYGON⟩ := exa_v hn_25
  have S_POLYGON := Sta.start v_POLYGON (Or.inr ⟨(hw _ (List.mem_of_getElem? (i := 5) rfl)), (hw _ (List.mem_of_getElem? (i := 25) rfl))⟩)
  have E_POLYGON := Exa.start v_POLYGON hn_25
  obtain ⟨hn_27, hn_28⟩ := and_e hn_26
  obtain ⟨hn_29, hn_30⟩ := and_e hn_28
  obtain ⟨a_STRING, v_STRING⟩ := exa_v hn_29
  have S_STRING := Sta.start v_STRING (Or.inr ⟨(hw _ (List.mem_of_getElem? (i := 5) rfl)), (hw _ (List.mem_of_getElem? (i := 32) rfl))⟩)
  have E_STRING := Exa.start v_STRING hn_29
  have o_REGION := own_ord v_REGION hn_9
  have o_ANY := own_ord v_ANY hn_11
  have o_NUMBER := own_ord v_NUMBER hn_13
  have o_GEOMETRY := own_ord v_GEOMETRY hn_17
  have o_CIRCLE := own_ord v_CIRCLE hn_21
  have o_POINT := own_ord v_POINT hn_23
  have o_POLYGON := own_ord v_POLYGON hn_27
  have o_STRING := own_ord v_STRING hn_30
  have ne_ANY_NUMBER : a_ANY ≠ a_NUMBER := fun q => by rw [q] at o_ANY; exact absurd (Value.int.inj (Option.some.inj (o_ANY.symm.trans o_NUMBER))) (by decide)
  have ne_ANY_STRING : a_ANY ≠ a_STRING := fun q => by rw [q] at o_ANY; exact absurd (Value.int.inj (Option.some.inj (o_ANY.symm.trans o_STRING))) (by decide)
  have ne_ANY_POINT : a_ANY ≠ a_POINT := fun q => by rw [q] at o_ANY; exact absurd (Value.int.inj (Option.some.inj (o_ANY.symm.trans o_POINT))) (by decide)
  have ne_ANY_CIRCLE : a_ANY ≠ a_CIRCLE := fun q => by rw [q] at o_ANY; exact absurd (Value.int.inj (Option.some.inj (o_ANY.symm.trans o_CIRCLE))) (by decide)
  have ne_ANY_POLYGON : a_ANY ≠ a_POLYGON := fun q => by rw [q] at o_ANY; exact absurd (Value.int.inj (Option.some.inj (o_ANY.symm.trans o_POLYGON))) (by decide)
  have ne_ANY_REGION : a_ANY ≠ a_REGION := fun q => by rw [q] at o_ANY; exact absurd (Value.int.inj (Option.some.inj (o_ANY.symm.trans o_REGION))) (by decide)
  have ne_ANY_GEOMETRY : a_ANY ≠ a_GEOMETRY := fun q => by rw [q] at o_ANY; exact absurd (Value.int.inj (Option.some.inj (o_ANY.symm.trans o_GEOMETRY))) (by decide)
  have ne_NUMBER_STRING : a_NUMBER ≠ a_STRING := fun q => by rw [q] at o_NUMBER; exact absurd (Value.int.inj (Option.some.inj (o_NUMBER.symm.trans o_STRING))) (by decide)
  have ne_NUMBER_POINT : a_NUMBER ≠ a_POINT := fun q => by rw [q] at o_NUMBER; exact absurd (Value.int.inj (Option.some.inj (o_NUMBER.symm.trans o_POINT))) (by decide)
  have ne_NUMBER_CIRCLE : a_NUMBER ≠ a_CIRCLE := fun q => by rw [q] at o_NUMBER; exact absurd (Value.int.inj (Option.some.inj (o_NUMBER.symm.trans o_CIRCLE))) (by decide)
  have ne_NUMBER_POLYGON : a_NUMBER ≠ a_POLYGON := fun q => by rw [q] at o_NUMBER; exact absurd (Value.int.inj (Option.some.inj (o_NUMBER.symm.trans o_POLYGON))) (by decide)
  have ne_NUMBER_REGION : a_NUMBER ≠ a_REGION := fun q => by rw [q] at o_NUMBER; exact absurd (Value.int.inj (Option.some.inj (o_NUMBER.symm.trans o_REGION))) (by decide)
  have ne_NUMBER_GEOMETRY : a_NUMBER ≠ a_GEOMETRY := fun q => by rw [q] at o_NUMBER; exact absurd (Value.int.inj (Option.some.inj (o_NUMBER.symm.trans o_GEOMETRY))) (by decide)
  have ne_STRING_POINT : a_STRING ≠ a_POINT := fun q => by rw [q] at o_STRING; exact absurd (Value.int.inj (Option.some.inj (o_STRING.symm.trans o_POINT))) (by decide)
  have ne_STRING_CIRCLE : a_STRING ≠ a_CIRCLE := fun q => by rw [q] at o_STRING; exact absurd (Value.int.inj (Option.some.inj (o_STRING.symm.trans o_CIRCLE))) (by decide)
  have ne_STRING_POLYGON : a_STRING ≠ a_POLYGON := fun q => by rw [q] at o_STRING; exact absurd (Value.int.inj (Option.some.inj (o_STRING.symm.trans o_POLYGON))) (by decide)
  have ne_STRING_REGION : a_STRING ≠ a_REGION := fun q => by rw [q] at o_STRING; exact absurd (Value.int.inj (Option.some.inj (o_STRING.symm.trans o_REGION))) (by decide)
  have ne_STRING_GEOMETRY : a_STRING ≠ a_GEOMETRY := fun q => by rw [q] at o_STRING; exact absurd (Value.int.inj (Option.some.inj (o_STRING.symm.trans o_GEOMETRY))) (by decide)
  have ne_POINT_CIRCLE : a_POINT ≠ a_CIRCLE := fun q => by rw [q] at o_POINT; exact absurd (Value.int.inj (Option.some.inj (o_POINT.symm.trans o_CIRCLE))) (by decide)
  have ne_POINT_POLYGON : a_POINT ≠ a_POLYGON := fun q => by rw [q] at o_POINT; exact absurd (Value.int.inj (Option.some.inj (o_POINT.symm.trans o_POLYGON))) (by decide)
  have ne_POINT_REGION : a_POINT ≠ a_REGION := fun q => by rw [q] at o_POINT; exact absurd (Value.int.inj (Option.some.inj (o_POINT.symm.trans o_REGION))) (by decide)
  have ne_POINT_GEOMETRY : a_POINT ≠ a_GEOMETRY := fun q => by rw [q] at o_POINT; exact absurd (Value.int.inj (Option.some.inj (o_POINT.symm.trans o_GEOMETRY))) (by decide)
  have ne_CIRCLE_POLYGON : a_CIRCLE ≠ a_POLYGON := fun q => by rw [q] at o_CIRCLE; exact absurd (Value.int.inj (Option.some.inj (o_CIRCLE.symm.trans o_POLYGON))) (by decide)
  have ne_CIRCLE_REGION : a_CIRCLE ≠ a_REGION := fun q => by rw [q] at o_CIRCLE; exact absurd (Value.int.inj (Option.some.inj (o_CIRCLE.symm.trans o_REGION))) (by decide)
  have ne_CIRCLE_GEOMETRY : a_CIRCLE ≠ a_GEOMETRY := fun q => by rw [q] at o_CIRCLE; exact absurd (Value.int.inj (Option.some.inj (o_CIRCLE.symm.trans o_GEOMETRY))) (by decide)
  have ne_POLYGON_REGION : a_POLYGON ≠ a_REGION := fun q => by rw [q] at o_POLYGON; exact absurd (Value.int.inj (Option.some.inj (o_POLYGON.symm.trans o_REGION))) (by decide)
  have ne_POLYGON_GEOMETRY : a_POLYGON ≠ a_GEOMETRY := fun q => by rw [q] at o_POLYGON; exact absurd (Value.int.inj (Option.some.inj (o_POLYGON.symm.trans o_GEOMETRY))) (by decide)
  have ne_REGION_GEOMETRY : a_REGION ≠ a_GEOMETRY := fun q => by rw [q] at o_REGION; exact absurd (Value.int.inj (Option.some.inj (o_REGION.symm.trans o_GEOMETRY))) (by decide)
  obtain ⟨n, o, h1, h2, h3, _, L, rfl, ⟨rfl, N⟩, hq⟩ := rm0 l s _ hw tables_1 i0 i1 a_ANY a_NUMBER a_STRING a_POINT a_CIRCLE a_POLYGON a_REGION a_GEOMETRY s.heap s.heap.size (Nat.le_refl _) S_ANY S_NUMBER S_STRING S_POINT S_CIRCLE S_POLYGON S_REGION S_GEOMETRY E_ANY E_NUMBER E_STRING E_POINT E_CIRCLE E_POLYGON E_REGION E_GEOMETRY ne_ANY_NUMBER ne_ANY_STRING ne_ANY_POINT ne_ANY_CIRCLE ne_ANY_POLYGON ne_ANY_REGION ne_ANY_GEOMETRY ne_NUMBER_STRING ne_NUMBER_POINT ne_NUMBER_CIRCLE ne_NUMBER_POLYGON ne_NUMBER_REGION ne_NUMBER_GEOMETRY ne_STRING_POINT ne_STRING_CIRCLE ne_STRING_POLYGON ne_STRING_REGION ne_STRING_GEOMETRY ne_POINT_CIRCLE ne_POINT_POLYGON ne_POINT_REGION ne_POINT_GEOMETRY ne_CIRCLE_POLYGON ne_CIRCLE_REGION ne_CIRCLE_GEOMETRY ne_POLYGON_REGION ne_POLYGON_GEOMETRY ne_REGION_GEOMETRY p e ha hc hk s m _ below hf ((Spec.applies_iff_loose hf).mp happ).1 ⟨rfl, State.Warmed39.refl s, rfl⟩ trivial
  refine ⟨n, _, h1, h2, h3, hpost _ _ _ _ _ _ ⟨Cond.after_iff.mpr rfl, Cond.after_iff.mpr (eq_i res_at (Term.int_eval (1)) rfl), trivial⟩ ⟨hq.1, hq.2.1, (hq.2.2.sift fun y hy => Or.inr (N y hy)).mono (by decide) (by decide)⟩⟩
theorem main_1_1 : Claimed_1_1 := comes_1 fun _ _ _ _ _ _ h hF => ⟨h.1, hF⟩
theorem main_1_2 : Claimed_1_2 := comes_1 fun _ _ _ _ _ _ h hF => ⟨h.2.1, hF⟩

end Jvm.Pilot.@@N@@
namespace Jvm.Pilot.@@N@@
open Jvm Jvm.ClassFile Sem Op Lib Jvm.Free Jvm.Stand Jvm.Pilot.@@N@@.Jvm.D
/-! MADE BY PROGRAM (witnessworld.py) out of the Statement's table words and the real class files: 12 classes; the members and pool entries that the words name. The judged class is class 1, her method 2. -/
namespace start1
open Jvm.ClassFile
def u (s : String) : CpInfo := .utf8 (stringToUtf16 s)
/-- a pool by its gaps: so many unusable entries, then the entry; so many at the end -/
def gap : Nat → List CpInfo → List CpInfo
  | 0, r => r
  | n + 1, r => .unusable :: gap n r
def poolList (es : List (Nat × CpInfo)) (last : Nat) : List CpInfo := es.foldr (fun e r => gap e.1 (e.2 :: r)) (gap last [])
def pool (es : List (Nat × CpInfo)) (last : Nat) : Array CpInfo := ⟨poolList es last⟩
def fileOf (pool : Array CpInfo) (this : Nat) (attrs : Array Attribute := #[]) (ms : Array MethodInfo := #[]) (fl : Nat := 33) (sup : Nat := 0) (ifs : Array Nat := #[]) (fds : Array FieldInfo := #[]) : ClassFile where
  minorVersion := 0
  majorVersion := 65
  constantPool := pool
  accessFlags := fl
  thisClass := this
  superClass := sup
  interfaces := ifs
  fields := fds
  methods := ms
  attributes := attrs
def plain (name : String) (sup : Option ClassId) : Class where
  name := name
  kind := .ordinary
  loader := none
  accessFlags := 33
  super := sup
  interfaces := #[]
  cf := none
  fields := #[]
  methods := #[]
  instanceTypes := #[]
  staticTypes := #[]
  resolved := #[]
  callSites := []
  init := .initialized
  statics := none
  mirror := none

def pool0 : Array CpInfo := pool [(5, u "<init>"), (0, u "()V"), (1, .class_ 10), (1, u "java/lang/Object")] 113

def k0m0 : Method := { name := "<init>", desc := "()V", sig := { parameters := [], returnType := none }, accessFlags := 1, code := none }
/-- java/lang/Object -/
def k0 : Class := { plain "java/lang/Object" none with
  accessFlags := 33
  interfaces := #[]
  cf := some (fileOf pool0 8 #[] #[{ accessFlags := 1, nameIndex := 5, descriptorIndex := 6, attributes := #[] }] 33 0 #[] #[])
  fields := #[]
  methods := #[k0m0]
  instanceTypes := #[]
  staticTypes := #[]
  resolved := Array.replicate 124 none
  statics := none }

def pool1 : Array CpInfo := pool [(2, .class_ 4), (1, u "java/lang/Object"), (0, u "<init>"), (0, u "()V"), (0, .fieldref 8 9), (0, .class_ 10), (0, .nameAndType 11 12), (0, u "com/example/meridial/meridial/adql/ValueType"), (0, u "ANY"), (0, u "Lcom/example/meridial/meridial/adql/ValueType;"), (0, .fieldref 8 14), (0, .nameAndType 15 12), (0, u "NUMBER"), (0, .fieldref 8 17), (0, .nameAndType 18 12), (0, u "STRING"), (0, .fieldref 8 20), (0, .nameAndType 21 12), (0, u "POINT"), (0, .fieldref 8 23), (0, .nameAndType 24 12), (0, u "CIRCLE"), (0, .fieldref 8 26), (0, .nameAndType 27 12), (0, u "POLYGON"), (0, .fieldref 8 29), (0, .nameAndType 30 12), (0, u "REGION"), (0, .fieldref 8 32), (0, .nameAndType 33 12), (0, u "GEOMETRY"), (0, .methodref 35 36), (0, .class_ 37), (0, .nameAndType 38 39), (0, u "com/example/meridial/meridial/adql/ValueTypeAcceptsPinLaw"), (0, u "pick"), (0, u "(I)Lcom/example/meridial/meridial/adql/ValueType;"), (0, .long 17960673145979732991), (1, .methodref 8 43), (0, .nameAndType 44 45), (0, u "accepts"), (0, u "(Lcom/example/meridial/meridial/adql/ValueType;)Z"), (0, u "TABLE"), (0, u "J"), (4, u "law"), (0, u "(II)Z")] 2

def k1m0 : Method := { name := "<init>", desc := "()V", sig := { parameters := [], returnType := none }, accessFlags := 1, code := none }
def k1c1 : Code := { maxStack := 2, maxLocals := 1, code := method_2_code, exceptionTable := #[], attributes := #[] }
def k1m1 : Method := { name := "pick", desc := "(I)Lcom/example/meridial/meridial/adql/ValueType;", sig := { parameters := [.int], returnType := some (.object "com/example/meridial/meridial/adql/ValueType") }, accessFlags := 10, code := some k1c1 }
def k1c2 : Code := { maxStack := 4, maxLocals := 7, code := code, exceptionTable := #[], attributes := #[] }
def k1m2 : Method := { name := "law", desc := "(II)Z", sig := { parameters := [.int, .int], returnType := some .boolean }, accessFlags := 9, code := some k1c2 }
/-- com/example/meridial/meridial/adql/ValueTypeAcceptsPinLaw -/
def k1 : Class := { plain "com/example/meridial/meridial/adql/ValueTypeAcceptsPinLaw" (some 0) with
  accessFlags := 49
  interfaces := #[]
  cf := some (fileOf pool1 35 #[] #[{ accessFlags := 1, nameIndex := 5, descriptorIndex := 6, attributes := #[] }, { accessFlags := 10, nameIndex := 38, descriptorIndex := 39, attributes := #[] }, { accessFlags := 9, nameIndex := 52, descriptorIndex := 53, attributes := #[] }] 49 2 #[] #[{ accessFlags := 26, nameIndex := 46, descriptorIndex := 47, attributes := #[] }])
  fields := #[{ name := "TABLE", type := .long, accessFlags := 26, slot := 0, constantValue := 0 }]
  methods := #[k1m0, k1m1, k1m2]
  instanceTypes := #[]
  staticTypes := #[.long]
  resolved := Array.replicate 56 none
  statics := none }

def pool2 : Array CpInfo := pool [(1, .class_ 2), (0, u "java/lang/constant/Constable"), (0, .class_ 4), (0, u "java/lang/Object")] 6

/-- java/lang/constant/Constable -/
def k2 : Class := { plain "java/lang/constant/Constable" (some 0) with
  accessFlags := 1537
  interfaces := #[]
  cf := some (fileOf pool2 1 #[] #[] 1537 3 #[] #[])
  fields := #[]
  methods := #[]
  instanceTypes := #[]
  staticTypes := #[]
  resolved := Array.replicate 11 none
  statics := none }

def pool3 : Array CpInfo := pool [(1, .class_ 2), (0, u "java/lang/Comparable"), (0, .class_ 4), (0, u "java/lang/Object")] 7

/-- java/lang/Comparable -/
def k3 : Class := { plain "java/lang/Comparable" (some 0) with
  accessFlags := 1537
  interfaces := #[]
  cf := some (fileOf pool3 1 #[] #[] 1537 3 #[] #[])
  fields := #[]
  methods := #[]
  instanceTypes := #[]
  staticTypes := #[]
  resolved := Array.replicate 12 none
  statics := none }

def pool4 : Array CpInfo := pool [(1, .class_ 2), (0, u "java/io/Serializable"), (0, .class_ 4), (0, u "java/lang/Object")] 2

/-- java/io/Serializable -/
def k4 : Class := { plain "java/io/Serializable" (some 0) with
  accessFlags := 1537
  interfaces := #[]
  cf := some (fileOf pool4 1 #[] #[] 1537 3 #[] #[])
  fields := #[]
  methods := #[]
  instanceTypes := #[]
  staticTypes := #[]
  resolved := Array.replicate 7 none
  statics := none }

def pool5 : Array CpInfo := pool [(2, .class_ 4), (1, u "java/lang/Enum"), (0, u "name"), (0, u "Ljava/lang/String;"), (2, u "ordinal"), (0, u "I"), (1, .class_ 14), (1, u "java/lang/Object"), (4, u "hash"), (86, .class_ 108), (1, u "java/lang/Enum$EnumDesc"), (2, .class_ 112), (0, u "java/lang/constant/Constable"), (0, .class_ 114), (0, u "java/lang/Comparable"), (0, .class_ 116), (0, u "java/io/Serializable")] 87

/-- java/lang/Enum -/
def k5 : Class := { plain "java/lang/Enum" (some 0) with
  accessFlags := 1057
  interfaces := #[2, 3, 4]
  cf := some (fileOf pool5 2 #[.nestMembers #[106]] #[] 1057 12 #[111, 113, 115] #[{ accessFlags := 18, nameIndex := 5, descriptorIndex := 6, attributes := #[] }, { accessFlags := 18, nameIndex := 9, descriptorIndex := 10, attributes := #[] }, { accessFlags := 2, nameIndex := 19, descriptorIndex := 10, attributes := #[] }])
  fields := #[{ name := "name", type := (.object "java/lang/String"), accessFlags := 18, slot := 0, constantValue := 0 }, { name := "ordinal", type := .int, accessFlags := 18, slot := 1, constantValue := 0 }, { name := "hash", type := .int, accessFlags := 2, slot := 2, constantValue := 0 }]
  methods := #[]
  instanceTypes := #[(.object "java/lang/String"), .int, .int]
  staticTypes := #[]
  resolved := Array.replicate 204 none
  statics := none }

def pool6 : Array CpInfo := pool [(1, .class_ 2), (0, u "com/example/meridial/meridial/adql/ValueType"), (0, .fieldref 1 4), (0, .nameAndType 5 6), (0, u "ANY"), (0, u "Lcom/example/meridial/meridial/adql/ValueType;"), (2, u "NUMBER"), (2, u "STRING"), (0, .fieldref 1 14), (0, .nameAndType 15 6), (0, u "POINT"), (0, .fieldref 1 17), (0, .nameAndType 18 6), (0, u "CIRCLE"), (0, .fieldref 1 20), (0, .nameAndType 21 6), (0, u "POLYGON"), (0, .fieldref 1 23), (0, .nameAndType 24 6), (0, u "REGION"), (0, .fieldref 1 26), (0, .nameAndType 27 6), (0, u "GEOMETRY"), (2, u "$VALUES"), (0, u "[Lcom/example/meridial/meridial/adql/ValueType;"), (6, .class_ 40), (1, u "java/lang/Enum"), (8, u "label"), (0, u "Ljava/lang/String;"), (38, u "accepts"), (0, u "(Lcom/example/meridial/meridial/adql/ValueType;)Z")] 7

def k6c0 : Code := { maxStack := 2, maxLocals := 2, code := prog_56_method_4_code, exceptionTable := #[], attributes := #[] }
def k6m0 : Method := { name := "accepts", desc := "(Lcom/example/meridial/meridial/adql/ValueType;)Z", sig := { parameters := [(.object "com/example/meridial/meridial/adql/ValueType")], returnType := some .boolean }, accessFlags := 1, code := some k6c0 }
/-- com/example/meridial/meridial/adql/ValueType -/
def k6 : Class := { plain "com/example/meridial/meridial/adql/ValueType" (some 5) with
  accessFlags := 16433
  interfaces := #[]
  cf := some (fileOf pool6 1 #[] #[{ accessFlags := 1, nameIndex := 89, descriptorIndex := 90, attributes := #[] }] 16433 38 #[] #[{ accessFlags := 16409, nameIndex := 5, descriptorIndex := 6, attributes := #[] }, { accessFlags := 16409, nameIndex := 9, descriptorIndex := 6, attributes := #[] }, { accessFlags := 16409, nameIndex := 12, descriptorIndex := 6, attributes := #[] }, { accessFlags := 16409, nameIndex := 15, descriptorIndex := 6, attributes := #[] }, { accessFlags := 16409, nameIndex := 18, descriptorIndex := 6, attributes := #[] }, { accessFlags := 16409, nameIndex := 21, descriptorIndex := 6, attributes := #[] }, { accessFlags := 16409, nameIndex := 24, descriptorIndex := 6, attributes := #[] }, { accessFlags := 16409, nameIndex := 27, descriptorIndex := 6, attributes := #[] }, { accessFlags := 18, nameIndex := 49, descriptorIndex := 50, attributes := #[] }, { accessFlags := 4122, nameIndex := 30, descriptorIndex := 31, attributes := #[] }])
  fields := #[{ name := "ANY", type := (.object "com/example/meridial/meridial/adql/ValueType"), accessFlags := 16409, slot := 0, constantValue := 0 }, { name := "NUMBER", type := (.object "com/example/meridial/meridial/adql/ValueType"), accessFlags := 16409, slot := 1, constantValue := 0 }, { name := "STRING", type := (.object "com/example/meridial/meridial/adql/ValueType"), accessFlags := 16409, slot := 2, constantValue := 0 }, { name := "POINT", type := (.object "com/example/meridial/meridial/adql/ValueType"), accessFlags := 16409, slot := 3, constantValue := 0 }, { name := "CIRCLE", type := (.object "com/example/meridial/meridial/adql/ValueType"), accessFlags := 16409, slot := 4, constantValue := 0 }, { name := "POLYGON", type := (.object "com/example/meridial/meridial/adql/ValueType"), accessFlags := 16409, slot := 5, constantValue := 0 }, { name := "REGION", type := (.object "com/example/meridial/meridial/adql/ValueType"), accessFlags := 16409, slot := 6, constantValue := 0 }, { name := "GEOMETRY", type := (.object "com/example/meridial/meridial/adql/ValueType"), accessFlags := 16409, slot := 7, constantValue := 0 }, { name := "label", type := (.object "java/lang/String"), accessFlags := 18, slot := 3, constantValue := 0 }, { name := "$VALUES", type := (.array (.object "com/example/meridial/meridial/adql/ValueType")), accessFlags := 4122, slot := 8, constantValue := 0 }]
  methods := #[k6m0]
  instanceTypes := #[(.object "java/lang/String"), .int, .int, (.object "java/lang/String")]
  staticTypes := #[(.object "com/example/meridial/meridial/adql/ValueType"), (.object "com/example/meridial/meridial/adql/ValueType"), (.object "com/example/meridial/meridial/adql/ValueType"), (.object "com/example/meridial/meridial/adql/ValueType"), (.object "com/example/meridial/meridial/adql/ValueType"), (.object "com/example/meridial/meridial/adql/ValueType"), (.object "com/example/meridial/meridial/adql/ValueType"), (.object "com/example/meridial/meridial/adql/ValueType"), (.array (.object "com/example/meridial/meridial/adql/ValueType"))]
  resolved := Array.replicate 98 none
  statics := some 0 }

def pool7 : Array CpInfo := pool [(1, u "java/lang/Cloneable"), (0, .class_ 1), (0, u "java/lang/Object"), (0, .class_ 3)] 3

/-- java/lang/Cloneable -/
def k7 : Class := { plain "java/lang/Cloneable" (some 0) with
  accessFlags := 1537
  interfaces := #[]
  cf := some (fileOf pool7 2 #[] #[] 1537 4 #[] #[])
  fields := #[]
  methods := #[]
  instanceTypes := #[]
  staticTypes := #[]
  resolved := Array.replicate 8 none
  statics := none }

/-- the primitive byte -/
def k8 : Class := { plain "byte" none with kind := .primitive 'B', accessFlags := 0x411 }
/-- [B -/
def k9 : Class := { plain "[B" (some 0) with kind := .array 8 .byte, interfaces := #[7, 4], accessFlags := 1041 }

/-- the primitive int -/
def k10 : Class := { plain "int" none with kind := .primitive 'I', accessFlags := 0x411 }
/-- [I -/
def k11 : Class := { plain "[I" (some 0) with kind := .array 10 .int, interfaces := #[7, 4], accessFlags := 1041 }

def heap : Heap := #[{ cls := 6, slots := #[.ref 1, .ref 2, .ref 3, .ref 4, .ref 5, .ref 6, .ref 7, .ref 8, .null], vm := .statics 6 },
  { cls := 6, slots := #[.null, .int 0, .int 0, .null], vm := .none },
  { cls := 6, slots := #[.null, .int 1, .int 0, .null], vm := .none },
  { cls := 6, slots := #[.null, .int 2, .int 0, .null], vm := .none },
  { cls := 6, slots := #[.null, .int 3, .int 0, .null], vm := .none },
  { cls := 6, slots := #[.null, .int 4, .int 0, .null], vm := .none },
  { cls := 6, slots := #[.null, .int 5, .int 0, .null], vm := .none },
  { cls := 6, slots := #[.null, .int 6, .int 0, .null], vm := .none },
  { cls := 6, slots := #[.null, .int 7, .int 0, .null], vm := .none }]
def classes : Array Class := #[k0, k1, k2, k3, k4, k5, k6, k7, k8, k9, k10, k11]
def interned : List (Array UInt16 × Addr) := []
def slotsUsed : Nat := 41
def theMethod : MethodId := ⟨1, 2⟩
def args0 : Array Value := #[.int 3, .int 7]
def aboutOver (below : List Frame) : State where
  vm := { classes := classes, interned := interned.toArray }
  heap := heap
  slotsUsed := slotsUsed
  threads := #[{ frames := .invoking theMethod args0 :: below }]
def below0 : List Frame := [.native { method := ⟨0, 0⟩, args := #[] }]
def about1 : State := aboutOver below0
def p0 : Program := .bare "" "" ""
def e0 : Env := launch0.env 0 0 0
theorem w_frames : about1.frames = Frame.invoking theMethod args0 :: below0 := rfl
set_option maxRecDepth 65536 in
theorem w_args : argsFit about1.vm theMethod args0 = true := by decide +kernel
set_option maxRecDepth 65536 in
theorem w_heap : heapFits about1 = true := by decide +kernel
set_option maxRecDepth 65536 in
theorem w_runnable : about1.curStatus? = some .runnable := by decide +kernel
set_option maxRecDepth 65536 in
theorem w_alone : about1.alone = true := by decide +kernel
set_option maxRecDepth 65536 in
theorem w_named : about1.methodNamed? x = some theMethod := by decide +kernel
set_option maxRecDepth 65536 in
theorem w_hears : about1.hears theMethod below0 = true := by decide +kernel
set_option maxRecDepth 65536 in
theorem w_ripe : about1.ripe theMethod args0 below0 = true := by decide +kernel
theorem w_running : about1.status = .running := rfl
set_option maxRecDepth 65536 in
theorem w_room : about1.hasRoom e0.platform room_1 = true :=
  launch0.hasRoom_least _ room_1 (by decide +kernel) (by decide +kernel) (by decide +kernel) (by decide +kernel) (by decide +kernel) (by decide +kernel)
theorem allAtoms_all (ts : List Jvm.Cond) (a : Array Jvm.Value) (st : Jvm.State) : (allAtoms ts).before a st = ts.all (fun c => c.before a st) := by
  induction ts with
  | nil => rfl
  | cons c t ih =>
    show (Jvm.Cond.and c (allAtoms t)).before a st = _
    rw [Jvm.Cond.before_and, ih, List.all_cons]
def words1 : List Jvm.Cond := Jvm.Cond.code x code maxLocals ret :: tables_1
/-- a 'code' word, met by the world's own term for the bytes: nothing is compared byte by byte -/
theorem code_word {y : MethodName} {bytes : ByteArray} {mx : Nat} {rt : Option FieldType} {a : Array Value} {s : State} {m : MethodId} {meth : Method} {c : Code} (h1 : s.methodNamed? y = some m) (h2 : s.vm.method? m = some meth) (h3 : meth.code = some c) (h4 : c.code = bytes)
    (h5 : (c.maxLocals == mx && c.exceptionTable.isEmpty && decide (c.maxStack ≤ mostOperands) && decide (meth.sig.returnType = rt) && !meth.locks && decide (parseMethodDescriptor y.desc = some meth.sig)) = true) : (Jvm.Cond.code y bytes mx rt).before a s = true := by
  simp only [Bool.and_eq_true, beq_iff_eq, Bool.not_eq_true', decide_eq_true_eq] at h5
  obtain ⟨⟨⟨⟨⟨g1, g2⟩, g3⟩, g4⟩, g5⟩, g6⟩ := h5
  simp [Cond.before, Cond.holds, Cond.value, h1, h2, h3, h4, g1, g2, g3, g4, g5, g6]
def isCode : Jvm.Cond → Bool
  | .code _ _ _ _ => true
  | _ => false
theorem all_split {L : List Jvm.Cond} {P : Jvm.Cond → Bool} (h1 : L.all (fun c => isCode c || P c) = true) (h2 : ∀ c ∈ L.filter isCode, P c = true) : L.all P = true := by
  refine List.all_eq_true.mpr fun c hc => ?_
  have h := List.all_eq_true.mp h1 c hc
  rcases Bool.eq_false_or_eq_true (isCode c) with hi | hi
  · exact h2 c (List.mem_filter.mpr ⟨hc, hi⟩)
  · simpa [hi] using h
set_option maxRecDepth 65536 in
theorem w_c0 : (Jvm.Cond.code x code maxLocals ret).before args0 about1 = true := code_word (m := ⟨1, 2⟩) (meth := k1m2) (c := k1c2) (by decide +kernel) rfl rfl rfl (by decide +kernel)
set_option maxRecDepth 65536 in
theorem w_c1 : (Jvm.Cond.code ({ cls := "com/example/meridial/meridial/adql/ValueTypeAcceptsPinLaw", name := "pick", desc := "(I)Lcom/example/meridial/meridial/adql/ValueType;" } : Jvm.MethodName) method_2_code (1 : Nat) (Option.some (Jvm.ClassFile.FieldType.object "com/example/meridial/meridial/adql/ValueType"))).before args0 about1 = true := code_word (m := ⟨1, 1⟩) (meth := k1m1) (c := k1c1) (by decide +kernel) rfl rfl rfl (by decide +kernel)
set_option maxRecDepth 65536 in
theorem w_c2 : (Jvm.Cond.code ({ cls := "com/example/meridial/meridial/adql/ValueType", name := "accepts", desc := "(Lcom/example/meridial/meridial/adql/ValueType;)Z" } : Jvm.MethodName) prog_56_method_4_code (2 : Nat) (Option.some Jvm.ClassFile.FieldType.boolean)).before args0 about1 = true := code_word (m := ⟨6, 0⟩) (meth := k6m0) (c := k6c0) (by decide +kernel) rfl rfl rfl (by decide +kernel)
def codes1 : List Jvm.Cond := [Jvm.Cond.code x code maxLocals ret, Jvm.Cond.code ({ cls := "com/example/meridial/meridial/adql/ValueTypeAcceptsPinLaw", name := "pick", desc := "(I)Lcom/example/meridial/meridial/adql/ValueType;" } : Jvm.MethodName) method_2_code (1 : Nat) (Option.some (Jvm.ClassFile.FieldType.object "com/example/meridial/meridial/adql/ValueType")), Jvm.Cond.code ({ cls := "com/example/meridial/meridial/adql/ValueType", name := "accepts", desc := "(Lcom/example/meridial/meridial/adql/ValueType;)Z" } : Jvm.MethodName) prog_56_method_4_code (2 : Nat) (Option.some Jvm.ClassFile.FieldType.boolean)]
set_option maxRecDepth 65536 in
theorem codes_eq : words1.filter isCode = codes1 := rfl
theorem w_codes : ∀ c ∈ words1.filter isCode, c.before args0 about1 = true := by
  rw [codes_eq]
  intro c hc
  simp only [codes1, List.mem_cons, List.not_mem_nil, or_false] at hc
  rcases hc with rfl | rfl | rfl
  · exact w_c0
  · exact w_c1
  · exact w_c2
set_option maxRecDepth 65536 in
theorem w_t1 : (words1.take 24).all (fun c => isCode c || c.before args0 about1) = true := by decide +kernel
set_option maxRecDepth 65536 in
theorem w_t2 : (words1.drop 24).all (fun c => isCode c || c.before args0 about1) = true := by decide +kernel
theorem w_tables : (allAtoms (Jvm.Cond.code x code maxLocals ret :: tables_1)).before args0 about1 = true := by
  rw [allAtoms_all]
  show words1.all (fun c => c.before args0 about1) = true
  refine all_split ?_ w_codes
  rw [← List.take_append_drop 24 words1, List.all_append, w_t1, w_t2]
  rfl
set_option maxRecDepth 65536 in
theorem w_case : (Jvm.Cond.and given_1 narrow_1).before args0 about1 = true := by decide +kernel
theorem w_applies : (headSpec (Jvm.Cond.code x code maxLocals ret :: tables_1) room_1).applies x e0.platform about1 = true :=
  (Spec.applies_iff w_frames).mpr ⟨w_running, w_runnable, w_alone, w_named, w_hears, w_ripe, w_room, w_tables⟩
theorem atStart : AtStart classFile x code maxLocals ret World_1 tables_1 room_1 Calls_1 rest_1 Pre_1 launch0 p0 e0 about1 theMethod args0 below0 :=
  ⟨lists_1, trivial, launch0.admits_env _ _ _, launch0.least_env, fairChoices_fair.cas, fairChoices_fair.clock, w_frames, w_args, w_heap, w_applies, trivial, trivial, w_case⟩
end start1
theorem witness_1 : WitnessClaimed_1 := ⟨start1.p0, start1.e0, start1.about1, start1.theMethod, start1.args0, start1.below0, start1.atStart⟩
end Jvm.Pilot.@@N@@
