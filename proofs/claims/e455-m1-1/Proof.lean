import JvmDerived
import JvmDerived.Pilot.@@N@@Statement
import JvmDerived.Pilot.@@N@@Code
set_option linter.unusedVariables false
set_option linter.unusedSimpArgs false
@@BLOCK:NumsL.lean.txt@@
namespace Jvm.Pilot.@@N@@
open Jvm Jvm.ClassFile Sem Op Lib Jvm.Free Jvm.Stand Jvm.LawKit Jvm.RoadKit Bundle Jvm.Pilot.@@N@@.Jvm.D

def own_G (p : Program) (e : Env) (below : List Frame) (B : State → Outcome → Prop) (U : State) : Prop := ∃ t o, Steps p.tables e below U t ∧ t.status = .running ∧ Ended t below o ∧ B t o
theorem own_via {p : Program} {e : Env} {below : List Frame} {B : State → Outcome → Prop} {U U' : State} (h : ∀ t, Steps p.tables e below U' t → Steps p.tables e below U t) (k : own_G p e below B U') : own_G p e below B U := by
  obtain ⟨t, o, a, r⟩ := k
  exact ⟨t, o, h t a, r⟩
theorem own_start {p : Program} {e : Env} {below : List Frame} {B : State → Outcome → Prop} {U : State} (k : own_G p e below B U) : ∃ t o, Steps p.tables e below U t ∧ t.status = .running ∧ Ended t below o ∧ B t o := k

theorem own_lsw {tb : Tables} [Ours tb] {e : Env} {below : List Frame} {T target : State} {m : MethodId} {c : Code} {g : JFrame} (h : At T m c below) (hx : tb.exec = Jvm.exec) (hg : g.method = m) {dflt : Int} {ps : Array (Int × Int)} {len : Nat} {o : Int} {pc0 pc' : Nat} (hpc : g.pc = pc0) (hd : decode c.code g.pc = .ok (.lookupswitch dflt ps, len)) {i : Int32} {rest : List Value} (hs : g.stack = .int i :: rest)
    (hinc : (ps.toList.zip (ps.toList.drop 1)).all (fun (a, next) => a.1 < next.1) = true) (hoff : lookupswitch.offset ps.toList dflt i.toInt = o) (ho : 0 ≤ (pc0 : Int) + o) (hp : ((pc0 : Int) + o).toNat = pc')
    (hr : Steps tb e below (T.setTop { g with pc := pc', stack := rest }) target) : Steps tb e below (T.setTop g) target := by
  subst hg hpc hp hoff
  jvm_step h [h.top, hx, hd, hs, ho, lookupswitch.wp_chain]
  exact ⟨by simpa using hinc, hr⟩

def own_of (c : Int32) (w0 w1 w2 w3 w4 w5 w6 : Addr) : Addr := if c = -6 then w2 else if c = -5 then w0 else if c = 2 then w3 else if c = 3 then w3 else if c = 4 then w1 else if c = 5 then w2 else if c = 6 then w3 else if c = 7 then w4 else if c = 8 then w3 else if c = 93 then w5 else w6
def own_ex (c : Int32) (w0 w1 w2 w3 w4 w5 w6 : Addr) : Addr := if c = -5 then w0 else if c = 4 then w1 else if c = 5 then w2 else if c = -6 then w2 else if c = 8 then w3 else if c = 6 then w3 else if c = 3 then w3 else if c = 2 then w3 else if c = 7 then w4 else if c = 93 then w5 else w6
theorem own_same (c : Int32) (w0 w1 w2 w3 w4 w5 w6 : Addr) : own_of c w0 w1 w2 w3 w4 w5 w6 = own_ex c w0 w1 w2 w3 w4 w5 w6 := by
  by_cases a0 : c = (-6 : Int32)
  · subst a0; rfl
  · skip
    by_cases a1 : c = (-5 : Int32)
    · subst a1; rfl
    · skip
      by_cases a2 : c = (2 : Int32)
      · subst a2; rfl
      · skip
        by_cases a3 : c = (3 : Int32)
        · subst a3; rfl
        · skip
          by_cases a4 : c = (4 : Int32)
          · subst a4; rfl
          · skip
            by_cases a5 : c = (5 : Int32)
            · subst a5; rfl
            · skip
              by_cases a6 : c = (6 : Int32)
              · subst a6; rfl
              · skip
                by_cases a7 : c = (7 : Int32)
                · subst a7; rfl
                · skip
                  by_cases a8 : c = (8 : Int32)
                  · subst a8; rfl
                  · skip
                    by_cases a9 : c = (93 : Int32)
                    · subst a9; rfl
                    · skip
                      simp only [own_of, own_ex, if_neg a0, if_neg a1, if_neg a2, if_neg a3, if_neg a4, if_neg a5, if_neg a6, if_neg a7, if_neg a8, if_neg a9]
theorem own_off_0 {c : Int32} (h : c = -6) : lookupswitch.offset ([(-6, 105), (-5, 91), (2, 112), (3, 112), (4, 98), (5, 105), (6, 112), (7, 119), (8, 112), (93, 126)] : List (Int × Int)) 133 c.toInt = 105 := by subst h; decide +kernel
theorem own_off_1 {c : Int32} (h : c = -5) : lookupswitch.offset ([(-6, 105), (-5, 91), (2, 112), (3, 112), (4, 98), (5, 105), (6, 112), (7, 119), (8, 112), (93, 126)] : List (Int × Int)) 133 c.toInt = 91 := by subst h; decide +kernel
theorem own_off_2 {c : Int32} (h : c = 2) : lookupswitch.offset ([(-6, 105), (-5, 91), (2, 112), (3, 112), (4, 98), (5, 105), (6, 112), (7, 119), (8, 112), (93, 126)] : List (Int × Int)) 133 c.toInt = 112 := by subst h; decide +kernel
theorem own_off_3 {c : Int32} (h : c = 3) : lookupswitch.offset ([(-6, 105), (-5, 91), (2, 112), (3, 112), (4, 98), (5, 105), (6, 112), (7, 119), (8, 112), (93, 126)] : List (Int × Int)) 133 c.toInt = 112 := by subst h; decide +kernel
theorem own_off_4 {c : Int32} (h : c = 4) : lookupswitch.offset ([(-6, 105), (-5, 91), (2, 112), (3, 112), (4, 98), (5, 105), (6, 112), (7, 119), (8, 112), (93, 126)] : List (Int × Int)) 133 c.toInt = 98 := by subst h; decide +kernel
theorem own_off_5 {c : Int32} (h : c = 5) : lookupswitch.offset ([(-6, 105), (-5, 91), (2, 112), (3, 112), (4, 98), (5, 105), (6, 112), (7, 119), (8, 112), (93, 126)] : List (Int × Int)) 133 c.toInt = 105 := by subst h; decide +kernel
theorem own_off_6 {c : Int32} (h : c = 6) : lookupswitch.offset ([(-6, 105), (-5, 91), (2, 112), (3, 112), (4, 98), (5, 105), (6, 112), (7, 119), (8, 112), (93, 126)] : List (Int × Int)) 133 c.toInt = 112 := by subst h; decide +kernel
theorem own_off_7 {c : Int32} (h : c = 7) : lookupswitch.offset ([(-6, 105), (-5, 91), (2, 112), (3, 112), (4, 98), (5, 105), (6, 112), (7, 119), (8, 112), (93, 126)] : List (Int × Int)) 133 c.toInt = 119 := by subst h; decide +kernel
theorem own_off_8 {c : Int32} (h : c = 8) : lookupswitch.offset ([(-6, 105), (-5, 91), (2, 112), (3, 112), (4, 98), (5, 105), (6, 112), (7, 119), (8, 112), (93, 126)] : List (Int × Int)) 133 c.toInt = 112 := by subst h; decide +kernel
theorem own_off_9 {c : Int32} (h : c = 93) : lookupswitch.offset ([(-6, 105), (-5, 91), (2, 112), (3, 112), (4, 98), (5, 105), (6, 112), (7, 119), (8, 112), (93, 126)] : List (Int × Int)) 133 c.toInt = 126 := by subst h; decide +kernel
theorem own_off_d {c : Int32} (h0 : ¬ c = -6) (h1 : ¬ c = -5) (h2 : ¬ c = 2) (h3 : ¬ c = 3) (h4 : ¬ c = 4) (h5 : ¬ c = 5) (h6 : ¬ c = 6) (h7 : ¬ c = 7) (h8 : ¬ c = 8) (h9 : ¬ c = 93) : lookupswitch.offset ([(-6, 105), (-5, 91), (2, 112), (3, 112), (4, 98), (5, 105), (6, 112), (7, 119), (8, 112), (93, 126)] : List (Int × Int)) 133 c.toInt = 133 := by
  have q : ∀ k : Int32, ¬ c = k → ¬ (k.toInt = c.toInt) := fun k h e => h (Int32.toInt_inj.mp e).symm
  have g0 : ¬ ((-6 : Int) = c.toInt) := q _ h0
  have g1 : ¬ ((-5 : Int) = c.toInt) := q _ h1
  have g2 : ¬ ((2 : Int) = c.toInt) := q _ h2
  have g3 : ¬ ((3 : Int) = c.toInt) := q _ h3
  have g4 : ¬ ((4 : Int) = c.toInt) := q _ h4
  have g5 : ¬ ((5 : Int) = c.toInt) := q _ h5
  have g6 : ¬ ((6 : Int) = c.toInt) := q _ h6
  have g7 : ¬ ((7 : Int) = c.toInt) := q _ h7
  have g8 : ¬ ((8 : Int) = c.toInt) := q _ h8
  have g9 : ¬ ((93 : Int) = c.toInt) := q _ h9
  simp only [lookupswitch.offset, g0, g1, g2, g3, g4, g5, g6, g7, g8, g9, if_false]
theorem d1_0 : decode prog_88_method_4_code 0 = .ok (.iload_n 0, 1) := by decide +kernel
theorem d1_1 : decode prog_88_method_4_code 1 = .ok (.lookupswitch 133 #[(-6, 105), (-5, 91), (2, 112), (3, 112), (4, 98), (5, 105), (6, 112), (7, 119), (8, 112), (93, 126)], 91) := by decide +kernel
theorem d1_92 : decode prog_88_method_4_code 92 = .ok (.getstatic 3, 3) := by decide +kernel
theorem d1_95 : decode prog_88_method_4_code 95 = .ok (.astore_n 1, 1) := by decide +kernel
theorem d1_96 : decode prog_88_method_4_code 96 = .ok (.goto 42, 3) := by decide +kernel
theorem d1_99 : decode prog_88_method_4_code 99 = .ok (.getstatic 7, 3) := by decide +kernel
theorem d1_102 : decode prog_88_method_4_code 102 = .ok (.astore_n 1, 1) := by decide +kernel
theorem d1_103 : decode prog_88_method_4_code 103 = .ok (.goto 35, 3) := by decide +kernel
theorem d1_106 : decode prog_88_method_4_code 106 = .ok (.getstatic 10, 3) := by decide +kernel
theorem d1_109 : decode prog_88_method_4_code 109 = .ok (.astore_n 1, 1) := by decide +kernel
theorem d1_110 : decode prog_88_method_4_code 110 = .ok (.goto 28, 3) := by decide +kernel
theorem d1_113 : decode prog_88_method_4_code 113 = .ok (.getstatic 13, 3) := by decide +kernel
theorem d1_116 : decode prog_88_method_4_code 116 = .ok (.astore_n 1, 1) := by decide +kernel
theorem d1_117 : decode prog_88_method_4_code 117 = .ok (.goto 21, 3) := by decide +kernel
theorem d1_120 : decode prog_88_method_4_code 120 = .ok (.getstatic 16, 3) := by decide +kernel
theorem d1_123 : decode prog_88_method_4_code 123 = .ok (.astore_n 1, 1) := by decide +kernel
theorem d1_124 : decode prog_88_method_4_code 124 = .ok (.goto 14, 3) := by decide +kernel
theorem d1_127 : decode prog_88_method_4_code 127 = .ok (.getstatic 22, 3) := by decide +kernel
theorem d1_130 : decode prog_88_method_4_code 130 = .ok (.astore_n 1, 1) := by decide +kernel
theorem d1_131 : decode prog_88_method_4_code 131 = .ok (.goto 7, 3) := by decide +kernel
theorem d1_134 : decode prog_88_method_4_code 134 = .ok (.getstatic 19, 3) := by decide +kernel
theorem d1_137 : decode prog_88_method_4_code 137 = .ok (.astore_n 1, 1) := by decide +kernel
theorem d1_138 : decode prog_88_method_4_code 138 = .ok (.aload_n 1, 1) := by decide +kernel
theorem d1_139 : decode prog_88_method_4_code 139 = .ok (.areturn, 1) := by decide +kernel
theorem rm1_pn : plainName "com/example/meridial/meridial/tables/ColumnType" = true := by first | (simp [plainName, overriddenIn]; done) | decide +kernel
theorem rm1_ef (m : MethodId) (z0 : Int32) : entryFrame m #[(.int z0)] 2 = mkF m 0 #[.val (.int z0), .unset] [] := by first | (simp [entryFrame, mkF, argsToLocals, Value.category]; done) | rfl
def rm1_Q (Z : State) (p1 : Int32) (w0 : Addr) (w1 : Addr) (w2 : Addr) (w3 : Addr) (w4 : Addr) (w5 : Addr) (w6 : Addr) (h0 : Heap) (n0 : Nat) (v : Option Value) (h : Heap) (L : List Loc) : Prop := v = some (.ref (own_of p1 w0 w1 w2 w3 w4 w5 w6)) ∧ Fr n0 L ∧ h = h0
set_option maxRecDepth 65536 in
set_option maxHeartbeats 40000000 in
theorem rm1 (l : Launch) (Z : State) (a0 : Array Value) (hw : ∀ d ∈ tables_1, d.before a0 Z = true) (ws : List Jvm.Cond) (p1 : Int32) (w0 : Addr) (w1 : Addr) (w2 : Addr) (w3 : Addr) (w4 : Addr) (w5 : Addr) (w6 : Addr) (h0 : Heap) (n0 : Nat) (Z0 : n0 ≤ h0.size) (S_LONG : Sta Z h0 "com/example/meridial/meridial/tables/ColumnType" "LONG" "Lcom/example/meridial/meridial/tables/ColumnType;" (.ref w0)) (S_INT : Sta Z h0 "com/example/meridial/meridial/tables/ColumnType" "INT" "Lcom/example/meridial/meridial/tables/ColumnType;" (.ref w1)) (S_SHORT : Sta Z h0 "com/example/meridial/meridial/tables/ColumnType" "SHORT" "Lcom/example/meridial/meridial/tables/ColumnType;" (.ref w2)) (S_DOUBLE : Sta Z h0 "com/example/meridial/meridial/tables/ColumnType" "DOUBLE" "Lcom/example/meridial/meridial/tables/ColumnType;" (.ref w3)) (S_FLOAT : Sta Z h0 "com/example/meridial/meridial/tables/ColumnType" "FLOAT" "Lcom/example/meridial/meridial/tables/ColumnType;" (.ref w4)) (S_TIMESTAMP : Sta Z h0 "com/example/meridial/meridial/tables/ColumnType" "TIMESTAMP" "Lcom/example/meridial/meridial/tables/ColumnType;" (.ref w5)) (S_TEXT : Sta Z h0 "com/example/meridial/meridial/tables/ColumnType" "TEXT" "Lcom/example/meridial/meridial/tables/ColumnType;" (.ref w6)) :
    MetFree l (⟨"com/example/meridial/meridial/tables/ColumnType", "ofJdbcType", "(I)Lcom/example/meridial/meridial/tables/ColumnType;"⟩ : MethodName) (head1 (Jvm.Cond.code (⟨"com/example/meridial/meridial/tables/ColumnType", "ofJdbcType", "(I)Lcom/example/meridial/meridial/tables/ColumnType;"⟩ : MethodName) prog_88_method_4_code 2 (some (.object "com/example/meridial/meridial/tables/ColumnType")) :: ws) ({ frames := 0, cells := 0, slots := 0, locals := 0 } : Room)) (fun a U => a = #[(.int p1)] ∧ Z.Warmed39 U.vm ∧ U.heap = h0) (fun _ _ _ _ _ => True) (fun _ U o U' => ∃ v L, o = .returned v ∧ rm1_Q Z p1 w0 w1 w2 w3 w4 w5 w6 h0 n0 v U'.heap L ∧ FrameEnd U o U' L ({ frames := 0, cells := 0, slots := 0, locals := 0 } : Room).cells ({ frames := 0, cells := 0, slots := 0, locals := 0 } : Room).slots) := by
  refine MetFree.of_bodySF (plainFor_of_name rm1_pn) hisR ?_
  intro p e s m args below meth c s₁ Bd hml0 hP hK
  obtain ⟨rfl, hZ, hh⟩ := hP
  have hx := Bd.exec
  have hby := Bd.bytes
  have hml : c.maxLocals = 2 := hml0
  have hown : s.vm.findClass "com/example/meridial/meridial/tables/ColumnType" = some m.cls := findClass_of_methodNamed Bd.named
  have hnm := (name_of_methodNamed Bd.named Bd.method).1
  have X0 : Stand p l e ({ frames := 0, cells := 0, slots := 0, locals := 0 } : Room) s m #[(.int p1)] below meth c s₁ [] 0 0 := Stand.of_body Bd
  have e0 : s₁.heap = h0 := by rw [← hh, Bd.state]; rfl
  have N0 := Fr.nil n0
  refine own_via (fun t k => castTop (rm1_ef m p1) k) ?_
  show own_G p e below _ (s₁.setTop (mkF m 0 #[.val (.int p1), .unset] []))
  refine own_via (fun t k => XS.iloadN X0.here hx rfl (hb hby d1_0) rfl k) ?_
  show own_G p e below _ (s₁.setTop (mkF m 1 #[.val (.int p1), .unset] [(.int p1)]))
  by_cases c1_1 : p1 = (-6 : Int32)
  · skip
    refine own_via (fun t k => own_lsw X0.here hx rfl (pc0 := 1) (pc' := 106) rfl (hb hby d1_1) rfl (by decide) (own_off_0 c1_1) (by decide) (by decide) k) ?_
    show own_G p e below _ (s₁.setTop (mkF m 106 #[.val (.int p1), .unset] []))
    obtain ⟨T2, X2, e2, st2⟩ := getS2 X0 hx hZ hown (host := "") (Or.inl (hw _ (List.mem_of_getElem? (i := 5) rfl))) Via.refl e0 S_SHORT (g := (mkF m 106 #[.val (.int p1), .unset] [])) rfl (hb hby d1_106)
    refine own_via st2 ?_
    show own_G p e below _ (T2.setTop (mkF m 109 #[.val (.int p1), .unset] [(.ref w2)]))
    refine own_via (fun t k => XS.astoreN X2.here hx rfl (hb hby d1_109) rfl rfl (l' := #[.val (.int p1), .val (.ref w2)]) rfl k) ?_
    show own_G p e below _ (T2.setTop (mkF m 110 #[.val (.int p1), .val (.ref w2)] []))
    refine own_via (fun t k => XS.goto X2.here hx rfl (pc0 := 110) (pc' := 138) rfl (hb hby d1_110) (by decide) (by decide) k) ?_
    show own_G p e below _ (T2.setTop (mkF m 138 #[.val (.int p1), .val (.ref w2)] []))
    refine own_via (fun t k => XS.aloadN X2.here hx rfl (hb hby d1_138) rfl rfl k) ?_
    show own_G p e below _ (T2.setTop (mkF m 139 #[.val (.int p1), .val (.ref w2)] [(.ref w2)]))
    obtain ⟨fs, hr, hrun, hended, hW, hsame⟩ := X2.leave (v := some (.ref w2)) (fun h => by rw [Bd.returns] at h; cases h)
    refine ⟨_, _, retOut X2 hx Bd.returns rfl (Or.inr (Or.inr (Or.inr (Or.inr ⟨rfl, rfl, rfl⟩)))) (hb hby d1_139) hr, hrun, hended, _, _, rfl, ?_, ⟨_, rfl⟩, hW, hsame.mono (by decide) (by decide)⟩
    show rm1_Q Z p1 w0 w1 w2 w3 w4 w5 w6 h0 n0 _ T2.heap _
    rw [e2]
    exact ⟨by simp only [own_of, if_pos c1_1], N0, rfl⟩
  · skip
    by_cases c1_3 : p1 = (-5 : Int32)
    · skip
      refine own_via (fun t k => own_lsw X0.here hx rfl (pc0 := 1) (pc' := 92) rfl (hb hby d1_1) rfl (by decide) (own_off_1 c1_3) (by decide) (by decide) k) ?_
      show own_G p e below _ (s₁.setTop (mkF m 92 #[.val (.int p1), .unset] []))
      obtain ⟨T4, X4, e4, st4⟩ := getS2 X0 hx hZ hown (host := "") (Or.inl (hw _ (List.mem_of_getElem? (i := 18) rfl))) Via.refl e0 S_LONG (g := (mkF m 92 #[.val (.int p1), .unset] [])) rfl (hb hby d1_92)
      refine own_via st4 ?_
      show own_G p e below _ (T4.setTop (mkF m 95 #[.val (.int p1), .unset] [(.ref w0)]))
      refine own_via (fun t k => XS.astoreN X4.here hx rfl (hb hby d1_95) rfl rfl (l' := #[.val (.int p1), .val (.ref w0)]) rfl k) ?_
      show own_G p e below _ (T4.setTop (mkF m 96 #[.val (.int p1), .val (.ref w0)] []))
      refine own_via (fun t k => XS.goto X4.here hx rfl (pc0 := 96) (pc' := 138) rfl (hb hby d1_96) (by decide) (by decide) k) ?_
      show own_G p e below _ (T4.setTop (mkF m 138 #[.val (.int p1), .val (.ref w0)] []))
      refine own_via (fun t k => XS.aloadN X4.here hx rfl (hb hby d1_138) rfl rfl k) ?_
      show own_G p e below _ (T4.setTop (mkF m 139 #[.val (.int p1), .val (.ref w0)] [(.ref w0)]))
      obtain ⟨fs, hr, hrun, hended, hW, hsame⟩ := X4.leave (v := some (.ref w0)) (fun h => by rw [Bd.returns] at h; cases h)
      refine ⟨_, _, retOut X4 hx Bd.returns rfl (Or.inr (Or.inr (Or.inr (Or.inr ⟨rfl, rfl, rfl⟩)))) (hb hby d1_139) hr, hrun, hended, _, _, rfl, ?_, ⟨_, rfl⟩, hW, hsame.mono (by decide) (by decide)⟩
      show rm1_Q Z p1 w0 w1 w2 w3 w4 w5 w6 h0 n0 _ T4.heap _
      rw [e4]
      exact ⟨by simp only [own_of, if_neg c1_1, if_pos c1_3], N0, rfl⟩
    · skip
      by_cases c1_5 : p1 = (2 : Int32)
      · skip
        refine own_via (fun t k => own_lsw X0.here hx rfl (pc0 := 1) (pc' := 113) rfl (hb hby d1_1) rfl (by decide) (own_off_2 c1_5) (by decide) (by decide) k) ?_
        show own_G p e below _ (s₁.setTop (mkF m 113 #[.val (.int p1), .unset] []))
        obtain ⟨T6, X6, e6, st6⟩ := getS2 X0 hx hZ hown (host := "") (Or.inl (hw _ (List.mem_of_getElem? (i := 15) rfl))) Via.refl e0 S_DOUBLE (g := (mkF m 113 #[.val (.int p1), .unset] [])) rfl (hb hby d1_113)
        refine own_via st6 ?_
        show own_G p e below _ (T6.setTop (mkF m 116 #[.val (.int p1), .unset] [(.ref w3)]))
        refine own_via (fun t k => XS.astoreN X6.here hx rfl (hb hby d1_116) rfl rfl (l' := #[.val (.int p1), .val (.ref w3)]) rfl k) ?_
        show own_G p e below _ (T6.setTop (mkF m 117 #[.val (.int p1), .val (.ref w3)] []))
        refine own_via (fun t k => XS.goto X6.here hx rfl (pc0 := 117) (pc' := 138) rfl (hb hby d1_117) (by decide) (by decide) k) ?_
        show own_G p e below _ (T6.setTop (mkF m 138 #[.val (.int p1), .val (.ref w3)] []))
        refine own_via (fun t k => XS.aloadN X6.here hx rfl (hb hby d1_138) rfl rfl k) ?_
        show own_G p e below _ (T6.setTop (mkF m 139 #[.val (.int p1), .val (.ref w3)] [(.ref w3)]))
        obtain ⟨fs, hr, hrun, hended, hW, hsame⟩ := X6.leave (v := some (.ref w3)) (fun h => by rw [Bd.returns] at h; cases h)
        refine ⟨_, _, retOut X6 hx Bd.returns rfl (Or.inr (Or.inr (Or.inr (Or.inr ⟨rfl, rfl, rfl⟩)))) (hb hby d1_139) hr, hrun, hended, _, _, rfl, ?_, ⟨_, rfl⟩, hW, hsame.mono (by decide) (by decide)⟩
        show rm1_Q Z p1 w0 w1 w2 w3 w4 w5 w6 h0 n0 _ T6.heap _
        rw [e6]
        exact ⟨by simp only [own_of, if_neg c1_1, if_neg c1_3, if_pos c1_5], N0, rfl⟩
      · skip
        by_cases c1_7 : p1 = (3 : Int32)
        · skip
          refine own_via (fun t k => own_lsw X0.here hx rfl (pc0 := 1) (pc' := 113) rfl (hb hby d1_1) rfl (by decide) (own_off_3 c1_7) (by decide) (by decide) k) ?_
          show own_G p e below _ (s₁.setTop (mkF m 113 #[.val (.int p1), .unset] []))
          obtain ⟨T8, X8, e8, st8⟩ := getS2 X0 hx hZ hown (host := "") (Or.inl (hw _ (List.mem_of_getElem? (i := 15) rfl))) Via.refl e0 S_DOUBLE (g := (mkF m 113 #[.val (.int p1), .unset] [])) rfl (hb hby d1_113)
          refine own_via st8 ?_
          show own_G p e below _ (T8.setTop (mkF m 116 #[.val (.int p1), .unset] [(.ref w3)]))
          refine own_via (fun t k => XS.astoreN X8.here hx rfl (hb hby d1_116) rfl rfl (l' := #[.val (.int p1), .val (.ref w3)]) rfl k) ?_
          show own_G p e below _ (T8.setTop (mkF m 117 #[.val (.int p1), .val (.ref w3)] []))
          refine own_via (fun t k => XS.goto X8.here hx rfl (pc0 := 117) (pc' := 138) rfl (hb hby d1_117) (by decide) (by decide) k) ?_
          show own_G p e below _ (T8.setTop (mkF m 138 #[.val (.int p1), .val (.ref w3)] []))
          refine own_via (fun t k => XS.aloadN X8.here hx rfl (hb hby d1_138) rfl rfl k) ?_
          show own_G p e below _ (T8.setTop (mkF m 139 #[.val (.int p1), .val (.ref w3)] [(.ref w3)]))
          obtain ⟨fs, hr, hrun, hended, hW, hsame⟩ := X8.leave (v := some (.ref w3)) (fun h => by rw [Bd.returns] at h; cases h)
          refine ⟨_, _, retOut X8 hx Bd.returns rfl (Or.inr (Or.inr (Or.inr (Or.inr ⟨rfl, rfl, rfl⟩)))) (hb hby d1_139) hr, hrun, hended, _, _, rfl, ?_, ⟨_, rfl⟩, hW, hsame.mono (by decide) (by decide)⟩
          show rm1_Q Z p1 w0 w1 w2 w3 w4 w5 w6 h0 n0 _ T8.heap _
          rw [e8]
          exact ⟨by simp only [own_of, if_neg c1_1, if_neg c1_3, if_neg c1_5, if_pos c1_7], N0, rfl⟩
        · skip
          by_cases c1_9 : p1 = (4 : Int32)
          · skip
            refine own_via (fun t k => own_lsw X0.here hx rfl (pc0 := 1) (pc' := 99) rfl (hb hby d1_1) rfl (by decide) (own_off_4 c1_9) (by decide) (by decide) k) ?_
            show own_G p e below _ (s₁.setTop (mkF m 99 #[.val (.int p1), .unset] []))
            obtain ⟨T10, X10, e10, st10⟩ := getS2 X0 hx hZ hown (host := "") (Or.inl (hw _ (List.mem_of_getElem? (i := 12) rfl))) Via.refl e0 S_INT (g := (mkF m 99 #[.val (.int p1), .unset] [])) rfl (hb hby d1_99)
            refine own_via st10 ?_
            show own_G p e below _ (T10.setTop (mkF m 102 #[.val (.int p1), .unset] [(.ref w1)]))
            refine own_via (fun t k => XS.astoreN X10.here hx rfl (hb hby d1_102) rfl rfl (l' := #[.val (.int p1), .val (.ref w1)]) rfl k) ?_
            show own_G p e below _ (T10.setTop (mkF m 103 #[.val (.int p1), .val (.ref w1)] []))
            refine own_via (fun t k => XS.goto X10.here hx rfl (pc0 := 103) (pc' := 138) rfl (hb hby d1_103) (by decide) (by decide) k) ?_
            show own_G p e below _ (T10.setTop (mkF m 138 #[.val (.int p1), .val (.ref w1)] []))
            refine own_via (fun t k => XS.aloadN X10.here hx rfl (hb hby d1_138) rfl rfl k) ?_
            show own_G p e below _ (T10.setTop (mkF m 139 #[.val (.int p1), .val (.ref w1)] [(.ref w1)]))
            obtain ⟨fs, hr, hrun, hended, hW, hsame⟩ := X10.leave (v := some (.ref w1)) (fun h => by rw [Bd.returns] at h; cases h)
            refine ⟨_, _, retOut X10 hx Bd.returns rfl (Or.inr (Or.inr (Or.inr (Or.inr ⟨rfl, rfl, rfl⟩)))) (hb hby d1_139) hr, hrun, hended, _, _, rfl, ?_, ⟨_, rfl⟩, hW, hsame.mono (by decide) (by decide)⟩
            show rm1_Q Z p1 w0 w1 w2 w3 w4 w5 w6 h0 n0 _ T10.heap _
            rw [e10]
            exact ⟨by simp only [own_of, if_neg c1_1, if_neg c1_3, if_neg c1_5, if_neg c1_7, if_pos c1_9], N0, rfl⟩
          · skip
            by_cases c1_11 : p1 = (5 : Int32)
            · skip
              refine own_via (fun t k => own_lsw X0.here hx rfl (pc0 := 1) (pc' := 106) rfl (hb hby d1_1) rfl (by decide) (own_off_5 c1_11) (by decide) (by decide) k) ?_
              show own_G p e below _ (s₁.setTop (mkF m 106 #[.val (.int p1), .unset] []))
              obtain ⟨T12, X12, e12, st12⟩ := getS2 X0 hx hZ hown (host := "") (Or.inl (hw _ (List.mem_of_getElem? (i := 5) rfl))) Via.refl e0 S_SHORT (g := (mkF m 106 #[.val (.int p1), .unset] [])) rfl (hb hby d1_106)
              refine own_via st12 ?_
              show own_G p e below _ (T12.setTop (mkF m 109 #[.val (.int p1), .unset] [(.ref w2)]))
              refine own_via (fun t k => XS.astoreN X12.here hx rfl (hb hby d1_109) rfl rfl (l' := #[.val (.int p1), .val (.ref w2)]) rfl k) ?_
              show own_G p e below _ (T12.setTop (mkF m 110 #[.val (.int p1), .val (.ref w2)] []))
              refine own_via (fun t k => XS.goto X12.here hx rfl (pc0 := 110) (pc' := 138) rfl (hb hby d1_110) (by decide) (by decide) k) ?_
              show own_G p e below _ (T12.setTop (mkF m 138 #[.val (.int p1), .val (.ref w2)] []))
              refine own_via (fun t k => XS.aloadN X12.here hx rfl (hb hby d1_138) rfl rfl k) ?_
              show own_G p e below _ (T12.setTop (mkF m 139 #[.val (.int p1), .val (.ref w2)] [(.ref w2)]))
              obtain ⟨fs, hr, hrun, hended, hW, hsame⟩ := X12.leave (v := some (.ref w2)) (fun h => by rw [Bd.returns] at h; cases h)
              refine ⟨_, _, retOut X12 hx Bd.returns rfl (Or.inr (Or.inr (Or.inr (Or.inr ⟨rfl, rfl, rfl⟩)))) (hb hby d1_139) hr, hrun, hended, _, _, rfl, ?_, ⟨_, rfl⟩, hW, hsame.mono (by decide) (by decide)⟩
              show rm1_Q Z p1 w0 w1 w2 w3 w4 w5 w6 h0 n0 _ T12.heap _
              rw [e12]
              exact ⟨by simp only [own_of, if_neg c1_1, if_neg c1_3, if_neg c1_5, if_neg c1_7, if_neg c1_9, if_pos c1_11], N0, rfl⟩
            · skip
              by_cases c1_13 : p1 = (6 : Int32)
              · skip
                refine own_via (fun t k => own_lsw X0.here hx rfl (pc0 := 1) (pc' := 113) rfl (hb hby d1_1) rfl (by decide) (own_off_6 c1_13) (by decide) (by decide) k) ?_
                show own_G p e below _ (s₁.setTop (mkF m 113 #[.val (.int p1), .unset] []))
                obtain ⟨T14, X14, e14, st14⟩ := getS2 X0 hx hZ hown (host := "") (Or.inl (hw _ (List.mem_of_getElem? (i := 15) rfl))) Via.refl e0 S_DOUBLE (g := (mkF m 113 #[.val (.int p1), .unset] [])) rfl (hb hby d1_113)
                refine own_via st14 ?_
                show own_G p e below _ (T14.setTop (mkF m 116 #[.val (.int p1), .unset] [(.ref w3)]))
                refine own_via (fun t k => XS.astoreN X14.here hx rfl (hb hby d1_116) rfl rfl (l' := #[.val (.int p1), .val (.ref w3)]) rfl k) ?_
                show own_G p e below _ (T14.setTop (mkF m 117 #[.val (.int p1), .val (.ref w3)] []))
                refine own_via (fun t k => XS.goto X14.here hx rfl (pc0 := 117) (pc' := 138) rfl (hb hby d1_117) (by decide) (by decide) k) ?_
                show own_G p e below _ (T14.setTop (mkF m 138 #[.val (.int p1), .val (.ref w3)] []))
                refine own_via (fun t k => XS.aloadN X14.here hx rfl (hb hby d1_138) rfl rfl k) ?_
                show own_G p e below _ (T14.setTop (mkF m 139 #[.val (.int p1), .val (.ref w3)] [(.ref w3)]))
                obtain ⟨fs, hr, hrun, hended, hW, hsame⟩ := X14.leave (v := some (.ref w3)) (fun h => by rw [Bd.returns] at h; cases h)
                refine ⟨_, _, retOut X14 hx Bd.returns rfl (Or.inr (Or.inr (Or.inr (Or.inr ⟨rfl, rfl, rfl⟩)))) (hb hby d1_139) hr, hrun, hended, _, _, rfl, ?_, ⟨_, rfl⟩, hW, hsame.mono (by decide) (by decide)⟩
                show rm1_Q Z p1 w0 w1 w2 w3 w4 w5 w6 h0 n0 _ T14.heap _
                rw [e14]
                exact ⟨by simp only [own_of, if_neg c1_1, if_neg c1_3, if_neg c1_5, if_neg c1_7, if_neg c1_9, if_neg c1_11, if_pos c1_13], N0, rfl⟩
              · skip
                by_cases c1_15 : p1 = (7 : Int32)
                · skip
                  refine own_via (fun t k => own_lsw X0.here hx rfl (pc0 := 1) (pc' := 120) rfl (hb hby d1_1) rfl (by decide) (own_off_7 c1_15) (by decide) (by decide) k) ?_
                  show own_G p e below _ (s₁.setTop (mkF m 120 #[.val (.int p1), .unset] []))
                  obtain ⟨T16, X16, e16, st16⟩ := getS2 X0 hx hZ hown (host := "") (Or.inl (hw _ (List.mem_of_getElem? (i := 27) rfl))) Via.refl e0 S_FLOAT (g := (mkF m 120 #[.val (.int p1), .unset] [])) rfl (hb hby d1_120)
                  refine own_via st16 ?_
                  show own_G p e below _ (T16.setTop (mkF m 123 #[.val (.int p1), .unset] [(.ref w4)]))
                  refine own_via (fun t k => XS.astoreN X16.here hx rfl (hb hby d1_123) rfl rfl (l' := #[.val (.int p1), .val (.ref w4)]) rfl k) ?_
                  show own_G p e below _ (T16.setTop (mkF m 124 #[.val (.int p1), .val (.ref w4)] []))
                  refine own_via (fun t k => XS.goto X16.here hx rfl (pc0 := 124) (pc' := 138) rfl (hb hby d1_124) (by decide) (by decide) k) ?_
                  show own_G p e below _ (T16.setTop (mkF m 138 #[.val (.int p1), .val (.ref w4)] []))
                  refine own_via (fun t k => XS.aloadN X16.here hx rfl (hb hby d1_138) rfl rfl k) ?_
                  show own_G p e below _ (T16.setTop (mkF m 139 #[.val (.int p1), .val (.ref w4)] [(.ref w4)]))
                  obtain ⟨fs, hr, hrun, hended, hW, hsame⟩ := X16.leave (v := some (.ref w4)) (fun h => by rw [Bd.returns] at h; cases h)
                  refine ⟨_, _, retOut X16 hx Bd.returns rfl (Or.inr (Or.inr (Or.inr (Or.inr ⟨rfl, rfl, rfl⟩)))) (hb hby d1_139) hr, hrun, hended, _, _, rfl, ?_, ⟨_, rfl⟩, hW, hsame.mono (by decide) (by decide)⟩
                  show rm1_Q Z p1 w0 w1 w2 w3 w4 w5 w6 h0 n0 _ T16.heap _
                  rw [e16]
                  exact ⟨by simp only [own_of, if_neg c1_1, if_neg c1_3, if_neg c1_5, if_neg c1_7, if_neg c1_9, if_neg c1_11, if_neg c1_13, if_pos c1_15], N0, rfl⟩
                · skip
                  by_cases c1_17 : p1 = (8 : Int32)
                  · skip
                    refine own_via (fun t k => own_lsw X0.here hx rfl (pc0 := 1) (pc' := 113) rfl (hb hby d1_1) rfl (by decide) (own_off_8 c1_17) (by decide) (by decide) k) ?_
                    show own_G p e below _ (s₁.setTop (mkF m 113 #[.val (.int p1), .unset] []))
                    obtain ⟨T18, X18, e18, st18⟩ := getS2 X0 hx hZ hown (host := "") (Or.inl (hw _ (List.mem_of_getElem? (i := 15) rfl))) Via.refl e0 S_DOUBLE (g := (mkF m 113 #[.val (.int p1), .unset] [])) rfl (hb hby d1_113)
                    refine own_via st18 ?_
                    show own_G p e below _ (T18.setTop (mkF m 116 #[.val (.int p1), .unset] [(.ref w3)]))
                    refine own_via (fun t k => XS.astoreN X18.here hx rfl (hb hby d1_116) rfl rfl (l' := #[.val (.int p1), .val (.ref w3)]) rfl k) ?_
                    show own_G p e below _ (T18.setTop (mkF m 117 #[.val (.int p1), .val (.ref w3)] []))
                    refine own_via (fun t k => XS.goto X18.here hx rfl (pc0 := 117) (pc' := 138) rfl (hb hby d1_117) (by decide) (by decide) k) ?_
                    show own_G p e below _ (T18.setTop (mkF m 138 #[.val (.int p1), .val (.ref w3)] []))
                    refine own_via (fun t k => XS.aloadN X18.here hx rfl (hb hby d1_138) rfl rfl k) ?_
                    show own_G p e below _ (T18.setTop (mkF m 139 #[.val (.int p1), .val (.ref w3)] [(.ref w3)]))
                    obtain ⟨fs, hr, hrun, hended, hW, hsame⟩ := X18.leave (v := some (.ref w3)) (fun h => by rw [Bd.returns] at h; cases h)
                    refine ⟨_, _, retOut X18 hx Bd.returns rfl (Or.inr (Or.inr (Or.inr (Or.inr ⟨rfl, rfl, rfl⟩)))) (hb hby d1_139) hr, hrun, hended, _, _, rfl, ?_, ⟨_, rfl⟩, hW, hsame.mono (by decide) (by decide)⟩
                    show rm1_Q Z p1 w0 w1 w2 w3 w4 w5 w6 h0 n0 _ T18.heap _
                    rw [e18]
                    exact ⟨by simp only [own_of, if_neg c1_1, if_neg c1_3, if_neg c1_5, if_neg c1_7, if_neg c1_9, if_neg c1_11, if_neg c1_13, if_neg c1_15, if_pos c1_17], N0, rfl⟩
                  · skip
                    by_cases c1_19 : p1 = (93 : Int32)
                    · skip
                      refine own_via (fun t k => own_lsw X0.here hx rfl (pc0 := 1) (pc' := 127) rfl (hb hby d1_1) rfl (by decide) (own_off_9 c1_19) (by decide) (by decide) k) ?_
                      show own_G p e below _ (s₁.setTop (mkF m 127 #[.val (.int p1), .unset] []))
                      obtain ⟨T20, X20, e20, st20⟩ := getS2 X0 hx hZ hown (host := "") (Or.inl (hw _ (List.mem_of_getElem? (i := 24) rfl))) Via.refl e0 S_TIMESTAMP (g := (mkF m 127 #[.val (.int p1), .unset] [])) rfl (hb hby d1_127)
                      refine own_via st20 ?_
                      show own_G p e below _ (T20.setTop (mkF m 130 #[.val (.int p1), .unset] [(.ref w5)]))
                      refine own_via (fun t k => XS.astoreN X20.here hx rfl (hb hby d1_130) rfl rfl (l' := #[.val (.int p1), .val (.ref w5)]) rfl k) ?_
                      show own_G p e below _ (T20.setTop (mkF m 131 #[.val (.int p1), .val (.ref w5)] []))
                      refine own_via (fun t k => XS.goto X20.here hx rfl (pc0 := 131) (pc' := 138) rfl (hb hby d1_131) (by decide) (by decide) k) ?_
                      show own_G p e below _ (T20.setTop (mkF m 138 #[.val (.int p1), .val (.ref w5)] []))
                      refine own_via (fun t k => XS.aloadN X20.here hx rfl (hb hby d1_138) rfl rfl k) ?_
                      show own_G p e below _ (T20.setTop (mkF m 139 #[.val (.int p1), .val (.ref w5)] [(.ref w5)]))
                      obtain ⟨fs, hr, hrun, hended, hW, hsame⟩ := X20.leave (v := some (.ref w5)) (fun h => by rw [Bd.returns] at h; cases h)
                      refine ⟨_, _, retOut X20 hx Bd.returns rfl (Or.inr (Or.inr (Or.inr (Or.inr ⟨rfl, rfl, rfl⟩)))) (hb hby d1_139) hr, hrun, hended, _, _, rfl, ?_, ⟨_, rfl⟩, hW, hsame.mono (by decide) (by decide)⟩
                      show rm1_Q Z p1 w0 w1 w2 w3 w4 w5 w6 h0 n0 _ T20.heap _
                      rw [e20]
                      exact ⟨by simp only [own_of, if_neg c1_1, if_neg c1_3, if_neg c1_5, if_neg c1_7, if_neg c1_9, if_neg c1_11, if_neg c1_13, if_neg c1_15, if_neg c1_17, if_pos c1_19], N0, rfl⟩
                    · skip
                      refine own_via (fun t k => own_lsw X0.here hx rfl (pc0 := 1) (pc' := 134) rfl (hb hby d1_1) rfl (by decide) (own_off_d c1_1 c1_3 c1_5 c1_7 c1_9 c1_11 c1_13 c1_15 c1_17 c1_19) (by decide) (by decide) k) ?_
                      show own_G p e below _ (s₁.setTop (mkF m 134 #[.val (.int p1), .unset] []))
                      obtain ⟨T21, X21, e21, st21⟩ := getS2 X0 hx hZ hown (host := "") (Or.inl (hw _ (List.mem_of_getElem? (i := 21) rfl))) Via.refl e0 S_TEXT (g := (mkF m 134 #[.val (.int p1), .unset] [])) rfl (hb hby d1_134)
                      refine own_via st21 ?_
                      show own_G p e below _ (T21.setTop (mkF m 137 #[.val (.int p1), .unset] [(.ref w6)]))
                      refine own_via (fun t k => XS.astoreN X21.here hx rfl (hb hby d1_137) rfl rfl (l' := #[.val (.int p1), .val (.ref w6)]) rfl k) ?_
                      show own_G p e below _ (T21.setTop (mkF m 138 #[.val (.int p1), .val (.ref w6)] []))
                      refine own_via (fun t k => XS.aloadN X21.here hx rfl (hb hby d1_138) rfl rfl k) ?_
                      show own_G p e below _ (T21.setTop (mkF m 139 #[.val (.int p1), .val (.ref w6)] [(.ref w6)]))
                      obtain ⟨fs, hr, hrun, hended, hW, hsame⟩ := X21.leave (v := some (.ref w6)) (fun h => by rw [Bd.returns] at h; cases h)
                      refine ⟨_, _, retOut X21 hx Bd.returns rfl (Or.inr (Or.inr (Or.inr (Or.inr ⟨rfl, rfl, rfl⟩)))) (hb hby d1_139) hr, hrun, hended, _, _, rfl, ?_, ⟨_, rfl⟩, hW, hsame.mono (by decide) (by decide)⟩
                      show rm1_Q Z p1 w0 w1 w2 w3 w4 w5 w6 h0 n0 _ T21.heap _
                      rw [e21]
                      exact ⟨by simp only [own_of, if_neg c1_1, if_neg c1_3, if_neg c1_5, if_neg c1_7, if_neg c1_9, if_neg c1_11, if_neg c1_13, if_neg c1_15, if_neg c1_17, if_neg c1_19], N0, rfl⟩

theorem d2_0 : decode method_3_code 0 = .ok (.iload_n 0, 1) := by decide +kernel
theorem d2_1 : decode method_3_code 1 = .ok (.bipush (-5), 2) := by decide +kernel
theorem d2_3 : decode method_3_code 3 = .ok (.if_icmp .ne 7, 3) := by decide +kernel
theorem d2_6 : decode method_3_code 6 = .ok (.getstatic 18, 3) := by decide +kernel
theorem d2_9 : decode method_3_code 9 = .ok (.areturn, 1) := by decide +kernel
theorem d2_10 : decode method_3_code 10 = .ok (.iload_n 0, 1) := by decide +kernel
theorem d2_11 : decode method_3_code 11 = .ok (.iconst 4, 1) := by decide +kernel
theorem d2_12 : decode method_3_code 12 = .ok (.if_icmp .ne 7, 3) := by decide +kernel
theorem d2_15 : decode method_3_code 15 = .ok (.getstatic 22, 3) := by decide +kernel
theorem d2_18 : decode method_3_code 18 = .ok (.areturn, 1) := by decide +kernel
theorem d2_19 : decode method_3_code 19 = .ok (.iload_n 0, 1) := by decide +kernel
theorem d2_20 : decode method_3_code 20 = .ok (.iconst 5, 1) := by decide +kernel
theorem d2_21 : decode method_3_code 21 = .ok (.if_icmp .eq 9, 3) := by decide +kernel
theorem d2_24 : decode method_3_code 24 = .ok (.iload_n 0, 1) := by decide +kernel
theorem d2_25 : decode method_3_code 25 = .ok (.bipush (-6), 2) := by decide +kernel
theorem d2_27 : decode method_3_code 27 = .ok (.if_icmp .ne 7, 3) := by decide +kernel
theorem d2_30 : decode method_3_code 30 = .ok (.getstatic 25, 3) := by decide +kernel
theorem d2_33 : decode method_3_code 33 = .ok (.areturn, 1) := by decide +kernel
theorem d2_34 : decode method_3_code 34 = .ok (.iload_n 0, 1) := by decide +kernel
theorem d2_35 : decode method_3_code 35 = .ok (.bipush 8, 2) := by decide +kernel
theorem d2_37 : decode method_3_code 37 = .ok (.if_icmp .eq 19, 3) := by decide +kernel
theorem d2_40 : decode method_3_code 40 = .ok (.iload_n 0, 1) := by decide +kernel
theorem d2_41 : decode method_3_code 41 = .ok (.bipush 6, 2) := by decide +kernel
theorem d2_43 : decode method_3_code 43 = .ok (.if_icmp .eq 13, 3) := by decide +kernel
theorem d2_46 : decode method_3_code 46 = .ok (.iload_n 0, 1) := by decide +kernel
theorem d2_47 : decode method_3_code 47 = .ok (.iconst 3, 1) := by decide +kernel
theorem d2_48 : decode method_3_code 48 = .ok (.if_icmp .eq 8, 3) := by decide +kernel
theorem d2_51 : decode method_3_code 51 = .ok (.iload_n 0, 1) := by decide +kernel
theorem d2_52 : decode method_3_code 52 = .ok (.iconst 2, 1) := by decide +kernel
theorem d2_53 : decode method_3_code 53 = .ok (.if_icmp .ne 7, 3) := by decide +kernel
theorem d2_56 : decode method_3_code 56 = .ok (.getstatic 28, 3) := by decide +kernel
theorem d2_59 : decode method_3_code 59 = .ok (.areturn, 1) := by decide +kernel
theorem d2_60 : decode method_3_code 60 = .ok (.iload_n 0, 1) := by decide +kernel
theorem d2_61 : decode method_3_code 61 = .ok (.bipush 7, 2) := by decide +kernel
theorem d2_63 : decode method_3_code 63 = .ok (.if_icmp .ne 7, 3) := by decide +kernel
theorem d2_66 : decode method_3_code 66 = .ok (.getstatic 31, 3) := by decide +kernel
theorem d2_69 : decode method_3_code 69 = .ok (.areturn, 1) := by decide +kernel
theorem d2_70 : decode method_3_code 70 = .ok (.iload_n 0, 1) := by decide +kernel
theorem d2_71 : decode method_3_code 71 = .ok (.bipush 93, 2) := by decide +kernel
theorem d2_73 : decode method_3_code 73 = .ok (.if_icmp .ne 7, 3) := by decide +kernel
theorem d2_76 : decode method_3_code 76 = .ok (.getstatic 34, 3) := by decide +kernel
theorem d2_79 : decode method_3_code 79 = .ok (.areturn, 1) := by decide +kernel
theorem d2_80 : decode method_3_code 80 = .ok (.getstatic 37, 3) := by decide +kernel
theorem d2_83 : decode method_3_code 83 = .ok (.areturn, 1) := by decide +kernel
theorem rm2_pn : plainName "com/example/meridial/meridial/tables/ColumnTypeOfJdbcTypePinLaw" = true := by first | (simp [plainName, overriddenIn]; done) | decide +kernel
theorem rm2_ef (m : MethodId) (z0 : Int32) : entryFrame m #[(.int z0)] 1 = mkF m 0 #[.val (.int z0)] [] := by first | (simp [entryFrame, mkF, argsToLocals, Value.category]; done) | rfl
def rm2_Q (Z : State) (p1 : Int32) (w0 : Addr) (w1 : Addr) (w2 : Addr) (w3 : Addr) (w4 : Addr) (w5 : Addr) (w6 : Addr) (h0 : Heap) (n0 : Nat) (v : Option Value) (h : Heap) (L : List Loc) : Prop := v = some (.ref (own_ex p1 w0 w1 w2 w3 w4 w5 w6)) ∧ Fr n0 L ∧ h = h0
set_option maxRecDepth 65536 in
set_option maxHeartbeats 40000000 in
theorem rm2 (l : Launch) (Z : State) (a0 : Array Value) (hw : ∀ d ∈ tables_1, d.before a0 Z = true) (ws : List Jvm.Cond) (p1 : Int32) (w0 : Addr) (w1 : Addr) (w2 : Addr) (w3 : Addr) (w4 : Addr) (w5 : Addr) (w6 : Addr) (h0 : Heap) (n0 : Nat) (Z0 : n0 ≤ h0.size) (S_LONG : Sta Z h0 "com/example/meridial/meridial/tables/ColumnType" "LONG" "Lcom/example/meridial/meridial/tables/ColumnType;" (.ref w0)) (S_INT : Sta Z h0 "com/example/meridial/meridial/tables/ColumnType" "INT" "Lcom/example/meridial/meridial/tables/ColumnType;" (.ref w1)) (S_SHORT : Sta Z h0 "com/example/meridial/meridial/tables/ColumnType" "SHORT" "Lcom/example/meridial/meridial/tables/ColumnType;" (.ref w2)) (S_DOUBLE : Sta Z h0 "com/example/meridial/meridial/tables/ColumnType" "DOUBLE" "Lcom/example/meridial/meridial/tables/ColumnType;" (.ref w3)) (S_FLOAT : Sta Z h0 "com/example/meridial/meridial/tables/ColumnType" "FLOAT" "Lcom/example/meridial/meridial/tables/ColumnType;" (.ref w4)) (S_TIMESTAMP : Sta Z h0 "com/example/meridial/meridial/tables/ColumnType" "TIMESTAMP" "Lcom/example/meridial/meridial/tables/ColumnType;" (.ref w5)) (S_TEXT : Sta Z h0 "com/example/meridial/meridial/tables/ColumnType" "TEXT" "Lcom/example/meridial/meridial/tables/ColumnType;" (.ref w6)) :
    MetFree l (⟨"com/example/meridial/meridial/tables/ColumnTypeOfJdbcTypePinLaw", "expected", "(I)Lcom/example/meridial/meridial/tables/ColumnType;"⟩ : MethodName) (head1 (Jvm.Cond.code (⟨"com/example/meridial/meridial/tables/ColumnTypeOfJdbcTypePinLaw", "expected", "(I)Lcom/example/meridial/meridial/tables/ColumnType;"⟩ : MethodName) method_3_code 1 (some (.object "com/example/meridial/meridial/tables/ColumnType")) :: ws) ({ frames := 0, cells := 0, slots := 0, locals := 0 } : Room)) (fun a U => a = #[(.int p1)] ∧ Z.Warmed39 U.vm ∧ U.heap = h0) (fun _ _ _ _ _ => True) (fun _ U o U' => ∃ v L, o = .returned v ∧ rm2_Q Z p1 w0 w1 w2 w3 w4 w5 w6 h0 n0 v U'.heap L ∧ FrameEnd U o U' L ({ frames := 0, cells := 0, slots := 0, locals := 0 } : Room).cells ({ frames := 0, cells := 0, slots := 0, locals := 0 } : Room).slots) := by
  refine MetFree.of_bodySF (plainFor_of_name rm2_pn) hisR ?_
  intro p e s m args below meth c s₁ Bd hml0 hP hK
  obtain ⟨rfl, hZ, hh⟩ := hP
  have hx := Bd.exec
  have hby := Bd.bytes
  have hml : c.maxLocals = 1 := hml0
  have hown : s.vm.findClass "com/example/meridial/meridial/tables/ColumnTypeOfJdbcTypePinLaw" = some m.cls := findClass_of_methodNamed Bd.named
  have hnm := (name_of_methodNamed Bd.named Bd.method).1
  have X0 : Stand p l e ({ frames := 0, cells := 0, slots := 0, locals := 0 } : Room) s m #[(.int p1)] below meth c s₁ [] 0 0 := Stand.of_body Bd
  have e0 : s₁.heap = h0 := by rw [← hh, Bd.state]; rfl
  have N0 := Fr.nil n0
  refine own_via (fun t k => castTop (rm2_ef m p1) k) ?_
  show own_G p e below _ (s₁.setTop (mkF m 0 #[.val (.int p1)] []))
  refine own_via (fun t k => XS.iloadN X0.here hx rfl (hb hby d2_0) rfl k) ?_
  show own_G p e below _ (s₁.setTop (mkF m 1 #[.val (.int p1)] [(.int p1)]))
  refine own_via (fun t k => XS.bipush X0.here hx rfl (hb hby d2_1) k) ?_
  show own_G p e below _ (s₁.setTop (mkF m 3 #[.val (.int p1)] [(.int (-5 : Int32)), (.int p1)]))
  by_cases c3_1 : p1 = (-5 : Int32)
  · skip
    refine own_via (fun t k => XS.icmpNo X0.here hx rfl (hb hby d2_3) rfl (teq c3_1).2 k) ?_
    show own_G p e below _ (s₁.setTop (mkF m 6 #[.val (.int p1)] []))
    obtain ⟨T2, X2, e2, st2⟩ := getS2 X0 hx hZ hown (host := "") (Or.inl (hw _ (List.mem_of_getElem? (i := 20) rfl))) Via.refl e0 S_LONG (g := (mkF m 6 #[.val (.int p1)] [])) rfl (hb hby d2_6)
    refine own_via st2 ?_
    show own_G p e below _ (T2.setTop (mkF m 9 #[.val (.int p1)] [(.ref w0)]))
    obtain ⟨fs, hr, hrun, hended, hW, hsame⟩ := X2.leave (v := some (.ref w0)) (fun h => by rw [Bd.returns] at h; cases h)
    refine ⟨_, _, retOut X2 hx Bd.returns rfl (Or.inr (Or.inr (Or.inr (Or.inr ⟨rfl, rfl, rfl⟩)))) (hb hby d2_9) hr, hrun, hended, _, _, rfl, ?_, ⟨_, rfl⟩, hW, hsame.mono (by decide) (by decide)⟩
    show rm2_Q Z p1 w0 w1 w2 w3 w4 w5 w6 h0 n0 _ T2.heap _
    rw [e2]
    exact ⟨by simp only [own_ex, if_pos c3_1], N0, rfl⟩
  · skip
    refine own_via (fun t k => XS.icmpYes X0.here hx rfl (pc0 := 3) (pc' := 10) rfl (hb hby d2_3) rfl (feq c3_1).2 (by decide) (by decide) k) ?_
    show own_G p e below _ (s₁.setTop (mkF m 10 #[.val (.int p1)] []))
    refine own_via (fun t k => XS.iloadN X0.here hx rfl (hb hby d2_10) rfl k) ?_
    show own_G p e below _ (s₁.setTop (mkF m 11 #[.val (.int p1)] [(.int p1)]))
    refine own_via (fun t k => XS.iconst X0.here hx rfl (hb hby d2_11) k) ?_
    show own_G p e below _ (s₁.setTop (mkF m 12 #[.val (.int p1)] [(.int (4 : Int32)), (.int p1)]))
    by_cases c12_3 : p1 = (4 : Int32)
    · skip
      refine own_via (fun t k => XS.icmpNo X0.here hx rfl (hb hby d2_12) rfl (teq c12_3).2 k) ?_
      show own_G p e below _ (s₁.setTop (mkF m 15 #[.val (.int p1)] []))
      obtain ⟨T4, X4, e4, st4⟩ := getS2 X0 hx hZ hown (host := "") (Or.inl (hw _ (List.mem_of_getElem? (i := 14) rfl))) Via.refl e0 S_INT (g := (mkF m 15 #[.val (.int p1)] [])) rfl (hb hby d2_15)
      refine own_via st4 ?_
      show own_G p e below _ (T4.setTop (mkF m 18 #[.val (.int p1)] [(.ref w1)]))
      obtain ⟨fs, hr, hrun, hended, hW, hsame⟩ := X4.leave (v := some (.ref w1)) (fun h => by rw [Bd.returns] at h; cases h)
      refine ⟨_, _, retOut X4 hx Bd.returns rfl (Or.inr (Or.inr (Or.inr (Or.inr ⟨rfl, rfl, rfl⟩)))) (hb hby d2_18) hr, hrun, hended, _, _, rfl, ?_, ⟨_, rfl⟩, hW, hsame.mono (by decide) (by decide)⟩
      show rm2_Q Z p1 w0 w1 w2 w3 w4 w5 w6 h0 n0 _ T4.heap _
      rw [e4]
      exact ⟨by simp only [own_ex, if_neg c3_1, if_pos c12_3], N0, rfl⟩
    · skip
      refine own_via (fun t k => XS.icmpYes X0.here hx rfl (pc0 := 12) (pc' := 19) rfl (hb hby d2_12) rfl (feq c12_3).2 (by decide) (by decide) k) ?_
      show own_G p e below _ (s₁.setTop (mkF m 19 #[.val (.int p1)] []))
      refine own_via (fun t k => XS.iloadN X0.here hx rfl (hb hby d2_19) rfl k) ?_
      show own_G p e below _ (s₁.setTop (mkF m 20 #[.val (.int p1)] [(.int p1)]))
      refine own_via (fun t k => XS.iconst X0.here hx rfl (hb hby d2_20) k) ?_
      show own_G p e below _ (s₁.setTop (mkF m 21 #[.val (.int p1)] [(.int (5 : Int32)), (.int p1)]))
      by_cases c21_5 : p1 = (5 : Int32)
      · skip
        refine own_via (fun t k => XS.icmpYes X0.here hx rfl (pc0 := 21) (pc' := 30) rfl (hb hby d2_21) rfl (teq c21_5).1 (by decide) (by decide) k) ?_
        show own_G p e below _ (s₁.setTop (mkF m 30 #[.val (.int p1)] []))
        obtain ⟨T6, X6, e6, st6⟩ := getS2 X0 hx hZ hown (host := "") (Or.inl (hw _ (List.mem_of_getElem? (i := 11) rfl))) Via.refl e0 S_SHORT (g := (mkF m 30 #[.val (.int p1)] [])) rfl (hb hby d2_30)
        refine own_via st6 ?_
        show own_G p e below _ (T6.setTop (mkF m 33 #[.val (.int p1)] [(.ref w2)]))
        obtain ⟨fs, hr, hrun, hended, hW, hsame⟩ := X6.leave (v := some (.ref w2)) (fun h => by rw [Bd.returns] at h; cases h)
        refine ⟨_, _, retOut X6 hx Bd.returns rfl (Or.inr (Or.inr (Or.inr (Or.inr ⟨rfl, rfl, rfl⟩)))) (hb hby d2_33) hr, hrun, hended, _, _, rfl, ?_, ⟨_, rfl⟩, hW, hsame.mono (by decide) (by decide)⟩
        show rm2_Q Z p1 w0 w1 w2 w3 w4 w5 w6 h0 n0 _ T6.heap _
        rw [e6]
        exact ⟨by simp only [own_ex, if_neg c3_1, if_neg c12_3, if_pos c21_5], N0, rfl⟩
      · skip
        refine own_via (fun t k => XS.icmpNo X0.here hx rfl (hb hby d2_21) rfl (feq c21_5).1 k) ?_
        show own_G p e below _ (s₁.setTop (mkF m 24 #[.val (.int p1)] []))
        refine own_via (fun t k => XS.iloadN X0.here hx rfl (hb hby d2_24) rfl k) ?_
        show own_G p e below _ (s₁.setTop (mkF m 25 #[.val (.int p1)] [(.int p1)]))
        refine own_via (fun t k => XS.bipush X0.here hx rfl (hb hby d2_25) k) ?_
        show own_G p e below _ (s₁.setTop (mkF m 27 #[.val (.int p1)] [(.int (-6 : Int32)), (.int p1)]))
        by_cases c27_7 : p1 = (-6 : Int32)
        · skip
          refine own_via (fun t k => XS.icmpNo X0.here hx rfl (hb hby d2_27) rfl (teq c27_7).2 k) ?_
          show own_G p e below _ (s₁.setTop (mkF m 30 #[.val (.int p1)] []))
          obtain ⟨T8, X8, e8, st8⟩ := getS2 X0 hx hZ hown (host := "") (Or.inl (hw _ (List.mem_of_getElem? (i := 11) rfl))) Via.refl e0 S_SHORT (g := (mkF m 30 #[.val (.int p1)] [])) rfl (hb hby d2_30)
          refine own_via st8 ?_
          show own_G p e below _ (T8.setTop (mkF m 33 #[.val (.int p1)] [(.ref w2)]))
          obtain ⟨fs, hr, hrun, hended, hW, hsame⟩ := X8.leave (v := some (.ref w2)) (fun h => by rw [Bd.returns] at h; cases h)
          refine ⟨_, _, retOut X8 hx Bd.returns rfl (Or.inr (Or.inr (Or.inr (Or.inr ⟨rfl, rfl, rfl⟩)))) (hb hby d2_33) hr, hrun, hended, _, _, rfl, ?_, ⟨_, rfl⟩, hW, hsame.mono (by decide) (by decide)⟩
          show rm2_Q Z p1 w0 w1 w2 w3 w4 w5 w6 h0 n0 _ T8.heap _
          rw [e8]
          exact ⟨by simp only [own_ex, if_neg c3_1, if_neg c12_3, if_neg c21_5, if_pos c27_7], N0, rfl⟩
        · skip
          refine own_via (fun t k => XS.icmpYes X0.here hx rfl (pc0 := 27) (pc' := 34) rfl (hb hby d2_27) rfl (feq c27_7).2 (by decide) (by decide) k) ?_
          show own_G p e below _ (s₁.setTop (mkF m 34 #[.val (.int p1)] []))
          refine own_via (fun t k => XS.iloadN X0.here hx rfl (hb hby d2_34) rfl k) ?_
          show own_G p e below _ (s₁.setTop (mkF m 35 #[.val (.int p1)] [(.int p1)]))
          refine own_via (fun t k => XS.bipush X0.here hx rfl (hb hby d2_35) k) ?_
          show own_G p e below _ (s₁.setTop (mkF m 37 #[.val (.int p1)] [(.int (8 : Int32)), (.int p1)]))
          by_cases c37_9 : p1 = (8 : Int32)
          · skip
            refine own_via (fun t k => XS.icmpYes X0.here hx rfl (pc0 := 37) (pc' := 56) rfl (hb hby d2_37) rfl (teq c37_9).1 (by decide) (by decide) k) ?_
            show own_G p e below _ (s₁.setTop (mkF m 56 #[.val (.int p1)] []))
            obtain ⟨T10, X10, e10, st10⟩ := getS2 X0 hx hZ hown (host := "") (Or.inl (hw _ (List.mem_of_getElem? (i := 17) rfl))) Via.refl e0 S_DOUBLE (g := (mkF m 56 #[.val (.int p1)] [])) rfl (hb hby d2_56)
            refine own_via st10 ?_
            show own_G p e below _ (T10.setTop (mkF m 59 #[.val (.int p1)] [(.ref w3)]))
            obtain ⟨fs, hr, hrun, hended, hW, hsame⟩ := X10.leave (v := some (.ref w3)) (fun h => by rw [Bd.returns] at h; cases h)
            refine ⟨_, _, retOut X10 hx Bd.returns rfl (Or.inr (Or.inr (Or.inr (Or.inr ⟨rfl, rfl, rfl⟩)))) (hb hby d2_59) hr, hrun, hended, _, _, rfl, ?_, ⟨_, rfl⟩, hW, hsame.mono (by decide) (by decide)⟩
            show rm2_Q Z p1 w0 w1 w2 w3 w4 w5 w6 h0 n0 _ T10.heap _
            rw [e10]
            exact ⟨by simp only [own_ex, if_neg c3_1, if_neg c12_3, if_neg c21_5, if_neg c27_7, if_pos c37_9], N0, rfl⟩
          · skip
            refine own_via (fun t k => XS.icmpNo X0.here hx rfl (hb hby d2_37) rfl (feq c37_9).1 k) ?_
            show own_G p e below _ (s₁.setTop (mkF m 40 #[.val (.int p1)] []))
            refine own_via (fun t k => XS.iloadN X0.here hx rfl (hb hby d2_40) rfl k) ?_
            show own_G p e below _ (s₁.setTop (mkF m 41 #[.val (.int p1)] [(.int p1)]))
            refine own_via (fun t k => XS.bipush X0.here hx rfl (hb hby d2_41) k) ?_
            show own_G p e below _ (s₁.setTop (mkF m 43 #[.val (.int p1)] [(.int (6 : Int32)), (.int p1)]))
            by_cases c43_11 : p1 = (6 : Int32)
            · skip
              refine own_via (fun t k => XS.icmpYes X0.here hx rfl (pc0 := 43) (pc' := 56) rfl (hb hby d2_43) rfl (teq c43_11).1 (by decide) (by decide) k) ?_
              show own_G p e below _ (s₁.setTop (mkF m 56 #[.val (.int p1)] []))
              obtain ⟨T12, X12, e12, st12⟩ := getS2 X0 hx hZ hown (host := "") (Or.inl (hw _ (List.mem_of_getElem? (i := 17) rfl))) Via.refl e0 S_DOUBLE (g := (mkF m 56 #[.val (.int p1)] [])) rfl (hb hby d2_56)
              refine own_via st12 ?_
              show own_G p e below _ (T12.setTop (mkF m 59 #[.val (.int p1)] [(.ref w3)]))
              obtain ⟨fs, hr, hrun, hended, hW, hsame⟩ := X12.leave (v := some (.ref w3)) (fun h => by rw [Bd.returns] at h; cases h)
              refine ⟨_, _, retOut X12 hx Bd.returns rfl (Or.inr (Or.inr (Or.inr (Or.inr ⟨rfl, rfl, rfl⟩)))) (hb hby d2_59) hr, hrun, hended, _, _, rfl, ?_, ⟨_, rfl⟩, hW, hsame.mono (by decide) (by decide)⟩
              show rm2_Q Z p1 w0 w1 w2 w3 w4 w5 w6 h0 n0 _ T12.heap _
              rw [e12]
              exact ⟨by simp only [own_ex, if_neg c3_1, if_neg c12_3, if_neg c21_5, if_neg c27_7, if_neg c37_9, if_pos c43_11], N0, rfl⟩
            · skip
              refine own_via (fun t k => XS.icmpNo X0.here hx rfl (hb hby d2_43) rfl (feq c43_11).1 k) ?_
              show own_G p e below _ (s₁.setTop (mkF m 46 #[.val (.int p1)] []))
              refine own_via (fun t k => XS.iloadN X0.here hx rfl (hb hby d2_46) rfl k) ?_
              show own_G p e below _ (s₁.setTop (mkF m 47 #[.val (.int p1)] [(.int p1)]))
              refine own_via (fun t k => XS.iconst X0.here hx rfl (hb hby d2_47) k) ?_
              show own_G p e below _ (s₁.setTop (mkF m 48 #[.val (.int p1)] [(.int (3 : Int32)), (.int p1)]))
              by_cases c48_13 : p1 = (3 : Int32)
              · skip
                refine own_via (fun t k => XS.icmpYes X0.here hx rfl (pc0 := 48) (pc' := 56) rfl (hb hby d2_48) rfl (teq c48_13).1 (by decide) (by decide) k) ?_
                show own_G p e below _ (s₁.setTop (mkF m 56 #[.val (.int p1)] []))
                obtain ⟨T14, X14, e14, st14⟩ := getS2 X0 hx hZ hown (host := "") (Or.inl (hw _ (List.mem_of_getElem? (i := 17) rfl))) Via.refl e0 S_DOUBLE (g := (mkF m 56 #[.val (.int p1)] [])) rfl (hb hby d2_56)
                refine own_via st14 ?_
                show own_G p e below _ (T14.setTop (mkF m 59 #[.val (.int p1)] [(.ref w3)]))
                obtain ⟨fs, hr, hrun, hended, hW, hsame⟩ := X14.leave (v := some (.ref w3)) (fun h => by rw [Bd.returns] at h; cases h)
                refine ⟨_, _, retOut X14 hx Bd.returns rfl (Or.inr (Or.inr (Or.inr (Or.inr ⟨rfl, rfl, rfl⟩)))) (hb hby d2_59) hr, hrun, hended, _, _, rfl, ?_, ⟨_, rfl⟩, hW, hsame.mono (by decide) (by decide)⟩
                show rm2_Q Z p1 w0 w1 w2 w3 w4 w5 w6 h0 n0 _ T14.heap _
                rw [e14]
                exact ⟨by simp only [own_ex, if_neg c3_1, if_neg c12_3, if_neg c21_5, if_neg c27_7, if_neg c37_9, if_neg c43_11, if_pos c48_13], N0, rfl⟩
              · skip
                refine own_via (fun t k => XS.icmpNo X0.here hx rfl (hb hby d2_48) rfl (feq c48_13).1 k) ?_
                show own_G p e below _ (s₁.setTop (mkF m 51 #[.val (.int p1)] []))
                refine own_via (fun t k => XS.iloadN X0.here hx rfl (hb hby d2_51) rfl k) ?_
                show own_G p e below _ (s₁.setTop (mkF m 52 #[.val (.int p1)] [(.int p1)]))
                refine own_via (fun t k => XS.iconst X0.here hx rfl (hb hby d2_52) k) ?_
                show own_G p e below _ (s₁.setTop (mkF m 53 #[.val (.int p1)] [(.int (2 : Int32)), (.int p1)]))
                by_cases c53_15 : p1 = (2 : Int32)
                · skip
                  refine own_via (fun t k => XS.icmpNo X0.here hx rfl (hb hby d2_53) rfl (teq c53_15).2 k) ?_
                  show own_G p e below _ (s₁.setTop (mkF m 56 #[.val (.int p1)] []))
                  obtain ⟨T16, X16, e16, st16⟩ := getS2 X0 hx hZ hown (host := "") (Or.inl (hw _ (List.mem_of_getElem? (i := 17) rfl))) Via.refl e0 S_DOUBLE (g := (mkF m 56 #[.val (.int p1)] [])) rfl (hb hby d2_56)
                  refine own_via st16 ?_
                  show own_G p e below _ (T16.setTop (mkF m 59 #[.val (.int p1)] [(.ref w3)]))
                  obtain ⟨fs, hr, hrun, hended, hW, hsame⟩ := X16.leave (v := some (.ref w3)) (fun h => by rw [Bd.returns] at h; cases h)
                  refine ⟨_, _, retOut X16 hx Bd.returns rfl (Or.inr (Or.inr (Or.inr (Or.inr ⟨rfl, rfl, rfl⟩)))) (hb hby d2_59) hr, hrun, hended, _, _, rfl, ?_, ⟨_, rfl⟩, hW, hsame.mono (by decide) (by decide)⟩
                  show rm2_Q Z p1 w0 w1 w2 w3 w4 w5 w6 h0 n0 _ T16.heap _
                  rw [e16]
                  exact ⟨by simp only [own_ex, if_neg c3_1, if_neg c12_3, if_neg c21_5, if_neg c27_7, if_neg c37_9, if_neg c43_11, if_neg c48_13, if_pos c53_15], N0, rfl⟩
                · skip
                  refine own_via (fun t k => XS.icmpYes X0.here hx rfl (pc0 := 53) (pc' := 60) rfl (hb hby d2_53) rfl (feq c53_15).2 (by decide) (by decide) k) ?_
                  show own_G p e below _ (s₁.setTop (mkF m 60 #[.val (.int p1)] []))
                  refine own_via (fun t k => XS.iloadN X0.here hx rfl (hb hby d2_60) rfl k) ?_
                  show own_G p e below _ (s₁.setTop (mkF m 61 #[.val (.int p1)] [(.int p1)]))
                  refine own_via (fun t k => XS.bipush X0.here hx rfl (hb hby d2_61) k) ?_
                  show own_G p e below _ (s₁.setTop (mkF m 63 #[.val (.int p1)] [(.int (7 : Int32)), (.int p1)]))
                  by_cases c63_17 : p1 = (7 : Int32)
                  · skip
                    refine own_via (fun t k => XS.icmpNo X0.here hx rfl (hb hby d2_63) rfl (teq c63_17).2 k) ?_
                    show own_G p e below _ (s₁.setTop (mkF m 66 #[.val (.int p1)] []))
                    obtain ⟨T18, X18, e18, st18⟩ := getS2 X0 hx hZ hown (host := "") (Or.inl (hw _ (List.mem_of_getElem? (i := 29) rfl))) Via.refl e0 S_FLOAT (g := (mkF m 66 #[.val (.int p1)] [])) rfl (hb hby d2_66)
                    refine own_via st18 ?_
                    show own_G p e below _ (T18.setTop (mkF m 69 #[.val (.int p1)] [(.ref w4)]))
                    obtain ⟨fs, hr, hrun, hended, hW, hsame⟩ := X18.leave (v := some (.ref w4)) (fun h => by rw [Bd.returns] at h; cases h)
                    refine ⟨_, _, retOut X18 hx Bd.returns rfl (Or.inr (Or.inr (Or.inr (Or.inr ⟨rfl, rfl, rfl⟩)))) (hb hby d2_69) hr, hrun, hended, _, _, rfl, ?_, ⟨_, rfl⟩, hW, hsame.mono (by decide) (by decide)⟩
                    show rm2_Q Z p1 w0 w1 w2 w3 w4 w5 w6 h0 n0 _ T18.heap _
                    rw [e18]
                    exact ⟨by simp only [own_ex, if_neg c3_1, if_neg c12_3, if_neg c21_5, if_neg c27_7, if_neg c37_9, if_neg c43_11, if_neg c48_13, if_neg c53_15, if_pos c63_17], N0, rfl⟩
                  · skip
                    refine own_via (fun t k => XS.icmpYes X0.here hx rfl (pc0 := 63) (pc' := 70) rfl (hb hby d2_63) rfl (feq c63_17).2 (by decide) (by decide) k) ?_
                    show own_G p e below _ (s₁.setTop (mkF m 70 #[.val (.int p1)] []))
                    refine own_via (fun t k => XS.iloadN X0.here hx rfl (hb hby d2_70) rfl k) ?_
                    show own_G p e below _ (s₁.setTop (mkF m 71 #[.val (.int p1)] [(.int p1)]))
                    refine own_via (fun t k => XS.bipush X0.here hx rfl (hb hby d2_71) k) ?_
                    show own_G p e below _ (s₁.setTop (mkF m 73 #[.val (.int p1)] [(.int (93 : Int32)), (.int p1)]))
                    by_cases c73_19 : p1 = (93 : Int32)
                    · skip
                      refine own_via (fun t k => XS.icmpNo X0.here hx rfl (hb hby d2_73) rfl (teq c73_19).2 k) ?_
                      show own_G p e below _ (s₁.setTop (mkF m 76 #[.val (.int p1)] []))
                      obtain ⟨T20, X20, e20, st20⟩ := getS2 X0 hx hZ hown (host := "") (Or.inl (hw _ (List.mem_of_getElem? (i := 26) rfl))) Via.refl e0 S_TIMESTAMP (g := (mkF m 76 #[.val (.int p1)] [])) rfl (hb hby d2_76)
                      refine own_via st20 ?_
                      show own_G p e below _ (T20.setTop (mkF m 79 #[.val (.int p1)] [(.ref w5)]))
                      obtain ⟨fs, hr, hrun, hended, hW, hsame⟩ := X20.leave (v := some (.ref w5)) (fun h => by rw [Bd.returns] at h; cases h)
                      refine ⟨_, _, retOut X20 hx Bd.returns rfl (Or.inr (Or.inr (Or.inr (Or.inr ⟨rfl, rfl, rfl⟩)))) (hb hby d2_79) hr, hrun, hended, _, _, rfl, ?_, ⟨_, rfl⟩, hW, hsame.mono (by decide) (by decide)⟩
                      show rm2_Q Z p1 w0 w1 w2 w3 w4 w5 w6 h0 n0 _ T20.heap _
                      rw [e20]
                      exact ⟨by simp only [own_ex, if_neg c3_1, if_neg c12_3, if_neg c21_5, if_neg c27_7, if_neg c37_9, if_neg c43_11, if_neg c48_13, if_neg c53_15, if_neg c63_17, if_pos c73_19], N0, rfl⟩
                    · skip
                      refine own_via (fun t k => XS.icmpYes X0.here hx rfl (pc0 := 73) (pc' := 80) rfl (hb hby d2_73) rfl (feq c73_19).2 (by decide) (by decide) k) ?_
                      show own_G p e below _ (s₁.setTop (mkF m 80 #[.val (.int p1)] []))
                      obtain ⟨T21, X21, e21, st21⟩ := getS2 X0 hx hZ hown (host := "") (Or.inl (hw _ (List.mem_of_getElem? (i := 23) rfl))) Via.refl e0 S_TEXT (g := (mkF m 80 #[.val (.int p1)] [])) rfl (hb hby d2_80)
                      refine own_via st21 ?_
                      show own_G p e below _ (T21.setTop (mkF m 83 #[.val (.int p1)] [(.ref w6)]))
                      obtain ⟨fs, hr, hrun, hended, hW, hsame⟩ := X21.leave (v := some (.ref w6)) (fun h => by rw [Bd.returns] at h; cases h)
                      refine ⟨_, _, retOut X21 hx Bd.returns rfl (Or.inr (Or.inr (Or.inr (Or.inr ⟨rfl, rfl, rfl⟩)))) (hb hby d2_83) hr, hrun, hended, _, _, rfl, ?_, ⟨_, rfl⟩, hW, hsame.mono (by decide) (by decide)⟩
                      show rm2_Q Z p1 w0 w1 w2 w3 w4 w5 w6 h0 n0 _ T21.heap _
                      rw [e21]
                      exact ⟨by simp only [own_ex, if_neg c3_1, if_neg c12_3, if_neg c21_5, if_neg c27_7, if_neg c37_9, if_neg c43_11, if_neg c48_13, if_neg c53_15, if_neg c63_17, if_neg c73_19], N0, rfl⟩

theorem own_isint {v : Value} (h : fits .int v = true) : ∃ z : Int32, v = .int z := by
  cases v <;> first | exact ⟨_, rfl⟩ | simp [fits] at h
theorem own_i15 (p : Int32) (h : p &&& 15 < 12) : ¬ (p &&& 15) < 0 ∧ (p &&& 15) < 12 := by
  refine ⟨?_, h⟩
  have e : (p &&& 15).toInt = p.toInt % 2 ^ 4 := Jvm.Kit.i32_mask p 15 (k := 4) (by decide) (by decide)
  rw [Int32.lt_iff_toInt_lt, e, show (0 : Int32).toInt = 0 from by decide]
  omega

theorem rm0_pn : plainName "com/example/meridial/meridial/tables/ColumnTypeOfJdbcTypePinLaw" = true := by first | (simp [plainName, overriddenIn]; done) | decide +kernel
theorem pd_rm0_0 : parseMethodDescriptor "(I)Lcom/example/meridial/meridial/tables/ColumnType;" = some ⟨[.int], some (.object "com/example/meridial/meridial/tables/ColumnType")⟩ := by decide +kernel
theorem rm0_ef (m : MethodId) (z0 : Int32) (z1 : Int32) : entryFrame m #[(.int z0), (.int z1)] maxLocals = mkF m 0 #[.val (.int z0), .val (.int z1), .unset, .unset, .unset, .unset] [] := by first | (simp [entryFrame, mkF, argsToLocals, Value.category, maxLocals]; done) | rfl
def rm0_Q (Z : State) (p1 : Int32) (p2 : Int32) (w0 : Addr) (w1 : Addr) (w2 : Addr) (w3 : Addr) (w4 : Addr) (w5 : Addr) (w6 : Addr) (h0 : Heap) (n0 : Nat) (v : Option Value) (h : Heap) (L : List Loc) : Prop := v = some (.int 1) ∧ Fr n0 L
set_option maxRecDepth 65536 in
set_option maxHeartbeats 40000000 in
theorem rm0 (l : Launch) (Z : State) (a0 : Array Value) (hw : ∀ d ∈ tables_1, d.before a0 Z = true) (ws : List Jvm.Cond) (p1 : Int32) (p2 : Int32) (w0 : Addr) (w1 : Addr) (w2 : Addr) (w3 : Addr) (w4 : Addr) (w5 : Addr) (w6 : Addr) (h0 : Heap) (n0 : Nat) (Z0 : n0 ≤ h0.size) (S_LONG : Sta Z h0 "com/example/meridial/meridial/tables/ColumnType" "LONG" "Lcom/example/meridial/meridial/tables/ColumnType;" (.ref w0)) (S_INT : Sta Z h0 "com/example/meridial/meridial/tables/ColumnType" "INT" "Lcom/example/meridial/meridial/tables/ColumnType;" (.ref w1)) (S_SHORT : Sta Z h0 "com/example/meridial/meridial/tables/ColumnType" "SHORT" "Lcom/example/meridial/meridial/tables/ColumnType;" (.ref w2)) (S_DOUBLE : Sta Z h0 "com/example/meridial/meridial/tables/ColumnType" "DOUBLE" "Lcom/example/meridial/meridial/tables/ColumnType;" (.ref w3)) (S_FLOAT : Sta Z h0 "com/example/meridial/meridial/tables/ColumnType" "FLOAT" "Lcom/example/meridial/meridial/tables/ColumnType;" (.ref w4)) (S_TIMESTAMP : Sta Z h0 "com/example/meridial/meridial/tables/ColumnType" "TIMESTAMP" "Lcom/example/meridial/meridial/tables/ColumnType;" (.ref w5)) (S_TEXT : Sta Z h0 "com/example/meridial/meridial/tables/ColumnType" "TEXT" "Lcom/example/meridial/meridial/tables/ColumnType;" (.ref w6)) :
    MetFree l x (head1 (Jvm.Cond.code x code maxLocals ret :: ws) room_1) (fun a U => a = #[(.int p1), (.int p2)] ∧ Z.Warmed39 U.vm ∧ U.heap = h0) (fun _ _ _ _ _ => True) (fun _ U o U' => ∃ v L, o = .returned v ∧ rm0_Q Z p1 p2 w0 w1 w2 w3 w4 w5 w6 h0 n0 v U'.heap L ∧ FrameEnd U o U' L room_1.cells room_1.slots) := by
  refine MetFree.of_bodySF (plainFor_of_name rm0_pn) hisR ?_
  intro p e s m args below meth c s₁ Bd hml0 hP hK
  obtain ⟨rfl, hZ, hh⟩ := hP
  have hx := Bd.exec
  have hby := Bd.bytes
  have hml : c.maxLocals = 6 := hml0
  have hown : s.vm.findClass "com/example/meridial/meridial/tables/ColumnTypeOfJdbcTypePinLaw" = some m.cls := findClass_of_methodNamed Bd.named
  have hnm := (name_of_methodNamed Bd.named Bd.method).1
  have X0 : Stand p l e room_1 s m #[(.int p1), (.int p2)] below meth c s₁ [] 0 0 := Stand.of_body Bd
  have e0 : s₁.heap = h0 := by rw [← hh, Bd.state]; rfl
  have N0 := Fr.nil n0
  refine own_via (fun t k => castTop (rm0_ef m p1 p2) k) ?_
  show own_G p e below _ (s₁.setTop (mkF m 0 #[.val (.int p1), .val (.int p2), .unset, .unset, .unset, .unset] []))
  refine own_via (fun t k => XS.bipush X0.here hx rfl (hb hby at_0) k) ?_
  show own_G p e below _ (s₁.setTop (mkF m 2 #[.val (.int p1), .val (.int p2), .unset, .unset, .unset, .unset] [(.int (12 : Int32))]))
  obtain ⟨T1, h1, k1, X1, e1, E1, A1, st1⟩ := newP X0 hx hZ (hw _ (List.mem_of_getElem? (i := 0) rfl)) e0 (g := (mkF m 2 #[.val (.int p1), .val (.int p2), .unset, .unset, .unset, .unset] [(.int (12 : Int32))])) rfl (hb hby at_2) rfl (by decide) (cap := 12) (by decide) (by decide) (by decide) (by decide)
  obtain ⟨b1, g1⟩ : ∃ z, z = h0.size := ⟨_, rfl⟩
  rw [← g1] at A1 st1
  have gx_b1 : n0 ≤ b1 := Nat.le_trans Z0 (Nat.le_of_eq g1.symm)
  have Z1 : n0 ≤ h1.size := Nat.le_trans Z0 E1.1
  have F2 := S_LONG.ext E1
  have F3 := S_INT.ext E1
  have F4 := S_SHORT.ext E1
  have F5 := S_DOUBLE.ext E1
  have F6 := S_FLOAT.ext E1
  have F7 := S_TIMESTAMP.ext E1
  have F8 := S_TEXT.ext E1
  have V1 : Arv Z h1 b1 k1 .int (12 : Int32) [(.int (0 : Int32)), (.int (0 : Int32)), (.int (0 : Int32)), (.int (0 : Int32)), (.int (0 : Int32)), (.int (0 : Int32)), (.int (0 : Int32)), (.int (0 : Int32)), (.int (0 : Int32)), (.int (0 : Int32)), (.int (0 : Int32)), (.int (0 : Int32))] (.int (0 : Int32)) := (Arv.new A1 (by decide)).pad (pad_rep [] (.int (0 : Int32)) 12)
  refine own_via st1 ?_
  show own_G p e below _ (T1.setTop (mkF m 4 #[.val (.int p1), .val (.int p2), .unset, .unset, .unset, .unset] [(.ref b1)]))
  refine own_via (fun t k => XS.dup X1.here hx rfl (hb hby at_4) rfl rfl k) ?_
  show own_G p e below _ (T1.setTop (mkF m 5 #[.val (.int p1), .val (.int p2), .unset, .unset, .unset, .unset] [(.ref b1), (.ref b1)]))
  refine own_via (fun t k => XS.iconst X1.here hx rfl (hb hby at_5) k) ?_
  show own_G p e below _ (T1.setTop (mkF m 6 #[.val (.int p1), .val (.int p2), .unset, .unset, .unset, .unset] [(.int (0 : Int32)), (.ref b1), (.ref b1)]))
  refine own_via (fun t k => XS.bipush X1.here hx rfl (hb hby at_6) k) ?_
  show own_G p e below _ (T1.setTop (mkF m 8 #[.val (.int p1), .val (.int p2), .unset, .unset, .unset, .unset] [(.int (-5 : Int32)), (.int (0 : Int32)), (.ref b1), (.ref b1)]))
  obtain ⟨cl9, Ar9, q9, S9, Ng9, Hs9, G9⟩ := V1
  have hin9 : ¬ ((0 : Int32) < 0 ∨ cl9.slots.size ≤ ((0 : Int32)).toNatClampNeg) := inb_of S9 ⟨by decide, by decide⟩
  obtain ⟨T9, h9, X9, e9, W9, st9⟩ := stI X1 hx hZ e1 Ar9 (j := (0 : Int32)) hin9 (g := (mkF m 8 #[.val (.int p1), .val (.int p2), .unset, .unset, .unset, .unset] [(.int (-5 : Int32)), (.int (0 : Int32)), (.ref b1), (.ref b1)])) rfl rfl (hb hby at_8)
  have V9 : Arv Z h9 b1 k1 .int (12 : Int32) [(.int (-5 : Int32)), (.int (0 : Int32)), (.int (0 : Int32)), (.int (0 : Int32)), (.int (0 : Int32)), (.int (0 : Int32)), (.int (0 : Int32)), (.int (0 : Int32)), (.int (0 : Int32)), (.int (0 : Int32)), (.int (0 : Int32)), (.int (0 : Int32))] (.int (0 : Int32)) := Arv.set Ar9 q9 S9 Ng9 Hs9 G9 rfl W9 0 rfl (Nat.le_of_ble_eq_true rfl)
  have F10 := F2.wr W9
  have F11 := F3.wr W9
  have F12 := F4.wr W9
  have F13 := F5.wr W9
  have F14 := F6.wr W9
  have F15 := F7.wr W9
  have F16 := F8.wr W9
  have N9 := Fr.snoc X9 N0 gx_b1
  have Z9 : n0 ≤ h9.size := Nat.le_trans Z1 (Nat.le_of_eq W9.size.symm)
  refine own_via st9 ?_
  show own_G p e below _ (T9.setTop (mkF m 9 #[.val (.int p1), .val (.int p2), .unset, .unset, .unset, .unset] [(.ref b1)]))
  refine own_via (fun t k => XS.dup X9.here hx rfl (hb hby at_9) rfl rfl k) ?_
  show own_G p e below _ (T9.setTop (mkF m 10 #[.val (.int p1), .val (.int p2), .unset, .unset, .unset, .unset] [(.ref b1), (.ref b1)]))
  refine own_via (fun t k => XS.iconst X9.here hx rfl (hb hby at_10) k) ?_
  show own_G p e below _ (T9.setTop (mkF m 11 #[.val (.int p1), .val (.int p2), .unset, .unset, .unset, .unset] [(.int (1 : Int32)), (.ref b1), (.ref b1)]))
  refine own_via (fun t k => XS.iconst X9.here hx rfl (hb hby at_11) k) ?_
  show own_G p e below _ (T9.setTop (mkF m 12 #[.val (.int p1), .val (.int p2), .unset, .unset, .unset, .unset] [(.int (4 : Int32)), (.int (1 : Int32)), (.ref b1), (.ref b1)]))
  obtain ⟨cl17, Ar17, q17, S17, Ng17, Hs17, G17⟩ := V9
  have hin17 : ¬ ((1 : Int32) < 0 ∨ cl17.slots.size ≤ ((1 : Int32)).toNatClampNeg) := inb_of S17 ⟨by decide, by decide⟩
  obtain ⟨T17, h17, X17, e17, W17, st17⟩ := stI X9 hx hZ e9 Ar17 (j := (1 : Int32)) hin17 (g := (mkF m 12 #[.val (.int p1), .val (.int p2), .unset, .unset, .unset, .unset] [(.int (4 : Int32)), (.int (1 : Int32)), (.ref b1), (.ref b1)])) rfl rfl (hb hby at_12)
  have V17 : Arv Z h17 b1 k1 .int (12 : Int32) [(.int (-5 : Int32)), (.int (4 : Int32)), (.int (0 : Int32)), (.int (0 : Int32)), (.int (0 : Int32)), (.int (0 : Int32)), (.int (0 : Int32)), (.int (0 : Int32)), (.int (0 : Int32)), (.int (0 : Int32)), (.int (0 : Int32)), (.int (0 : Int32))] (.int (0 : Int32)) := Arv.set Ar17 q17 S17 Ng17 Hs17 G17 rfl W17 1 rfl (Nat.le_of_ble_eq_true rfl)
  have F18 := F10.wr W17
  have F19 := F11.wr W17
  have F20 := F12.wr W17
  have F21 := F13.wr W17
  have F22 := F14.wr W17
  have F23 := F15.wr W17
  have F24 := F16.wr W17
  have N17 := Fr.snoc X17 N9 gx_b1
  have Z17 : n0 ≤ h17.size := Nat.le_trans Z9 (Nat.le_of_eq W17.size.symm)
  refine own_via st17 ?_
  show own_G p e below _ (T17.setTop (mkF m 13 #[.val (.int p1), .val (.int p2), .unset, .unset, .unset, .unset] [(.ref b1)]))
  refine own_via (fun t k => XS.dup X17.here hx rfl (hb hby at_13) rfl rfl k) ?_
  show own_G p e below _ (T17.setTop (mkF m 14 #[.val (.int p1), .val (.int p2), .unset, .unset, .unset, .unset] [(.ref b1), (.ref b1)]))
  refine own_via (fun t k => XS.iconst X17.here hx rfl (hb hby at_14) k) ?_
  show own_G p e below _ (T17.setTop (mkF m 15 #[.val (.int p1), .val (.int p2), .unset, .unset, .unset, .unset] [(.int (2 : Int32)), (.ref b1), (.ref b1)]))
  refine own_via (fun t k => XS.iconst X17.here hx rfl (hb hby at_15) k) ?_
  show own_G p e below _ (T17.setTop (mkF m 16 #[.val (.int p1), .val (.int p2), .unset, .unset, .unset, .unset] [(.int (5 : Int32)), (.int (2 : Int32)), (.ref b1), (.ref b1)]))
  obtain ⟨cl25, Ar25, q25, S25, Ng25, Hs25, G25⟩ := V17
  have hin25 : ¬ ((2 : Int32) < 0 ∨ cl25.slots.size ≤ ((2 : Int32)).toNatClampNeg) := inb_of S25 ⟨by decide, by decide⟩
  obtain ⟨T25, h25, X25, e25, W25, st25⟩ := stI X17 hx hZ e17 Ar25 (j := (2 : Int32)) hin25 (g := (mkF m 16 #[.val (.int p1), .val (.int p2), .unset, .unset, .unset, .unset] [(.int (5 : Int32)), (.int (2 : Int32)), (.ref b1), (.ref b1)])) rfl rfl (hb hby at_16)
  have V25 : Arv Z h25 b1 k1 .int (12 : Int32) [(.int (-5 : Int32)), (.int (4 : Int32)), (.int (5 : Int32)), (.int (0 : Int32)), (.int (0 : Int32)), (.int (0 : Int32)), (.int (0 : Int32)), (.int (0 : Int32)), (.int (0 : Int32)), (.int (0 : Int32)), (.int (0 : Int32)), (.int (0 : Int32))] (.int (0 : Int32)) := Arv.set Ar25 q25 S25 Ng25 Hs25 G25 rfl W25 2 rfl (Nat.le_of_ble_eq_true rfl)
  have F26 := F18.wr W25
  have F27 := F19.wr W25
  have F28 := F20.wr W25
  have F29 := F21.wr W25
  have F30 := F22.wr W25
  have F31 := F23.wr W25
  have F32 := F24.wr W25
  have N25 := Fr.snoc X25 N17 gx_b1
  have Z25 : n0 ≤ h25.size := Nat.le_trans Z17 (Nat.le_of_eq W25.size.symm)
  refine own_via st25 ?_
  show own_G p e below _ (T25.setTop (mkF m 17 #[.val (.int p1), .val (.int p2), .unset, .unset, .unset, .unset] [(.ref b1)]))
  refine own_via (fun t k => XS.dup X25.here hx rfl (hb hby at_17) rfl rfl k) ?_
  show own_G p e below _ (T25.setTop (mkF m 18 #[.val (.int p1), .val (.int p2), .unset, .unset, .unset, .unset] [(.ref b1), (.ref b1)]))
  refine own_via (fun t k => XS.iconst X25.here hx rfl (hb hby at_18) k) ?_
  show own_G p e below _ (T25.setTop (mkF m 19 #[.val (.int p1), .val (.int p2), .unset, .unset, .unset, .unset] [(.int (3 : Int32)), (.ref b1), (.ref b1)]))
  refine own_via (fun t k => XS.bipush X25.here hx rfl (hb hby at_19) k) ?_
  show own_G p e below _ (T25.setTop (mkF m 21 #[.val (.int p1), .val (.int p2), .unset, .unset, .unset, .unset] [(.int (-6 : Int32)), (.int (3 : Int32)), (.ref b1), (.ref b1)]))
  obtain ⟨cl33, Ar33, q33, S33, Ng33, Hs33, G33⟩ := V25
  have hin33 : ¬ ((3 : Int32) < 0 ∨ cl33.slots.size ≤ ((3 : Int32)).toNatClampNeg) := inb_of S33 ⟨by decide, by decide⟩
  obtain ⟨T33, h33, X33, e33, W33, st33⟩ := stI X25 hx hZ e25 Ar33 (j := (3 : Int32)) hin33 (g := (mkF m 21 #[.val (.int p1), .val (.int p2), .unset, .unset, .unset, .unset] [(.int (-6 : Int32)), (.int (3 : Int32)), (.ref b1), (.ref b1)])) rfl rfl (hb hby at_21)
  have V33 : Arv Z h33 b1 k1 .int (12 : Int32) [(.int (-5 : Int32)), (.int (4 : Int32)), (.int (5 : Int32)), (.int (-6 : Int32)), (.int (0 : Int32)), (.int (0 : Int32)), (.int (0 : Int32)), (.int (0 : Int32)), (.int (0 : Int32)), (.int (0 : Int32)), (.int (0 : Int32)), (.int (0 : Int32))] (.int (0 : Int32)) := Arv.set Ar33 q33 S33 Ng33 Hs33 G33 rfl W33 3 rfl (Nat.le_of_ble_eq_true rfl)
  have F34 := F26.wr W33
  have F35 := F27.wr W33
  have F36 := F28.wr W33
  have F37 := F29.wr W33
  have F38 := F30.wr W33
  have F39 := F31.wr W33
  have F40 := F32.wr W33
  have N33 := Fr.snoc X33 N25 gx_b1
  have Z33 : n0 ≤ h33.size := Nat.le_trans Z25 (Nat.le_of_eq W33.size.symm)
  refine own_via st33 ?_
  show own_G p e below _ (T33.setTop (mkF m 22 #[.val (.int p1), .val (.int p2), .unset, .unset, .unset, .unset] [(.ref b1)]))
  refine own_via (fun t k => XS.dup X33.here hx rfl (hb hby at_22) rfl rfl k) ?_
  show own_G p e below _ (T33.setTop (mkF m 23 #[.val (.int p1), .val (.int p2), .unset, .unset, .unset, .unset] [(.ref b1), (.ref b1)]))
  refine own_via (fun t k => XS.iconst X33.here hx rfl (hb hby at_23) k) ?_
  show own_G p e below _ (T33.setTop (mkF m 24 #[.val (.int p1), .val (.int p2), .unset, .unset, .unset, .unset] [(.int (4 : Int32)), (.ref b1), (.ref b1)]))
  refine own_via (fun t k => XS.bipush X33.here hx rfl (hb hby at_24) k) ?_
  show own_G p e below _ (T33.setTop (mkF m 26 #[.val (.int p1), .val (.int p2), .unset, .unset, .unset, .unset] [(.int (8 : Int32)), (.int (4 : Int32)), (.ref b1), (.ref b1)]))
  obtain ⟨cl41, Ar41, q41, S41, Ng41, Hs41, G41⟩ := V33
  have hin41 : ¬ ((4 : Int32) < 0 ∨ cl41.slots.size ≤ ((4 : Int32)).toNatClampNeg) := inb_of S41 ⟨by decide, by decide⟩
  obtain ⟨T41, h41, X41, e41, W41, st41⟩ := stI X33 hx hZ e33 Ar41 (j := (4 : Int32)) hin41 (g := (mkF m 26 #[.val (.int p1), .val (.int p2), .unset, .unset, .unset, .unset] [(.int (8 : Int32)), (.int (4 : Int32)), (.ref b1), (.ref b1)])) rfl rfl (hb hby at_26)
  have V41 : Arv Z h41 b1 k1 .int (12 : Int32) [(.int (-5 : Int32)), (.int (4 : Int32)), (.int (5 : Int32)), (.int (-6 : Int32)), (.int (8 : Int32)), (.int (0 : Int32)), (.int (0 : Int32)), (.int (0 : Int32)), (.int (0 : Int32)), (.int (0 : Int32)), (.int (0 : Int32)), (.int (0 : Int32))] (.int (0 : Int32)) := Arv.set Ar41 q41 S41 Ng41 Hs41 G41 rfl W41 4 rfl (Nat.le_of_ble_eq_true rfl)
  have F42 := F34.wr W41
  have F43 := F35.wr W41
  have F44 := F36.wr W41
  have F45 := F37.wr W41
  have F46 := F38.wr W41
  have F47 := F39.wr W41
  have F48 := F40.wr W41
  have N41 := Fr.snoc X41 N33 gx_b1
  have Z41 : n0 ≤ h41.size := Nat.le_trans Z33 (Nat.le_of_eq W41.size.symm)
  refine own_via st41 ?_
  show own_G p e below _ (T41.setTop (mkF m 27 #[.val (.int p1), .val (.int p2), .unset, .unset, .unset, .unset] [(.ref b1)]))
  refine own_via (fun t k => XS.dup X41.here hx rfl (hb hby at_27) rfl rfl k) ?_
  show own_G p e below _ (T41.setTop (mkF m 28 #[.val (.int p1), .val (.int p2), .unset, .unset, .unset, .unset] [(.ref b1), (.ref b1)]))
  refine own_via (fun t k => XS.iconst X41.here hx rfl (hb hby at_28) k) ?_
  show own_G p e below _ (T41.setTop (mkF m 29 #[.val (.int p1), .val (.int p2), .unset, .unset, .unset, .unset] [(.int (5 : Int32)), (.ref b1), (.ref b1)]))
  refine own_via (fun t k => XS.bipush X41.here hx rfl (hb hby at_29) k) ?_
  show own_G p e below _ (T41.setTop (mkF m 31 #[.val (.int p1), .val (.int p2), .unset, .unset, .unset, .unset] [(.int (6 : Int32)), (.int (5 : Int32)), (.ref b1), (.ref b1)]))
  obtain ⟨cl49, Ar49, q49, S49, Ng49, Hs49, G49⟩ := V41
  have hin49 : ¬ ((5 : Int32) < 0 ∨ cl49.slots.size ≤ ((5 : Int32)).toNatClampNeg) := inb_of S49 ⟨by decide, by decide⟩
  obtain ⟨T49, h49, X49, e49, W49, st49⟩ := stI X41 hx hZ e41 Ar49 (j := (5 : Int32)) hin49 (g := (mkF m 31 #[.val (.int p1), .val (.int p2), .unset, .unset, .unset, .unset] [(.int (6 : Int32)), (.int (5 : Int32)), (.ref b1), (.ref b1)])) rfl rfl (hb hby at_31)
  have V49 : Arv Z h49 b1 k1 .int (12 : Int32) [(.int (-5 : Int32)), (.int (4 : Int32)), (.int (5 : Int32)), (.int (-6 : Int32)), (.int (8 : Int32)), (.int (6 : Int32)), (.int (0 : Int32)), (.int (0 : Int32)), (.int (0 : Int32)), (.int (0 : Int32)), (.int (0 : Int32)), (.int (0 : Int32))] (.int (0 : Int32)) := Arv.set Ar49 q49 S49 Ng49 Hs49 G49 rfl W49 5 rfl (Nat.le_of_ble_eq_true rfl)
  have F50 := F42.wr W49
  have F51 := F43.wr W49
  have F52 := F44.wr W49
  have F53 := F45.wr W49
  have F54 := F46.wr W49
  have F55 := F47.wr W49
  have F56 := F48.wr W49
  have N49 := Fr.snoc X49 N41 gx_b1
  have Z49 : n0 ≤ h49.size := Nat.le_trans Z41 (Nat.le_of_eq W49.size.symm)
  refine own_via st49 ?_
  show own_G p e below _ (T49.setTop (mkF m 32 #[.val (.int p1), .val (.int p2), .unset, .unset, .unset, .unset] [(.ref b1)]))
  refine own_via (fun t k => XS.dup X49.here hx rfl (hb hby at_32) rfl rfl k) ?_
  show own_G p e below _ (T49.setTop (mkF m 33 #[.val (.int p1), .val (.int p2), .unset, .unset, .unset, .unset] [(.ref b1), (.ref b1)]))
  refine own_via (fun t k => XS.bipush X49.here hx rfl (hb hby at_33) k) ?_
  show own_G p e below _ (T49.setTop (mkF m 35 #[.val (.int p1), .val (.int p2), .unset, .unset, .unset, .unset] [(.int (6 : Int32)), (.ref b1), (.ref b1)]))
  refine own_via (fun t k => XS.iconst X49.here hx rfl (hb hby at_35) k) ?_
  show own_G p e below _ (T49.setTop (mkF m 36 #[.val (.int p1), .val (.int p2), .unset, .unset, .unset, .unset] [(.int (3 : Int32)), (.int (6 : Int32)), (.ref b1), (.ref b1)]))
  obtain ⟨cl57, Ar57, q57, S57, Ng57, Hs57, G57⟩ := V49
  have hin57 : ¬ ((6 : Int32) < 0 ∨ cl57.slots.size ≤ ((6 : Int32)).toNatClampNeg) := inb_of S57 ⟨by decide, by decide⟩
  obtain ⟨T57, h57, X57, e57, W57, st57⟩ := stI X49 hx hZ e49 Ar57 (j := (6 : Int32)) hin57 (g := (mkF m 36 #[.val (.int p1), .val (.int p2), .unset, .unset, .unset, .unset] [(.int (3 : Int32)), (.int (6 : Int32)), (.ref b1), (.ref b1)])) rfl rfl (hb hby at_36)
  have V57 : Arv Z h57 b1 k1 .int (12 : Int32) [(.int (-5 : Int32)), (.int (4 : Int32)), (.int (5 : Int32)), (.int (-6 : Int32)), (.int (8 : Int32)), (.int (6 : Int32)), (.int (3 : Int32)), (.int (0 : Int32)), (.int (0 : Int32)), (.int (0 : Int32)), (.int (0 : Int32)), (.int (0 : Int32))] (.int (0 : Int32)) := Arv.set Ar57 q57 S57 Ng57 Hs57 G57 rfl W57 6 rfl (Nat.le_of_ble_eq_true rfl)
  have F58 := F50.wr W57
  have F59 := F51.wr W57
  have F60 := F52.wr W57
  have F61 := F53.wr W57
  have F62 := F54.wr W57
  have F63 := F55.wr W57
  have F64 := F56.wr W57
  have N57 := Fr.snoc X57 N49 gx_b1
  have Z57 : n0 ≤ h57.size := Nat.le_trans Z49 (Nat.le_of_eq W57.size.symm)
  refine own_via st57 ?_
  show own_G p e below _ (T57.setTop (mkF m 37 #[.val (.int p1), .val (.int p2), .unset, .unset, .unset, .unset] [(.ref b1)]))
  refine own_via (fun t k => XS.dup X57.here hx rfl (hb hby at_37) rfl rfl k) ?_
  show own_G p e below _ (T57.setTop (mkF m 38 #[.val (.int p1), .val (.int p2), .unset, .unset, .unset, .unset] [(.ref b1), (.ref b1)]))
  refine own_via (fun t k => XS.bipush X57.here hx rfl (hb hby at_38) k) ?_
  show own_G p e below _ (T57.setTop (mkF m 40 #[.val (.int p1), .val (.int p2), .unset, .unset, .unset, .unset] [(.int (7 : Int32)), (.ref b1), (.ref b1)]))
  refine own_via (fun t k => XS.iconst X57.here hx rfl (hb hby at_40) k) ?_
  show own_G p e below _ (T57.setTop (mkF m 41 #[.val (.int p1), .val (.int p2), .unset, .unset, .unset, .unset] [(.int (2 : Int32)), (.int (7 : Int32)), (.ref b1), (.ref b1)]))
  obtain ⟨cl65, Ar65, q65, S65, Ng65, Hs65, G65⟩ := V57
  have hin65 : ¬ ((7 : Int32) < 0 ∨ cl65.slots.size ≤ ((7 : Int32)).toNatClampNeg) := inb_of S65 ⟨by decide, by decide⟩
  obtain ⟨T65, h65, X65, e65, W65, st65⟩ := stI X57 hx hZ e57 Ar65 (j := (7 : Int32)) hin65 (g := (mkF m 41 #[.val (.int p1), .val (.int p2), .unset, .unset, .unset, .unset] [(.int (2 : Int32)), (.int (7 : Int32)), (.ref b1), (.ref b1)])) rfl rfl (hb hby at_41)
  have V65 : Arv Z h65 b1 k1 .int (12 : Int32) [(.int (-5 : Int32)), (.int (4 : Int32)), (.int (5 : Int32)), (.int (-6 : Int32)), (.int (8 : Int32)), (.int (6 : Int32)), (.int (3 : Int32)), (.int (2 : Int32)), (.int (0 : Int32)), (.int (0 : Int32)), (.int (0 : Int32)), (.int (0 : Int32))] (.int (0 : Int32)) := Arv.set Ar65 q65 S65 Ng65 Hs65 G65 rfl W65 7 rfl (Nat.le_of_ble_eq_true rfl)
  have F66 := F58.wr W65
  have F67 := F59.wr W65
  have F68 := F60.wr W65
  have F69 := F61.wr W65
  have F70 := F62.wr W65
  have F71 := F63.wr W65
  have F72 := F64.wr W65
  have N65 := Fr.snoc X65 N57 gx_b1
  have Z65 : n0 ≤ h65.size := Nat.le_trans Z57 (Nat.le_of_eq W65.size.symm)
  refine own_via st65 ?_
  show own_G p e below _ (T65.setTop (mkF m 42 #[.val (.int p1), .val (.int p2), .unset, .unset, .unset, .unset] [(.ref b1)]))
  refine own_via (fun t k => XS.dup X65.here hx rfl (hb hby at_42) rfl rfl k) ?_
  show own_G p e below _ (T65.setTop (mkF m 43 #[.val (.int p1), .val (.int p2), .unset, .unset, .unset, .unset] [(.ref b1), (.ref b1)]))
  refine own_via (fun t k => XS.bipush X65.here hx rfl (hb hby at_43) k) ?_
  show own_G p e below _ (T65.setTop (mkF m 45 #[.val (.int p1), .val (.int p2), .unset, .unset, .unset, .unset] [(.int (8 : Int32)), (.ref b1), (.ref b1)]))
  refine own_via (fun t k => XS.bipush X65.here hx rfl (hb hby at_45) k) ?_
  show own_G p e below _ (T65.setTop (mkF m 47 #[.val (.int p1), .val (.int p2), .unset, .unset, .unset, .unset] [(.int (7 : Int32)), (.int (8 : Int32)), (.ref b1), (.ref b1)]))
  obtain ⟨cl73, Ar73, q73, S73, Ng73, Hs73, G73⟩ := V65
  have hin73 : ¬ ((8 : Int32) < 0 ∨ cl73.slots.size ≤ ((8 : Int32)).toNatClampNeg) := inb_of S73 ⟨by decide, by decide⟩
  obtain ⟨T73, h73, X73, e73, W73, st73⟩ := stI X65 hx hZ e65 Ar73 (j := (8 : Int32)) hin73 (g := (mkF m 47 #[.val (.int p1), .val (.int p2), .unset, .unset, .unset, .unset] [(.int (7 : Int32)), (.int (8 : Int32)), (.ref b1), (.ref b1)])) rfl rfl (hb hby at_47)
  have V73 : Arv Z h73 b1 k1 .int (12 : Int32) [(.int (-5 : Int32)), (.int (4 : Int32)), (.int (5 : Int32)), (.int (-6 : Int32)), (.int (8 : Int32)), (.int (6 : Int32)), (.int (3 : Int32)), (.int (2 : Int32)), (.int (7 : Int32)), (.int (0 : Int32)), (.int (0 : Int32)), (.int (0 : Int32))] (.int (0 : Int32)) := Arv.set Ar73 q73 S73 Ng73 Hs73 G73 rfl W73 8 rfl (Nat.le_of_ble_eq_true rfl)
  have F74 := F66.wr W73
  have F75 := F67.wr W73
  have F76 := F68.wr W73
  have F77 := F69.wr W73
  have F78 := F70.wr W73
  have F79 := F71.wr W73
  have F80 := F72.wr W73
  have N73 := Fr.snoc X73 N65 gx_b1
  have Z73 : n0 ≤ h73.size := Nat.le_trans Z65 (Nat.le_of_eq W73.size.symm)
  refine own_via st73 ?_
  show own_G p e below _ (T73.setTop (mkF m 48 #[.val (.int p1), .val (.int p2), .unset, .unset, .unset, .unset] [(.ref b1)]))
  refine own_via (fun t k => XS.dup X73.here hx rfl (hb hby at_48) rfl rfl k) ?_
  show own_G p e below _ (T73.setTop (mkF m 49 #[.val (.int p1), .val (.int p2), .unset, .unset, .unset, .unset] [(.ref b1), (.ref b1)]))
  refine own_via (fun t k => XS.bipush X73.here hx rfl (hb hby at_49) k) ?_
  show own_G p e below _ (T73.setTop (mkF m 51 #[.val (.int p1), .val (.int p2), .unset, .unset, .unset, .unset] [(.int (9 : Int32)), (.ref b1), (.ref b1)]))
  refine own_via (fun t k => XS.bipush X73.here hx rfl (hb hby at_51) k) ?_
  show own_G p e below _ (T73.setTop (mkF m 53 #[.val (.int p1), .val (.int p2), .unset, .unset, .unset, .unset] [(.int (93 : Int32)), (.int (9 : Int32)), (.ref b1), (.ref b1)]))
  obtain ⟨cl81, Ar81, q81, S81, Ng81, Hs81, G81⟩ := V73
  have hin81 : ¬ ((9 : Int32) < 0 ∨ cl81.slots.size ≤ ((9 : Int32)).toNatClampNeg) := inb_of S81 ⟨by decide, by decide⟩
  obtain ⟨T81, h81, X81, e81, W81, st81⟩ := stI X73 hx hZ e73 Ar81 (j := (9 : Int32)) hin81 (g := (mkF m 53 #[.val (.int p1), .val (.int p2), .unset, .unset, .unset, .unset] [(.int (93 : Int32)), (.int (9 : Int32)), (.ref b1), (.ref b1)])) rfl rfl (hb hby at_53)
  have V81 : Arv Z h81 b1 k1 .int (12 : Int32) [(.int (-5 : Int32)), (.int (4 : Int32)), (.int (5 : Int32)), (.int (-6 : Int32)), (.int (8 : Int32)), (.int (6 : Int32)), (.int (3 : Int32)), (.int (2 : Int32)), (.int (7 : Int32)), (.int (93 : Int32)), (.int (0 : Int32)), (.int (0 : Int32))] (.int (0 : Int32)) := Arv.set Ar81 q81 S81 Ng81 Hs81 G81 rfl W81 9 rfl (Nat.le_of_ble_eq_true rfl)
  have F82 := F74.wr W81
  have F83 := F75.wr W81
  have F84 := F76.wr W81
  have F85 := F77.wr W81
  have F86 := F78.wr W81
  have F87 := F79.wr W81
  have F88 := F80.wr W81
  have N81 := Fr.snoc X81 N73 gx_b1
  have Z81 : n0 ≤ h81.size := Nat.le_trans Z73 (Nat.le_of_eq W81.size.symm)
  refine own_via st81 ?_
  show own_G p e below _ (T81.setTop (mkF m 54 #[.val (.int p1), .val (.int p2), .unset, .unset, .unset, .unset] [(.ref b1)]))
  refine own_via (fun t k => XS.dup X81.here hx rfl (hb hby at_54) rfl rfl k) ?_
  show own_G p e below _ (T81.setTop (mkF m 55 #[.val (.int p1), .val (.int p2), .unset, .unset, .unset, .unset] [(.ref b1), (.ref b1)]))
  refine own_via (fun t k => XS.bipush X81.here hx rfl (hb hby at_55) k) ?_
  show own_G p e below _ (T81.setTop (mkF m 57 #[.val (.int p1), .val (.int p2), .unset, .unset, .unset, .unset] [(.int (10 : Int32)), (.ref b1), (.ref b1)]))
  refine own_via (fun t k => XS.bipush X81.here hx rfl (hb hby at_57) k) ?_
  show own_G p e below _ (T81.setTop (mkF m 59 #[.val (.int p1), .val (.int p2), .unset, .unset, .unset, .unset] [(.int (12 : Int32)), (.int (10 : Int32)), (.ref b1), (.ref b1)]))
  obtain ⟨cl89, Ar89, q89, S89, Ng89, Hs89, G89⟩ := V81
  have hin89 : ¬ ((10 : Int32) < 0 ∨ cl89.slots.size ≤ ((10 : Int32)).toNatClampNeg) := inb_of S89 ⟨by decide, by decide⟩
  obtain ⟨T89, h89, X89, e89, W89, st89⟩ := stI X81 hx hZ e81 Ar89 (j := (10 : Int32)) hin89 (g := (mkF m 59 #[.val (.int p1), .val (.int p2), .unset, .unset, .unset, .unset] [(.int (12 : Int32)), (.int (10 : Int32)), (.ref b1), (.ref b1)])) rfl rfl (hb hby at_59)
  have V89 : Arv Z h89 b1 k1 .int (12 : Int32) [(.int (-5 : Int32)), (.int (4 : Int32)), (.int (5 : Int32)), (.int (-6 : Int32)), (.int (8 : Int32)), (.int (6 : Int32)), (.int (3 : Int32)), (.int (2 : Int32)), (.int (7 : Int32)), (.int (93 : Int32)), (.int (12 : Int32)), (.int (0 : Int32))] (.int (0 : Int32)) := Arv.set Ar89 q89 S89 Ng89 Hs89 G89 rfl W89 10 rfl (Nat.le_of_ble_eq_true rfl)
  have F90 := F82.wr W89
  have F91 := F83.wr W89
  have F92 := F84.wr W89
  have F93 := F85.wr W89
  have F94 := F86.wr W89
  have F95 := F87.wr W89
  have F96 := F88.wr W89
  have N89 := Fr.snoc X89 N81 gx_b1
  have Z89 : n0 ≤ h89.size := Nat.le_trans Z81 (Nat.le_of_eq W89.size.symm)
  refine own_via st89 ?_
  show own_G p e below _ (T89.setTop (mkF m 60 #[.val (.int p1), .val (.int p2), .unset, .unset, .unset, .unset] [(.ref b1)]))
  refine own_via (fun t k => XS.dup X89.here hx rfl (hb hby at_60) rfl rfl k) ?_
  show own_G p e below _ (T89.setTop (mkF m 61 #[.val (.int p1), .val (.int p2), .unset, .unset, .unset, .unset] [(.ref b1), (.ref b1)]))
  refine own_via (fun t k => XS.bipush X89.here hx rfl (hb hby at_61) k) ?_
  show own_G p e below _ (T89.setTop (mkF m 63 #[.val (.int p1), .val (.int p2), .unset, .unset, .unset, .unset] [(.int (11 : Int32)), (.ref b1), (.ref b1)]))
  refine own_via (fun t k => XS.sipush X89.here hx rfl (hb hby at_63) k) ?_
  show own_G p e below _ (T89.setTop (mkF m 66 #[.val (.int p1), .val (.int p2), .unset, .unset, .unset, .unset] [(.int (2003 : Int32)), (.int (11 : Int32)), (.ref b1), (.ref b1)]))
  obtain ⟨cl97, Ar97, q97, S97, Ng97, Hs97, G97⟩ := V89
  have hin97 : ¬ ((11 : Int32) < 0 ∨ cl97.slots.size ≤ ((11 : Int32)).toNatClampNeg) := inb_of S97 ⟨by decide, by decide⟩
  obtain ⟨T97, h97, X97, e97, W97, st97⟩ := stI X89 hx hZ e89 Ar97 (j := (11 : Int32)) hin97 (g := (mkF m 66 #[.val (.int p1), .val (.int p2), .unset, .unset, .unset, .unset] [(.int (2003 : Int32)), (.int (11 : Int32)), (.ref b1), (.ref b1)])) rfl rfl (hb hby at_66)
  have V97 : Arv Z h97 b1 k1 .int (12 : Int32) [(.int (-5 : Int32)), (.int (4 : Int32)), (.int (5 : Int32)), (.int (-6 : Int32)), (.int (8 : Int32)), (.int (6 : Int32)), (.int (3 : Int32)), (.int (2 : Int32)), (.int (7 : Int32)), (.int (93 : Int32)), (.int (12 : Int32)), (.int (2003 : Int32))] (.int (0 : Int32)) := Arv.set Ar97 q97 S97 Ng97 Hs97 G97 rfl W97 11 rfl (Nat.le_of_ble_eq_true rfl)
  have F98 := F90.wr W97
  have F99 := F91.wr W97
  have F100 := F92.wr W97
  have F101 := F93.wr W97
  have F102 := F94.wr W97
  have F103 := F95.wr W97
  have F104 := F96.wr W97
  have N97 := Fr.snoc X97 N89 gx_b1
  have Z97 : n0 ≤ h97.size := Nat.le_trans Z89 (Nat.le_of_eq W97.size.symm)
  refine own_via st97 ?_
  show own_G p e below _ (T97.setTop (mkF m 67 #[.val (.int p1), .val (.int p2), .unset, .unset, .unset, .unset] [(.ref b1)]))
  refine own_via (fun t k => XS.astoreN X97.here hx rfl (hb hby at_67) rfl rfl (l' := #[.val (.int p1), .val (.int p2), .val (.ref b1), .unset, .unset, .unset]) rfl k) ?_
  show own_G p e below _ (T97.setTop (mkF m 68 #[.val (.int p1), .val (.int p2), .val (.ref b1), .unset, .unset, .unset] []))
  refine own_via (fun t k => XS.iloadN X97.here hx rfl (hb hby at_68) rfl k) ?_
  show own_G p e below _ (T97.setTop (mkF m 69 #[.val (.int p1), .val (.int p2), .val (.ref b1), .unset, .unset, .unset] [(.int p2)]))
  refine own_via (fun t k => XS.bipush X97.here hx rfl (hb hby at_69) k) ?_
  show own_G p e below _ (T97.setTop (mkF m 71 #[.val (.int p1), .val (.int p2), .val (.ref b1), .unset, .unset, .unset] [(.int (15 : Int32)), (.int p2)]))
  refine own_via (fun t k => XS.iand X97.here hx rfl (hb hby at_71) rfl k) ?_
  show own_G p e below _ (T97.setTop (mkF m 72 #[.val (.int p1), .val (.int p2), .val (.ref b1), .unset, .unset, .unset] [(.int (p2 &&& (15 : Int32)))]))
  refine own_via (fun t k => XS.istoreN X97.here hx rfl (hb hby at_72) rfl (l' := #[.val (.int p1), .val (.int p2), .val (.ref b1), .val (.int (p2 &&& (15 : Int32))), .unset, .unset]) rfl k) ?_
  show own_G p e below _ (T97.setTop (mkF m 73 #[.val (.int p1), .val (.int p2), .val (.ref b1), .val (.int (p2 &&& (15 : Int32))), .unset, .unset] []))
  refine own_via (fun t k => XS.iloadN X97.here hx rfl (hb hby at_73) rfl k) ?_
  show own_G p e below _ (T97.setTop (mkF m 74 #[.val (.int p1), .val (.int p2), .val (.ref b1), .val (.int (p2 &&& (15 : Int32))), .unset, .unset] [(.int (p2 &&& (15 : Int32)))]))
  refine own_via (fun t k => XS.bipush X97.here hx rfl (hb hby at_74) k) ?_
  show own_G p e below _ (T97.setTop (mkF m 76 #[.val (.int p1), .val (.int p2), .val (.ref b1), .val (.int (p2 &&& (15 : Int32))), .unset, .unset] [(.int (12 : Int32)), (.int (p2 &&& (15 : Int32)))]))
  by_cases c76_105 : (p2 &&& (15 : Int32)) < (12 : Int32)
  · skip
    refine own_via (fun t k => XS.icmpNo X97.here hx rfl (hb hby at_76) rfl (tlt c76_105).2.1 k) ?_
    show own_G p e below _ (T97.setTop (mkF m 79 #[.val (.int p1), .val (.int p2), .val (.ref b1), .val (.int (p2 &&& (15 : Int32))), .unset, .unset] []))
    refine own_via (fun t k => XS.aloadN X97.here hx rfl (hb hby at_79) rfl rfl k) ?_
    show own_G p e below _ (T97.setTop (mkF m 80 #[.val (.int p1), .val (.int p2), .val (.ref b1), .val (.int (p2 &&& (15 : Int32))), .unset, .unset] [(.ref b1)]))
    refine own_via (fun t k => XS.iloadN X97.here hx rfl (hb hby at_80) rfl k) ?_
    show own_G p e below _ (T97.setTop (mkF m 81 #[.val (.int p1), .val (.int p2), .val (.ref b1), .val (.int (p2 &&& (15 : Int32))), .unset, .unset] [(.int (p2 &&& (15 : Int32))), (.ref b1)]))
    obtain ⟨cl106, Ar106, q106, S106, Ng106, Hs106, G106⟩ := V97
    have hin106 : ¬ ((p2 &&& (15 : Int32)) < 0 ∨ cl106.slots.size ≤ ((p2 &&& (15 : Int32))).toNatClampNeg) := inb_of S106 (own_i15 p2 c76_105)
    obtain ⟨el, hel⟩ : ∃ z : Int32, ([(.int (-5 : Int32)), (.int (4 : Int32)), (.int (5 : Int32)), (.int (-6 : Int32)), (.int (8 : Int32)), (.int (6 : Int32)), (.int (3 : Int32)), (.int (2 : Int32)), (.int (7 : Int32)), (.int (93 : Int32)), (.int (12 : Int32)), (.int (2003 : Int32))] : List Value).getD ((p2 &&& (15 : Int32))).toNatClampNeg (.int (0 : Int32)) = .int z := own_isint (G106 _ (Nat.lt_of_not_le fun q => hin106 (Or.inr q)))
    have hat106 : cl106.slots[((p2 &&& (15 : Int32))).toNatClampNeg]? = some (.int el) := Hs106.at hin106 hel
    refine own_via (fun t k => X97.iaload hx (j := (p2 &&& (15 : Int32))) (v := (.int el)) (by rw [e97]; exact Ar106.1) (State.isArrayOf_alike hZ.alike Ar106.2.1) Ar106.2.2 hin106 hat106 (g := (mkF m 81 #[.val (.int p1), .val (.int p2), .val (.ref b1), .val (.int (p2 &&& (15 : Int32))), .unset, .unset] [(.int (p2 &&& (15 : Int32))), (.ref b1)])) rfl rfl (hb hby at_81) _ k) ?_
    show own_G p e below _ (T97.setTop (mkF m 82 #[.val (.int p1), .val (.int p2), .val (.ref b1), .val (.int (p2 &&& (15 : Int32))), .unset, .unset] [(.int el)]))
    refine own_via (fun t k => XS.goto X97.here hx rfl (pc0 := 82) (pc' := 86) rfl (hb hby at_82) (by decide) (by decide) k) ?_
    show own_G p e below _ (T97.setTop (mkF m 86 #[.val (.int p1), .val (.int p2), .val (.ref b1), .val (.int (p2 &&& (15 : Int32))), .unset, .unset] [(.int el)]))
    refine own_via (fun t k => XS.istore X97.here hx rfl (hb hby at_86) rfl (l' := #[.val (.int p1), .val (.int p2), .val (.ref b1), .val (.int (p2 &&& (15 : Int32))), .val (.int el), .unset]) rfl k) ?_
    show own_G p e below _ (T97.setTop (mkF m 88 #[.val (.int p1), .val (.int p2), .val (.ref b1), .val (.int (p2 &&& (15 : Int32))), .val (.int el), .unset] []))
    refine own_via (fun t k => XS.iload X97.here hx rfl (hb hby at_88) rfl k) ?_
    show own_G p e below _ (T97.setTop (mkF m 90 #[.val (.int p1), .val (.int p2), .val (.ref b1), .val (.int (p2 &&& (15 : Int32))), .val (.int el), .unset] [(.int el)]))
    obtain ⟨_, _, ⟨T107, L107, k107, n107⟩, -, X107, ⟨Lc107, hQ107, l107, y107, z107⟩, st107⟩ := Jvm.LawKit.callS X97 hx (y := (⟨"com/example/meridial/meridial/tables/ColumnType", "ofJdbcType", "(I)Lcom/example/meridial/meridial/tables/ColumnType;"⟩ : MethodName)) hown (mvT hZ (hw _ (List.mem_of_getElem? (i := 1) rfl))) (mvT hZ (hw _ (List.mem_of_getElem? (i := 2) rfl))) (mvT hZ (hw _ (List.mem_of_getElem? (i := 3) rfl))) (mvT hZ (hw _ (List.mem_of_getElem? (i := 4) rfl))) (by decide) (backOf (W := 0) (rm1 l Z a0 hw [] el w0 w1 w2 w3 w4 w5 w6 h97 n0 Z97 F98 F99 F100 F101 F102 F103 F104) hZ (hw _ (List.mem_of_getElem? (i := 4) rfl)) (hw _ (List.mem_of_getElem? (i := 3) rfl)) (by decide) (by decide)) (g := (mkF m 90 #[.val (.int p1), .val (.int p2), .val (.ref b1), .val (.int (p2 &&& (15 : Int32))), .val (.int el), .unset] [(.int el)])) rfl (by rw [hml]; rfl) (argsL := [(.int el)]) (rest := []) (lenOf pd_rm0_0 rfl) rfl (by show 2 * 0 + _ ≤ _; exact Nat.le_of_eq rfl) (hb hby at_90) (fun _ _ => ⟨rfl, e97, (by decide : 1 + 0 ≤ _), (by decide : 12 + 0 ≤ _)⟩)
    dsimp only [Pt.U, Pt.locs, Pt.cells, Pt.slots] at X107 l107 y107 z107 st107 hQ107
    subst l107 y107 z107
    obtain ⟨rfl, N107q, e107⟩ := hQ107
    have N107 := Fr.app N97 N107q
    refine own_via st107 ?_
    show own_G p e below _ (T107.setTop (mkF m 93 #[.val (.int p1), .val (.int p2), .val (.ref b1), .val (.int (p2 &&& (15 : Int32))), .val (.int el), .unset] [(.ref (own_of el w0 w1 w2 w3 w4 w5 w6))]))
    refine own_via (fun t k => XS.astore X107.here hx rfl (hb hby at_93) rfl rfl (l' := #[.val (.int p1), .val (.int p2), .val (.ref b1), .val (.int (p2 &&& (15 : Int32))), .val (.int el), .val (.ref (own_of el w0 w1 w2 w3 w4 w5 w6))]) rfl k) ?_
    show own_G p e below _ (T107.setTop (mkF m 95 #[.val (.int p1), .val (.int p2), .val (.ref b1), .val (.int (p2 &&& (15 : Int32))), .val (.int el), .val (.ref (own_of el w0 w1 w2 w3 w4 w5 w6))] []))
    refine own_via (fun t k => XS.aload X107.here hx rfl (hb hby at_95) rfl rfl k) ?_
    show own_G p e below _ (T107.setTop (mkF m 97 #[.val (.int p1), .val (.int p2), .val (.ref b1), .val (.int (p2 &&& (15 : Int32))), .val (.int el), .val (.ref (own_of el w0 w1 w2 w3 w4 w5 w6))] [(.ref (own_of el w0 w1 w2 w3 w4 w5 w6))]))
    refine own_via (fun t k => XS.iload X107.here hx rfl (hb hby at_97) rfl k) ?_
    show own_G p e below _ (T107.setTop (mkF m 99 #[.val (.int p1), .val (.int p2), .val (.ref b1), .val (.int (p2 &&& (15 : Int32))), .val (.int el), .val (.ref (own_of el w0 w1 w2 w3 w4 w5 w6))] [(.int el), (.ref (own_of el w0 w1 w2 w3 w4 w5 w6))]))
    obtain ⟨_, _, ⟨T108, L108, k108, n108⟩, -, X108, ⟨Lc108, hQ108, l108, y108, z108⟩, st108⟩ := Jvm.LawKit.callS X107 hx (y := (⟨"com/example/meridial/meridial/tables/ColumnTypeOfJdbcTypePinLaw", "expected", "(I)Lcom/example/meridial/meridial/tables/ColumnType;"⟩ : MethodName)) hown (mvT hZ (hw _ (List.mem_of_getElem? (i := 7) rfl))) (mvT hZ (hw _ (List.mem_of_getElem? (i := 8) rfl))) (mvT hZ (hw _ (List.mem_of_getElem? (i := 9) rfl))) (mvT hZ (hw _ (List.mem_of_getElem? (i := 10) rfl))) (by decide) (backOf (W := 1) (rm2 l Z a0 hw [] el w0 w1 w2 w3 w4 w5 w6 h97 n0 Z97 F98 F99 F100 F101 F102 F103 F104) hZ (hw _ (List.mem_of_getElem? (i := 10) rfl)) (hw _ (List.mem_of_getElem? (i := 9) rfl)) (by decide) (by decide)) (g := (mkF m 99 #[.val (.int p1), .val (.int p2), .val (.ref b1), .val (.int (p2 &&& (15 : Int32))), .val (.int el), .val (.ref (own_of el w0 w1 w2 w3 w4 w5 w6))] [(.int el), (.ref (own_of el w0 w1 w2 w3 w4 w5 w6))])) rfl (by rw [hml]; rfl) (argsL := [(.int el)]) (rest := [(.ref (own_of el w0 w1 w2 w3 w4 w5 w6))]) (lenOf pd_rm0_0 rfl) rfl (by show 2 * 0 + _ ≤ _; exact Nat.le_of_eq rfl) (hb hby at_99) (fun _ _ => ⟨rfl, e107, (by decide : 1 + 0 ≤ _), (by decide : 12 + 0 ≤ _)⟩)
    dsimp only [Pt.U, Pt.locs, Pt.cells, Pt.slots] at X108 l108 y108 z108 st108 hQ108
    subst l108 y108 z108
    obtain ⟨rfl, N108q, e108⟩ := hQ108
    have N108 := Fr.app N107 N108q
    refine own_via st108 ?_
    show own_G p e below _ (T108.setTop (mkF m 102 #[.val (.int p1), .val (.int p2), .val (.ref b1), .val (.int (p2 &&& (15 : Int32))), .val (.int el), .val (.ref (own_of el w0 w1 w2 w3 w4 w5 w6))] [(.ref (own_ex el w0 w1 w2 w3 w4 w5 w6)), (.ref (own_of el w0 w1 w2 w3 w4 w5 w6))]))
    refine own_via (fun t k => Jvm.RoadKit.acmp (g := (mkF m 102 #[.val (.int p1), .val (.int p2), .val (.ref b1), .val (.int (p2 &&& (15 : Int32))), .val (.int el), .val (.ref (own_of el w0 w1 w2 w3 w4 w5 w6))] [(.ref (own_ex el w0 w1 w2 w3 w4 w5 w6)), (.ref (own_of el w0 w1 w2 w3 w4 w5 w6))])) X108 hx rfl rfl rfl (pc0 := 102) (pc' := 105) (same := true) rfl (hb hby at_102) rfl (decide_eq_true (congrArg Value.ref (own_same _ _ _ _ _ _ _ _))) (by decide) (by decide) k) ?_
    show own_G p e below _ (T108.setTop (mkF m 105 #[.val (.int p1), .val (.int p2), .val (.ref b1), .val (.int (p2 &&& (15 : Int32))), .val (.int el), .val (.ref (own_of el w0 w1 w2 w3 w4 w5 w6))] []))
    refine own_via (fun t k => XS.iconst X108.here hx rfl (hb hby at_105) k) ?_
    show own_G p e below _ (T108.setTop (mkF m 106 #[.val (.int p1), .val (.int p2), .val (.ref b1), .val (.int (p2 &&& (15 : Int32))), .val (.int el), .val (.ref (own_of el w0 w1 w2 w3 w4 w5 w6))] [(.int (1 : Int32))]))
    refine own_via (fun t k => XS.goto X108.here hx rfl (pc0 := 106) (pc' := 110) rfl (hb hby at_106) (by decide) (by decide) k) ?_
    show own_G p e below _ (T108.setTop (mkF m 110 #[.val (.int p1), .val (.int p2), .val (.ref b1), .val (.int (p2 &&& (15 : Int32))), .val (.int el), .val (.ref (own_of el w0 w1 w2 w3 w4 w5 w6))] [(.int (1 : Int32))]))
    obtain ⟨fs, hr, hrun, hended, hW, hsame⟩ := X108.leave (v := some (.int (1 : Int32))) (fun h => by rw [Bd.returns] at h; cases h)
    refine ⟨_, _, retN X108 hx (t := .boolean) Bd.returns (by simp) (hb hby at_110) hr, hrun, hended, _, _, rfl, ?_, ⟨_, rfl⟩, hW, hsame.mono (by decide) (by decide)⟩
    show rm0_Q Z p1 p2 w0 w1 w2 w3 w4 w5 w6 h0 n0 _ T108.heap _
    rw [e108]
    exact ⟨rfl, N108⟩
  · skip
    refine own_via (fun t k => XS.icmpYes X97.here hx rfl (pc0 := 76) (pc' := 85) rfl (hb hby at_76) rfl (flt c76_105).2.1 (by decide) (by decide) k) ?_
    show own_G p e below _ (T97.setTop (mkF m 85 #[.val (.int p1), .val (.int p2), .val (.ref b1), .val (.int (p2 &&& (15 : Int32))), .unset, .unset] []))
    refine own_via (fun t k => XS.iloadN X97.here hx rfl (hb hby at_85) rfl k) ?_
    show own_G p e below _ (T97.setTop (mkF m 86 #[.val (.int p1), .val (.int p2), .val (.ref b1), .val (.int (p2 &&& (15 : Int32))), .unset, .unset] [(.int p1)]))
    refine own_via (fun t k => XS.istore X97.here hx rfl (hb hby at_86) rfl (l' := #[.val (.int p1), .val (.int p2), .val (.ref b1), .val (.int (p2 &&& (15 : Int32))), .val (.int p1), .unset]) rfl k) ?_
    show own_G p e below _ (T97.setTop (mkF m 88 #[.val (.int p1), .val (.int p2), .val (.ref b1), .val (.int (p2 &&& (15 : Int32))), .val (.int p1), .unset] []))
    refine own_via (fun t k => XS.iload X97.here hx rfl (hb hby at_88) rfl k) ?_
    show own_G p e below _ (T97.setTop (mkF m 90 #[.val (.int p1), .val (.int p2), .val (.ref b1), .val (.int (p2 &&& (15 : Int32))), .val (.int p1), .unset] [(.int p1)]))
    obtain ⟨_, _, ⟨T109, L109, k109, n109⟩, -, X109, ⟨Lc109, hQ109, l109, y109, z109⟩, st109⟩ := Jvm.LawKit.callS X97 hx (y := (⟨"com/example/meridial/meridial/tables/ColumnType", "ofJdbcType", "(I)Lcom/example/meridial/meridial/tables/ColumnType;"⟩ : MethodName)) hown (mvT hZ (hw _ (List.mem_of_getElem? (i := 1) rfl))) (mvT hZ (hw _ (List.mem_of_getElem? (i := 2) rfl))) (mvT hZ (hw _ (List.mem_of_getElem? (i := 3) rfl))) (mvT hZ (hw _ (List.mem_of_getElem? (i := 4) rfl))) (by decide) (backOf (W := 0) (rm1 l Z a0 hw [] p1 w0 w1 w2 w3 w4 w5 w6 h97 n0 Z97 F98 F99 F100 F101 F102 F103 F104) hZ (hw _ (List.mem_of_getElem? (i := 4) rfl)) (hw _ (List.mem_of_getElem? (i := 3) rfl)) (by decide) (by decide)) (g := (mkF m 90 #[.val (.int p1), .val (.int p2), .val (.ref b1), .val (.int (p2 &&& (15 : Int32))), .val (.int p1), .unset] [(.int p1)])) rfl (by rw [hml]; rfl) (argsL := [(.int p1)]) (rest := []) (lenOf pd_rm0_0 rfl) rfl (by show 2 * 0 + _ ≤ _; exact Nat.le_of_eq rfl) (hb hby at_90) (fun _ _ => ⟨rfl, e97, (by decide : 1 + 0 ≤ _), (by decide : 12 + 0 ≤ _)⟩)
    dsimp only [Pt.U, Pt.locs, Pt.cells, Pt.slots] at X109 l109 y109 z109 st109 hQ109
    subst l109 y109 z109
    obtain ⟨rfl, N109q, e109⟩ := hQ109
    have N109 := Fr.app N97 N109q
    refine own_via st109 ?_
    show own_G p e below _ (T109.setTop (mkF m 93 #[.val (.int p1), .val (.int p2), .val (.ref b1), .val (.int (p2 &&& (15 : Int32))), .val (.int p1), .unset] [(.ref (own_of p1 w0 w1 w2 w3 w4 w5 w6))]))
    refine own_via (fun t k => XS.astore X109.here hx rfl (hb hby at_93) rfl rfl (l' := #[.val (.int p1), .val (.int p2), .val (.ref b1), .val (.int (p2 &&& (15 : Int32))), .val (.int p1), .val (.ref (own_of p1 w0 w1 w2 w3 w4 w5 w6))]) rfl k) ?_
    show own_G p e below _ (T109.setTop (mkF m 95 #[.val (.int p1), .val (.int p2), .val (.ref b1), .val (.int (p2 &&& (15 : Int32))), .val (.int p1), .val (.ref (own_of p1 w0 w1 w2 w3 w4 w5 w6))] []))
    refine own_via (fun t k => XS.aload X109.here hx rfl (hb hby at_95) rfl rfl k) ?_
    show own_G p e below _ (T109.setTop (mkF m 97 #[.val (.int p1), .val (.int p2), .val (.ref b1), .val (.int (p2 &&& (15 : Int32))), .val (.int p1), .val (.ref (own_of p1 w0 w1 w2 w3 w4 w5 w6))] [(.ref (own_of p1 w0 w1 w2 w3 w4 w5 w6))]))
    refine own_via (fun t k => XS.iload X109.here hx rfl (hb hby at_97) rfl k) ?_
    show own_G p e below _ (T109.setTop (mkF m 99 #[.val (.int p1), .val (.int p2), .val (.ref b1), .val (.int (p2 &&& (15 : Int32))), .val (.int p1), .val (.ref (own_of p1 w0 w1 w2 w3 w4 w5 w6))] [(.int p1), (.ref (own_of p1 w0 w1 w2 w3 w4 w5 w6))]))
    obtain ⟨_, _, ⟨T110, L110, k110, n110⟩, -, X110, ⟨Lc110, hQ110, l110, y110, z110⟩, st110⟩ := Jvm.LawKit.callS X109 hx (y := (⟨"com/example/meridial/meridial/tables/ColumnTypeOfJdbcTypePinLaw", "expected", "(I)Lcom/example/meridial/meridial/tables/ColumnType;"⟩ : MethodName)) hown (mvT hZ (hw _ (List.mem_of_getElem? (i := 7) rfl))) (mvT hZ (hw _ (List.mem_of_getElem? (i := 8) rfl))) (mvT hZ (hw _ (List.mem_of_getElem? (i := 9) rfl))) (mvT hZ (hw _ (List.mem_of_getElem? (i := 10) rfl))) (by decide) (backOf (W := 1) (rm2 l Z a0 hw [] p1 w0 w1 w2 w3 w4 w5 w6 h97 n0 Z97 F98 F99 F100 F101 F102 F103 F104) hZ (hw _ (List.mem_of_getElem? (i := 10) rfl)) (hw _ (List.mem_of_getElem? (i := 9) rfl)) (by decide) (by decide)) (g := (mkF m 99 #[.val (.int p1), .val (.int p2), .val (.ref b1), .val (.int (p2 &&& (15 : Int32))), .val (.int p1), .val (.ref (own_of p1 w0 w1 w2 w3 w4 w5 w6))] [(.int p1), (.ref (own_of p1 w0 w1 w2 w3 w4 w5 w6))])) rfl (by rw [hml]; rfl) (argsL := [(.int p1)]) (rest := [(.ref (own_of p1 w0 w1 w2 w3 w4 w5 w6))]) (lenOf pd_rm0_0 rfl) rfl (by show 2 * 0 + _ ≤ _; exact Nat.le_of_eq rfl) (hb hby at_99) (fun _ _ => ⟨rfl, e109, (by decide : 1 + 0 ≤ _), (by decide : 12 + 0 ≤ _)⟩)
    dsimp only [Pt.U, Pt.locs, Pt.cells, Pt.slots] at X110 l110 y110 z110 st110 hQ110
    subst l110 y110 z110
    obtain ⟨rfl, N110q, e110⟩ := hQ110
    have N110 := Fr.app N109 N110q
    refine own_via st110 ?_
    show own_G p e below _ (T110.setTop (mkF m 102 #[.val (.int p1), .val (.int p2), .val (.ref b1), .val (.int (p2 &&& (15 : Int32))), .val (.int p1), .val (.ref (own_of p1 w0 w1 w2 w3 w4 w5 w6))] [(.ref (own_ex p1 w0 w1 w2 w3 w4 w5 w6)), (.ref (own_of p1 w0 w1 w2 w3 w4 w5 w6))]))
    refine own_via (fun t k => Jvm.RoadKit.acmp (g := (mkF m 102 #[.val (.int p1), .val (.int p2), .val (.ref b1), .val (.int (p2 &&& (15 : Int32))), .val (.int p1), .val (.ref (own_of p1 w0 w1 w2 w3 w4 w5 w6))] [(.ref (own_ex p1 w0 w1 w2 w3 w4 w5 w6)), (.ref (own_of p1 w0 w1 w2 w3 w4 w5 w6))])) X110 hx rfl rfl rfl (pc0 := 102) (pc' := 105) (same := true) rfl (hb hby at_102) rfl (decide_eq_true (congrArg Value.ref (own_same _ _ _ _ _ _ _ _))) (by decide) (by decide) k) ?_
    show own_G p e below _ (T110.setTop (mkF m 105 #[.val (.int p1), .val (.int p2), .val (.ref b1), .val (.int (p2 &&& (15 : Int32))), .val (.int p1), .val (.ref (own_of p1 w0 w1 w2 w3 w4 w5 w6))] []))
    refine own_via (fun t k => XS.iconst X110.here hx rfl (hb hby at_105) k) ?_
    show own_G p e below _ (T110.setTop (mkF m 106 #[.val (.int p1), .val (.int p2), .val (.ref b1), .val (.int (p2 &&& (15 : Int32))), .val (.int p1), .val (.ref (own_of p1 w0 w1 w2 w3 w4 w5 w6))] [(.int (1 : Int32))]))
    refine own_via (fun t k => XS.goto X110.here hx rfl (pc0 := 106) (pc' := 110) rfl (hb hby at_106) (by decide) (by decide) k) ?_
    show own_G p e below _ (T110.setTop (mkF m 110 #[.val (.int p1), .val (.int p2), .val (.ref b1), .val (.int (p2 &&& (15 : Int32))), .val (.int p1), .val (.ref (own_of p1 w0 w1 w2 w3 w4 w5 w6))] [(.int (1 : Int32))]))
    obtain ⟨fs, hr, hrun, hended, hW, hsame⟩ := X110.leave (v := some (.int (1 : Int32))) (fun h => by rw [Bd.returns] at h; cases h)
    refine ⟨_, _, retN X110 hx (t := .boolean) Bd.returns (by simp) (hb hby at_110) hr, hrun, hended, _, _, rfl, ?_, ⟨_, rfl⟩, hW, hsame.mono (by decide) (by decide)⟩
    show rm0_Q Z p1 p2 w0 w1 w2 w3 w4 w5 w6 h0 n0 _ T110.heap _
    rw [e110]
    exact ⟨rfl, N110⟩

set_option maxRecDepth 65536 in
set_option maxHeartbeats 40000000 in
theorem comes_1 {Post : Tables → Env → Array Value → State → Outcome → State → Prop} (hpost : ∀ tb e args s v u, (limb_1_1.after args s (.returned v) u = true ∧ limb_1_2.after args s (.returned v) u = true ∧ True) → FrameEnd s (.returned v) u (Jvm.fieldLocs frame_1_writes args s ++ Jvm.arrayLocs frame_1_arrays args s ++ Jvm.staticLocs frame_1_statics s) 16 128 → Post tb e args s (.returned v) u) :
    ArmFor flags0 classFile x code maxLocals ret World_1 tables_1 room_1 Calls_1 rest_1 Pre_1 Post := by
  intro l hfl _ _ p e ha hc hk s m args below hf hA hF happ hP
  obtain ⟨hcalls, hrest, hpre⟩ := hP
  obtain ⟨-, -, -, hnamed, -, -, -, hat⟩ := (Spec.applies_iff hf).mp happ
  obtain ⟨hg, hn⟩ := and_e (Cond.before_iff.mp (show (Jvm.Cond.and given_1 narrow_1).before args s = true from hpre))
  obtain ⟨gg1, gg2⟩ := and_e hg
  obtain ⟨gg3, gg4⟩ := and_e gg2
  obtain ⟨w0, w1, rfl⟩ : ∃ w0 w1 : Value, args = #[w0, w1] := by
    have hs : args.size = 2 := by simpa [Cond.value, given_1] using gg1
    obtain ⟨L⟩ := args
    match L, hs with
    | [w0, w1], _ => exact ⟨w0, w1, rfl⟩
  have hw := fun d (hd : d ∈ tables_1) => atoms_spec (ws := Jvm.Cond.code x code maxLocals ret :: tables_1) hat d (List.mem_cons_of_mem _ hd)
  obtain ⟨i0, ei0⟩ := is_v gg3
  obtain rfl : w0 = (.int i0) := Option.some.inj ei0
  obtain ⟨i1, ei1⟩ := is_v gg4
  obtain rfl : w1 = (.int i1) := Option.some.inj ei1
  obtain ⟨hn_1, hn_2⟩ := and_e hn
  obtain ⟨a_SHORT, v_SHORT⟩ := exa_v hn_1
  have S_SHORT := Sta.start v_SHORT (Or.inr ⟨(hw _ (List.mem_of_getElem? (i := 3) rfl)), (hw _ (List.mem_of_getElem? (i := 6) rfl))⟩)
  have E_SHORT := Exa.start v_SHORT hn_1
  obtain ⟨hn_3, hn_4⟩ := and_e hn_2
  obtain ⟨a_INT, v_INT⟩ := exa_v hn_3
  have S_INT := Sta.start v_INT (Or.inr ⟨(hw _ (List.mem_of_getElem? (i := 3) rfl)), (hw _ (List.mem_of_getElem? (i := 13) rfl))⟩)
  have E_INT := Exa.start v_INT hn_3
  obtain ⟨hn_5, hn_6⟩ := and_e hn_4
  obtain ⟨a_DOUBLE, v_DOUBLE⟩ := exa_v hn_5
  have S_DOUBLE := Sta.start v_DOUBLE (Or.inr ⟨(hw _ (List.mem_of_getElem? (i := 3) rfl)), (hw _ (List.mem_of_getElem? (i := 16) rfl))⟩)
  have E_DOUBLE := Exa.start v_DOUBLE hn_5
  obtain ⟨hn_7, hn_8⟩ := and_e hn_6
  obtain ⟨a_LONG, v_LONG⟩ := exa_v hn_7
  have S_LONG := Sta.start v_LONG (Or.inr ⟨(hw _ (List.mem_of_getElem? (i := 3) rfl)), (hw _ (List.mem_of_getElem? (i := 19) rfl))⟩)
  have E_LONG := Exa.start v_LONG hn_7
  obtain ⟨hn_9, hn_10⟩ := and_e hn_8
  obtain ⟨a_TEXT, v_TEXT⟩ := exa_v hn_9
  have S_TEXT := Sta.start v_TEXT (Or.inr ⟨(hw _ (List.mem_of_getElem? (i := 3) rfl)), (hw _ (List.mem_of_getElem? (i := 22) rfl))⟩)
  have E_TEXT := Exa.start v_TEXT hn_9
  obtain ⟨hn_11, hn_12⟩ := and_e hn_10
  obtain ⟨a_TIMESTAMP, v_TIMESTAMP⟩ := exa_v hn_11
  have S_TIMESTAMP := Sta.start v_TIMESTAMP (Or.inr ⟨(hw _ (List.mem_of_getElem? (i := 3) rfl)), (hw _ (List.mem_of_getElem? (i := 25) rfl))⟩)
  have E_TIMESTAMP := Exa.start v_TIMESTAMP hn_11
  obtain ⟨a_FLOAT, v_FLOAT⟩ := exa_v hn_12
  have S_FLOAT := Sta.start v_FLOAT (Or.inr ⟨(hw _ (List.mem_of_getElem? (i := 3) rfl)), (hw _ (List.mem_of_getElem? (i := 28) rfl))⟩)
  have E_FLOAT := Exa.start v_FLOAT hn_12
  obtain ⟨n, o, h1, h2, h3, _, L, rfl, ⟨rfl, N⟩, hq⟩ := rm0 l s _ hw tables_1 i0 i1 a_LONG a_INT a_SHORT a_DOUBLE a_FLOAT a_TIMESTAMP a_TEXT s.heap s.heap.size (Nat.le_refl _) S_LONG S_INT S_SHORT S_DOUBLE S_FLOAT S_TIMESTAMP S_TEXT p e ha hc hk s m _ below hf ((Spec.applies_iff_loose hf).mp happ).1 ⟨rfl, State.Warmed39.refl s, rfl⟩ trivial
  refine ⟨n, _, h1, h2, h3, hpost _ _ _ _ _ _ ⟨Cond.after_iff.mpr rfl, Cond.after_iff.mpr (eq_i res_at (Term.int_eval (1)) rfl), trivial⟩ ⟨hq.1, hq.2.1, (hq.2.2.sift fun y hy => Or.inr (N y hy)).mono (by decide) (by decide)⟩⟩
theorem main_1_1 : Claimed_1_1 := comes_1 fun _ _ _ _ _ _ h hF => ⟨h.1, hF⟩
theorem main_1_2 : Claimed_1_2 := comes_1 fun _ _ _ _ _ _ h hF => ⟨h.2.1, hF⟩

end Jvm.Pilot.@@N@@
namespace Jvm.Pilot.@@N@@
open Jvm Jvm.ClassFile Sem Op Lib Jvm.Free Jvm.Stand Jvm.Pilot.@@N@@.Jvm.D
/-! MADE BY PROGRAM (witnessworld.py) out of the Statement's table words and the real class files: 12 classes; the members and pool entries that the words name. The judged class is class 1, her method 1. -/
namespace start1
open Jvm.ClassFile
def u (s : String) : CpInfo := .utf8 (stringToUtf16 s)
/-- a pool by its gaps: so many unusable entries, then the entry; so many at the end -/
def gap : Nat → List CpInfo → List CpInfo
  | 0, r => r
  | n + 1, r => .unusable :: gap n r
def poolList (es : List (Nat × CpInfo)) (last : Nat) : List CpInfo := es.foldr (fun e r => gap e.1 (e.2 :: r)) (gap last [])
def pool (es : List (Nat × CpInfo)) (last : Nat) : Array CpInfo := ⟨poolList es last⟩
def fileOf (pool : Array CpInfo) (this : Nat) (attrs : Array Attribute := #[]) (ms : Array MethodInfo := #[]) (fl : Nat := 33) (sup : Nat := 0) (ifs : Array Nat := #[]) (fds : Array FieldInfo := #[]) : ClassFile where
  minorVersion := 0
  majorVersion := 65
  constantPool := pool
  accessFlags := fl
  thisClass := this
  superClass := sup
  interfaces := ifs
  fields := fds
  methods := ms
  attributes := attrs
def plain (name : String) (sup : Option ClassId) : Class where
  name := name
  kind := .ordinary
  loader := none
  accessFlags := 33
  super := sup
  interfaces := #[]
  cf := none
  fields := #[]
  methods := #[]
  instanceTypes := #[]
  staticTypes := #[]
  resolved := #[]
  callSites := []
  init := .initialized
  statics := none
  mirror := none

def pool0 : Array CpInfo := pool [(5, u "<init>"), (0, u "()V"), (1, .class_ 10), (1, u "java/lang/Object")] 113

def k0m0 : Method := { name := "<init>", desc := "()V", sig := { parameters := [], returnType := none }, accessFlags := 1, code := none }
/-- java/lang/Object -/
def k0 : Class := { plain "java/lang/Object" none with
  accessFlags := 33
  interfaces := #[]
  cf := some (fileOf pool0 8 #[] #[{ accessFlags := 1, nameIndex := 5, descriptorIndex := 6, attributes := #[] }] 33 0 #[] #[])
  fields := #[]
  methods := #[k0m0]
  instanceTypes := #[]
  staticTypes := #[]
  resolved := Array.replicate 124 none
  statics := none }

def pool1 : Array CpInfo := pool [(2, .class_ 4), (1, u "java/lang/Object"), (0, u "<init>"), (0, u "()V"), (0, .methodref 8 9), (0, .class_ 10), (0, .nameAndType 11 12), (0, u "com/example/meridial/meridial/tables/ColumnType"), (0, u "ofJdbcType"), (0, u "(I)Lcom/example/meridial/meridial/tables/ColumnType;"), (0, .methodref 14 15), (0, .class_ 16), (0, .nameAndType 17 12), (0, u "com/example/meridial/meridial/tables/ColumnTypeOfJdbcTypePinLaw"), (0, u "expected"), (0, .fieldref 8 19), (0, .nameAndType 20 21), (0, u "LONG"), (0, u "Lcom/example/meridial/meridial/tables/ColumnType;"), (0, .fieldref 8 23), (0, .nameAndType 24 21), (0, u "INT"), (0, .fieldref 8 26), (0, .nameAndType 27 21), (0, u "SHORT"), (0, .fieldref 8 29), (0, .nameAndType 30 21), (0, u "DOUBLE"), (0, .fieldref 8 32), (0, .nameAndType 33 21), (0, u "FLOAT"), (0, .fieldref 8 35), (0, .nameAndType 36 21), (0, u "TIMESTAMP"), (0, .fieldref 8 38), (0, .nameAndType 39 21), (0, u "TEXT"), (2, u "law"), (0, u "(II)Z")] 5

def k1m0 : Method := { name := "<init>", desc := "()V", sig := { parameters := [], returnType := none }, accessFlags := 1, code := none }
def k1c1 : Code := { maxStack := 4, maxLocals := 6, code := code, exceptionTable := #[], attributes := #[] }
def k1m1 : Method := { name := "law", desc := "(II)Z", sig := { parameters := [.int, .int], returnType := some .boolean }, accessFlags := 9, code := some k1c1 }
def k1c2 : Code := { maxStack := 2, maxLocals := 1, code := method_3_code, exceptionTable := #[], attributes := #[] }
def k1m2 : Method := { name := "expected", desc := "(I)Lcom/example/meridial/meridial/tables/ColumnType;", sig := { parameters := [.int], returnType := some (.object "com/example/meridial/meridial/tables/ColumnType") }, accessFlags := 10, code := some k1c2 }
/-- com/example/meridial/meridial/tables/ColumnTypeOfJdbcTypePinLaw -/
def k1 : Class := { plain "com/example/meridial/meridial/tables/ColumnTypeOfJdbcTypePinLaw" (some 0) with
  accessFlags := 49
  interfaces := #[]
  cf := some (fileOf pool1 14 #[] #[{ accessFlags := 1, nameIndex := 5, descriptorIndex := 6, attributes := #[] }, { accessFlags := 9, nameIndex := 42, descriptorIndex := 43, attributes := #[] }, { accessFlags := 10, nameIndex := 17, descriptorIndex := 12, attributes := #[] }] 49 2 #[] #[])
  fields := #[]
  methods := #[k1m0, k1m1, k1m2]
  instanceTypes := #[]
  staticTypes := #[]
  resolved := Array.replicate 49 none
  statics := none }

def pool2 : Array CpInfo := pool [(1, .class_ 2), (0, u "java/lang/constant/Constable"), (0, .class_ 4), (0, u "java/lang/Object")] 6

/-- java/lang/constant/Constable -/
def k2 : Class := { plain "java/lang/constant/Constable" (some 0) with
  accessFlags := 1537
  interfaces := #[]
  cf := some (fileOf pool2 1 #[] #[] 1537 3 #[] #[])
  fields := #[]
  methods := #[]
  instanceTypes := #[]
  staticTypes := #[]
  resolved := Array.replicate 11 none
  statics := none }

def pool3 : Array CpInfo := pool [(1, .class_ 2), (0, u "java/lang/Comparable"), (0, .class_ 4), (0, u "java/lang/Object")] 7

/-- java/lang/Comparable -/
def k3 : Class := { plain "java/lang/Comparable" (some 0) with
  accessFlags := 1537
  interfaces := #[]
  cf := some (fileOf pool3 1 #[] #[] 1537 3 #[] #[])
  fields := #[]
  methods := #[]
  instanceTypes := #[]
  staticTypes := #[]
  resolved := Array.replicate 12 none
  statics := none }

def pool4 : Array CpInfo := pool [(1, .class_ 2), (0, u "java/io/Serializable"), (0, .class_ 4), (0, u "java/lang/Object")] 2

/-- java/io/Serializable -/
def k4 : Class := { plain "java/io/Serializable" (some 0) with
  accessFlags := 1537
  interfaces := #[]
  cf := some (fileOf pool4 1 #[] #[] 1537 3 #[] #[])
  fields := #[]
  methods := #[]
  instanceTypes := #[]
  staticTypes := #[]
  resolved := Array.replicate 7 none
  statics := none }

def pool5 : Array CpInfo := pool [(2, .class_ 4), (1, u "java/lang/Enum"), (0, u "name"), (0, u "Ljava/lang/String;"), (2, u "ordinal"), (0, u "I"), (1, .class_ 14), (1, u "java/lang/Object"), (4, u "hash"), (86, .class_ 108), (1, u "java/lang/Enum$EnumDesc"), (2, .class_ 112), (0, u "java/lang/constant/Constable"), (0, .class_ 114), (0, u "java/lang/Comparable"), (0, .class_ 116), (0, u "java/io/Serializable")] 87

/-- java/lang/Enum -/
def k5 : Class := { plain "java/lang/Enum" (some 0) with
  accessFlags := 1057
  interfaces := #[2, 3, 4]
  cf := some (fileOf pool5 2 #[.nestMembers #[106]] #[] 1057 12 #[111, 113, 115] #[{ accessFlags := 18, nameIndex := 5, descriptorIndex := 6, attributes := #[] }, { accessFlags := 18, nameIndex := 9, descriptorIndex := 10, attributes := #[] }, { accessFlags := 2, nameIndex := 19, descriptorIndex := 10, attributes := #[] }])
  fields := #[{ name := "name", type := (.object "java/lang/String"), accessFlags := 18, slot := 0, constantValue := 0 }, { name := "ordinal", type := .int, accessFlags := 18, slot := 1, constantValue := 0 }, { name := "hash", type := .int, accessFlags := 2, slot := 2, constantValue := 0 }]
  methods := #[]
  instanceTypes := #[(.object "java/lang/String"), .int, .int]
  staticTypes := #[]
  resolved := Array.replicate 204 none
  statics := none }

def pool6 : Array CpInfo := pool [(1, .class_ 2), (0, u "com/example/meridial/meridial/tables/ColumnType"), (0, .fieldref 1 4), (0, .nameAndType 5 6), (0, u "LONG"), (0, u "Lcom/example/meridial/meridial/tables/ColumnType;"), (0, .fieldref 1 8), (0, .nameAndType 9 6), (0, u "INT"), (0, .fieldref 1 11), (0, .nameAndType 12 6), (0, u "SHORT"), (0, .fieldref 1 14), (0, .nameAndType 15 6), (0, u "DOUBLE"), (0, .fieldref 1 17), (0, .nameAndType 18 6), (0, u "FLOAT"), (0, .fieldref 1 20), (0, .nameAndType 21 6), (0, u "TEXT"), (0, .fieldref 1 23), (0, .nameAndType 24 6), (0, u "TIMESTAMP"), (2, u "POINT"), (2, u "CIRCLE"), (2, u "POLYGON"), (2, u "$VALUES"), (0, u "[Lcom/example/meridial/meridial/tables/ColumnType;"), (6, .class_ 46), (1, u "java/lang/Enum"), (8, u "sqlType"), (0, u "Ljava/lang/String;"), (2, u "jdbcType"), (0, u "I"), (2, u "votableDatatype"), (2, u "votableArraysize"), (2, u "votableXtype"), (2, u "valueType"), (0, u "Lcom/example/meridial/meridial/adql/ValueType;"), (8, u "ofJdbcType"), (0, u "(I)Lcom/example/meridial/meridial/tables/ColumnType;"), (171, u "GEOMETRY_SQL_TYPE")] 27

def k6c0 : Code := { maxStack := 1, maxLocals := 2, code := prog_88_method_4_code, exceptionTable := #[], attributes := #[] }
def k6m0 : Method := { name := "ofJdbcType", desc := "(I)Lcom/example/meridial/meridial/tables/ColumnType;", sig := { parameters := [.int], returnType := some (.object "com/example/meridial/meridial/tables/ColumnType") }, accessFlags := 9, code := some k6c0 }
/-- com/example/meridial/meridial/tables/ColumnType -/
def k6 : Class := { plain "com/example/meridial/meridial/tables/ColumnType" (some 5) with
  accessFlags := 16433
  interfaces := #[]
  cf := some (fileOf pool6 1 #[] #[{ accessFlags := 9, nameIndex := 82, descriptorIndex := 83, attributes := #[] }] 16433 44 #[] #[{ accessFlags := 16409, nameIndex := 5, descriptorIndex := 6, attributes := #[] }, { accessFlags := 16409, nameIndex := 9, descriptorIndex := 6, attributes := #[] }, { accessFlags := 16409, nameIndex := 12, descriptorIndex := 6, attributes := #[] }, { accessFlags := 16409, nameIndex := 15, descriptorIndex := 6, attributes := #[] }, { accessFlags := 16409, nameIndex := 18, descriptorIndex := 6, attributes := #[] }, { accessFlags := 16409, nameIndex := 21, descriptorIndex := 6, attributes := #[] }, { accessFlags := 16409, nameIndex := 24, descriptorIndex := 6, attributes := #[] }, { accessFlags := 16409, nameIndex := 27, descriptorIndex := 6, attributes := #[] }, { accessFlags := 16409, nameIndex := 30, descriptorIndex := 6, attributes := #[] }, { accessFlags := 16409, nameIndex := 33, descriptorIndex := 6, attributes := #[] }, { accessFlags := 26, nameIndex := 255, descriptorIndex := 56, attributes := #[] }, { accessFlags := 18, nameIndex := 55, descriptorIndex := 56, attributes := #[] }, { accessFlags := 18, nameIndex := 59, descriptorIndex := 60, attributes := #[] }, { accessFlags := 18, nameIndex := 63, descriptorIndex := 56, attributes := #[] }, { accessFlags := 18, nameIndex := 66, descriptorIndex := 56, attributes := #[] }, { accessFlags := 18, nameIndex := 69, descriptorIndex := 56, attributes := #[] }, { accessFlags := 18, nameIndex := 72, descriptorIndex := 73, attributes := #[] }, { accessFlags := 4122, nameIndex := 36, descriptorIndex := 37, attributes := #[] }])
  fields := #[{ name := "LONG", type := (.object "com/example/meridial/meridial/tables/ColumnType"), accessFlags := 16409, slot := 0, constantValue := 0 }, { name := "INT", type := (.object "com/example/meridial/meridial/tables/ColumnType"), accessFlags := 16409, slot := 1, constantValue := 0 }, { name := "SHORT", type := (.object "com/example/meridial/meridial/tables/ColumnType"), accessFlags := 16409, slot := 2, constantValue := 0 }, { name := "DOUBLE", type := (.object "com/example/meridial/meridial/tables/ColumnType"), accessFlags := 16409, slot := 3, constantValue := 0 }, { name := "FLOAT", type := (.object "com/example/meridial/meridial/tables/ColumnType"), accessFlags := 16409, slot := 4, constantValue := 0 }, { name := "TEXT", type := (.object "com/example/meridial/meridial/tables/ColumnType"), accessFlags := 16409, slot := 5, constantValue := 0 }, { name := "TIMESTAMP", type := (.object "com/example/meridial/meridial/tables/ColumnType"), accessFlags := 16409, slot := 6, constantValue := 0 }, { name := "POINT", type := (.object "com/example/meridial/meridial/tables/ColumnType"), accessFlags := 16409, slot := 7, constantValue := 0 }, { name := "CIRCLE", type := (.object "com/example/meridial/meridial/tables/ColumnType"), accessFlags := 16409, slot := 8, constantValue := 0 }, { name := "POLYGON", type := (.object "com/example/meridial/meridial/tables/ColumnType"), accessFlags := 16409, slot := 9, constantValue := 0 }, { name := "GEOMETRY_SQL_TYPE", type := (.object "java/lang/String"), accessFlags := 26, slot := 10, constantValue := 0 }, { name := "sqlType", type := (.object "java/lang/String"), accessFlags := 18, slot := 3, constantValue := 0 }, { name := "jdbcType", type := .int, accessFlags := 18, slot := 4, constantValue := 0 }, { name := "votableDatatype", type := (.object "java/lang/String"), accessFlags := 18, slot := 5, constantValue := 0 }, { name := "votableArraysize", type := (.object "java/lang/String"), accessFlags := 18, slot := 6, constantValue := 0 }, { name := "votableXtype", type := (.object "java/lang/String"), accessFlags := 18, slot := 7, constantValue := 0 }, { name := "valueType", type := (.object "com/example/meridial/meridial/adql/ValueType"), accessFlags := 18, slot := 8, constantValue := 0 }, { name := "$VALUES", type := (.array (.object "com/example/meridial/meridial/tables/ColumnType")), accessFlags := 4122, slot := 11, constantValue := 0 }]
  methods := #[k6m0]
  instanceTypes := #[(.object "java/lang/String"), .int, .int, (.object "java/lang/String"), .int, (.object "java/lang/String"), (.object "java/lang/String"), (.object "java/lang/String"), (.object "com/example/meridial/meridial/adql/ValueType")]
  staticTypes := #[(.object "com/example/meridial/meridial/tables/ColumnType"), (.object "com/example/meridial/meridial/tables/ColumnType"), (.object "com/example/meridial/meridial/tables/ColumnType"), (.object "com/example/meridial/meridial/tables/ColumnType"), (.object "com/example/meridial/meridial/tables/ColumnType"), (.object "com/example/meridial/meridial/tables/ColumnType"), (.object "com/example/meridial/meridial/tables/ColumnType"), (.object "com/example/meridial/meridial/tables/ColumnType"), (.object "com/example/meridial/meridial/tables/ColumnType"), (.object "com/example/meridial/meridial/tables/ColumnType"), (.object "java/lang/String"), (.array (.object "com/example/meridial/meridial/tables/ColumnType"))]
  resolved := Array.replicate 283 none
  statics := some 0 }

def pool7 : Array CpInfo := pool [(1, u "java/lang/Cloneable"), (0, .class_ 1), (0, u "java/lang/Object"), (0, .class_ 3)] 3

/-- java/lang/Cloneable -/
def k7 : Class := { plain "java/lang/Cloneable" (some 0) with
  accessFlags := 1537
  interfaces := #[]
  cf := some (fileOf pool7 2 #[] #[] 1537 4 #[] #[])
  fields := #[]
  methods := #[]
  instanceTypes := #[]
  staticTypes := #[]
  resolved := Array.replicate 8 none
  statics := none }

/-- the primitive byte -/
def k8 : Class := { plain "byte" none with kind := .primitive 'B', accessFlags := 0x411 }
/-- [B -/
def k9 : Class := { plain "[B" (some 0) with kind := .array 8 .byte, interfaces := #[7, 4], accessFlags := 1041 }

/-- the primitive int -/
def k10 : Class := { plain "int" none with kind := .primitive 'I', accessFlags := 0x411 }
/-- [I -/
def k11 : Class := { plain "[I" (some 0) with kind := .array 10 .int, interfaces := #[7, 4], accessFlags := 1041 }

def heap : Heap := #[{ cls := 6, slots := #[.ref 1, .ref 2, .ref 3, .ref 4, .ref 5, .ref 7, .ref 6, .null, .null, .null, .null, .null], vm := .statics 6 },
  { cls := 6, slots := #[.null, .int 0, .int 0, .null, .int 0, .null, .null, .null, .null], vm := .none },
  { cls := 6, slots := #[.null, .int 1, .int 0, .null, .int 0, .null, .null, .null, .null], vm := .none },
  { cls := 6, slots := #[.null, .int 2, .int 0, .null, .int 0, .null, .null, .null, .null], vm := .none },
  { cls := 6, slots := #[.null, .int 3, .int 0, .null, .int 0, .null, .null, .null, .null], vm := .none },
  { cls := 6, slots := #[.null, .int 4, .int 0, .null, .int 0, .null, .null, .null, .null], vm := .none },
  { cls := 6, slots := #[.null, .int 5, .int 0, .null, .int 0, .null, .null, .null, .null], vm := .none },
  { cls := 6, slots := #[.null, .int 6, .int 0, .null, .int 0, .null, .null, .null, .null], vm := .none }]
def classes : Array Class := #[k0, k1, k2, k3, k4, k5, k6, k7, k8, k9, k10, k11]
def interned : List (Array UInt16 × Addr) := []
def slotsUsed : Nat := 75
def theMethod : MethodId := ⟨1, 1⟩
def args0 : Array Value := #[.int 3, .int 7]
def aboutOver (below : List Frame) : State where
  vm := { classes := classes, interned := interned.toArray }
  heap := heap
  slotsUsed := slotsUsed
  threads := #[{ frames := .invoking theMethod args0 :: below }]
def below0 : List Frame := [.native { method := ⟨0, 0⟩, args := #[] }]
def about1 : State := aboutOver below0
def p0 : Program := .bare "" "" ""
def e0 : Env := launch0.env 0 0 0
theorem w_frames : about1.frames = Frame.invoking theMethod args0 :: below0 := rfl
set_option maxRecDepth 65536 in
theorem w_args : argsFit about1.vm theMethod args0 = true := by decide +kernel
set_option maxRecDepth 65536 in
theorem w_heap : heapFits about1 = true := by decide +kernel
set_option maxRecDepth 65536 in
theorem w_runnable : about1.curStatus? = some .runnable := by decide +kernel
set_option maxRecDepth 65536 in
theorem w_alone : about1.alone = true := by decide +kernel
set_option maxRecDepth 65536 in
theorem w_named : about1.methodNamed? x = some theMethod := by decide +kernel
set_option maxRecDepth 65536 in
theorem w_hears : about1.hears theMethod below0 = true := by decide +kernel
set_option maxRecDepth 65536 in
theorem w_ripe : about1.ripe theMethod args0 below0 = true := by decide +kernel
theorem w_running : about1.status = .running := rfl
set_option maxRecDepth 65536 in
theorem w_room : about1.hasRoom e0.platform room_1 = true :=
  launch0.hasRoom_least _ room_1 (by decide +kernel) (by decide +kernel) (by decide +kernel) (by decide +kernel) (by decide +kernel) (by decide +kernel)
theorem allAtoms_all (ts : List Jvm.Cond) (a : Array Jvm.Value) (st : Jvm.State) : (allAtoms ts).before a st = ts.all (fun c => c.before a st) := by
  induction ts with
  | nil => rfl
  | cons c t ih =>
    show (Jvm.Cond.and c (allAtoms t)).before a st = _
    rw [Jvm.Cond.before_and, ih, List.all_cons]
def words1 : List Jvm.Cond := Jvm.Cond.code x code maxLocals ret :: tables_1
/-- a 'code' word, met by the world's own term for the bytes: nothing is compared byte by byte -/
theorem code_word {y : MethodName} {bytes : ByteArray} {mx : Nat} {rt : Option FieldType} {a : Array Value} {s : State} {m : MethodId} {meth : Method} {c : Code} (h1 : s.methodNamed? y = some m) (h2 : s.vm.method? m = some meth) (h3 : meth.code = some c) (h4 : c.code = bytes)
    (h5 : (c.maxLocals == mx && c.exceptionTable.isEmpty && decide (c.maxStack ≤ mostOperands) && decide (meth.sig.returnType = rt) && !meth.locks && decide (parseMethodDescriptor y.desc = some meth.sig)) = true) : (Jvm.Cond.code y bytes mx rt).before a s = true := by
  simp only [Bool.and_eq_true, beq_iff_eq, Bool.not_eq_true', decide_eq_true_eq] at h5
  obtain ⟨⟨⟨⟨⟨g1, g2⟩, g3⟩, g4⟩, g5⟩, g6⟩ := h5
  simp [Cond.before, Cond.holds, Cond.value, h1, h2, h3, h4, g1, g2, g3, g4, g5, g6]
def isCode : Jvm.Cond → Bool
  | .code _ _ _ _ => true
  | _ => false
theorem all_split {L : List Jvm.Cond} {P : Jvm.Cond → Bool} (h1 : L.all (fun c => isCode c || P c) = true) (h2 : ∀ c ∈ L.filter isCode, P c = true) : L.all P = true := by
  refine List.all_eq_true.mpr fun c hc => ?_
  have h := List.all_eq_true.mp h1 c hc
  rcases Bool.eq_false_or_eq_true (isCode c) with hi | hi
  · exact h2 c (List.mem_filter.mpr ⟨hc, hi⟩)
  · simpa [hi] using h
set_option maxRecDepth 65536 in
theorem w_c0 : (Jvm.Cond.code x code maxLocals ret).before args0 about1 = true := code_word (m := ⟨1, 1⟩) (meth := k1m1) (c := k1c1) (by decide +kernel) rfl rfl rfl (by decide +kernel)
set_option maxRecDepth 65536 in
theorem w_c1 : (Jvm.Cond.code ({ cls := "com/example/meridial/meridial/tables/ColumnType", name := "ofJdbcType", desc := "(I)Lcom/example/meridial/meridial/tables/ColumnType;" } : Jvm.MethodName) prog_88_method_4_code (2 : Nat) (Option.some (Jvm.ClassFile.FieldType.object "com/example/meridial/meridial/tables/ColumnType"))).before args0 about1 = true := code_word (m := ⟨6, 0⟩) (meth := k6m0) (c := k6c0) (by decide +kernel) rfl rfl rfl (by decide +kernel)
set_option maxRecDepth 65536 in
theorem w_c2 : (Jvm.Cond.code ({ cls := "com/example/meridial/meridial/tables/ColumnTypeOfJdbcTypePinLaw", name := "expected", desc := "(I)Lcom/example/meridial/meridial/tables/ColumnType;" } : Jvm.MethodName) method_3_code (1 : Nat) (Option.some (Jvm.ClassFile.FieldType.object "com/example/meridial/meridial/tables/ColumnType"))).before args0 about1 = true := code_word (m := ⟨1, 2⟩) (meth := k1m2) (c := k1c2) (by decide +kernel) rfl rfl rfl (by decide +kernel)
def codes1 : List Jvm.Cond := [Jvm.Cond.code x code maxLocals ret, Jvm.Cond.code ({ cls := "com/example/meridial/meridial/tables/ColumnType", name := "ofJdbcType", desc := "(I)Lcom/example/meridial/meridial/tables/ColumnType;" } : Jvm.MethodName) prog_88_method_4_code (2 : Nat) (Option.some (Jvm.ClassFile.FieldType.object "com/example/meridial/meridial/tables/ColumnType")), Jvm.Cond.code ({ cls := "com/example/meridial/meridial/tables/ColumnTypeOfJdbcTypePinLaw", name := "expected", desc := "(I)Lcom/example/meridial/meridial/tables/ColumnType;" } : Jvm.MethodName) method_3_code (1 : Nat) (Option.some (Jvm.ClassFile.FieldType.object "com/example/meridial/meridial/tables/ColumnType"))]
set_option maxRecDepth 65536 in
theorem codes_eq : words1.filter isCode = codes1 := rfl
theorem w_codes : ∀ c ∈ words1.filter isCode, c.before args0 about1 = true := by
  rw [codes_eq]
  intro c hc
  simp only [codes1, List.mem_cons, List.not_mem_nil, or_false] at hc
  rcases hc with rfl | rfl | rfl
  · exact w_c0
  · exact w_c1
  · exact w_c2
set_option maxRecDepth 65536 in
theorem w_t1 : (words1.take 24).all (fun c => isCode c || c.before args0 about1) = true := by decide +kernel
set_option maxRecDepth 65536 in
theorem w_t2 : (words1.drop 24).all (fun c => isCode c || c.before args0 about1) = true := by decide +kernel
theorem w_tables : (allAtoms (Jvm.Cond.code x code maxLocals ret :: tables_1)).before args0 about1 = true := by
  rw [allAtoms_all]
  show words1.all (fun c => c.before args0 about1) = true
  refine all_split ?_ w_codes
  rw [← List.take_append_drop 24 words1, List.all_append, w_t1, w_t2]
  rfl
set_option maxRecDepth 65536 in
theorem w_case : (Jvm.Cond.and given_1 narrow_1).before args0 about1 = true := by decide +kernel
theorem w_applies : (headSpec (Jvm.Cond.code x code maxLocals ret :: tables_1) room_1).applies x e0.platform about1 = true :=
  (Spec.applies_iff w_frames).mpr ⟨w_running, w_runnable, w_alone, w_named, w_hears, w_ripe, w_room, w_tables⟩
theorem atStart : AtStart classFile x code maxLocals ret World_1 tables_1 room_1 Calls_1 rest_1 Pre_1 launch0 p0 e0 about1 theMethod args0 below0 :=
  ⟨lists_1, trivial, launch0.admits_env _ _ _, launch0.least_env, fairChoices_fair.cas, fairChoices_fair.clock, w_frames, w_args, w_heap, w_applies, trivial, trivial, w_case⟩
end start1
theorem witness_1 : WitnessClaimed_1 := ⟨start1.p0, start1.e0, start1.about1, start1.theMethod, start1.args0, start1.below0, start1.atStart⟩
end Jvm.Pilot.@@N@@
