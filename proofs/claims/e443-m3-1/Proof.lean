import JvmDerived
import JvmDerived.Pilot.@@N@@Statement
import JvmDerived.Pilot.@@N@@Code
set_option linter.unusedVariables false
set_option linter.unusedSimpArgs false
@@BLOCK:NumsL.lean.txt@@
namespace Jvm.Pilot.@@N@@
open Jvm Jvm.ClassFile Sem Op Lib Jvm.Free Jvm.Stand Jvm.LawKit Jvm.RoadKit Bundle Jvm.Pilot.@@N@@.Jvm.D

def own_G (p : Program) (e : Env) (below : List Frame) (B : State → Outcome → Prop) (U : State) : Prop := ∃ t o, Steps p.tables e below U t ∧ t.status = .running ∧ Ended t below o ∧ B t o
theorem own_via {p : Program} {e : Env} {below : List Frame} {B : State → Outcome → Prop} {U U' : State} (h : ∀ t, Steps p.tables e below U' t → Steps p.tables e below U t) (k : own_G p e below B U') : own_G p e below B U := by
  obtain ⟨t, o, a, r⟩ := k
  exact ⟨t, o, h t a, r⟩
theorem own_start {p : Program} {e : Env} {below : List Frame} {B : State → Outcome → Prop} {U : State} (k : own_G p e below B U) : ∃ t o, Steps p.tables e below U t ∧ t.status = .running ∧ Ended t below o ∧ B t o := k

theorem own_b53 (a : Int32) : B53 a.toInt64 := by
  unfold B53; rw [Int32.toInt_toInt64]
  have := a.toInt_lt; have := a.le_toInt
  omega
theorem own_dc (a b : Int32) (o : CmpOp) : cmpValue (FP.dcmp (FP.i2d a) (FP.i2d b)) o = lcmpW a.toInt64 b.toInt64 := by rw [i2d_w, i2d_w, dcmpV_w (own_b53 a) (own_b53 b) o]
theorem own_dcl {q : Int64} (hq : B53 q) (b : Int32) (o : CmpOp) : cmpValue (FP.dcmp (FP.l2d q) (FP.i2d b)) o = lcmpW q b.toInt64 := by rw [i2d_w, dcmpV_w hq (own_b53 b) o]
theorem own_i64lt {a b : Int32} : a.toInt64 < b.toInt64 ↔ a < b := by rw [Int64.lt_iff_toInt_lt, Int32.lt_iff_toInt_lt, Int32.toInt_toInt64, Int32.toInt_toInt64]
theorem own_le {a b : Int32} (h : ¬ b < a) : ¬ (0 : Int32) < lcmpW a.toInt64 b.toInt64 := fun z => h (own_i64lt.mp ((lc_gt _ _).mp (lcW _ _ ▸ z)))
def own_min (a b : Int32) : Int32 := if b < a then b else a
def own_max (a b : Int32) : Int32 := if a < b then b else a
theorem own_mm (a b : Int32) : ¬ own_max a b < own_min a b := by
  unfold own_max own_min
  intro h
  repeat' split at h
  all_goals (simp only [Int32.lt_iff_toInt_lt] at *; omega)
def own_in (q : Int64) (lo hi : Int32) : Int32 := if lcmpW q lo.toInt64 < (0 : Int32) then 0 else if (0 : Int32) < lcmpW q hi.toInt64 then 0 else 1
theorem own_bm (a : Int32) : B53 (a.toInt64 - 1) := by
  have h1 := a.toInt_lt; have h2 := a.le_toInt
  unfold B53; rw [Jvm.Kit.i64_sub (by rw [Int32.toInt_toInt64]; simp; omega) (by rw [Int32.toInt_toInt64]; simp; omega), Int32.toInt_toInt64, show (1 : Int64).toInt = 1 from by decide]
  omega
theorem own_bp (a : Int32) : B53 (a.toInt64 + 1) := by
  have h1 := a.toInt_lt; have h2 := a.le_toInt
  unfold B53; rw [Jvm.Kit.i64_add (by rw [Int32.toInt_toInt64]; simp; omega) (by rw [Int32.toInt_toInt64]; simp; omega), Int32.toInt_toInt64, show (1 : Int64).toInt = 1 from by decide]
  omega
theorem own_fin (a : Int32) : (if Jvm.Free.Fl.relLe (FP.dcmp (FP.i2d a &&& 0x7fffffffffffffff) Jvm.Free.Fl.maxD) = true then (1 : Int32) else 0) = 1 :=
  if_pos ((Jvm.Free.Fl.le_max_iff (Jvm.Free.Fl.i2d_fin a).noNaN).mpr (Jvm.Free.Fl.i2d_fin a))
theorem own_isfB : jdk_117_method_8_code = Jvm.Free.Fl.IsFinite.yB := by decide +kernel
theorem own_absB : jdk_29_method_64_code = Jvm.Free.Fl.Abs.absDCode := by decide +kernel
theorem own_tab {Z s : State} {a0 args : Array Value} (hw : ∀ d ∈ tables_1, d.before a0 Z = true) (hZ : Z.Warmed39 s.vm) : Jvm.Free.Fl.IsFinite.tab.before args s = true := by
  simp only [Jvm.Free.Fl.IsFinite.tab, Cond.before_and, Bool.and_eq_true]
  refine ⟨?_, ?_, ?_, ?_, ?_, ?_⟩
  · rw [← own_isfB]; exact mvT hZ (hw _ (List.mem_of_getElem? (i := 19) rfl))
  · exact mvT hZ (hw _ (List.mem_of_getElem? (i := 20) rfl))
  · exact mvT hZ (hw _ (List.mem_of_getElem? (i := 21) rfl))
  · exact mvT hZ (hw _ (List.mem_of_getElem? (i := 2) rfl))
  · rw [← own_absB]; exact mvT hZ (hw _ (List.mem_of_getElem? (i := 22) rfl))
  · exact mvT hZ (hw _ (List.mem_of_getElem? (i := 23) rfl))

theorem d1_0 : decode jdk_29_method_69_code 0 = .ok (.iload_n 0, 1) := by decide +kernel
theorem d1_1 : decode jdk_29_method_69_code 1 = .ok (.iload_n 1, 1) := by decide +kernel
theorem d1_2 : decode jdk_29_method_69_code 2 = .ok (.if_icmp .gt 7, 3) := by decide +kernel
theorem d1_5 : decode jdk_29_method_69_code 5 = .ok (.iload_n 0, 1) := by decide +kernel
theorem d1_6 : decode jdk_29_method_69_code 6 = .ok (.goto 4, 3) := by decide +kernel
theorem d1_9 : decode jdk_29_method_69_code 9 = .ok (.iload_n 1, 1) := by decide +kernel
theorem d1_10 : decode jdk_29_method_69_code 10 = .ok (.ireturn, 1) := by decide +kernel
theorem rm1_ef (m : MethodId) (z0 : Int32) (z1 : Int32) : entryFrame m #[(.int z0), (.int z1)] 2 = mkF m 0 #[.val (.int z0), .val (.int z1)] [] := by first | (simp [entryFrame, mkF, argsToLocals, Value.category]; done) | rfl
def rm1_Q (Z : State) (p1 : Int32) (p2 : Int32)  (h0 : Heap) (n0 : Nat) (v : Option Value) (h : Heap) (L : List Loc) : Prop := v = some (.int (own_min p1 p2)) ∧ Fr n0 L ∧ h = h0
set_option maxRecDepth 65536 in
set_option maxHeartbeats 40000000 in
theorem rm1 (l : Launch) (Z : State) (a0 : Array Value) (hw : ∀ d ∈ tables_1, d.before a0 Z = true) (ws : List Jvm.Cond) (p1 : Int32) (p2 : Int32)  (h0 : Heap) (n0 : Nat) (Z0 : n0 ≤ h0.size)  :
    MetFree l (⟨"java/lang/Math", "min", "(II)I"⟩ : MethodName) (head1 (Jvm.Cond.code (⟨"java/lang/Math", "min", "(II)I"⟩ : MethodName) jdk_29_method_69_code 2 (some .int) :: ws) ({ frames := 0, cells := 0, slots := 0, locals := 0 } : Room)) (fun a U => a = #[(.int p1), (.int p2)] ∧ Z.Warmed39 U.vm ∧ U.heap = h0) (fun _ _ _ _ _ => True) (fun _ U o U' => ∃ v L, o = .returned v ∧ rm1_Q Z p1 p2 h0 n0 v U'.heap L ∧ FrameEnd U o U' L ({ frames := 0, cells := 0, slots := 0, locals := 0 } : Room).cells ({ frames := 0, cells := 0, slots := 0, locals := 0 } : Room).slots) := by
  refine MetFree.of_bodySF (Jvm.Free.JP.mathPlain rfl (by decide +kernel)) hisR ?_
  intro p e s m args below meth c s₁ Bd hml0 hP hK
  obtain ⟨rfl, hZ, hh⟩ := hP
  have hx := Bd.exec
  have hby := Bd.bytes
  have hml : c.maxLocals = 2 := hml0
  have hown : s.vm.findClass "java/lang/Math" = some m.cls := findClass_of_methodNamed Bd.named
  have hnm := (name_of_methodNamed Bd.named Bd.method).1
  have X0 : Stand p l e ({ frames := 0, cells := 0, slots := 0, locals := 0 } : Room) s m #[(.int p1), (.int p2)] below meth c s₁ [] 0 0 := Stand.of_body Bd
  have e0 : s₁.heap = h0 := by rw [← hh, Bd.state]; rfl
  have N0 := Fr.nil n0
  refine own_via (fun t k => castTop (rm1_ef m p1 p2) k) ?_
  show own_G p e below _ (s₁.setTop (mkF m 0 #[.val (.int p1), .val (.int p2)] []))
  refine own_via (fun t k => XS.iloadN X0.here hx rfl (hb hby d1_0) rfl k) ?_
  show own_G p e below _ (s₁.setTop (mkF m 1 #[.val (.int p1), .val (.int p2)] [(.int p1)]))
  refine own_via (fun t k => XS.iloadN X0.here hx rfl (hb hby d1_1) rfl k) ?_
  show own_G p e below _ (s₁.setTop (mkF m 2 #[.val (.int p1), .val (.int p2)] [(.int p2), (.int p1)]))
  by_cases c2_1 : p2 < p1
  · skip
    refine own_via (fun t k => XS.icmpYes X0.here hx rfl (pc0 := 2) (pc' := 9) rfl (hb hby d1_2) rfl (tlt c2_1).2.2.1 (by decide) (by decide) k) ?_
    show own_G p e below _ (s₁.setTop (mkF m 9 #[.val (.int p1), .val (.int p2)] []))
    refine own_via (fun t k => XS.iloadN X0.here hx rfl (hb hby d1_9) rfl k) ?_
    show own_G p e below _ (s₁.setTop (mkF m 10 #[.val (.int p1), .val (.int p2)] [(.int p2)]))
    obtain ⟨fs, hr, hrun, hended, hW, hsame⟩ := X0.leave (v := some (.int p2)) (fun h => by rw [Bd.returns] at h; cases h)
    refine ⟨_, _, retOut X0 hx Bd.returns rfl (Or.inl ⟨rfl, Or.inl rfl, _, rfl⟩) (hb hby d1_10) hr, hrun, hended, _, _, rfl, ?_, ⟨_, rfl⟩, hW, hsame.mono (by decide) (by decide)⟩
    show rm1_Q Z p1 p2 h0 n0 _ s₁.heap _
    rw [e0]
    exact ⟨by simp only [own_min, if_pos c2_1], N0, rfl⟩
  · skip
    refine own_via (fun t k => XS.icmpNo X0.here hx rfl (hb hby d1_2) rfl (flt c2_1).2.2.1 k) ?_
    show own_G p e below _ (s₁.setTop (mkF m 5 #[.val (.int p1), .val (.int p2)] []))
    refine own_via (fun t k => XS.iloadN X0.here hx rfl (hb hby d1_5) rfl k) ?_
    show own_G p e below _ (s₁.setTop (mkF m 6 #[.val (.int p1), .val (.int p2)] [(.int p1)]))
    refine own_via (fun t k => XS.goto X0.here hx rfl (pc0 := 6) (pc' := 10) rfl (hb hby d1_6) (by decide) (by decide) k) ?_
    show own_G p e below _ (s₁.setTop (mkF m 10 #[.val (.int p1), .val (.int p2)] [(.int p1)]))
    obtain ⟨fs, hr, hrun, hended, hW, hsame⟩ := X0.leave (v := some (.int p1)) (fun h => by rw [Bd.returns] at h; cases h)
    refine ⟨_, _, retOut X0 hx Bd.returns rfl (Or.inl ⟨rfl, Or.inl rfl, _, rfl⟩) (hb hby d1_10) hr, hrun, hended, _, _, rfl, ?_, ⟨_, rfl⟩, hW, hsame.mono (by decide) (by decide)⟩
    show rm1_Q Z p1 p2 h0 n0 _ s₁.heap _
    rw [e0]
    exact ⟨by simp only [own_min, if_neg c2_1], N0, rfl⟩

theorem d2_0 : decode jdk_29_method_65_code 0 = .ok (.iload_n 0, 1) := by decide +kernel
theorem d2_1 : decode jdk_29_method_65_code 1 = .ok (.iload_n 1, 1) := by decide +kernel
theorem d2_2 : decode jdk_29_method_65_code 2 = .ok (.if_icmp .lt 7, 3) := by decide +kernel
theorem d2_5 : decode jdk_29_method_65_code 5 = .ok (.iload_n 0, 1) := by decide +kernel
theorem d2_6 : decode jdk_29_method_65_code 6 = .ok (.goto 4, 3) := by decide +kernel
theorem d2_9 : decode jdk_29_method_65_code 9 = .ok (.iload_n 1, 1) := by decide +kernel
theorem d2_10 : decode jdk_29_method_65_code 10 = .ok (.ireturn, 1) := by decide +kernel
theorem rm2_ef (m : MethodId) (z0 : Int32) (z1 : Int32) : entryFrame m #[(.int z0), (.int z1)] 2 = mkF m 0 #[.val (.int z0), .val (.int z1)] [] := by first | (simp [entryFrame, mkF, argsToLocals, Value.category]; done) | rfl
def rm2_Q (Z : State) (p1 : Int32) (p2 : Int32)  (h0 : Heap) (n0 : Nat) (v : Option Value) (h : Heap) (L : List Loc) : Prop := v = some (.int (own_max p1 p2)) ∧ Fr n0 L ∧ h = h0
set_option maxRecDepth 65536 in
set_option maxHeartbeats 40000000 in
theorem rm2 (l : Launch) (Z : State) (a0 : Array Value) (hw : ∀ d ∈ tables_1, d.before a0 Z = true) (ws : List Jvm.Cond) (p1 : Int32) (p2 : Int32)  (h0 : Heap) (n0 : Nat) (Z0 : n0 ≤ h0.size)  :
    MetFree l (⟨"java/lang/Math", "max", "(II)I"⟩ : MethodName) (head1 (Jvm.Cond.code (⟨"java/lang/Math", "max", "(II)I"⟩ : MethodName) jdk_29_method_65_code 2 (some .int) :: ws) ({ frames := 0, cells := 0, slots := 0, locals := 0 } : Room)) (fun a U => a = #[(.int p1), (.int p2)] ∧ Z.Warmed39 U.vm ∧ U.heap = h0) (fun _ _ _ _ _ => True) (fun _ U o U' => ∃ v L, o = .returned v ∧ rm2_Q Z p1 p2 h0 n0 v U'.heap L ∧ FrameEnd U o U' L ({ frames := 0, cells := 0, slots := 0, locals := 0 } : Room).cells ({ frames := 0, cells := 0, slots := 0, locals := 0 } : Room).slots) := by
  refine MetFree.of_bodySF (Jvm.Free.JP.mathPlain rfl (by decide +kernel)) hisR ?_
  intro p e s m args below meth c s₁ Bd hml0 hP hK
  obtain ⟨rfl, hZ, hh⟩ := hP
  have hx := Bd.exec
  have hby := Bd.bytes
  have hml : c.maxLocals = 2 := hml0
  have hown : s.vm.findClass "java/lang/Math" = some m.cls := findClass_of_methodNamed Bd.named
  have hnm := (name_of_methodNamed Bd.named Bd.method).1
  have X0 : Stand p l e ({ frames := 0, cells := 0, slots := 0, locals := 0 } : Room) s m #[(.int p1), (.int p2)] below meth c s₁ [] 0 0 := Stand.of_body Bd
  have e0 : s₁.heap = h0 := by rw [← hh, Bd.state]; rfl
  have N0 := Fr.nil n0
  refine own_via (fun t k => castTop (rm2_ef m p1 p2) k) ?_
  show own_G p e below _ (s₁.setTop (mkF m 0 #[.val (.int p1), .val (.int p2)] []))
  refine own_via (fun t k => XS.iloadN X0.here hx rfl (hb hby d2_0) rfl k) ?_
  show own_G p e below _ (s₁.setTop (mkF m 1 #[.val (.int p1), .val (.int p2)] [(.int p1)]))
  refine own_via (fun t k => XS.iloadN X0.here hx rfl (hb hby d2_1) rfl k) ?_
  show own_G p e below _ (s₁.setTop (mkF m 2 #[.val (.int p1), .val (.int p2)] [(.int p2), (.int p1)]))
  by_cases c2_1 : p1 < p2
  · skip
    refine own_via (fun t k => XS.icmpYes X0.here hx rfl (pc0 := 2) (pc' := 9) rfl (hb hby d2_2) rfl (tlt c2_1).1 (by decide) (by decide) k) ?_
    show own_G p e below _ (s₁.setTop (mkF m 9 #[.val (.int p1), .val (.int p2)] []))
    refine own_via (fun t k => XS.iloadN X0.here hx rfl (hb hby d2_9) rfl k) ?_
    show own_G p e below _ (s₁.setTop (mkF m 10 #[.val (.int p1), .val (.int p2)] [(.int p2)]))
    obtain ⟨fs, hr, hrun, hended, hW, hsame⟩ := X0.leave (v := some (.int p2)) (fun h => by rw [Bd.returns] at h; cases h)
    refine ⟨_, _, retOut X0 hx Bd.returns rfl (Or.inl ⟨rfl, Or.inl rfl, _, rfl⟩) (hb hby d2_10) hr, hrun, hended, _, _, rfl, ?_, ⟨_, rfl⟩, hW, hsame.mono (by decide) (by decide)⟩
    show rm2_Q Z p1 p2 h0 n0 _ s₁.heap _
    rw [e0]
    exact ⟨by simp only [own_max, if_pos c2_1], N0, rfl⟩
  · skip
    refine own_via (fun t k => XS.icmpNo X0.here hx rfl (hb hby d2_2) rfl (flt c2_1).1 k) ?_
    show own_G p e below _ (s₁.setTop (mkF m 5 #[.val (.int p1), .val (.int p2)] []))
    refine own_via (fun t k => XS.iloadN X0.here hx rfl (hb hby d2_5) rfl k) ?_
    show own_G p e below _ (s₁.setTop (mkF m 6 #[.val (.int p1), .val (.int p2)] [(.int p1)]))
    refine own_via (fun t k => XS.goto X0.here hx rfl (pc0 := 6) (pc' := 10) rfl (hb hby d2_6) (by decide) (by decide) k) ?_
    show own_G p e below _ (s₁.setTop (mkF m 10 #[.val (.int p1), .val (.int p2)] [(.int p1)]))
    obtain ⟨fs, hr, hrun, hended, hW, hsame⟩ := X0.leave (v := some (.int p1)) (fun h => by rw [Bd.returns] at h; cases h)
    refine ⟨_, _, retOut X0 hx Bd.returns rfl (Or.inl ⟨rfl, Or.inl rfl, _, rfl⟩) (hb hby d2_10) hr, hrun, hended, _, _, rfl, ?_, ⟨_, rfl⟩, hW, hsame.mono (by decide) (by decide)⟩
    show rm2_Q Z p1 p2 h0 n0 _ s₁.heap _
    rw [e0]
    exact ⟨by simp only [own_max, if_neg c2_1], N0, rfl⟩

theorem d3_0 : decode prog_101_method_1_code 0 = .ok (.aload_n 0, 1) := by decide +kernel
theorem d3_1 : decode prog_101_method_1_code 1 = .ok (.invokespecial 1, 3) := by decide +kernel
theorem d3_4 : decode prog_101_method_1_code 4 = .ok (.dload_n 1, 1) := by decide +kernel
theorem d3_5 : decode prog_101_method_1_code 5 = .ok (.invokestatic 7, 3) := by decide +kernel
theorem d3_8 : decode prog_101_method_1_code 8 = .ok (.ifCond .eq 16, 3) := by decide +kernel
theorem d3_11 : decode prog_101_method_1_code 11 = .ok (.dload_n 3, 1) := by decide +kernel
theorem d3_12 : decode prog_101_method_1_code 12 = .ok (.invokestatic 7, 3) := by decide +kernel
theorem d3_15 : decode prog_101_method_1_code 15 = .ok (.ifCond .eq 9, 3) := by decide +kernel
theorem d3_18 : decode prog_101_method_1_code 18 = .ok (.dload_n 1, 1) := by decide +kernel
theorem d3_19 : decode prog_101_method_1_code 19 = .ok (.dload_n 3, 1) := by decide +kernel
theorem d3_20 : decode prog_101_method_1_code 20 = .ok (.dcmp .l, 1) := by decide +kernel
theorem d3_21 : decode prog_101_method_1_code 21 = .ok (.ifCond .le 18, 3) := by decide +kernel
theorem d3_39 : decode prog_101_method_1_code 39 = .ok (.aload_n 0, 1) := by decide +kernel
theorem d3_40 : decode prog_101_method_1_code 40 = .ok (.dload_n 1, 1) := by decide +kernel
theorem d3_41 : decode prog_101_method_1_code 41 = .ok (.putfield 22, 3) := by decide +kernel
theorem d3_44 : decode prog_101_method_1_code 44 = .ok (.aload_n 0, 1) := by decide +kernel
theorem d3_45 : decode prog_101_method_1_code 45 = .ok (.dload_n 3, 1) := by decide +kernel
theorem d3_46 : decode prog_101_method_1_code 46 = .ok (.putfield 28, 3) := by decide +kernel
theorem d3_49 : decode prog_101_method_1_code 49 = .ok (.return_, 1) := by decide +kernel
theorem rm3_pn : plainName "com/example/fee_simple/feesimple/ratiostudy/Interval" = true := by first | (simp [plainName, overriddenIn]; done) | decide +kernel
theorem pd_rm3_0 : parseMethodDescriptor "(D)Z" = some ⟨[.double], some .boolean⟩ := by decide +kernel
theorem rm3_ef (m : MethodId) (z0 : Addr) (z1 : UInt64) (z2 : UInt64) : entryFrame m #[(.ref z0), (.double z1), (.double z2)] 5 = mkF m 0 #[.val (.ref z0), .val (.double z1), .second, .val (.double z2), .second] [] := by first | (simp [entryFrame, mkF, argsToLocals, Value.category]; done) | rfl
def rm3_Q (Z : State) (a1 : Addr) (lo : Int32) (hi : Int32) (h0 : Heap) (n0 : Nat) (v : Option Value) (h : Heap) (L : List Loc) : Prop := v = none ∧ Fr n0 L ∧ Keep h0 h [a1] ∧ Exa Z h a1 "com/example/fee_simple/feesimple/ratiostudy/Interval" ∧ Fld Z h a1 "com/example/fee_simple/feesimple/ratiostudy/Interval" "low" "D" (.double (FP.i2d lo)) ∧ Fld Z h a1 "com/example/fee_simple/feesimple/ratiostudy/Interval" "high" "D" (.double (FP.i2d hi))
set_option maxRecDepth 65536 in
set_option maxHeartbeats 40000000 in
theorem rm3 (l : Launch) (Z : State) (a0 : Array Value) (hw : ∀ d ∈ tables_1, d.before a0 Z = true) (ws : List Jvm.Cond) (a1 : Addr) (lo : Int32) (hi : Int32) (h0 : Heap) (n0 : Nat) (Z0 : n0 ≤ h0.size) (E_a1 : Exa Z h0 a1 "com/example/fee_simple/feesimple/ratiostudy/Interval") (F_low : Fld Z h0 a1 "com/example/fee_simple/feesimple/ratiostudy/Interval" "low" "D" (.double (0 : UInt64))) (F_high : Fld Z h0 a1 "com/example/fee_simple/feesimple/ratiostudy/Interval" "high" "D" (.double (0 : UInt64))) (gx_a1 : n0 ≤ a1) (hle : ¬ hi < lo) :
    MetFree l (⟨"com/example/fee_simple/feesimple/ratiostudy/Interval", "<init>", "(DD)V"⟩ : MethodName) (head1 (Jvm.Cond.code (⟨"com/example/fee_simple/feesimple/ratiostudy/Interval", "<init>", "(DD)V"⟩ : MethodName) prog_101_method_1_code 5 none :: ws) ({ frames := 2, cells := 0, slots := 0, locals := 26 } : Room)) (fun a U => a = #[(.ref a1), (.double (FP.i2d lo)), (.double (FP.i2d hi))] ∧ Z.Warmed39 U.vm ∧ U.heap = h0) (fun _ _ _ _ _ => True) (fun _ U o U' => ∃ v L, o = .returned v ∧ rm3_Q Z a1 lo hi h0 n0 v U'.heap L ∧ FrameEnd U o U' L ({ frames := 2, cells := 0, slots := 0, locals := 26 } : Room).cells ({ frames := 2, cells := 0, slots := 0, locals := 26 } : Room).slots) := by
  refine MetFree.of_bodySF (plainFor_of_name rm3_pn) hisR ?_
  intro p e s m args below meth c s₁ Bd hml0 hP hK
  obtain ⟨rfl, hZ, hh⟩ := hP
  have hx := Bd.exec
  have hby := Bd.bytes
  have hml : c.maxLocals = 5 := hml0
  have hown : s.vm.findClass "com/example/fee_simple/feesimple/ratiostudy/Interval" = some m.cls := findClass_of_methodNamed Bd.named
  have hnm := (name_of_methodNamed Bd.named Bd.method).1
  have X0 : Stand p l e ({ frames := 2, cells := 0, slots := 0, locals := 26 } : Room) s m #[(.ref a1), (.double (FP.i2d lo)), (.double (FP.i2d hi))] below meth c s₁ [] 0 0 := Stand.of_body Bd
  have e0 : s₁.heap = h0 := by rw [← hh, Bd.state]; rfl
  have N0 := Fr.nil n0
  refine own_via (fun t k => castTop (rm3_ef m a1 (FP.i2d lo) (FP.i2d hi)) k) ?_
  have K0 := Keep.refl h0 [a1]
  show own_G p e below _ (s₁.setTop (mkF m 0 #[.val (.ref a1), .val (.double (FP.i2d lo)), .second, .val (.double (FP.i2d hi)), .second] []))
  refine own_via (fun t k => XS.aloadN X0.here hx rfl (hb hby d3_0) rfl rfl k) ?_
  show own_G p e below _ (s₁.setTop (mkF m 1 #[.val (.ref a1), .val (.double (FP.i2d lo)), .second, .val (.double (FP.i2d hi)), .second] [(.ref a1)]))
  obtain ⟨T1, X1, e1, st1⟩ := initO X0 hx hZ hown (hw _ (List.mem_of_getElem? (i := 13) rfl)) (hw _ (List.mem_of_getElem? (i := 14) rfl)) (hw _ (List.mem_of_getElem? (i := 15) rfl)) e0 (g := (mkF m 1 #[.val (.ref a1), .val (.double (FP.i2d lo)), .second, .val (.double (FP.i2d hi)), .second] [(.ref a1)])) rfl (by rw [hml]; rfl) rfl (hb hby d3_1) (by decide) (W := 0) (by show 2 * 0 + _ ≤ _; exact Nat.le_of_eq rfl) (by decide)
  refine own_via st1 ?_
  show own_G p e below _ (T1.setTop (mkF m 4 #[.val (.ref a1), .val (.double (FP.i2d lo)), .second, .val (.double (FP.i2d hi)), .second] []))
  refine own_via (fun t k => XS.dloadN X1.here hx rfl (hb hby d3_4) rfl k) ?_
  show own_G p e below _ (T1.setTop (mkF m 5 #[.val (.ref a1), .val (.double (FP.i2d lo)), .second, .val (.double (FP.i2d hi)), .second] [(.double (FP.i2d lo))]))
  obtain ⟨v2, _, ⟨T2, L2, k2, n2⟩, -, X2, ⟨⟨e2, l2, y2, z2⟩, hv2⟩, st2⟩ := Jvm.LawKit.callS X1 hx (y := (⟨"java/lang/Double", "isFinite", "(D)Z"⟩ : MethodName)) hown (mvT hZ (hw _ (List.mem_of_getElem? (i := 16) rfl))) (mvT hZ (hw _ (List.mem_of_getElem? (i := 17) rfl))) (mvT hZ (hw _ (List.mem_of_getElem? (i := 18) rfl))) (mvT hZ (hw _ (List.mem_of_getElem? (i := 19) rfl))) (by decide) (Jvm.Free.Fl.IsFinite.pays (W := 0) (by decide) (by decide) (own_tab hw hZ) (mvT hZ (hw _ (List.mem_of_getElem? (i := 18) rfl)))) (g := (mkF m 5 #[.val (.ref a1), .val (.double (FP.i2d lo)), .second, .val (.double (FP.i2d hi)), .second] [(.double (FP.i2d lo))])) rfl (by rw [hml]; rfl) (argsL := [(.double (FP.i2d lo))]) (rest := []) (lenOf pd_rm3_0 rfl) rfl (by show 2 * 0 + _ ≤ _; exact Nat.le_of_eq rfl) (hb hby d3_5) (fun _ _ => ⟨Nat.zero_le _, Nat.zero_le _, _, rfl, (Jvm.Free.Fl.i2d_fin lo).noNaN⟩)
  dsimp only [Pt.U, Pt.locs, Pt.cells, Pt.slots] at X2 e2 l2 y2 z2 st2
  subst l2 y2 z2
  have hv2' := (hv2 _ ⟨rfl, (Jvm.Free.Fl.i2d_fin lo).noNaN⟩).trans (congrArg (fun z => some (Value.int z)) (own_fin lo))
  subst hv2'
  have e2' : T2.heap = h0 := e2.trans e1
  refine own_via st2 ?_
  show own_G p e below _ (T2.setTop (mkF m 8 #[.val (.ref a1), .val (.double (FP.i2d lo)), .second, .val (.double (FP.i2d hi)), .second] [(.int (1 : Int32))]))
  refine own_via (fun t k => XS.ifNo X2.here hx rfl (hb hby d3_8) rfl ((if0 _ _).trans (feq (by decide : ¬ ((1 : Int32) = (0 : Int32)))).1) k) ?_
  show own_G p e below _ (T2.setTop (mkF m 11 #[.val (.ref a1), .val (.double (FP.i2d lo)), .second, .val (.double (FP.i2d hi)), .second] []))
  refine own_via (fun t k => XS.dloadN X2.here hx rfl (hb hby d3_11) rfl k) ?_
  show own_G p e below _ (T2.setTop (mkF m 12 #[.val (.ref a1), .val (.double (FP.i2d lo)), .second, .val (.double (FP.i2d hi)), .second] [(.double (FP.i2d hi))]))
  obtain ⟨v4, _, ⟨T4, L4, k4, n4⟩, -, X4, ⟨⟨e4, l4, y4, z4⟩, hv4⟩, st4⟩ := Jvm.LawKit.callS X2 hx (y := (⟨"java/lang/Double", "isFinite", "(D)Z"⟩ : MethodName)) hown (mvT hZ (hw _ (List.mem_of_getElem? (i := 16) rfl))) (mvT hZ (hw _ (List.mem_of_getElem? (i := 17) rfl))) (mvT hZ (hw _ (List.mem_of_getElem? (i := 18) rfl))) (mvT hZ (hw _ (List.mem_of_getElem? (i := 19) rfl))) (by decide) (Jvm.Free.Fl.IsFinite.pays (W := 0) (by decide) (by decide) (own_tab hw hZ) (mvT hZ (hw _ (List.mem_of_getElem? (i := 18) rfl)))) (g := (mkF m 12 #[.val (.ref a1), .val (.double (FP.i2d lo)), .second, .val (.double (FP.i2d hi)), .second] [(.double (FP.i2d hi))])) rfl (by rw [hml]; rfl) (argsL := [(.double (FP.i2d hi))]) (rest := []) (lenOf pd_rm3_0 rfl) rfl (by show 2 * 0 + _ ≤ _; exact Nat.le_of_eq rfl) (hb hby d3_12) (fun _ _ => ⟨Nat.zero_le _, Nat.zero_le _, _, rfl, (Jvm.Free.Fl.i2d_fin hi).noNaN⟩)
  dsimp only [Pt.U, Pt.locs, Pt.cells, Pt.slots] at X4 e4 l4 y4 z4 st4
  subst l4 y4 z4
  have hv4' := (hv4 _ ⟨rfl, (Jvm.Free.Fl.i2d_fin hi).noNaN⟩).trans (congrArg (fun z => some (Value.int z)) (own_fin hi))
  subst hv4'
  have e4' : T4.heap = h0 := e4.trans e2'
  refine own_via st4 ?_
  show own_G p e below _ (T4.setTop (mkF m 15 #[.val (.ref a1), .val (.double (FP.i2d lo)), .second, .val (.double (FP.i2d hi)), .second] [(.int (1 : Int32))]))
  refine own_via (fun t k => XS.ifNo X4.here hx rfl (hb hby d3_15) rfl ((if0 _ _).trans (feq (by decide : ¬ ((1 : Int32) = (0 : Int32)))).1) k) ?_
  show own_G p e below _ (T4.setTop (mkF m 18 #[.val (.ref a1), .val (.double (FP.i2d lo)), .second, .val (.double (FP.i2d hi)), .second] []))
  refine own_via (fun t k => XS.dloadN X4.here hx rfl (hb hby d3_18) rfl k) ?_
  show own_G p e below _ (T4.setTop (mkF m 19 #[.val (.ref a1), .val (.double (FP.i2d lo)), .second, .val (.double (FP.i2d hi)), .second] [(.double (FP.i2d lo))]))
  refine own_via (fun t k => XS.dloadN X4.here hx rfl (hb hby d3_19) rfl k) ?_
  show own_G p e below _ (T4.setTop (mkF m 20 #[.val (.ref a1), .val (.double (FP.i2d lo)), .second, .val (.double (FP.i2d hi)), .second] [(.double (FP.i2d hi)), (.double (FP.i2d lo))]))
  refine own_via (fun t k => XS.dcmpS X4.here hx rfl (hb hby d3_20) rfl (own_dc _ _ _) k) ?_
  show own_G p e below _ (T4.setTop (mkF m 21 #[.val (.ref a1), .val (.double (FP.i2d lo)), .second, .val (.double (FP.i2d hi)), .second] [(.int (lcmpW lo.toInt64 hi.toInt64))]))
  refine own_via (fun t k => XS.ifYes X4.here hx rfl (pc0 := 21) (pc' := 39) rfl (hb hby d3_21) rfl ((if0 _ _).trans (flt (own_le hle)).2.2.2) (by decide) (by decide) k) ?_
  show own_G p e below _ (T4.setTop (mkF m 39 #[.val (.ref a1), .val (.double (FP.i2d lo)), .second, .val (.double (FP.i2d hi)), .second] []))
  refine own_via (fun t k => XS.aloadN X4.here hx rfl (hb hby d3_39) rfl rfl k) ?_
  show own_G p e below _ (T4.setTop (mkF m 40 #[.val (.ref a1), .val (.double (FP.i2d lo)), .second, .val (.double (FP.i2d hi)), .second] [(.ref a1)]))
  refine own_via (fun t k => XS.dloadN X4.here hx rfl (hb hby d3_40) rfl k) ?_
  show own_G p e below _ (T4.setTop (mkF m 41 #[.val (.ref a1), .val (.double (FP.i2d lo)), .second, .val (.double (FP.i2d hi)), .second] [(.double (FP.i2d lo)), (.ref a1)]))
  obtain ⟨T7, h7, X7, e7, W7, st7⟩ := putF X4 hx hZ hown (host := "") (Or.inl (hw _ (List.mem_of_getElem? (i := 24) rfl))) Via.refl e4' F_low E_a1 (Or.inr ⟨(hw _ (List.mem_of_getElem? (i := 25) rfl)), rfl, hnm⟩) (hw _ (List.mem_of_getElem? (i := 8) rfl)) (ty := .double) (by decide) rfl rfl (g := (mkF m 41 #[.val (.ref a1), .val (.double (FP.i2d lo)), .second, .val (.double (FP.i2d hi)), .second] [(.double (FP.i2d lo)), (.ref a1)])) rfl rfl (hb hby d3_41)
  have Fw7 := F_low.same W7
  have F8 := E_a1.wr W7
  have F9 := F_high.other W7 (Or.inr (slot_ne (Or.inr (hw _ (List.mem_of_getElem? (i := 27) rfl))) (Or.inr (hw _ (List.mem_of_getElem? (i := 25) rfl))) (by decide) (t := .double) (t' := .double) (by decide) (by decide)))
  have N7 := Fr.snoc X7 N0 gx_a1
  have Z7 : n0 ≤ h7.size := Nat.le_trans Z0 (Nat.le_of_eq W7.size.symm)
  have K7 := K0.wr W7 (Or.inl (List.mem_of_getElem? (i := 0) rfl))
  refine own_via st7 ?_
  show own_G p e below _ (T7.setTop (mkF m 44 #[.val (.ref a1), .val (.double (FP.i2d lo)), .second, .val (.double (FP.i2d hi)), .second] []))
  refine own_via (fun t k => XS.aloadN X7.here hx rfl (hb hby d3_44) rfl rfl k) ?_
  show own_G p e below _ (T7.setTop (mkF m 45 #[.val (.ref a1), .val (.double (FP.i2d lo)), .second, .val (.double (FP.i2d hi)), .second] [(.ref a1)]))
  refine own_via (fun t k => XS.dloadN X7.here hx rfl (hb hby d3_45) rfl k) ?_
  show own_G p e below _ (T7.setTop (mkF m 46 #[.val (.ref a1), .val (.double (FP.i2d lo)), .second, .val (.double (FP.i2d hi)), .second] [(.double (FP.i2d hi)), (.ref a1)]))
  obtain ⟨T10, h10, X10, e10, W10, st10⟩ := putF X7 hx hZ hown (host := "") (Or.inl (hw _ (List.mem_of_getElem? (i := 26) rfl))) Via.refl e7 F9 F8 (Or.inr ⟨(hw _ (List.mem_of_getElem? (i := 27) rfl)), rfl, hnm⟩) (hw _ (List.mem_of_getElem? (i := 8) rfl)) (ty := .double) (by decide) rfl rfl (g := (mkF m 46 #[.val (.ref a1), .val (.double (FP.i2d lo)), .second, .val (.double (FP.i2d hi)), .second] [(.double (FP.i2d hi)), (.ref a1)])) rfl rfl (hb hby d3_46)
  have Fw10 := F9.same W10
  have F11 := F8.wr W10
  have F12 := Fw7.other W10 (Or.inr (slot_ne (Or.inr (hw _ (List.mem_of_getElem? (i := 25) rfl))) (Or.inr (hw _ (List.mem_of_getElem? (i := 27) rfl))) (by decide) (t := .double) (t' := .double) (by decide) (by decide)))
  have N10 := Fr.snoc X10 N7 gx_a1
  have Z10 : n0 ≤ h10.size := Nat.le_trans Z7 (Nat.le_of_eq W10.size.symm)
  have K10 := K7.wr W10 (Or.inl (List.mem_of_getElem? (i := 0) rfl))
  refine own_via st10 ?_
  show own_G p e below _ (T10.setTop (mkF m 49 #[.val (.ref a1), .val (.double (FP.i2d lo)), .second, .val (.double (FP.i2d hi)), .second] []))
  obtain ⟨fs, hr, hrun, hended, hW, hsame⟩ := X10.leave (v := none) (fun _ => rfl)
  refine ⟨_, _, X10.returnOut hx Bd.returns (hb hby d3_49) hr, hrun, hended, _, _, rfl, ?_, ⟨_, rfl⟩, hW, hsame.mono (by decide) (by decide)⟩
  show rm3_Q Z a1 lo hi h0 n0 _ T10.heap _
  rw [e10]
  exact ⟨rfl, N10, K10, F11, F12, Fw10⟩

theorem d7_0 : decode prog_101_method_4_code 0 = .ok (.dload_n 1, 1) := by decide +kernel
theorem d7_1 : decode prog_101_method_4_code 1 = .ok (.aload_n 0, 1) := by decide +kernel
theorem d7_2 : decode prog_101_method_4_code 2 = .ok (.getfield 22, 3) := by decide +kernel
theorem d7_5 : decode prog_101_method_4_code 5 = .ok (.dcmp .l, 1) := by decide +kernel
theorem d7_6 : decode prog_101_method_4_code 6 = .ok (.ifCond .lt 16, 3) := by decide +kernel
theorem d7_9 : decode prog_101_method_4_code 9 = .ok (.dload_n 1, 1) := by decide +kernel
theorem d7_10 : decode prog_101_method_4_code 10 = .ok (.aload_n 0, 1) := by decide +kernel
theorem d7_11 : decode prog_101_method_4_code 11 = .ok (.getfield 28, 3) := by decide +kernel
theorem d7_14 : decode prog_101_method_4_code 14 = .ok (.dcmp .g, 1) := by decide +kernel
theorem d7_15 : decode prog_101_method_4_code 15 = .ok (.ifCond .gt 7, 3) := by decide +kernel
theorem d7_18 : decode prog_101_method_4_code 18 = .ok (.iconst 1, 1) := by decide +kernel
theorem d7_19 : decode prog_101_method_4_code 19 = .ok (.goto 4, 3) := by decide +kernel
theorem d7_22 : decode prog_101_method_4_code 22 = .ok (.iconst 0, 1) := by decide +kernel
theorem d7_23 : decode prog_101_method_4_code 23 = .ok (.ireturn, 1) := by decide +kernel
theorem rm7_pn : plainName "com/example/fee_simple/feesimple/ratiostudy/Interval" = true := by first | (simp [plainName, overriddenIn]; done) | decide +kernel
theorem rm7_ef (m : MethodId) (z0 : Addr) (z1 : UInt64) : entryFrame m #[(.ref z0), (.double z1)] 3 = mkF m 0 #[.val (.ref z0), .val (.double z1), .second] [] := by first | (simp [entryFrame, mkF, argsToLocals, Value.category]; done) | rfl
def rm7_Q (Z : State) (a1 : Addr) (q : Int64) (lo : Int32) (hi : Int32) (h0 : Heap) (n0 : Nat) (v : Option Value) (h : Heap) (L : List Loc) : Prop := v = some (.int (own_in q lo hi)) ∧ Fr n0 L ∧ h = h0
set_option maxRecDepth 65536 in
set_option maxHeartbeats 40000000 in
theorem rm7 (l : Launch) (Z : State) (a0 : Array Value) (hw : ∀ d ∈ tables_1, d.before a0 Z = true) (ws : List Jvm.Cond) (a1 : Addr) (q : Int64) (lo : Int32) (hi : Int32) (h0 : Heap) (n0 : Nat) (Z0 : n0 ≤ h0.size) (F_low : Fld Z h0 a1 "com/example/fee_simple/feesimple/ratiostudy/Interval" "low" "D" (.double (FP.i2d lo))) (F_high : Fld Z h0 a1 "com/example/fee_simple/feesimple/ratiostudy/Interval" "high" "D" (.double (FP.i2d hi))) (hq : B53 q) :
    MetFree l (⟨"com/example/fee_simple/feesimple/ratiostudy/Interval", "contains", "(D)Z"⟩ : MethodName) (head1 (Jvm.Cond.code (⟨"com/example/fee_simple/feesimple/ratiostudy/Interval", "contains", "(D)Z"⟩ : MethodName) prog_101_method_4_code 3 (some .boolean) :: ws) ({ frames := 0, cells := 0, slots := 0, locals := 0 } : Room)) (fun a U => a = #[(.ref a1), (.double (FP.l2d q))] ∧ Z.Warmed39 U.vm ∧ U.heap = h0) (fun _ _ _ _ _ => True) (fun _ U o U' => ∃ v L, o = .returned v ∧ rm7_Q Z a1 q lo hi h0 n0 v U'.heap L ∧ FrameEnd U o U' L ({ frames := 0, cells := 0, slots := 0, locals := 0 } : Room).cells ({ frames := 0, cells := 0, slots := 0, locals := 0 } : Room).slots) := by
  refine MetFree.of_bodySF (plainFor_of_name rm7_pn) hisR ?_
  intro p e s m args below meth c s₁ Bd hml0 hP hK
  obtain ⟨rfl, hZ, hh⟩ := hP
  have hx := Bd.exec
  have hby := Bd.bytes
  have hml : c.maxLocals = 3 := hml0
  have hown : s.vm.findClass "com/example/fee_simple/feesimple/ratiostudy/Interval" = some m.cls := findClass_of_methodNamed Bd.named
  have hnm := (name_of_methodNamed Bd.named Bd.method).1
  have X0 : Stand p l e ({ frames := 0, cells := 0, slots := 0, locals := 0 } : Room) s m #[(.ref a1), (.double (FP.l2d q))] below meth c s₁ [] 0 0 := Stand.of_body Bd
  have e0 : s₁.heap = h0 := by rw [← hh, Bd.state]; rfl
  have N0 := Fr.nil n0
  refine own_via (fun t k => castTop (rm7_ef m a1 (FP.l2d q)) k) ?_
  show own_G p e below _ (s₁.setTop (mkF m 0 #[.val (.ref a1), .val (.double (FP.l2d q)), .second] []))
  refine own_via (fun t k => XS.dloadN X0.here hx rfl (hb hby d7_0) rfl k) ?_
  show own_G p e below _ (s₁.setTop (mkF m 1 #[.val (.ref a1), .val (.double (FP.l2d q)), .second] [(.double (FP.l2d q))]))
  refine own_via (fun t k => XS.aloadN X0.here hx rfl (hb hby d7_1) rfl rfl k) ?_
  show own_G p e below _ (s₁.setTop (mkF m 2 #[.val (.ref a1), .val (.double (FP.l2d q)), .second] [(.ref a1), (.double (FP.l2d q))]))
  obtain ⟨T1, X1, e1, st1⟩ := getF X0 hx hZ hown (host := "") (Or.inl (hw _ (List.mem_of_getElem? (i := 24) rfl))) Via.refl e0 F_low (g := (mkF m 2 #[.val (.ref a1), .val (.double (FP.l2d q)), .second] [(.ref a1), (.double (FP.l2d q))])) rfl rfl (hb hby d7_2)
  refine own_via st1 ?_
  show own_G p e below _ (T1.setTop (mkF m 5 #[.val (.ref a1), .val (.double (FP.l2d q)), .second] [(.double (FP.i2d lo)), (.double (FP.l2d q))]))
  refine own_via (fun t k => XS.dcmpS X1.here hx rfl (hb hby d7_5) rfl (own_dcl hq _ _) k) ?_
  show own_G p e below _ (T1.setTop (mkF m 6 #[.val (.ref a1), .val (.double (FP.l2d q)), .second] [(.int (lcmpW q lo.toInt64))]))
  by_cases c6_2 : (lcmpW q lo.toInt64) < (0 : Int32)
  · skip
    refine own_via (fun t k => XS.ifYes X1.here hx rfl (pc0 := 6) (pc' := 22) rfl (hb hby d7_6) rfl ((if0 _ _).trans (tlt c6_2).1) (by decide) (by decide) k) ?_
    show own_G p e below _ (T1.setTop (mkF m 22 #[.val (.ref a1), .val (.double (FP.l2d q)), .second] []))
    refine own_via (fun t k => XS.iconst X1.here hx rfl (hb hby d7_22) k) ?_
    show own_G p e below _ (T1.setTop (mkF m 23 #[.val (.ref a1), .val (.double (FP.l2d q)), .second] [(.int (0 : Int32))]))
    obtain ⟨fs, hr, hrun, hended, hW, hsame⟩ := X1.leave (v := some (.int (0 : Int32))) (fun h => by rw [Bd.returns] at h; cases h)
    refine ⟨_, _, retN X1 hx (t := .boolean) Bd.returns (by simp) (hb hby d7_23) hr, hrun, hended, _, _, rfl, ?_, ⟨_, rfl⟩, hW, hsame.mono (by decide) (by decide)⟩
    show rm7_Q Z a1 q lo hi h0 n0 _ T1.heap _
    rw [e1]
    exact ⟨by simp only [own_in, if_pos c6_2], N0, rfl⟩
  · skip
    refine own_via (fun t k => XS.ifNo X1.here hx rfl (hb hby d7_6) rfl ((if0 _ _).trans (flt c6_2).1) k) ?_
    show own_G p e below _ (T1.setTop (mkF m 9 #[.val (.ref a1), .val (.double (FP.l2d q)), .second] []))
    refine own_via (fun t k => XS.dloadN X1.here hx rfl (hb hby d7_9) rfl k) ?_
    show own_G p e below _ (T1.setTop (mkF m 10 #[.val (.ref a1), .val (.double (FP.l2d q)), .second] [(.double (FP.l2d q))]))
    refine own_via (fun t k => XS.aloadN X1.here hx rfl (hb hby d7_10) rfl rfl k) ?_
    show own_G p e below _ (T1.setTop (mkF m 11 #[.val (.ref a1), .val (.double (FP.l2d q)), .second] [(.ref a1), (.double (FP.l2d q))]))
    obtain ⟨T3, X3, e3, st3⟩ := getF X1 hx hZ hown (host := "") (Or.inl (hw _ (List.mem_of_getElem? (i := 26) rfl))) Via.refl e1 F_high (g := (mkF m 11 #[.val (.ref a1), .val (.double (FP.l2d q)), .second] [(.ref a1), (.double (FP.l2d q))])) rfl rfl (hb hby d7_11)
    refine own_via st3 ?_
    show own_G p e below _ (T3.setTop (mkF m 14 #[.val (.ref a1), .val (.double (FP.l2d q)), .second] [(.double (FP.i2d hi)), (.double (FP.l2d q))]))
    refine own_via (fun t k => XS.dcmpS X3.here hx rfl (hb hby d7_14) rfl (own_dcl hq _ _) k) ?_
    show own_G p e below _ (T3.setTop (mkF m 15 #[.val (.ref a1), .val (.double (FP.l2d q)), .second] [(.int (lcmpW q hi.toInt64))]))
    by_cases c15_4 : (0 : Int32) < (lcmpW q hi.toInt64)
    · skip
      refine own_via (fun t k => XS.ifYes X3.here hx rfl (pc0 := 15) (pc' := 22) rfl (hb hby d7_15) rfl ((if0 _ _).trans (tlt c15_4).2.2.1) (by decide) (by decide) k) ?_
      show own_G p e below _ (T3.setTop (mkF m 22 #[.val (.ref a1), .val (.double (FP.l2d q)), .second] []))
      refine own_via (fun t k => XS.iconst X3.here hx rfl (hb hby d7_22) k) ?_
      show own_G p e below _ (T3.setTop (mkF m 23 #[.val (.ref a1), .val (.double (FP.l2d q)), .second] [(.int (0 : Int32))]))
      obtain ⟨fs, hr, hrun, hended, hW, hsame⟩ := X3.leave (v := some (.int (0 : Int32))) (fun h => by rw [Bd.returns] at h; cases h)
      refine ⟨_, _, retN X3 hx (t := .boolean) Bd.returns (by simp) (hb hby d7_23) hr, hrun, hended, _, _, rfl, ?_, ⟨_, rfl⟩, hW, hsame.mono (by decide) (by decide)⟩
      show rm7_Q Z a1 q lo hi h0 n0 _ T3.heap _
      rw [e3]
      exact ⟨by simp only [own_in, if_neg c6_2, if_pos c15_4], N0, rfl⟩
    · skip
      refine own_via (fun t k => XS.ifNo X3.here hx rfl (hb hby d7_15) rfl ((if0 _ _).trans (flt c15_4).2.2.1) k) ?_
      show own_G p e below _ (T3.setTop (mkF m 18 #[.val (.ref a1), .val (.double (FP.l2d q)), .second] []))
      refine own_via (fun t k => XS.iconst X3.here hx rfl (hb hby d7_18) k) ?_
      show own_G p e below _ (T3.setTop (mkF m 19 #[.val (.ref a1), .val (.double (FP.l2d q)), .second] [(.int (1 : Int32))]))
      refine own_via (fun t k => XS.goto X3.here hx rfl (pc0 := 19) (pc' := 23) rfl (hb hby d7_19) (by decide) (by decide) k) ?_
      show own_G p e below _ (T3.setTop (mkF m 23 #[.val (.ref a1), .val (.double (FP.l2d q)), .second] [(.int (1 : Int32))]))
      obtain ⟨fs, hr, hrun, hended, hW, hsame⟩ := X3.leave (v := some (.int (1 : Int32))) (fun h => by rw [Bd.returns] at h; cases h)
      refine ⟨_, _, retN X3 hx (t := .boolean) Bd.returns (by simp) (hb hby d7_23) hr, hrun, hended, _, _, rfl, ?_, ⟨_, rfl⟩, hW, hsame.mono (by decide) (by decide)⟩
      show rm7_Q Z a1 q lo hi h0 n0 _ T3.heap _
      rw [e3]
      exact ⟨by simp only [own_in, if_neg c6_2, if_neg c15_4], N0, rfl⟩

theorem rm0_pn : plainName "com/example/fee_simple/feesimple/ratiostudy/IntervalContainsPinLaw" = true := by first | (simp [plainName, overriddenIn]; done) | decide +kernel
theorem pd_rm0_0 : parseMethodDescriptor "(II)I" = some ⟨[.int, .int], some .int⟩ := by decide +kernel
theorem pd_rm0_1 : parseMethodDescriptor "(DD)V" = some ⟨[.double, .double], none⟩ := by decide +kernel
theorem pd_rm0_2 : parseMethodDescriptor "(D)Z" = some ⟨[.double], some .boolean⟩ := by decide +kernel
theorem rm0_ef (m : MethodId) (z0 : Int32) (z1 : Int32) (z2 : Int32) (z3 : Int32) : entryFrame m #[(.int z0), (.int z1), (.int z2), (.int z3)] maxLocals = mkF m 0 #[.val (.int z0), .val (.int z1), .val (.int z2), .val (.int z3), .unset, .unset, .unset, .unset, .unset, .unset, .unset] [] := by first | (simp [entryFrame, mkF, argsToLocals, Value.category, maxLocals]; done) | rfl
def rm0_Q (Z : State) (p1 : Int32) (p2 : Int32) (p3 : Int32) (p4 : Int32)  (h0 : Heap) (n0 : Nat) (v : Option Value) (h : Heap) (L : List Loc) : Prop := v = some (.int 1) ∧ Fr n0 L
set_option maxRecDepth 65536 in
set_option maxHeartbeats 40000000 in
theorem rm0 (l : Launch) (Z : State) (a0 : Array Value) (hw : ∀ d ∈ tables_1, d.before a0 Z = true) (ws : List Jvm.Cond) (p1 : Int32) (p2 : Int32) (p3 : Int32) (p4 : Int32)  (h0 : Heap) (n0 : Nat) (Z0 : n0 ≤ h0.size)  :
    MetFree l x (head1 (Jvm.Cond.code x code maxLocals ret :: ws) room_1) (fun a U => a = #[(.int p1), (.int p2), (.int p3), (.int p4)] ∧ Z.Warmed39 U.vm ∧ U.heap = h0) (fun _ _ _ _ _ => True) (fun _ U o U' => ∃ v L, o = .returned v ∧ rm0_Q Z p1 p2 p3 p4 h0 n0 v U'.heap L ∧ FrameEnd U o U' L room_1.cells room_1.slots) := by
  refine MetFree.of_bodySF (plainFor_of_name rm0_pn) hisR ?_
  intro p e s m args below meth c s₁ Bd hml0 hP hK
  obtain ⟨rfl, hZ, hh⟩ := hP
  have hx := Bd.exec
  have hby := Bd.bytes
  have hml : c.maxLocals = 11 := hml0
  have hown : s.vm.findClass "com/example/fee_simple/feesimple/ratiostudy/IntervalContainsPinLaw" = some m.cls := findClass_of_methodNamed Bd.named
  have hnm := (name_of_methodNamed Bd.named Bd.method).1
  have X0 : Stand p l e room_1 s m #[(.int p1), (.int p2), (.int p3), (.int p4)] below meth c s₁ [] 0 0 := Stand.of_body Bd
  have e0 : s₁.heap = h0 := by rw [← hh, Bd.state]; rfl
  have N0 := Fr.nil n0
  refine own_via (fun t k => castTop (rm0_ef m p1 p2 p3 p4) k) ?_
  show own_G p e below _ (s₁.setTop (mkF m 0 #[.val (.int p1), .val (.int p2), .val (.int p3), .val (.int p4), .unset, .unset, .unset, .unset, .unset, .unset, .unset] []))
  refine own_via (fun t k => XS.iloadN X0.here hx rfl (hb hby at_0) rfl k) ?_
  show own_G p e below _ (s₁.setTop (mkF m 1 #[.val (.int p1), .val (.int p2), .val (.int p3), .val (.int p4), .unset, .unset, .unset, .unset, .unset, .unset, .unset] [(.int p1)]))
  refine own_via (fun t k => XS.iloadN X0.here hx rfl (hb hby at_1) rfl k) ?_
  show own_G p e below _ (s₁.setTop (mkF m 2 #[.val (.int p1), .val (.int p2), .val (.int p3), .val (.int p4), .unset, .unset, .unset, .unset, .unset, .unset, .unset] [(.int p2), (.int p1)]))
  obtain ⟨_, _, ⟨T1, L1, k1, n1⟩, -, X1, ⟨Lc1, hQ1, l1, y1, z1⟩, st1⟩ := Jvm.LawKit.callS X0 hx (y := (⟨"java/lang/Math", "min", "(II)I"⟩ : MethodName)) hown (mvT hZ (hw _ (List.mem_of_getElem? (i := 0) rfl))) (mvT hZ (hw _ (List.mem_of_getElem? (i := 1) rfl))) (mvT hZ (hw _ (List.mem_of_getElem? (i := 2) rfl))) (mvT hZ (hw _ (List.mem_of_getElem? (i := 3) rfl))) (by decide) (backOf (W := 0) (rm1 l Z a0 hw [] p1 p2  h0 n0 Z0 ) hZ (hw _ (List.mem_of_getElem? (i := 3) rfl)) (hw _ (List.mem_of_getElem? (i := 2) rfl)) (by decide) (by decide)) (g := (mkF m 2 #[.val (.int p1), .val (.int p2), .val (.int p3), .val (.int p4), .unset, .unset, .unset, .unset, .unset, .unset, .unset] [(.int p2), (.int p1)])) rfl (by rw [hml]; rfl) (argsL := [(.int p1), (.int p2)]) (rest := []) (lenOf pd_rm0_0 rfl) rfl (by show 2 * 0 + _ ≤ _; exact Nat.le_of_eq rfl) (hb hby at_2) (fun _ _ => ⟨rfl, e0, (by decide : 0 + 0 ≤ _), (by decide : 0 + 0 ≤ _)⟩)
  dsimp only [Pt.U, Pt.locs, Pt.cells, Pt.slots] at X1 l1 y1 z1 st1 hQ1
  subst l1 y1 z1
  obtain ⟨rfl, N1q, e1⟩ := hQ1
  have N1 := Fr.app N0 N1q
  refine own_via st1 ?_
  show own_G p e below _ (T1.setTop (mkF m 5 #[.val (.int p1), .val (.int p2), .val (.int p3), .val (.int p4), .unset, .unset, .unset, .unset, .unset, .unset, .unset] [(.int (own_min p1 p2))]))
  refine own_via (fun t k => XS.istore X1.here hx rfl (hb hby at_5) rfl (l' := #[.val (.int p1), .val (.int p2), .val (.int p3), .val (.int p4), .val (.int (own_min p1 p2)), .unset, .unset, .unset, .unset, .unset, .unset]) rfl k) ?_
  show own_G p e below _ (T1.setTop (mkF m 7 #[.val (.int p1), .val (.int p2), .val (.int p3), .val (.int p4), .val (.int (own_min p1 p2)), .unset, .unset, .unset, .unset, .unset, .unset] []))
  refine own_via (fun t k => XS.iloadN X1.here hx rfl (hb hby at_7) rfl k) ?_
  show own_G p e below _ (T1.setTop (mkF m 8 #[.val (.int p1), .val (.int p2), .val (.int p3), .val (.int p4), .val (.int (own_min p1 p2)), .unset, .unset, .unset, .unset, .unset, .unset] [(.int p1)]))
  refine own_via (fun t k => XS.iloadN X1.here hx rfl (hb hby at_8) rfl k) ?_
  show own_G p e below _ (T1.setTop (mkF m 9 #[.val (.int p1), .val (.int p2), .val (.int p3), .val (.int p4), .val (.int (own_min p1 p2)), .unset, .unset, .unset, .unset, .unset, .unset] [(.int p2), (.int p1)]))
  obtain ⟨_, _, ⟨T2, L2, k2, n2⟩, -, X2, ⟨Lc2, hQ2, l2, y2, z2⟩, st2⟩ := Jvm.LawKit.callS X1 hx (y := (⟨"java/lang/Math", "max", "(II)I"⟩ : MethodName)) hown (mvT hZ (hw _ (List.mem_of_getElem? (i := 4) rfl))) (mvT hZ (hw _ (List.mem_of_getElem? (i := 5) rfl))) (mvT hZ (hw _ (List.mem_of_getElem? (i := 2) rfl))) (mvT hZ (hw _ (List.mem_of_getElem? (i := 6) rfl))) (by decide) (backOf (W := 0) (rm2 l Z a0 hw [] p1 p2  h0 n0 Z0 ) hZ (hw _ (List.mem_of_getElem? (i := 6) rfl)) (hw _ (List.mem_of_getElem? (i := 2) rfl)) (by decide) (by decide)) (g := (mkF m 9 #[.val (.int p1), .val (.int p2), .val (.int p3), .val (.int p4), .val (.int (own_min p1 p2)), .unset, .unset, .unset, .unset, .unset, .unset] [(.int p2), (.int p1)])) rfl (by rw [hml]; rfl) (argsL := [(.int p1), (.int p2)]) (rest := []) (lenOf pd_rm0_0 rfl) rfl (by show 2 * 0 + _ ≤ _; exact Nat.le_of_eq rfl) (hb hby at_9) (fun _ _ => ⟨rfl, e1, (by decide : 0 + 0 ≤ _), (by decide : 0 + 0 ≤ _)⟩)
  dsimp only [Pt.U, Pt.locs, Pt.cells, Pt.slots] at X2 l2 y2 z2 st2 hQ2
  subst l2 y2 z2
  obtain ⟨rfl, N2q, e2⟩ := hQ2
  have N2 := Fr.app N1 N2q
  refine own_via st2 ?_
  show own_G p e below _ (T2.setTop (mkF m 12 #[.val (.int p1), .val (.int p2), .val (.int p3), .val (.int p4), .val (.int (own_min p1 p2)), .unset, .unset, .unset, .unset, .unset, .unset] [(.int (own_max p1 p2))]))
  refine own_via (fun t k => XS.istore X2.here hx rfl (hb hby at_12) rfl (l' := #[.val (.int p1), .val (.int p2), .val (.int p3), .val (.int p4), .val (.int (own_min p1 p2)), .val (.int (own_max p1 p2)), .unset, .unset, .unset, .unset, .unset]) rfl k) ?_
  show own_G p e below _ (T2.setTop (mkF m 14 #[.val (.int p1), .val (.int p2), .val (.int p3), .val (.int p4), .val (.int (own_min p1 p2)), .val (.int (own_max p1 p2)), .unset, .unset, .unset, .unset, .unset] []))
  refine own_via (fun t k => XS.iloadN X2.here hx rfl (hb hby at_14) rfl k) ?_
  show own_G p e below _ (T2.setTop (mkF m 15 #[.val (.int p1), .val (.int p2), .val (.int p3), .val (.int p4), .val (.int (own_min p1 p2)), .val (.int (own_max p1 p2)), .unset, .unset, .unset, .unset, .unset] [(.int p4)]))
  refine own_via (fun t k => XS.bipush X2.here hx rfl (hb hby at_15) k) ?_
  show own_G p e below _ (T2.setTop (mkF m 17 #[.val (.int p1), .val (.int p2), .val (.int p3), .val (.int p4), .val (.int (own_min p1 p2)), .val (.int (own_max p1 p2)), .unset, .unset, .unset, .unset, .unset] [(.int (7 : Int32)), (.int p4)]))
  refine own_via (fun t k => XS.iand X2.here hx rfl (hb hby at_17) rfl k) ?_
  show own_G p e below _ (T2.setTop (mkF m 18 #[.val (.int p1), .val (.int p2), .val (.int p3), .val (.int p4), .val (.int (own_min p1 p2)), .val (.int (own_max p1 p2)), .unset, .unset, .unset, .unset, .unset] [(.int (p4 &&& (7 : Int32)))]))
  refine own_via (fun t k => XS.istore X2.here hx rfl (hb hby at_18) rfl (l' := #[.val (.int p1), .val (.int p2), .val (.int p3), .val (.int p4), .val (.int (own_min p1 p2)), .val (.int (own_max p1 p2)), .val (.int (p4 &&& (7 : Int32))), .unset, .unset, .unset, .unset]) rfl k) ?_
  show own_G p e below _ (T2.setTop (mkF m 20 #[.val (.int p1), .val (.int p2), .val (.int p3), .val (.int p4), .val (.int (own_min p1 p2)), .val (.int (own_max p1 p2)), .val (.int (p4 &&& (7 : Int32))), .unset, .unset, .unset, .unset] []))
  refine own_via (fun t k => XS.iload X2.here hx rfl (hb hby at_20) rfl k) ?_
  show own_G p e below _ (T2.setTop (mkF m 22 #[.val (.int p1), .val (.int p2), .val (.int p3), .val (.int p4), .val (.int (own_min p1 p2)), .val (.int (own_max p1 p2)), .val (.int (p4 &&& (7 : Int32))), .unset, .unset, .unset, .unset] [(.int (p4 &&& (7 : Int32)))]))
  by_cases c22_3 : (p4 &&& (7 : Int32)) = (0 : Int32)
  · skip
    refine own_via (fun t k => XS.ifNo X2.here hx rfl (hb hby at_22) rfl ((if0 _ _).trans (teq c22_3).2) k) ?_
    show own_G p e below _ (T2.setTop (mkF m 25 #[.val (.int p1), .val (.int p2), .val (.int p3), .val (.int p4), .val (.int (own_min p1 p2)), .val (.int (own_max p1 p2)), .val (.int (p4 &&& (7 : Int32))), .unset, .unset, .unset, .unset] []))
    refine own_via (fun t k => XS.iload X2.here hx rfl (hb hby at_25) rfl k) ?_
    show own_G p e below _ (T2.setTop (mkF m 27 #[.val (.int p1), .val (.int p2), .val (.int p3), .val (.int p4), .val (.int (own_min p1 p2)), .val (.int (own_max p1 p2)), .val (.int (p4 &&& (7 : Int32))), .unset, .unset, .unset, .unset] [(.int (own_min p1 p2))]))
    refine own_via (fun t k => XS.i2l X2.here hx rfl (hb hby at_27) rfl k) ?_
    show own_G p e below _ (T2.setTop (mkF m 28 #[.val (.int p1), .val (.int p2), .val (.int p3), .val (.int p4), .val (.int (own_min p1 p2)), .val (.int (own_max p1 p2)), .val (.int (p4 &&& (7 : Int32))), .unset, .unset, .unset, .unset] [(.long ((own_min p1 p2).toInt64))]))
    refine own_via (fun t k => XS.lstore X2.here hx rfl (hb hby at_28) rfl (l' := #[.val (.int p1), .val (.int p2), .val (.int p3), .val (.int p4), .val (.int (own_min p1 p2)), .val (.int (own_max p1 p2)), .val (.int (p4 &&& (7 : Int32))), .val (.long ((own_min p1 p2).toInt64)), .second, .unset, .unset]) rfl k) ?_
    show own_G p e below _ (T2.setTop (mkF m 30 #[.val (.int p1), .val (.int p2), .val (.int p3), .val (.int p4), .val (.int (own_min p1 p2)), .val (.int (own_max p1 p2)), .val (.int (p4 &&& (7 : Int32))), .val (.long ((own_min p1 p2).toInt64)), .second, .unset, .unset] []))
    refine own_via (fun t k => XS.goto X2.here hx rfl (pc0 := 30) (pc' := 83) rfl (hb hby at_30) (by decide) (by decide) k) ?_
    show own_G p e below _ (T2.setTop (mkF m 83 #[.val (.int p1), .val (.int p2), .val (.int p3), .val (.int p4), .val (.int (own_min p1 p2)), .val (.int (own_max p1 p2)), .val (.int (p4 &&& (7 : Int32))), .val (.long ((own_min p1 p2).toInt64)), .second, .unset, .unset] []))
    obtain ⟨T4, h4, X4, e4, E4, A4, D4, -, st4⟩ := newO X2 hx hZ hown (hw _ (List.mem_of_getElem? (i := 7) rfl)) (hw _ (List.mem_of_getElem? (i := 8) rfl)) (hw _ (List.mem_of_getElem? (i := 9) rfl)) e2 (g := (mkF m 83 #[.val (.int p1), .val (.int p2), .val (.int p3), .val (.int p4), .val (.int (own_min p1 p2)), .val (.int (own_max p1 p2)), .val (.int (p4 &&& (7 : Int32))), .val (.long ((own_min p1 p2).toInt64)), .second, .unset, .unset] [])) rfl (hb hby at_83) (by decide) (by decide)
    obtain ⟨b4, g4⟩ : ∃ z, z = h0.size := ⟨_, rfl⟩
    rw [← g4] at A4 D4 st4
    have gx_b4 : n0 ≤ b4 := Nat.le_trans Z0 (Nat.le_of_eq g4.symm)
    have Z4 : n0 ≤ h4.size := Nat.le_trans Z0 E4.1
    have F4_low : Fld Z h4 b4 "com/example/fee_simple/feesimple/ratiostudy/Interval" "low" "D" (.double (0 : UInt64)) := D4 (Or.inr (hw _ (List.mem_of_getElem? (i := 25) rfl))) (ty := .double) (by decide)
    have F4_high : Fld Z h4 b4 "com/example/fee_simple/feesimple/ratiostudy/Interval" "high" "D" (.double (0 : UInt64)) := D4 (Or.inr (hw _ (List.mem_of_getElem? (i := 27) rfl))) (ty := .double) (by decide)
    refine own_via st4 ?_
    show own_G p e below _ (T4.setTop (mkF m 86 #[.val (.int p1), .val (.int p2), .val (.int p3), .val (.int p4), .val (.int (own_min p1 p2)), .val (.int (own_max p1 p2)), .val (.int (p4 &&& (7 : Int32))), .val (.long ((own_min p1 p2).toInt64)), .second, .unset, .unset] [(.ref b4)]))
    refine own_via (fun t k => XS.dup X4.here hx rfl (hb hby at_86) rfl rfl k) ?_
    show own_G p e below _ (T4.setTop (mkF m 87 #[.val (.int p1), .val (.int p2), .val (.int p3), .val (.int p4), .val (.int (own_min p1 p2)), .val (.int (own_max p1 p2)), .val (.int (p4 &&& (7 : Int32))), .val (.long ((own_min p1 p2).toInt64)), .second, .unset, .unset] [(.ref b4), (.ref b4)]))
    refine own_via (fun t k => XS.iload X4.here hx rfl (hb hby at_87) rfl k) ?_
    show own_G p e below _ (T4.setTop (mkF m 89 #[.val (.int p1), .val (.int p2), .val (.int p3), .val (.int p4), .val (.int (own_min p1 p2)), .val (.int (own_max p1 p2)), .val (.int (p4 &&& (7 : Int32))), .val (.long ((own_min p1 p2).toInt64)), .second, .unset, .unset] [(.int (own_min p1 p2)), (.ref b4), (.ref b4)]))
    refine own_via (fun t k => XS.i2dS X4.here hx rfl (hb hby at_89) rfl rfl k) ?_
    show own_G p e below _ (T4.setTop (mkF m 90 #[.val (.int p1), .val (.int p2), .val (.int p3), .val (.int p4), .val (.int (own_min p1 p2)), .val (.int (own_max p1 p2)), .val (.int (p4 &&& (7 : Int32))), .val (.long ((own_min p1 p2).toInt64)), .second, .unset, .unset] [(.double (FP.i2d (own_min p1 p2))), (.ref b4), (.ref b4)]))
    refine own_via (fun t k => XS.iload X4.here hx rfl (hb hby at_90) rfl k) ?_
    show own_G p e below _ (T4.setTop (mkF m 92 #[.val (.int p1), .val (.int p2), .val (.int p3), .val (.int p4), .val (.int (own_min p1 p2)), .val (.int (own_max p1 p2)), .val (.int (p4 &&& (7 : Int32))), .val (.long ((own_min p1 p2).toInt64)), .second, .unset, .unset] [(.int (own_max p1 p2)), (.double (FP.i2d (own_min p1 p2))), (.ref b4), (.ref b4)]))
    refine own_via (fun t k => XS.i2dS X4.here hx rfl (hb hby at_92) rfl rfl k) ?_
    show own_G p e below _ (T4.setTop (mkF m 93 #[.val (.int p1), .val (.int p2), .val (.int p3), .val (.int p4), .val (.int (own_min p1 p2)), .val (.int (own_max p1 p2)), .val (.int (p4 &&& (7 : Int32))), .val (.long ((own_min p1 p2).toInt64)), .second, .unset, .unset] [(.double (FP.i2d (own_max p1 p2))), (.double (FP.i2d (own_min p1 p2))), (.ref b4), (.ref b4)]))
    obtain ⟨_, _, ⟨T5, L5, k5, n5⟩, -, X5, ⟨Lc5, hQ5, l5, y5, z5⟩, st5⟩ := X4.specialBack hx (y := (⟨"com/example/fee_simple/feesimple/ratiostudy/Interval", "<init>", "(DD)V"⟩ : MethodName)) rfl hown (mvT hZ (hw _ (List.mem_of_getElem? (i := 10) rfl))) (mvT hZ (hw _ (List.mem_of_getElem? (i := 11) rfl))) (mvT hZ (hw _ (List.mem_of_getElem? (i := 12) rfl))) (by decide) (backOf (W := 1) (rm3 l Z a0 hw [] b4 (own_min p1 p2) (own_max p1 p2) h4 n0 Z4 A4 F4_low F4_high gx_b4 (own_mm _ _)) hZ (hw _ (List.mem_of_getElem? (i := 12) rfl)) (hw _ (List.mem_of_getElem? (i := 9) rfl)) (by decide) (by decide)) (g := (mkF m 93 #[.val (.int p1), .val (.int p2), .val (.int p3), .val (.int p4), .val (.int (own_min p1 p2)), .val (.int (own_max p1 p2)), .val (.int (p4 &&& (7 : Int32))), .val (.long ((own_min p1 p2).toInt64)), .second, .unset, .unset] [(.double (FP.i2d (own_max p1 p2))), (.double (FP.i2d (own_min p1 p2))), (.ref b4), (.ref b4)])) rfl (by rw [hml]; rfl) (Steps.refl _) (a := b4) (argsL := [(.double (FP.i2d (own_min p1 p2))), (.double (FP.i2d (own_max p1 p2)))]) (rest := [(.ref b4)]) (lenOf pd_rm0_1 rfl) rfl (by show 2 * 0 + _ ≤ _; exact Nat.le_of_eq rfl) (hb hby at_93) (fun _ _ => ⟨rfl, e4, (by decide : 1 + 0 ≤ _), (by decide : 2 + 0 ≤ _)⟩)
    dsimp only [Pt.U, Pt.locs, Pt.cells, Pt.slots] at X5 l5 y5 z5 st5 hQ5
    subst l5 y5 z5
    obtain ⟨rfl, N5q, K5, E5q, Fl5, Fc5⟩ := hQ5
    have N5 := Fr.app N2 N5q
    have F6 := A4.keep K5
    have Z5 : n0 ≤ T5.heap.size := Nat.le_trans Z4 K5.1
    refine own_via (fun t k => st5.trans k) ?_
    show own_G p e below _ (T5.setTop (mkF m 96 #[.val (.int p1), .val (.int p2), .val (.int p3), .val (.int p4), .val (.int (own_min p1 p2)), .val (.int (own_max p1 p2)), .val (.int (p4 &&& (7 : Int32))), .val (.long ((own_min p1 p2).toInt64)), .second, .unset, .unset] [(.ref b4)]))
    refine own_via (fun t k => XS.astore X5.here hx rfl (hb hby at_96) rfl rfl (l' := #[.val (.int p1), .val (.int p2), .val (.int p3), .val (.int p4), .val (.int (own_min p1 p2)), .val (.int (own_max p1 p2)), .val (.int (p4 &&& (7 : Int32))), .val (.long ((own_min p1 p2).toInt64)), .second, .val (.ref b4), .unset]) rfl k) ?_
    show own_G p e below _ (T5.setTop (mkF m 98 #[.val (.int p1), .val (.int p2), .val (.int p3), .val (.int p4), .val (.int (own_min p1 p2)), .val (.int (own_max p1 p2)), .val (.int (p4 &&& (7 : Int32))), .val (.long ((own_min p1 p2).toInt64)), .second, .val (.ref b4), .unset] []))
    refine own_via (fun t k => XS.lload X5.here hx rfl (hb hby at_98) rfl k) ?_
    show own_G p e below _ (T5.setTop (mkF m 100 #[.val (.int p1), .val (.int p2), .val (.int p3), .val (.int p4), .val (.int (own_min p1 p2)), .val (.int (own_max p1 p2)), .val (.int (p4 &&& (7 : Int32))), .val (.long ((own_min p1 p2).toInt64)), .second, .val (.ref b4), .unset] [(.long ((own_min p1 p2).toInt64))]))
    refine own_via (fun t k => XS.iload X5.here hx rfl (hb hby at_100) rfl k) ?_
    show own_G p e below _ (T5.setTop (mkF m 102 #[.val (.int p1), .val (.int p2), .val (.int p3), .val (.int p4), .val (.int (own_min p1 p2)), .val (.int (own_max p1 p2)), .val (.int (p4 &&& (7 : Int32))), .val (.long ((own_min p1 p2).toInt64)), .second, .val (.ref b4), .unset] [(.int (own_min p1 p2)), (.long ((own_min p1 p2).toInt64))]))
    refine own_via (fun t k => XS.i2l X5.here hx rfl (hb hby at_102) rfl k) ?_
    show own_G p e below _ (T5.setTop (mkF m 103 #[.val (.int p1), .val (.int p2), .val (.int p3), .val (.int p4), .val (.int (own_min p1 p2)), .val (.int (own_max p1 p2)), .val (.int (p4 &&& (7 : Int32))), .val (.long ((own_min p1 p2).toInt64)), .second, .val (.ref b4), .unset] [(.long ((own_min p1 p2).toInt64)), (.long ((own_min p1 p2).toInt64))]))
    refine own_via (fun t k => XS.lcmp X5.here hx rfl (hb hby at_103) rfl k) ?_
    show own_G p e below _ (T5.setTop (mkF m 104 #[.val (.int p1), .val (.int p2), .val (.int p3), .val (.int p4), .val (.int (own_min p1 p2)), .val (.int (own_max p1 p2)), .val (.int (p4 &&& (7 : Int32))), .val (.long ((own_min p1 p2).toInt64)), .second, .val (.ref b4), .unset] [(.int (lcmpW ((own_min p1 p2).toInt64) ((own_min p1 p2).toInt64)))]))
    by_cases c104_9 : (lcmpW ((own_min p1 p2).toInt64) ((own_min p1 p2).toInt64)) < (0 : Int32)
    · skip
      refine own_via (fun t k => XS.ifYes X5.here hx rfl (pc0 := 104) (pc' := 120) rfl (hb hby at_104) rfl ((if0 _ _).trans (tlt c104_9).1) (by decide) (by decide) k) ?_
      show own_G p e below _ (T5.setTop (mkF m 120 #[.val (.int p1), .val (.int p2), .val (.int p3), .val (.int p4), .val (.int (own_min p1 p2)), .val (.int (own_max p1 p2)), .val (.int (p4 &&& (7 : Int32))), .val (.long ((own_min p1 p2).toInt64)), .second, .val (.ref b4), .unset] []))
      refine own_via (fun t k => XS.iconst X5.here hx rfl (hb hby at_120) k) ?_
      show own_G p e below _ (T5.setTop (mkF m 121 #[.val (.int p1), .val (.int p2), .val (.int p3), .val (.int p4), .val (.int (own_min p1 p2)), .val (.int (own_max p1 p2)), .val (.int (p4 &&& (7 : Int32))), .val (.long ((own_min p1 p2).toInt64)), .second, .val (.ref b4), .unset] [(.int (0 : Int32))]))
      refine own_via (fun t k => XS.istore X5.here hx rfl (hb hby at_121) rfl (l' := #[.val (.int p1), .val (.int p2), .val (.int p3), .val (.int p4), .val (.int (own_min p1 p2)), .val (.int (own_max p1 p2)), .val (.int (p4 &&& (7 : Int32))), .val (.long ((own_min p1 p2).toInt64)), .second, .val (.ref b4), .val (.int (0 : Int32))]) rfl k) ?_
      show own_G p e below _ (T5.setTop (mkF m 123 #[.val (.int p1), .val (.int p2), .val (.int p3), .val (.int p4), .val (.int (own_min p1 p2)), .val (.int (own_max p1 p2)), .val (.int (p4 &&& (7 : Int32))), .val (.long ((own_min p1 p2).toInt64)), .second, .val (.ref b4), .val (.int (0 : Int32))] []))
      refine own_via (fun t k => XS.aload X5.here hx rfl (hb hby at_123) rfl rfl k) ?_
      show own_G p e below _ (T5.setTop (mkF m 125 #[.val (.int p1), .val (.int p2), .val (.int p3), .val (.int p4), .val (.int (own_min p1 p2)), .val (.int (own_max p1 p2)), .val (.int (p4 &&& (7 : Int32))), .val (.long ((own_min p1 p2).toInt64)), .second, .val (.ref b4), .val (.int (0 : Int32))] [(.ref b4)]))
      refine own_via (fun t k => XS.lload X5.here hx rfl (hb hby at_125) rfl k) ?_
      show own_G p e below _ (T5.setTop (mkF m 127 #[.val (.int p1), .val (.int p2), .val (.int p3), .val (.int p4), .val (.int (own_min p1 p2)), .val (.int (own_max p1 p2)), .val (.int (p4 &&& (7 : Int32))), .val (.long ((own_min p1 p2).toInt64)), .second, .val (.ref b4), .val (.int (0 : Int32))] [(.long ((own_min p1 p2).toInt64)), (.ref b4)]))
      refine own_via (fun t k => XS.l2dS X5.here hx rfl (hb hby at_127) rfl rfl k) ?_
      show own_G p e below _ (T5.setTop (mkF m 128 #[.val (.int p1), .val (.int p2), .val (.int p3), .val (.int p4), .val (.int (own_min p1 p2)), .val (.int (own_max p1 p2)), .val (.int (p4 &&& (7 : Int32))), .val (.long ((own_min p1 p2).toInt64)), .second, .val (.ref b4), .val (.int (0 : Int32))] [(.double (FP.l2d ((own_min p1 p2).toInt64))), (.ref b4)]))
      obtain ⟨cq10, kq10, q10a, q10b, q10c⟩ := isOf hZ rfl E5q
      obtain ⟨_, _, ⟨T10, L10, k10, n10⟩, -, X10, ⟨Lc10, hQ10, l10, y10, z10⟩, st10⟩ := X5.virtualBack hx (y := (⟨"com/example/fee_simple/feesimple/ratiostudy/Interval", "contains", "(D)Z"⟩ : MethodName)) (z := (⟨"com/example/fee_simple/feesimple/ratiostudy/Interval", "contains", "(D)Z"⟩ : MethodName)) hown (mvT hZ (hw _ (List.mem_of_getElem? (i := 28) rfl))) (mvT hZ (hw _ (List.mem_of_getElem? (i := 29) rfl))) (notFace_of_selects (args := #[]) (mvT hZ (hw _ (List.mem_of_getElem? (i := 31) rfl)))) (mvT hZ (hw _ (List.mem_of_getElem? (i := 31) rfl))) (mvT hZ (hw _ (List.mem_of_getElem? (i := 30) rfl))) (by decide) (backOf (W := 0) (rm7 l Z a0 hw [] b4 ((own_min p1 p2).toInt64) (own_min p1 p2) (own_max p1 p2) T5.heap n0 Z5 Fl5 Fc5 (own_b53 _)) hZ (hw _ (List.mem_of_getElem? (i := 32) rfl)) (hw _ (List.mem_of_getElem? (i := 9) rfl)) (by decide) (by decide)) q10a q10c (g := (mkF m 128 #[.val (.int p1), .val (.int p2), .val (.int p3), .val (.int p4), .val (.int (own_min p1 p2)), .val (.int (own_max p1 p2)), .val (.int (p4 &&& (7 : Int32))), .val (.long ((own_min p1 p2).toInt64)), .second, .val (.ref b4), .val (.int (0 : Int32))] [(.double (FP.l2d ((own_min p1 p2).toInt64))), (.ref b4)])) rfl (by rw [hml]; rfl) (Steps.refl _) (argsL := [(.double (FP.l2d ((own_min p1 p2).toInt64)))]) (rest := []) (lenOf pd_rm0_2 rfl) rfl (by show 2 * 0 + _ ≤ _; exact Nat.le_of_eq rfl) (hb hby at_128) (fun _ _ => ⟨rfl, rfl, (by decide : 1 + 0 ≤ _), (by decide : 2 + 0 ≤ _)⟩)
      dsimp only [Pt.U, Pt.locs, Pt.cells, Pt.slots] at X10 l10 y10 z10 st10 hQ10
      subst l10 y10 z10
      obtain ⟨rfl, N10q, e10⟩ := hQ10
      have N10 := Fr.app N5 N10q
      refine own_via (fun t k => st10.trans k) ?_
      show own_G p e below _ (T10.setTop (mkF m 131 #[.val (.int p1), .val (.int p2), .val (.int p3), .val (.int p4), .val (.int (own_min p1 p2)), .val (.int (own_max p1 p2)), .val (.int (p4 &&& (7 : Int32))), .val (.long ((own_min p1 p2).toInt64)), .second, .val (.ref b4), .val (.int (0 : Int32))] [(.int (own_in ((own_min p1 p2).toInt64) (own_min p1 p2) (own_max p1 p2)))]))
      refine own_via (fun t k => XS.iload X10.here hx rfl (hb hby at_131) rfl k) ?_
      show own_G p e below _ (T10.setTop (mkF m 133 #[.val (.int p1), .val (.int p2), .val (.int p3), .val (.int p4), .val (.int (own_min p1 p2)), .val (.int (own_max p1 p2)), .val (.int (p4 &&& (7 : Int32))), .val (.long ((own_min p1 p2).toInt64)), .second, .val (.ref b4), .val (.int (0 : Int32))] [(.int (0 : Int32)), (.int (own_in ((own_min p1 p2).toInt64) (own_min p1 p2) (own_max p1 p2)))]))
      by_cases c133_11 : (own_in ((own_min p1 p2).toInt64) (own_min p1 p2) (own_max p1 p2)) = (0 : Int32)
      · skip
        refine own_via (fun t k => XS.icmpNo X10.here hx rfl (hb hby at_133) rfl (teq c133_11).2 k) ?_
        show own_G p e below _ (T10.setTop (mkF m 136 #[.val (.int p1), .val (.int p2), .val (.int p3), .val (.int p4), .val (.int (own_min p1 p2)), .val (.int (own_max p1 p2)), .val (.int (p4 &&& (7 : Int32))), .val (.long ((own_min p1 p2).toInt64)), .second, .val (.ref b4), .val (.int (0 : Int32))] []))
        refine own_via (fun t k => XS.iconst X10.here hx rfl (hb hby at_136) k) ?_
        show own_G p e below _ (T10.setTop (mkF m 137 #[.val (.int p1), .val (.int p2), .val (.int p3), .val (.int p4), .val (.int (own_min p1 p2)), .val (.int (own_max p1 p2)), .val (.int (p4 &&& (7 : Int32))), .val (.long ((own_min p1 p2).toInt64)), .second, .val (.ref b4), .val (.int (0 : Int32))] [(.int (1 : Int32))]))
        refine own_via (fun t k => XS.goto X10.here hx rfl (pc0 := 137) (pc' := 141) rfl (hb hby at_137) (by decide) (by decide) k) ?_
        show own_G p e below _ (T10.setTop (mkF m 141 #[.val (.int p1), .val (.int p2), .val (.int p3), .val (.int p4), .val (.int (own_min p1 p2)), .val (.int (own_max p1 p2)), .val (.int (p4 &&& (7 : Int32))), .val (.long ((own_min p1 p2).toInt64)), .second, .val (.ref b4), .val (.int (0 : Int32))] [(.int (1 : Int32))]))
        obtain ⟨fs, hr, hrun, hended, hW, hsame⟩ := X10.leave (v := some (.int (1 : Int32))) (fun h => by rw [Bd.returns] at h; cases h)
        refine ⟨_, _, retN X10 hx (t := .boolean) Bd.returns (by simp) (hb hby at_141) hr, hrun, hended, _, _, rfl, ?_, ⟨_, rfl⟩, hW, hsame.mono (by decide) (by decide)⟩
        show rm0_Q Z p1 p2 p3 p4 h0 n0 _ T10.heap _
        rw [e10]
        exact ⟨rfl, N10⟩
      · exfalso
        exact c133_11 (by simp only [own_in, if_pos c104_9])
    · skip
      refine own_via (fun t k => XS.ifNo X5.here hx rfl (hb hby at_104) rfl ((if0 _ _).trans (flt c104_9).1) k) ?_
      show own_G p e below _ (T5.setTop (mkF m 107 #[.val (.int p1), .val (.int p2), .val (.int p3), .val (.int p4), .val (.int (own_min p1 p2)), .val (.int (own_max p1 p2)), .val (.int (p4 &&& (7 : Int32))), .val (.long ((own_min p1 p2).toInt64)), .second, .val (.ref b4), .unset] []))
      refine own_via (fun t k => XS.lload X5.here hx rfl (hb hby at_107) rfl k) ?_
      show own_G p e below _ (T5.setTop (mkF m 109 #[.val (.int p1), .val (.int p2), .val (.int p3), .val (.int p4), .val (.int (own_min p1 p2)), .val (.int (own_max p1 p2)), .val (.int (p4 &&& (7 : Int32))), .val (.long ((own_min p1 p2).toInt64)), .second, .val (.ref b4), .unset] [(.long ((own_min p1 p2).toInt64))]))
      refine own_via (fun t k => XS.iload X5.here hx rfl (hb hby at_109) rfl k) ?_
      show own_G p e below _ (T5.setTop (mkF m 111 #[.val (.int p1), .val (.int p2), .val (.int p3), .val (.int p4), .val (.int (own_min p1 p2)), .val (.int (own_max p1 p2)), .val (.int (p4 &&& (7 : Int32))), .val (.long ((own_min p1 p2).toInt64)), .second, .val (.ref b4), .unset] [(.int (own_max p1 p2)), (.long ((own_min p1 p2).toInt64))]))
      refine own_via (fun t k => XS.i2l X5.here hx rfl (hb hby at_111) rfl k) ?_
      show own_G p e below _ (T5.setTop (mkF m 112 #[.val (.int p1), .val (.int p2), .val (.int p3), .val (.int p4), .val (.int (own_min p1 p2)), .val (.int (own_max p1 p2)), .val (.int (p4 &&& (7 : Int32))), .val (.long ((own_min p1 p2).toInt64)), .second, .val (.ref b4), .unset] [(.long ((own_max p1 p2).toInt64)), (.long ((own_min p1 p2).toInt64))]))
      refine own_via (fun t k => XS.lcmp X5.here hx rfl (hb hby at_112) rfl k) ?_
      show own_G p e below _ (T5.setTop (mkF m 113 #[.val (.int p1), .val (.int p2), .val (.int p3), .val (.int p4), .val (.int (own_min p1 p2)), .val (.int (own_max p1 p2)), .val (.int (p4 &&& (7 : Int32))), .val (.long ((own_min p1 p2).toInt64)), .second, .val (.ref b4), .unset] [(.int (lcmpW ((own_min p1 p2).toInt64) ((own_max p1 p2).toInt64)))]))
      by_cases c113_12 : (0 : Int32) < (lcmpW ((own_min p1 p2).toInt64) ((own_max p1 p2).toInt64))
      · skip
        refine own_via (fun t k => XS.ifYes X5.here hx rfl (pc0 := 113) (pc' := 120) rfl (hb hby at_113) rfl ((if0 _ _).trans (tlt c113_12).2.2.1) (by decide) (by decide) k) ?_
        show own_G p e below _ (T5.setTop (mkF m 120 #[.val (.int p1), .val (.int p2), .val (.int p3), .val (.int p4), .val (.int (own_min p1 p2)), .val (.int (own_max p1 p2)), .val (.int (p4 &&& (7 : Int32))), .val (.long ((own_min p1 p2).toInt64)), .second, .val (.ref b4), .unset] []))
        refine own_via (fun t k => XS.iconst X5.here hx rfl (hb hby at_120) k) ?_
        show own_G p e below _ (T5.setTop (mkF m 121 #[.val (.int p1), .val (.int p2), .val (.int p3), .val (.int p4), .val (.int (own_min p1 p2)), .val (.int (own_max p1 p2)), .val (.int (p4 &&& (7 : Int32))), .val (.long ((own_min p1 p2).toInt64)), .second, .val (.ref b4), .unset] [(.int (0 : Int32))]))
        refine own_via (fun t k => XS.istore X5.here hx rfl (hb hby at_121) rfl (l' := #[.val (.int p1), .val (.int p2), .val (.int p3), .val (.int p4), .val (.int (own_min p1 p2)), .val (.int (own_max p1 p2)), .val (.int (p4 &&& (7 : Int32))), .val (.long ((own_min p1 p2).toInt64)), .second, .val (.ref b4), .val (.int (0 : Int32))]) rfl k) ?_
        show own_G p e below _ (T5.setTop (mkF m 123 #[.val (.int p1), .val (.int p2), .val (.int p3), .val (.int p4), .val (.int (own_min p1 p2)), .val (.int (own_max p1 p2)), .val (.int (p4 &&& (7 : Int32))), .val (.long ((own_min p1 p2).toInt64)), .second, .val (.ref b4), .val (.int (0 : Int32))] []))
        refine own_via (fun t k => XS.aload X5.here hx rfl (hb hby at_123) rfl rfl k) ?_
        show own_G p e below _ (T5.setTop (mkF m 125 #[.val (.int p1), .val (.int p2), .val (.int p3), .val (.int p4), .val (.int (own_min p1 p2)), .val (.int (own_max p1 p2)), .val (.int (p4 &&& (7 : Int32))), .val (.long ((own_min p1 p2).toInt64)), .second, .val (.ref b4), .val (.int (0 : Int32))] [(.ref b4)]))
        refine own_via (fun t k => XS.lload X5.here hx rfl (hb hby at_125) rfl k) ?_
        show own_G p e below _ (T5.setTop (mkF m 127 #[.val (.int p1), .val (.int p2), .val (.int p3), .val (.int p4), .val (.int (own_min p1 p2)), .val (.int (own_max p1 p2)), .val (.int (p4 &&& (7 : Int32))), .val (.long ((own_min p1 p2).toInt64)), .second, .val (.ref b4), .val (.int (0 : Int32))] [(.long ((own_min p1 p2).toInt64)), (.ref b4)]))
        refine own_via (fun t k => XS.l2dS X5.here hx rfl (hb hby at_127) rfl rfl k) ?_
        show own_G p e below _ (T5.setTop (mkF m 128 #[.val (.int p1), .val (.int p2), .val (.int p3), .val (.int p4), .val (.int (own_min p1 p2)), .val (.int (own_max p1 p2)), .val (.int (p4 &&& (7 : Int32))), .val (.long ((own_min p1 p2).toInt64)), .second, .val (.ref b4), .val (.int (0 : Int32))] [(.double (FP.l2d ((own_min p1 p2).toInt64))), (.ref b4)]))
        obtain ⟨cq13, kq13, q13a, q13b, q13c⟩ := isOf hZ rfl E5q
        obtain ⟨_, _, ⟨T13, L13, k13, n13⟩, -, X13, ⟨Lc13, hQ13, l13, y13, z13⟩, st13⟩ := X5.virtualBack hx (y := (⟨"com/example/fee_simple/feesimple/ratiostudy/Interval", "contains", "(D)Z"⟩ : MethodName)) (z := (⟨"com/example/fee_simple/feesimple/ratiostudy/Interval", "contains", "(D)Z"⟩ : MethodName)) hown (mvT hZ (hw _ (List.mem_of_getElem? (i := 28) rfl))) (mvT hZ (hw _ (List.mem_of_getElem? (i := 29) rfl))) (notFace_of_selects (args := #[]) (mvT hZ (hw _ (List.mem_of_getElem? (i := 31) rfl)))) (mvT hZ (hw _ (List.mem_of_getElem? (i := 31) rfl))) (mvT hZ (hw _ (List.mem_of_getElem? (i := 30) rfl))) (by decide) (backOf (W := 0) (rm7 l Z a0 hw [] b4 ((own_min p1 p2).toInt64) (own_min p1 p2) (own_max p1 p2) T5.heap n0 Z5 Fl5 Fc5 (own_b53 _)) hZ (hw _ (List.mem_of_getElem? (i := 32) rfl)) (hw _ (List.mem_of_getElem? (i := 9) rfl)) (by decide) (by decide)) q13a q13c (g := (mkF m 128 #[.val (.int p1), .val (.int p2), .val (.int p3), .val (.int p4), .val (.int (own_min p1 p2)), .val (.int (own_max p1 p2)), .val (.int (p4 &&& (7 : Int32))), .val (.long ((own_min p1 p2).toInt64)), .second, .val (.ref b4), .val (.int (0 : Int32))] [(.double (FP.l2d ((own_min p1 p2).toInt64))), (.ref b4)])) rfl (by rw [hml]; rfl) (Steps.refl _) (argsL := [(.double (FP.l2d ((own_min p1 p2).toInt64)))]) (rest := []) (lenOf pd_rm0_2 rfl) rfl (by show 2 * 0 + _ ≤ _; exact Nat.le_of_eq rfl) (hb hby at_128) (fun _ _ => ⟨rfl, rfl, (by decide : 1 + 0 ≤ _), (by decide : 2 + 0 ≤ _)⟩)
        dsimp only [Pt.U, Pt.locs, Pt.cells, Pt.slots] at X13 l13 y13 z13 st13 hQ13
        subst l13 y13 z13
        obtain ⟨rfl, N13q, e13⟩ := hQ13
        have N13 := Fr.app N5 N13q
        refine own_via (fun t k => st13.trans k) ?_
        show own_G p e below _ (T13.setTop (mkF m 131 #[.val (.int p1), .val (.int p2), .val (.int p3), .val (.int p4), .val (.int (own_min p1 p2)), .val (.int (own_max p1 p2)), .val (.int (p4 &&& (7 : Int32))), .val (.long ((own_min p1 p2).toInt64)), .second, .val (.ref b4), .val (.int (0 : Int32))] [(.int (own_in ((own_min p1 p2).toInt64) (own_min p1 p2) (own_max p1 p2)))]))
        refine own_via (fun t k => XS.iload X13.here hx rfl (hb hby at_131) rfl k) ?_
        show own_G p e below _ (T13.setTop (mkF m 133 #[.val (.int p1), .val (.int p2), .val (.int p3), .val (.int p4), .val (.int (own_min p1 p2)), .val (.int (own_max p1 p2)), .val (.int (p4 &&& (7 : Int32))), .val (.long ((own_min p1 p2).toInt64)), .second, .val (.ref b4), .val (.int (0 : Int32))] [(.int (0 : Int32)), (.int (own_in ((own_min p1 p2).toInt64) (own_min p1 p2) (own_max p1 p2)))]))
        by_cases c133_14 : (own_in ((own_min p1 p2).toInt64) (own_min p1 p2) (own_max p1 p2)) = (0 : Int32)
        · skip
          refine own_via (fun t k => XS.icmpNo X13.here hx rfl (hb hby at_133) rfl (teq c133_14).2 k) ?_
          show own_G p e below _ (T13.setTop (mkF m 136 #[.val (.int p1), .val (.int p2), .val (.int p3), .val (.int p4), .val (.int (own_min p1 p2)), .val (.int (own_max p1 p2)), .val (.int (p4 &&& (7 : Int32))), .val (.long ((own_min p1 p2).toInt64)), .second, .val (.ref b4), .val (.int (0 : Int32))] []))
          refine own_via (fun t k => XS.iconst X13.here hx rfl (hb hby at_136) k) ?_
          show own_G p e below _ (T13.setTop (mkF m 137 #[.val (.int p1), .val (.int p2), .val (.int p3), .val (.int p4), .val (.int (own_min p1 p2)), .val (.int (own_max p1 p2)), .val (.int (p4 &&& (7 : Int32))), .val (.long ((own_min p1 p2).toInt64)), .second, .val (.ref b4), .val (.int (0 : Int32))] [(.int (1 : Int32))]))
          refine own_via (fun t k => XS.goto X13.here hx rfl (pc0 := 137) (pc' := 141) rfl (hb hby at_137) (by decide) (by decide) k) ?_
          show own_G p e below _ (T13.setTop (mkF m 141 #[.val (.int p1), .val (.int p2), .val (.int p3), .val (.int p4), .val (.int (own_min p1 p2)), .val (.int (own_max p1 p2)), .val (.int (p4 &&& (7 : Int32))), .val (.long ((own_min p1 p2).toInt64)), .second, .val (.ref b4), .val (.int (0 : Int32))] [(.int (1 : Int32))]))
          obtain ⟨fs, hr, hrun, hended, hW, hsame⟩ := X13.leave (v := some (.int (1 : Int32))) (fun h => by rw [Bd.returns] at h; cases h)
          refine ⟨_, _, retN X13 hx (t := .boolean) Bd.returns (by simp) (hb hby at_141) hr, hrun, hended, _, _, rfl, ?_, ⟨_, rfl⟩, hW, hsame.mono (by decide) (by decide)⟩
          show rm0_Q Z p1 p2 p3 p4 h0 n0 _ T13.heap _
          rw [e13]
          exact ⟨rfl, N13⟩
        · exfalso
          exact c133_14 (by simp only [own_in, if_neg c104_9, if_pos c113_12])
      · skip
        refine own_via (fun t k => XS.ifNo X5.here hx rfl (hb hby at_113) rfl ((if0 _ _).trans (flt c113_12).2.2.1) k) ?_
        show own_G p e below _ (T5.setTop (mkF m 116 #[.val (.int p1), .val (.int p2), .val (.int p3), .val (.int p4), .val (.int (own_min p1 p2)), .val (.int (own_max p1 p2)), .val (.int (p4 &&& (7 : Int32))), .val (.long ((own_min p1 p2).toInt64)), .second, .val (.ref b4), .unset] []))
        refine own_via (fun t k => XS.iconst X5.here hx rfl (hb hby at_116) k) ?_
        show own_G p e below _ (T5.setTop (mkF m 117 #[.val (.int p1), .val (.int p2), .val (.int p3), .val (.int p4), .val (.int (own_min p1 p2)), .val (.int (own_max p1 p2)), .val (.int (p4 &&& (7 : Int32))), .val (.long ((own_min p1 p2).toInt64)), .second, .val (.ref b4), .unset] [(.int (1 : Int32))]))
        refine own_via (fun t k => XS.goto X5.here hx rfl (pc0 := 117) (pc' := 121) rfl (hb hby at_117) (by decide) (by decide) k) ?_
        show own_G p e below _ (T5.setTop (mkF m 121 #[.val (.int p1), .val (.int p2), .val (.int p3), .val (.int p4), .val (.int (own_min p1 p2)), .val (.int (own_max p1 p2)), .val (.int (p4 &&& (7 : Int32))), .val (.long ((own_min p1 p2).toInt64)), .second, .val (.ref b4), .unset] [(.int (1 : Int32))]))
        refine own_via (fun t k => XS.istore X5.here hx rfl (hb hby at_121) rfl (l' := #[.val (.int p1), .val (.int p2), .val (.int p3), .val (.int p4), .val (.int (own_min p1 p2)), .val (.int (own_max p1 p2)), .val (.int (p4 &&& (7 : Int32))), .val (.long ((own_min p1 p2).toInt64)), .second, .val (.ref b4), .val (.int (1 : Int32))]) rfl k) ?_
        show own_G p e below _ (T5.setTop (mkF m 123 #[.val (.int p1), .val (.int p2), .val (.int p3), .val (.int p4), .val (.int (own_min p1 p2)), .val (.int (own_max p1 p2)), .val (.int (p4 &&& (7 : Int32))), .val (.long ((own_min p1 p2).toInt64)), .second, .val (.ref b4), .val (.int (1 : Int32))] []))
        refine own_via (fun t k => XS.aload X5.here hx rfl (hb hby at_123) rfl rfl k) ?_
        show own_G p e below _ (T5.setTop (mkF m 125 #[.val (.int p1), .val (.int p2), .val (.int p3), .val (.int p4), .val (.int (own_min p1 p2)), .val (.int (own_max p1 p2)), .val (.int (p4 &&& (7 : Int32))), .val (.long ((own_min p1 p2).toInt64)), .second, .val (.ref b4), .val (.int (1 : Int32))] [(.ref b4)]))
        refine own_via (fun t k => XS.lload X5.here hx rfl (hb hby at_125) rfl k) ?_
        show own_G p e below _ (T5.setTop (mkF m 127 #[.val (.int p1), .val (.int p2), .val (.int p3), .val (.int p4), .val (.int (own_min p1 p2)), .val (.int (own_max p1 p2)), .val (.int (p4 &&& (7 : Int32))), .val (.long ((own_min p1 p2).toInt64)), .second, .val (.ref b4), .val (.int (1 : Int32))] [(.long ((own_min p1 p2).toInt64)), (.ref b4)]))
        refine own_via (fun t k => XS.l2dS X5.here hx rfl (hb hby at_127) rfl rfl k) ?_
        show own_G p e below _ (T5.setTop (mkF m 128 #[.val (.int p1), .val (.int p2), .val (.int p3), .val (.int p4), .val (.int (own_min p1 p2)), .val (.int (own_max p1 p2)), .val (.int (p4 &&& (7 : Int32))), .val (.long ((own_min p1 p2).toInt64)), .second, .val (.ref b4), .val (.int (1 : Int32))] [(.double (FP.l2d ((own_min p1 p2).toInt64))), (.ref b4)]))
        obtain ⟨cq15, kq15, q15a, q15b, q15c⟩ := isOf hZ rfl E5q
        obtain ⟨_, _, ⟨T15, L15, k15, n15⟩, -, X15, ⟨Lc15, hQ15, l15, y15, z15⟩, st15⟩ := X5.virtualBack hx (y := (⟨"com/example/fee_simple/feesimple/ratiostudy/Interval", "contains", "(D)Z"⟩ : MethodName)) (z := (⟨"com/example/fee_simple/feesimple/ratiostudy/Interval", "contains", "(D)Z"⟩ : MethodName)) hown (mvT hZ (hw _ (List.mem_of_getElem? (i := 28) rfl))) (mvT hZ (hw _ (List.mem_of_getElem? (i := 29) rfl))) (notFace_of_selects (args := #[]) (mvT hZ (hw _ (List.mem_of_getElem? (i := 31) rfl)))) (mvT hZ (hw _ (List.mem_of_getElem? (i := 31) rfl))) (mvT hZ (hw _ (List.mem_of_getElem? (i := 30) rfl))) (by decide) (backOf (W := 0) (rm7 l Z a0 hw [] b4 ((own_min p1 p2).toInt64) (own_min p1 p2) (own_max p1 p2) T5.heap n0 Z5 Fl5 Fc5 (own_b53 _)) hZ (hw _ (List.mem_of_getElem? (i := 32) rfl)) (hw _ (List.mem_of_getElem? (i := 9) rfl)) (by decide) (by decide)) q15a q15c (g := (mkF m 128 #[.val (.int p1), .val (.int p2), .val (.int p3), .val (.int p4), .val (.int (own_min p1 p2)), .val (.int (own_max p1 p2)), .val (.int (p4 &&& (7 : Int32))), .val (.long ((own_min p1 p2).toInt64)), .second, .val (.ref b4), .val (.int (1 : Int32))] [(.double (FP.l2d ((own_min p1 p2).toInt64))), (.ref b4)])) rfl (by rw [hml]; rfl) (Steps.refl _) (argsL := [(.double (FP.l2d ((own_min p1 p2).toInt64)))]) (rest := []) (lenOf pd_rm0_2 rfl) rfl (by show 2 * 0 + _ ≤ _; exact Nat.le_of_eq rfl) (hb hby at_128) (fun _ _ => ⟨rfl, rfl, (by decide : 1 + 0 ≤ _), (by decide : 2 + 0 ≤ _)⟩)
        dsimp only [Pt.U, Pt.locs, Pt.cells, Pt.slots] at X15 l15 y15 z15 st15 hQ15
        subst l15 y15 z15
        obtain ⟨rfl, N15q, e15⟩ := hQ15
        have N15 := Fr.app N5 N15q
        refine own_via (fun t k => st15.trans k) ?_
        show own_G p e below _ (T15.setTop (mkF m 131 #[.val (.int p1), .val (.int p2), .val (.int p3), .val (.int p4), .val (.int (own_min p1 p2)), .val (.int (own_max p1 p2)), .val (.int (p4 &&& (7 : Int32))), .val (.long ((own_min p1 p2).toInt64)), .second, .val (.ref b4), .val (.int (1 : Int32))] [(.int (own_in ((own_min p1 p2).toInt64) (own_min p1 p2) (own_max p1 p2)))]))
        refine own_via (fun t k => XS.iload X15.here hx rfl (hb hby at_131) rfl k) ?_
        show own_G p e below _ (T15.setTop (mkF m 133 #[.val (.int p1), .val (.int p2), .val (.int p3), .val (.int p4), .val (.int (own_min p1 p2)), .val (.int (own_max p1 p2)), .val (.int (p4 &&& (7 : Int32))), .val (.long ((own_min p1 p2).toInt64)), .second, .val (.ref b4), .val (.int (1 : Int32))] [(.int (1 : Int32)), (.int (own_in ((own_min p1 p2).toInt64) (own_min p1 p2) (own_max p1 p2)))]))
        by_cases c133_16 : (own_in ((own_min p1 p2).toInt64) (own_min p1 p2) (own_max p1 p2)) = (1 : Int32)
        · skip
          refine own_via (fun t k => XS.icmpNo X15.here hx rfl (hb hby at_133) rfl (teq c133_16).2 k) ?_
          show own_G p e below _ (T15.setTop (mkF m 136 #[.val (.int p1), .val (.int p2), .val (.int p3), .val (.int p4), .val (.int (own_min p1 p2)), .val (.int (own_max p1 p2)), .val (.int (p4 &&& (7 : Int32))), .val (.long ((own_min p1 p2).toInt64)), .second, .val (.ref b4), .val (.int (1 : Int32))] []))
          refine own_via (fun t k => XS.iconst X15.here hx rfl (hb hby at_136) k) ?_
          show own_G p e below _ (T15.setTop (mkF m 137 #[.val (.int p1), .val (.int p2), .val (.int p3), .val (.int p4), .val (.int (own_min p1 p2)), .val (.int (own_max p1 p2)), .val (.int (p4 &&& (7 : Int32))), .val (.long ((own_min p1 p2).toInt64)), .second, .val (.ref b4), .val (.int (1 : Int32))] [(.int (1 : Int32))]))
          refine own_via (fun t k => XS.goto X15.here hx rfl (pc0 := 137) (pc' := 141) rfl (hb hby at_137) (by decide) (by decide) k) ?_
          show own_G p e below _ (T15.setTop (mkF m 141 #[.val (.int p1), .val (.int p2), .val (.int p3), .val (.int p4), .val (.int (own_min p1 p2)), .val (.int (own_max p1 p2)), .val (.int (p4 &&& (7 : Int32))), .val (.long ((own_min p1 p2).toInt64)), .second, .val (.ref b4), .val (.int (1 : Int32))] [(.int (1 : Int32))]))
          obtain ⟨fs, hr, hrun, hended, hW, hsame⟩ := X15.leave (v := some (.int (1 : Int32))) (fun h => by rw [Bd.returns] at h; cases h)
          refine ⟨_, _, retN X15 hx (t := .boolean) Bd.returns (by simp) (hb hby at_141) hr, hrun, hended, _, _, rfl, ?_, ⟨_, rfl⟩, hW, hsame.mono (by decide) (by decide)⟩
          show rm0_Q Z p1 p2 p3 p4 h0 n0 _ T15.heap _
          rw [e15]
          exact ⟨rfl, N15⟩
        · exfalso
          exact c133_16 (by simp only [own_in, if_neg c104_9, if_neg c113_12])
  · skip
    refine own_via (fun t k => XS.ifYes X2.here hx rfl (pc0 := 22) (pc' := 33) rfl (hb hby at_22) rfl ((if0 _ _).trans (feq c22_3).2) (by decide) (by decide) k) ?_
    show own_G p e below _ (T2.setTop (mkF m 33 #[.val (.int p1), .val (.int p2), .val (.int p3), .val (.int p4), .val (.int (own_min p1 p2)), .val (.int (own_max p1 p2)), .val (.int (p4 &&& (7 : Int32))), .unset, .unset, .unset, .unset] []))
    refine own_via (fun t k => XS.iload X2.here hx rfl (hb hby at_33) rfl k) ?_
    show own_G p e below _ (T2.setTop (mkF m 35 #[.val (.int p1), .val (.int p2), .val (.int p3), .val (.int p4), .val (.int (own_min p1 p2)), .val (.int (own_max p1 p2)), .val (.int (p4 &&& (7 : Int32))), .unset, .unset, .unset, .unset] [(.int (p4 &&& (7 : Int32)))]))
    refine own_via (fun t k => XS.iconst X2.here hx rfl (hb hby at_35) k) ?_
    show own_G p e below _ (T2.setTop (mkF m 36 #[.val (.int p1), .val (.int p2), .val (.int p3), .val (.int p4), .val (.int (own_min p1 p2)), .val (.int (own_max p1 p2)), .val (.int (p4 &&& (7 : Int32))), .unset, .unset, .unset, .unset] [(.int (1 : Int32)), (.int (p4 &&& (7 : Int32)))]))
    by_cases c36_17 : (p4 &&& (7 : Int32)) = (1 : Int32)
    · skip
      refine own_via (fun t k => XS.icmpNo X2.here hx rfl (hb hby at_36) rfl (teq c36_17).2 k) ?_
      show own_G p e below _ (T2.setTop (mkF m 39 #[.val (.int p1), .val (.int p2), .val (.int p3), .val (.int p4), .val (.int (own_min p1 p2)), .val (.int (own_max p1 p2)), .val (.int (p4 &&& (7 : Int32))), .unset, .unset, .unset, .unset] []))
      refine own_via (fun t k => XS.iload X2.here hx rfl (hb hby at_39) rfl k) ?_
      show own_G p e below _ (T2.setTop (mkF m 41 #[.val (.int p1), .val (.int p2), .val (.int p3), .val (.int p4), .val (.int (own_min p1 p2)), .val (.int (own_max p1 p2)), .val (.int (p4 &&& (7 : Int32))), .unset, .unset, .unset, .unset] [(.int (own_max p1 p2))]))
      refine own_via (fun t k => XS.i2l X2.here hx rfl (hb hby at_41) rfl k) ?_
      show own_G p e below _ (T2.setTop (mkF m 42 #[.val (.int p1), .val (.int p2), .val (.int p3), .val (.int p4), .val (.int (own_min p1 p2)), .val (.int (own_max p1 p2)), .val (.int (p4 &&& (7 : Int32))), .unset, .unset, .unset, .unset] [(.long ((own_max p1 p2).toInt64))]))
      refine own_via (fun t k => XS.lstore X2.here hx rfl (hb hby at_42) rfl (l' := #[.val (.int p1), .val (.int p2), .val (.int p3), .val (.int p4), .val (.int (own_min p1 p2)), .val (.int (own_max p1 p2)), .val (.int (p4 &&& (7 : Int32))), .val (.long ((own_max p1 p2).toInt64)), .second, .unset, .unset]) rfl k) ?_
      show own_G p e below _ (T2.setTop (mkF m 44 #[.val (.int p1), .val (.int p2), .val (.int p3), .val (.int p4), .val (.int (own_min p1 p2)), .val (.int (own_max p1 p2)), .val (.int (p4 &&& (7 : Int32))), .val (.long ((own_max p1 p2).toInt64)), .second, .unset, .unset] []))
      refine own_via (fun t k => XS.goto X2.here hx rfl (pc0 := 44) (pc' := 83) rfl (hb hby at_44) (by decide) (by decide) k) ?_
      show own_G p e below _ (T2.setTop (mkF m 83 #[.val (.int p1), .val (.int p2), .val (.int p3), .val (.int p4), .val (.int (own_min p1 p2)), .val (.int (own_max p1 p2)), .val (.int (p4 &&& (7 : Int32))), .val (.long ((own_max p1 p2).toInt64)), .second, .unset, .unset] []))
      obtain ⟨T18, h18, X18, e18, E18, A18, D18, -, st18⟩ := newO X2 hx hZ hown (hw _ (List.mem_of_getElem? (i := 7) rfl)) (hw _ (List.mem_of_getElem? (i := 8) rfl)) (hw _ (List.mem_of_getElem? (i := 9) rfl)) e2 (g := (mkF m 83 #[.val (.int p1), .val (.int p2), .val (.int p3), .val (.int p4), .val (.int (own_min p1 p2)), .val (.int (own_max p1 p2)), .val (.int (p4 &&& (7 : Int32))), .val (.long ((own_max p1 p2).toInt64)), .second, .unset, .unset] [])) rfl (hb hby at_83) (by decide) (by decide)
      obtain ⟨b18, g18⟩ : ∃ z, z = h0.size := ⟨_, rfl⟩
      rw [← g18] at A18 D18 st18
      have gx_b18 : n0 ≤ b18 := Nat.le_trans Z0 (Nat.le_of_eq g18.symm)
      have Z18 : n0 ≤ h18.size := Nat.le_trans Z0 E18.1
      have F18_low : Fld Z h18 b18 "com/example/fee_simple/feesimple/ratiostudy/Interval" "low" "D" (.double (0 : UInt64)) := D18 (Or.inr (hw _ (List.mem_of_getElem? (i := 25) rfl))) (ty := .double) (by decide)
      have F18_high : Fld Z h18 b18 "com/example/fee_simple/feesimple/ratiostudy/Interval" "high" "D" (.double (0 : UInt64)) := D18 (Or.inr (hw _ (List.mem_of_getElem? (i := 27) rfl))) (ty := .double) (by decide)
      refine own_via st18 ?_
      show own_G p e below _ (T18.setTop (mkF m 86 #[.val (.int p1), .val (.int p2), .val (.int p3), .val (.int p4), .val (.int (own_min p1 p2)), .val (.int (own_max p1 p2)), .val (.int (p4 &&& (7 : Int32))), .val (.long ((own_max p1 p2).toInt64)), .second, .unset, .unset] [(.ref b18)]))
      refine own_via (fun t k => XS.dup X18.here hx rfl (hb hby at_86) rfl rfl k) ?_
      show own_G p e below _ (T18.setTop (mkF m 87 #[.val (.int p1), .val (.int p2), .val (.int p3), .val (.int p4), .val (.int (own_min p1 p2)), .val (.int (own_max p1 p2)), .val (.int (p4 &&& (7 : Int32))), .val (.long ((own_max p1 p2).toInt64)), .second, .unset, .unset] [(.ref b18), (.ref b18)]))
      refine own_via (fun t k => XS.iload X18.here hx rfl (hb hby at_87) rfl k) ?_
      show own_G p e below _ (T18.setTop (mkF m 89 #[.val (.int p1), .val (.int p2), .val (.int p3), .val (.int p4), .val (.int (own_min p1 p2)), .val (.int (own_max p1 p2)), .val (.int (p4 &&& (7 : Int32))), .val (.long ((own_max p1 p2).toInt64)), .second, .unset, .unset] [(.int (own_min p1 p2)), (.ref b18), (.ref b18)]))
      refine own_via (fun t k => XS.i2dS X18.here hx rfl (hb hby at_89) rfl rfl k) ?_
      show own_G p e below _ (T18.setTop (mkF m 90 #[.val (.int p1), .val (.int p2), .val (.int p3), .val (.int p4), .val (.int (own_min p1 p2)), .val (.int (own_max p1 p2)), .val (.int (p4 &&& (7 : Int32))), .val (.long ((own_max p1 p2).toInt64)), .second, .unset, .unset] [(.double (FP.i2d (own_min p1 p2))), (.ref b18), (.ref b18)]))
      refine own_via (fun t k => XS.iload X18.here hx rfl (hb hby at_90) rfl k) ?_
      show own_G p e below _ (T18.setTop (mkF m 92 #[.val (.int p1), .val (.int p2), .val (.int p3), .val (.int p4), .val (.int (own_min p1 p2)), .val (.int (own_max p1 p2)), .val (.int (p4 &&& (7 : Int32))), .val (.long ((own_max p1 p2).toInt64)), .second, .unset, .unset] [(.int (own_max p1 p2)), (.double (FP.i2d (own_min p1 p2))), (.ref b18), (.ref b18)]))
      refine own_via (fun t k => XS.i2dS X18.here hx rfl (hb hby at_92) rfl rfl k) ?_
      show own_G p e below _ (T18.setTop (mkF m 93 #[.val (.int p1), .val (.int p2), .val (.int p3), .val (.int p4), .val (.int (own_min p1 p2)), .val (.int (own_max p1 p2)), .val (.int (p4 &&& (7 : Int32))), .val (.long ((own_max p1 p2).toInt64)), .second, .unset, .unset] [(.double (FP.i2d (own_max p1 p2))), (.double (FP.i2d (own_min p1 p2))), (.ref b18), (.ref b18)]))
      obtain ⟨_, _, ⟨T19, L19, k19, n19⟩, -, X19, ⟨Lc19, hQ19, l19, y19, z19⟩, st19⟩ := X18.specialBack hx (y := (⟨"com/example/fee_simple/feesimple/ratiostudy/Interval", "<init>", "(DD)V"⟩ : MethodName)) rfl hown (mvT hZ (hw _ (List.mem_of_getElem? (i := 10) rfl))) (mvT hZ (hw _ (List.mem_of_getElem? (i := 11) rfl))) (mvT hZ (hw _ (List.mem_of_getElem? (i := 12) rfl))) (by decide) (backOf (W := 1) (rm3 l Z a0 hw [] b18 (own_min p1 p2) (own_max p1 p2) h18 n0 Z18 A18 F18_low F18_high gx_b18 (own_mm _ _)) hZ (hw _ (List.mem_of_getElem? (i := 12) rfl)) (hw _ (List.mem_of_getElem? (i := 9) rfl)) (by decide) (by decide)) (g := (mkF m 93 #[.val (.int p1), .val (.int p2), .val (.int p3), .val (.int p4), .val (.int (own_min p1 p2)), .val (.int (own_max p1 p2)), .val (.int (p4 &&& (7 : Int32))), .val (.long ((own_max p1 p2).toInt64)), .second, .unset, .unset] [(.double (FP.i2d (own_max p1 p2))), (.double (FP.i2d (own_min p1 p2))), (.ref b18), (.ref b18)])) rfl (by rw [hml]; rfl) (Steps.refl _) (a := b18) (argsL := [(.double (FP.i2d (own_min p1 p2))), (.double (FP.i2d (own_max p1 p2)))]) (rest := [(.ref b18)]) (lenOf pd_rm0_1 rfl) rfl (by show 2 * 0 + _ ≤ _; exact Nat.le_of_eq rfl) (hb hby at_93) (fun _ _ => ⟨rfl, e18, (by decide : 1 + 0 ≤ _), (by decide : 2 + 0 ≤ _)⟩)
      dsimp only [Pt.U, Pt.locs, Pt.cells, Pt.slots] at X19 l19 y19 z19 st19 hQ19
      subst l19 y19 z19
      obtain ⟨rfl, N19q, K19, E19q, Fl19, Fc19⟩ := hQ19
      have N19 := Fr.app N2 N19q
      have F20 := A18.keep K19
      have Z19 : n0 ≤ T19.heap.size := Nat.le_trans Z18 K19.1
      refine own_via (fun t k => st19.trans k) ?_
      show own_G p e below _ (T19.setTop (mkF m 96 #[.val (.int p1), .val (.int p2), .val (.int p3), .val (.int p4), .val (.int (own_min p1 p2)), .val (.int (own_max p1 p2)), .val (.int (p4 &&& (7 : Int32))), .val (.long ((own_max p1 p2).toInt64)), .second, .unset, .unset] [(.ref b18)]))
      refine own_via (fun t k => XS.astore X19.here hx rfl (hb hby at_96) rfl rfl (l' := #[.val (.int p1), .val (.int p2), .val (.int p3), .val (.int p4), .val (.int (own_min p1 p2)), .val (.int (own_max p1 p2)), .val (.int (p4 &&& (7 : Int32))), .val (.long ((own_max p1 p2).toInt64)), .second, .val (.ref b18), .unset]) rfl k) ?_
      show own_G p e below _ (T19.setTop (mkF m 98 #[.val (.int p1), .val (.int p2), .val (.int p3), .val (.int p4), .val (.int (own_min p1 p2)), .val (.int (own_max p1 p2)), .val (.int (p4 &&& (7 : Int32))), .val (.long ((own_max p1 p2).toInt64)), .second, .val (.ref b18), .unset] []))
      refine own_via (fun t k => XS.lload X19.here hx rfl (hb hby at_98) rfl k) ?_
      show own_G p e below _ (T19.setTop (mkF m 100 #[.val (.int p1), .val (.int p2), .val (.int p3), .val (.int p4), .val (.int (own_min p1 p2)), .val (.int (own_max p1 p2)), .val (.int (p4 &&& (7 : Int32))), .val (.long ((own_max p1 p2).toInt64)), .second, .val (.ref b18), .unset] [(.long ((own_max p1 p2).toInt64))]))
      refine own_via (fun t k => XS.iload X19.here hx rfl (hb hby at_100) rfl k) ?_
      show own_G p e below _ (T19.setTop (mkF m 102 #[.val (.int p1), .val (.int p2), .val (.int p3), .val (.int p4), .val (.int (own_min p1 p2)), .val (.int (own_max p1 p2)), .val (.int (p4 &&& (7 : Int32))), .val (.long ((own_max p1 p2).toInt64)), .second, .val (.ref b18), .unset] [(.int (own_min p1 p2)), (.long ((own_max p1 p2).toInt64))]))
      refine own_via (fun t k => XS.i2l X19.here hx rfl (hb hby at_102) rfl k) ?_
      show own_G p e below _ (T19.setTop (mkF m 103 #[.val (.int p1), .val (.int p2), .val (.int p3), .val (.int p4), .val (.int (own_min p1 p2)), .val (.int (own_max p1 p2)), .val (.int (p4 &&& (7 : Int32))), .val (.long ((own_max p1 p2).toInt64)), .second, .val (.ref b18), .unset] [(.long ((own_min p1 p2).toInt64)), (.long ((own_max p1 p2).toInt64))]))
      refine own_via (fun t k => XS.lcmp X19.here hx rfl (hb hby at_103) rfl k) ?_
      show own_G p e below _ (T19.setTop (mkF m 104 #[.val (.int p1), .val (.int p2), .val (.int p3), .val (.int p4), .val (.int (own_min p1 p2)), .val (.int (own_max p1 p2)), .val (.int (p4 &&& (7 : Int32))), .val (.long ((own_max p1 p2).toInt64)), .second, .val (.ref b18), .unset] [(.int (lcmpW ((own_max p1 p2).toInt64) ((own_min p1 p2).toInt64)))]))
      by_cases c104_23 : (lcmpW ((own_max p1 p2).toInt64) ((own_min p1 p2).toInt64)) < (0 : Int32)
      · skip
        refine own_via (fun t k => XS.ifYes X19.here hx rfl (pc0 := 104) (pc' := 120) rfl (hb hby at_104) rfl ((if0 _ _).trans (tlt c104_23).1) (by decide) (by decide) k) ?_
        show own_G p e below _ (T19.setTop (mkF m 120 #[.val (.int p1), .val (.int p2), .val (.int p3), .val (.int p4), .val (.int (own_min p1 p2)), .val (.int (own_max p1 p2)), .val (.int (p4 &&& (7 : Int32))), .val (.long ((own_max p1 p2).toInt64)), .second, .val (.ref b18), .unset] []))
        refine own_via (fun t k => XS.iconst X19.here hx rfl (hb hby at_120) k) ?_
        show own_G p e below _ (T19.setTop (mkF m 121 #[.val (.int p1), .val (.int p2), .val (.int p3), .val (.int p4), .val (.int (own_min p1 p2)), .val (.int (own_max p1 p2)), .val (.int (p4 &&& (7 : Int32))), .val (.long ((own_max p1 p2).toInt64)), .second, .val (.ref b18), .unset] [(.int (0 : Int32))]))
        refine own_via (fun t k => XS.istore X19.here hx rfl (hb hby at_121) rfl (l' := #[.val (.int p1), .val (.int p2), .val (.int p3), .val (.int p4), .val (.int (own_min p1 p2)), .val (.int (own_max p1 p2)), .val (.int (p4 &&& (7 : Int32))), .val (.long ((own_max p1 p2).toInt64)), .second, .val (.ref b18), .val (.int (0 : Int32))]) rfl k) ?_
        show own_G p e below _ (T19.setTop (mkF m 123 #[.val (.int p1), .val (.int p2), .val (.int p3), .val (.int p4), .val (.int (own_min p1 p2)), .val (.int (own_max p1 p2)), .val (.int (p4 &&& (7 : Int32))), .val (.long ((own_max p1 p2).toInt64)), .second, .val (.ref b18), .val (.int (0 : Int32))] []))
        refine own_via (fun t k => XS.aload X19.here hx rfl (hb hby at_123) rfl rfl k) ?_
        show own_G p e below _ (T19.setTop (mkF m 125 #[.val (.int p1), .val (.int p2), .val (.int p3), .val (.int p4), .val (.int (own_min p1 p2)), .val (.int (own_max p1 p2)), .val (.int (p4 &&& (7 : Int32))), .val (.long ((own_max p1 p2).toInt64)), .second, .val (.ref b18), .val (.int (0 : Int32))] [(.ref b18)]))
        refine own_via (fun t k => XS.lload X19.here hx rfl (hb hby at_125) rfl k) ?_
        show own_G p e below _ (T19.setTop (mkF m 127 #[.val (.int p1), .val (.int p2), .val (.int p3), .val (.int p4), .val (.int (own_min p1 p2)), .val (.int (own_max p1 p2)), .val (.int (p4 &&& (7 : Int32))), .val (.long ((own_max p1 p2).toInt64)), .second, .val (.ref b18), .val (.int (0 : Int32))] [(.long ((own_max p1 p2).toInt64)), (.ref b18)]))
        refine own_via (fun t k => XS.l2dS X19.here hx rfl (hb hby at_127) rfl rfl k) ?_
        show own_G p e below _ (T19.setTop (mkF m 128 #[.val (.int p1), .val (.int p2), .val (.int p3), .val (.int p4), .val (.int (own_min p1 p2)), .val (.int (own_max p1 p2)), .val (.int (p4 &&& (7 : Int32))), .val (.long ((own_max p1 p2).toInt64)), .second, .val (.ref b18), .val (.int (0 : Int32))] [(.double (FP.l2d ((own_max p1 p2).toInt64))), (.ref b18)]))
        obtain ⟨cq24, kq24, q24a, q24b, q24c⟩ := isOf hZ rfl E19q
        obtain ⟨_, _, ⟨T24, L24, k24, n24⟩, -, X24, ⟨Lc24, hQ24, l24, y24, z24⟩, st24⟩ := X19.virtualBack hx (y := (⟨"com/example/fee_simple/feesimple/ratiostudy/Interval", "contains", "(D)Z"⟩ : MethodName)) (z := (⟨"com/example/fee_simple/feesimple/ratiostudy/Interval", "contains", "(D)Z"⟩ : MethodName)) hown (mvT hZ (hw _ (List.mem_of_getElem? (i := 28) rfl))) (mvT hZ (hw _ (List.mem_of_getElem? (i := 29) rfl))) (notFace_of_selects (args := #[]) (mvT hZ (hw _ (List.mem_of_getElem? (i := 31) rfl)))) (mvT hZ (hw _ (List.mem_of_getElem? (i := 31) rfl))) (mvT hZ (hw _ (List.mem_of_getElem? (i := 30) rfl))) (by decide) (backOf (W := 0) (rm7 l Z a0 hw [] b18 ((own_max p1 p2).toInt64) (own_min p1 p2) (own_max p1 p2) T19.heap n0 Z19 Fl19 Fc19 (own_b53 _)) hZ (hw _ (List.mem_of_getElem? (i := 32) rfl)) (hw _ (List.mem_of_getElem? (i := 9) rfl)) (by decide) (by decide)) q24a q24c (g := (mkF m 128 #[.val (.int p1), .val (.int p2), .val (.int p3), .val (.int p4), .val (.int (own_min p1 p2)), .val (.int (own_max p1 p2)), .val (.int (p4 &&& (7 : Int32))), .val (.long ((own_max p1 p2).toInt64)), .second, .val (.ref b18), .val (.int (0 : Int32))] [(.double (FP.l2d ((own_max p1 p2).toInt64))), (.ref b18)])) rfl (by rw [hml]; rfl) (Steps.refl _) (argsL := [(.double (FP.l2d ((own_max p1 p2).toInt64)))]) (rest := []) (lenOf pd_rm0_2 rfl) rfl (by show 2 * 0 + _ ≤ _; exact Nat.le_of_eq rfl) (hb hby at_128) (fun _ _ => ⟨rfl, rfl, (by decide : 1 + 0 ≤ _), (by decide : 2 + 0 ≤ _)⟩)
        dsimp only [Pt.U, Pt.locs, Pt.cells, Pt.slots] at X24 l24 y24 z24 st24 hQ24
        subst l24 y24 z24
        obtain ⟨rfl, N24q, e24⟩ := hQ24
        have N24 := Fr.app N19 N24q
        refine own_via (fun t k => st24.trans k) ?_
        show own_G p e below _ (T24.setTop (mkF m 131 #[.val (.int p1), .val (.int p2), .val (.int p3), .val (.int p4), .val (.int (own_min p1 p2)), .val (.int (own_max p1 p2)), .val (.int (p4 &&& (7 : Int32))), .val (.long ((own_max p1 p2).toInt64)), .second, .val (.ref b18), .val (.int (0 : Int32))] [(.int (own_in ((own_max p1 p2).toInt64) (own_min p1 p2) (own_max p1 p2)))]))
        refine own_via (fun t k => XS.iload X24.here hx rfl (hb hby at_131) rfl k) ?_
        show own_G p e below _ (T24.setTop (mkF m 133 #[.val (.int p1), .val (.int p2), .val (.int p3), .val (.int p4), .val (.int (own_min p1 p2)), .val (.int (own_max p1 p2)), .val (.int (p4 &&& (7 : Int32))), .val (.long ((own_max p1 p2).toInt64)), .second, .val (.ref b18), .val (.int (0 : Int32))] [(.int (0 : Int32)), (.int (own_in ((own_max p1 p2).toInt64) (own_min p1 p2) (own_max p1 p2)))]))
        by_cases c133_25 : (own_in ((own_max p1 p2).toInt64) (own_min p1 p2) (own_max p1 p2)) = (0 : Int32)
        · skip
          refine own_via (fun t k => XS.icmpNo X24.here hx rfl (hb hby at_133) rfl (teq c133_25).2 k) ?_
          show own_G p e below _ (T24.setTop (mkF m 136 #[.val (.int p1), .val (.int p2), .val (.int p3), .val (.int p4), .val (.int (own_min p1 p2)), .val (.int (own_max p1 p2)), .val (.int (p4 &&& (7 : Int32))), .val (.long ((own_max p1 p2).toInt64)), .second, .val (.ref b18), .val (.int (0 : Int32))] []))
          refine own_via (fun t k => XS.iconst X24.here hx rfl (hb hby at_136) k) ?_
          show own_G p e below _ (T24.setTop (mkF m 137 #[.val (.int p1), .val (.int p2), .val (.int p3), .val (.int p4), .val (.int (own_min p1 p2)), .val (.int (own_max p1 p2)), .val (.int (p4 &&& (7 : Int32))), .val (.long ((own_max p1 p2).toInt64)), .second, .val (.ref b18), .val (.int (0 : Int32))] [(.int (1 : Int32))]))
          refine own_via (fun t k => XS.goto X24.here hx rfl (pc0 := 137) (pc' := 141) rfl (hb hby at_137) (by decide) (by decide) k) ?_
          show own_G p e below _ (T24.setTop (mkF m 141 #[.val (.int p1), .val (.int p2), .val (.int p3), .val (.int p4), .val (.int (own_min p1 p2)), .val (.int (own_max p1 p2)), .val (.int (p4 &&& (7 : Int32))), .val (.long ((own_max p1 p2).toInt64)), .second, .val (.ref b18), .val (.int (0 : Int32))] [(.int (1 : Int32))]))
          obtain ⟨fs, hr, hrun, hended, hW, hsame⟩ := X24.leave (v := some (.int (1 : Int32))) (fun h => by rw [Bd.returns] at h; cases h)
          refine ⟨_, _, retN X24 hx (t := .boolean) Bd.returns (by simp) (hb hby at_141) hr, hrun, hended, _, _, rfl, ?_, ⟨_, rfl⟩, hW, hsame.mono (by decide) (by decide)⟩
          show rm0_Q Z p1 p2 p3 p4 h0 n0 _ T24.heap _
          rw [e24]
          exact ⟨rfl, N24⟩
        · exfalso
          exact c133_25 (by simp only [own_in, if_pos c104_23])
      · skip
        refine own_via (fun t k => XS.ifNo X19.here hx rfl (hb hby at_104) rfl ((if0 _ _).trans (flt c104_23).1) k) ?_
        show own_G p e below _ (T19.setTop (mkF m 107 #[.val (.int p1), .val (.int p2), .val (.int p3), .val (.int p4), .val (.int (own_min p1 p2)), .val (.int (own_max p1 p2)), .val (.int (p4 &&& (7 : Int32))), .val (.long ((own_max p1 p2).toInt64)), .second, .val (.ref b18), .unset] []))
        refine own_via (fun t k => XS.lload X19.here hx rfl (hb hby at_107) rfl k) ?_
        show own_G p e below _ (T19.setTop (mkF m 109 #[.val (.int p1), .val (.int p2), .val (.int p3), .val (.int p4), .val (.int (own_min p1 p2)), .val (.int (own_max p1 p2)), .val (.int (p4 &&& (7 : Int32))), .val (.long ((own_max p1 p2).toInt64)), .second, .val (.ref b18), .unset] [(.long ((own_max p1 p2).toInt64))]))
        refine own_via (fun t k => XS.iload X19.here hx rfl (hb hby at_109) rfl k) ?_
        show own_G p e below _ (T19.setTop (mkF m 111 #[.val (.int p1), .val (.int p2), .val (.int p3), .val (.int p4), .val (.int (own_min p1 p2)), .val (.int (own_max p1 p2)), .val (.int (p4 &&& (7 : Int32))), .val (.long ((own_max p1 p2).toInt64)), .second, .val (.ref b18), .unset] [(.int (own_max p1 p2)), (.long ((own_max p1 p2).toInt64))]))
        refine own_via (fun t k => XS.i2l X19.here hx rfl (hb hby at_111) rfl k) ?_
        show own_G p e below _ (T19.setTop (mkF m 112 #[.val (.int p1), .val (.int p2), .val (.int p3), .val (.int p4), .val (.int (own_min p1 p2)), .val (.int (own_max p1 p2)), .val (.int (p4 &&& (7 : Int32))), .val (.long ((own_max p1 p2).toInt64)), .second, .val (.ref b18), .unset] [(.long ((own_max p1 p2).toInt64)), (.long ((own_max p1 p2).toInt64))]))
        refine own_via (fun t k => XS.lcmp X19.here hx rfl (hb hby at_112) rfl k) ?_
        show own_G p e below _ (T19.setTop (mkF m 113 #[.val (.int p1), .val (.int p2), .val (.int p3), .val (.int p4), .val (.int (own_min p1 p2)), .val (.int (own_max p1 p2)), .val (.int (p4 &&& (7 : Int32))), .val (.long ((own_max p1 p2).toInt64)), .second, .val (.ref b18), .unset] [(.int (lcmpW ((own_max p1 p2).toInt64) ((own_max p1 p2).toInt64)))]))
        by_cases c113_26 : (0 : Int32) < (lcmpW ((own_max p1 p2).toInt64) ((own_max p1 p2).toInt64))
        · skip
          refine own_via (fun t k => XS.ifYes X19.here hx rfl (pc0 := 113) (pc' := 120) rfl (hb hby at_113) rfl ((if0 _ _).trans (tlt c113_26).2.2.1) (by decide) (by decide) k) ?_
          show own_G p e below _ (T19.setTop (mkF m 120 #[.val (.int p1), .val (.int p2), .val (.int p3), .val (.int p4), .val (.int (own_min p1 p2)), .val (.int (own_max p1 p2)), .val (.int (p4 &&& (7 : Int32))), .val (.long ((own_max p1 p2).toInt64)), .second, .val (.ref b18), .unset] []))
          refine own_via (fun t k => XS.iconst X19.here hx rfl (hb hby at_120) k) ?_
          show own_G p e below _ (T19.setTop (mkF m 121 #[.val (.int p1), .val (.int p2), .val (.int p3), .val (.int p4), .val (.int (own_min p1 p2)), .val (.int (own_max p1 p2)), .val (.int (p4 &&& (7 : Int32))), .val (.long ((own_max p1 p2).toInt64)), .second, .val (.ref b18), .unset] [(.int (0 : Int32))]))
          refine own_via (fun t k => XS.istore X19.here hx rfl (hb hby at_121) rfl (l' := #[.val (.int p1), .val (.int p2), .val (.int p3), .val (.int p4), .val (.int (own_min p1 p2)), .val (.int (own_max p1 p2)), .val (.int (p4 &&& (7 : Int32))), .val (.long ((own_max p1 p2).toInt64)), .second, .val (.ref b18), .val (.int (0 : Int32))]) rfl k) ?_
          show own_G p e below _ (T19.setTop (mkF m 123 #[.val (.int p1), .val (.int p2), .val (.int p3), .val (.int p4), .val (.int (own_min p1 p2)), .val (.int (own_max p1 p2)), .val (.int (p4 &&& (7 : Int32))), .val (.long ((own_max p1 p2).toInt64)), .second, .val (.ref b18), .val (.int (0 : Int32))] []))
          refine own_via (fun t k => XS.aload X19.here hx rfl (hb hby at_123) rfl rfl k) ?_
          show own_G p e below _ (T19.setTop (mkF m 125 #[.val (.int p1), .val (.int p2), .val (.int p3), .val (.int p4), .val (.int (own_min p1 p2)), .val (.int (own_max p1 p2)), .val (.int (p4 &&& (7 : Int32))), .val (.long ((own_max p1 p2).toInt64)), .second, .val (.ref b18), .val (.int (0 : Int32))] [(.ref b18)]))
          refine own_via (fun t k => XS.lload X19.here hx rfl (hb hby at_125) rfl k) ?_
          show own_G p e below _ (T19.setTop (mkF m 127 #[.val (.int p1), .val (.int p2), .val (.int p3), .val (.int p4), .val (.int (own_min p1 p2)), .val (.int (own_max p1 p2)), .val (.int (p4 &&& (7 : Int32))), .val (.long ((own_max p1 p2).toInt64)), .second, .val (.ref b18), .val (.int (0 : Int32))] [(.long ((own_max p1 p2).toInt64)), (.ref b18)]))
          refine own_via (fun t k => XS.l2dS X19.here hx rfl (hb hby at_127) rfl rfl k) ?_
          show own_G p e below _ (T19.setTop (mkF m 128 #[.val (.int p1), .val (.int p2), .val (.int p3), .val (.int p4), .val (.int (own_min p1 p2)), .val (.int (own_max p1 p2)), .val (.int (p4 &&& (7 : Int32))), .val (.long ((own_max p1 p2).toInt64)), .second, .val (.ref b18), .val (.int (0 : Int32))] [(.double (FP.l2d ((own_max p1 p2).toInt64))), (.ref b18)]))
          obtain ⟨cq27, kq27, q27a, q27b, q27c⟩ := isOf hZ rfl E19q
          obtain ⟨_, _, ⟨T27, L27, k27, n27⟩, -, X27, ⟨Lc27, hQ27, l27, y27, z27⟩, st27⟩ := X19.virtualBack hx (y := (⟨"com/example/fee_simple/feesimple/ratiostudy/Interval", "contains", "(D)Z"⟩ : MethodName)) (z := (⟨"com/example/fee_simple/feesimple/ratiostudy/Interval", "contains", "(D)Z"⟩ : MethodName)) hown (mvT hZ (hw _ (List.mem_of_getElem? (i := 28) rfl))) (mvT hZ (hw _ (List.mem_of_getElem? (i := 29) rfl))) (notFace_of_selects (args := #[]) (mvT hZ (hw _ (List.mem_of_getElem? (i := 31) rfl)))) (mvT hZ (hw _ (List.mem_of_getElem? (i := 31) rfl))) (mvT hZ (hw _ (List.mem_of_getElem? (i := 30) rfl))) (by decide) (backOf (W := 0) (rm7 l Z a0 hw [] b18 ((own_max p1 p2).toInt64) (own_min p1 p2) (own_max p1 p2) T19.heap n0 Z19 Fl19 Fc19 (own_b53 _)) hZ (hw _ (List.mem_of_getElem? (i := 32) rfl)) (hw _ (List.mem_of_getElem? (i := 9) rfl)) (by decide) (by decide)) q27a q27c (g := (mkF m 128 #[.val (.int p1), .val (.int p2), .val (.int p3), .val (.int p4), .val (.int (own_min p1 p2)), .val (.int (own_max p1 p2)), .val (.int (p4 &&& (7 : Int32))), .val (.long ((own_max p1 p2).toInt64)), .second, .val (.ref b18), .val (.int (0 : Int32))] [(.double (FP.l2d ((own_max p1 p2).toInt64))), (.ref b18)])) rfl (by rw [hml]; rfl) (Steps.refl _) (argsL := [(.double (FP.l2d ((own_max p1 p2).toInt64)))]) (rest := []) (lenOf pd_rm0_2 rfl) rfl (by show 2 * 0 + _ ≤ _; exact Nat.le_of_eq rfl) (hb hby at_128) (fun _ _ => ⟨rfl, rfl, (by decide : 1 + 0 ≤ _), (by decide : 2 + 0 ≤ _)⟩)
          dsimp only [Pt.U, Pt.locs, Pt.cells, Pt.slots] at X27 l27 y27 z27 st27 hQ27
          subst l27 y27 z27
          obtain ⟨rfl, N27q, e27⟩ := hQ27
          have N27 := Fr.app N19 N27q
          refine own_via (fun t k => st27.trans k) ?_
          show own_G p e below _ (T27.setTop (mkF m 131 #[.val (.int p1), .val (.int p2), .val (.int p3), .val (.int p4), .val (.int (own_min p1 p2)), .val (.int (own_max p1 p2)), .val (.int (p4 &&& (7 : Int32))), .val (.long ((own_max p1 p2).toInt64)), .second, .val (.ref b18), .val (.int (0 : Int32))] [(.int (own_in ((own_max p1 p2).toInt64) (own_min p1 p2) (own_max p1 p2)))]))
          refine own_via (fun t k => XS.iload X27.here hx rfl (hb hby at_131) rfl k) ?_
          show own_G p e below _ (T27.setTop (mkF m 133 #[.val (.int p1), .val (.int p2), .val (.int p3), .val (.int p4), .val (.int (own_min p1 p2)), .val (.int (own_max p1 p2)), .val (.int (p4 &&& (7 : Int32))), .val (.long ((own_max p1 p2).toInt64)), .second, .val (.ref b18), .val (.int (0 : Int32))] [(.int (0 : Int32)), (.int (own_in ((own_max p1 p2).toInt64) (own_min p1 p2) (own_max p1 p2)))]))
          by_cases c133_28 : (own_in ((own_max p1 p2).toInt64) (own_min p1 p2) (own_max p1 p2)) = (0 : Int32)
          · skip
            refine own_via (fun t k => XS.icmpNo X27.here hx rfl (hb hby at_133) rfl (teq c133_28).2 k) ?_
            show own_G p e below _ (T27.setTop (mkF m 136 #[.val (.int p1), .val (.int p2), .val (.int p3), .val (.int p4), .val (.int (own_min p1 p2)), .val (.int (own_max p1 p2)), .val (.int (p4 &&& (7 : Int32))), .val (.long ((own_max p1 p2).toInt64)), .second, .val (.ref b18), .val (.int (0 : Int32))] []))
            refine own_via (fun t k => XS.iconst X27.here hx rfl (hb hby at_136) k) ?_
            show own_G p e below _ (T27.setTop (mkF m 137 #[.val (.int p1), .val (.int p2), .val (.int p3), .val (.int p4), .val (.int (own_min p1 p2)), .val (.int (own_max p1 p2)), .val (.int (p4 &&& (7 : Int32))), .val (.long ((own_max p1 p2).toInt64)), .second, .val (.ref b18), .val (.int (0 : Int32))] [(.int (1 : Int32))]))
            refine own_via (fun t k => XS.goto X27.here hx rfl (pc0 := 137) (pc' := 141) rfl (hb hby at_137) (by decide) (by decide) k) ?_
            show own_G p e below _ (T27.setTop (mkF m 141 #[.val (.int p1), .val (.int p2), .val (.int p3), .val (.int p4), .val (.int (own_min p1 p2)), .val (.int (own_max p1 p2)), .val (.int (p4 &&& (7 : Int32))), .val (.long ((own_max p1 p2).toInt64)), .second, .val (.ref b18), .val (.int (0 : Int32))] [(.int (1 : Int32))]))
            obtain ⟨fs, hr, hrun, hended, hW, hsame⟩ := X27.leave (v := some (.int (1 : Int32))) (fun h => by rw [Bd.returns] at h; cases h)
            refine ⟨_, _, retN X27 hx (t := .boolean) Bd.returns (by simp) (hb hby at_141) hr, hrun, hended, _, _, rfl, ?_, ⟨_, rfl⟩, hW, hsame.mono (by decide) (by decide)⟩
            show rm0_Q Z p1 p2 p3 p4 h0 n0 _ T27.heap _
            rw [e27]
            exact ⟨rfl, N27⟩
          · exfalso
            exact c133_28 (by simp only [own_in, if_neg c104_23, if_pos c113_26])
        · skip
          refine own_via (fun t k => XS.ifNo X19.here hx rfl (hb hby at_113) rfl ((if0 _ _).trans (flt c113_26).2.2.1) k) ?_
          show own_G p e below _ (T19.setTop (mkF m 116 #[.val (.int p1), .val (.int p2), .val (.int p3), .val (.int p4), .val (.int (own_min p1 p2)), .val (.int (own_max p1 p2)), .val (.int (p4 &&& (7 : Int32))), .val (.long ((own_max p1 p2).toInt64)), .second, .val (.ref b18), .unset] []))
          refine own_via (fun t k => XS.iconst X19.here hx rfl (hb hby at_116) k) ?_
          show own_G p e below _ (T19.setTop (mkF m 117 #[.val (.int p1), .val (.int p2), .val (.int p3), .val (.int p4), .val (.int (own_min p1 p2)), .val (.int (own_max p1 p2)), .val (.int (p4 &&& (7 : Int32))), .val (.long ((own_max p1 p2).toInt64)), .second, .val (.ref b18), .unset] [(.int (1 : Int32))]))
          refine own_via (fun t k => XS.goto X19.here hx rfl (pc0 := 117) (pc' := 121) rfl (hb hby at_117) (by decide) (by decide) k) ?_
          show own_G p e below _ (T19.setTop (mkF m 121 #[.val (.int p1), .val (.int p2), .val (.int p3), .val (.int p4), .val (.int (own_min p1 p2)), .val (.int (own_max p1 p2)), .val (.int (p4 &&& (7 : Int32))), .val (.long ((own_max p1 p2).toInt64)), .second, .val (.ref b18), .unset] [(.int (1 : Int32))]))
          refine own_via (fun t k => XS.istore X19.here hx rfl (hb hby at_121) rfl (l' := #[.val (.int p1), .val (.int p2), .val (.int p3), .val (.int p4), .val (.int (own_min p1 p2)), .val (.int (own_max p1 p2)), .val (.int (p4 &&& (7 : Int32))), .val (.long ((own_max p1 p2).toInt64)), .second, .val (.ref b18), .val (.int (1 : Int32))]) rfl k) ?_
          show own_G p e below _ (T19.setTop (mkF m 123 #[.val (.int p1), .val (.int p2), .val (.int p3), .val (.int p4), .val (.int (own_min p1 p2)), .val (.int (own_max p1 p2)), .val (.int (p4 &&& (7 : Int32))), .val (.long ((own_max p1 p2).toInt64)), .second, .val (.ref b18), .val (.int (1 : Int32))] []))
          refine own_via (fun t k => XS.aload X19.here hx rfl (hb hby at_123) rfl rfl k) ?_
          show own_G p e below _ (T19.setTop (mkF m 125 #[.val (.int p1), .val (.int p2), .val (.int p3), .val (.int p4), .val (.int (own_min p1 p2)), .val (.int (own_max p1 p2)), .val (.int (p4 &&& (7 : Int32))), .val (.long ((own_max p1 p2).toInt64)), .second, .val (.ref b18), .val (.int (1 : Int32))] [(.ref b18)]))
          refine own_via (fun t k => XS.lload X19.here hx rfl (hb hby at_125) rfl k) ?_
          show own_G p e below _ (T19.setTop (mkF m 127 #[.val (.int p1), .val (.int p2), .val (.int p3), .val (.int p4), .val (.int (own_min p1 p2)), .val (.int (own_max p1 p2)), .val (.int (p4 &&& (7 : Int32))), .val (.long ((own_max p1 p2).toInt64)), .second, .val (.ref b18), .val (.int (1 : Int32))] [(.long ((own_max p1 p2).toInt64)), (.ref b18)]))
          refine own_via (fun t k => XS.l2dS X19.here hx rfl (hb hby at_127) rfl rfl k) ?_
          show own_G p e below _ (T19.setTop (mkF m 128 #[.val (.int p1), .val (.int p2), .val (.int p3), .val (.int p4), .val (.int (own_min p1 p2)), .val (.int (own_max p1 p2)), .val (.int (p4 &&& (7 : Int32))), .val (.long ((own_max p1 p2).toInt64)), .second, .val (.ref b18), .val (.int (1 : Int32))] [(.double (FP.l2d ((own_max p1 p2).toInt64))), (.ref b18)]))
          obtain ⟨cq29, kq29, q29a, q29b, q29c⟩ := isOf hZ rfl E19q
          obtain ⟨_, _, ⟨T29, L29, k29, n29⟩, -, X29, ⟨Lc29, hQ29, l29, y29, z29⟩, st29⟩ := X19.virtualBack hx (y := (⟨"com/example/fee_simple/feesimple/ratiostudy/Interval", "contains", "(D)Z"⟩ : MethodName)) (z := (⟨"com/example/fee_simple/feesimple/ratiostudy/Interval", "contains", "(D)Z"⟩ : MethodName)) hown (mvT hZ (hw _ (List.mem_of_getElem? (i := 28) rfl))) (mvT hZ (hw _ (List.mem_of_getElem? (i := 29) rfl))) (notFace_of_selects (args := #[]) (mvT hZ (hw _ (List.mem_of_getElem? (i := 31) rfl)))) (mvT hZ (hw _ (List.mem_of_getElem? (i := 31) rfl))) (mvT hZ (hw _ (List.mem_of_getElem? (i := 30) rfl))) (by decide) (backOf (W := 0) (rm7 l Z a0 hw [] b18 ((own_max p1 p2).toInt64) (own_min p1 p2) (own_max p1 p2) T19.heap n0 Z19 Fl19 Fc19 (own_b53 _)) hZ (hw _ (List.mem_of_getElem? (i := 32) rfl)) (hw _ (List.mem_of_getElem? (i := 9) rfl)) (by decide) (by decide)) q29a q29c (g := (mkF m 128 #[.val (.int p1), .val (.int p2), .val (.int p3), .val (.int p4), .val (.int (own_min p1 p2)), .val (.int (own_max p1 p2)), .val (.int (p4 &&& (7 : Int32))), .val (.long ((own_max p1 p2).toInt64)), .second, .val (.ref b18), .val (.int (1 : Int32))] [(.double (FP.l2d ((own_max p1 p2).toInt64))), (.ref b18)])) rfl (by rw [hml]; rfl) (Steps.refl _) (argsL := [(.double (FP.l2d ((own_max p1 p2).toInt64)))]) (rest := []) (lenOf pd_rm0_2 rfl) rfl (by show 2 * 0 + _ ≤ _; exact Nat.le_of_eq rfl) (hb hby at_128) (fun _ _ => ⟨rfl, rfl, (by decide : 1 + 0 ≤ _), (by decide : 2 + 0 ≤ _)⟩)
          dsimp only [Pt.U, Pt.locs, Pt.cells, Pt.slots] at X29 l29 y29 z29 st29 hQ29
          subst l29 y29 z29
          obtain ⟨rfl, N29q, e29⟩ := hQ29
          have N29 := Fr.app N19 N29q
          refine own_via (fun t k => st29.trans k) ?_
          show own_G p e below _ (T29.setTop (mkF m 131 #[.val (.int p1), .val (.int p2), .val (.int p3), .val (.int p4), .val (.int (own_min p1 p2)), .val (.int (own_max p1 p2)), .val (.int (p4 &&& (7 : Int32))), .val (.long ((own_max p1 p2).toInt64)), .second, .val (.ref b18), .val (.int (1 : Int32))] [(.int (own_in ((own_max p1 p2).toInt64) (own_min p1 p2) (own_max p1 p2)))]))
          refine own_via (fun t k => XS.iload X29.here hx rfl (hb hby at_131) rfl k) ?_
          show own_G p e below _ (T29.setTop (mkF m 133 #[.val (.int p1), .val (.int p2), .val (.int p3), .val (.int p4), .val (.int (own_min p1 p2)), .val (.int (own_max p1 p2)), .val (.int (p4 &&& (7 : Int32))), .val (.long ((own_max p1 p2).toInt64)), .second, .val (.ref b18), .val (.int (1 : Int32))] [(.int (1 : Int32)), (.int (own_in ((own_max p1 p2).toInt64) (own_min p1 p2) (own_max p1 p2)))]))
          by_cases c133_30 : (own_in ((own_max p1 p2).toInt64) (own_min p1 p2) (own_max p1 p2)) = (1 : Int32)
          · skip
            refine own_via (fun t k => XS.icmpNo X29.here hx rfl (hb hby at_133) rfl (teq c133_30).2 k) ?_
            show own_G p e below _ (T29.setTop (mkF m 136 #[.val (.int p1), .val (.int p2), .val (.int p3), .val (.int p4), .val (.int (own_min p1 p2)), .val (.int (own_max p1 p2)), .val (.int (p4 &&& (7 : Int32))), .val (.long ((own_max p1 p2).toInt64)), .second, .val (.ref b18), .val (.int (1 : Int32))] []))
            refine own_via (fun t k => XS.iconst X29.here hx rfl (hb hby at_136) k) ?_
            show own_G p e below _ (T29.setTop (mkF m 137 #[.val (.int p1), .val (.int p2), .val (.int p3), .val (.int p4), .val (.int (own_min p1 p2)), .val (.int (own_max p1 p2)), .val (.int (p4 &&& (7 : Int32))), .val (.long ((own_max p1 p2).toInt64)), .second, .val (.ref b18), .val (.int (1 : Int32))] [(.int (1 : Int32))]))
            refine own_via (fun t k => XS.goto X29.here hx rfl (pc0 := 137) (pc' := 141) rfl (hb hby at_137) (by decide) (by decide) k) ?_
            show own_G p e below _ (T29.setTop (mkF m 141 #[.val (.int p1), .val (.int p2), .val (.int p3), .val (.int p4), .val (.int (own_min p1 p2)), .val (.int (own_max p1 p2)), .val (.int (p4 &&& (7 : Int32))), .val (.long ((own_max p1 p2).toInt64)), .second, .val (.ref b18), .val (.int (1 : Int32))] [(.int (1 : Int32))]))
            obtain ⟨fs, hr, hrun, hended, hW, hsame⟩ := X29.leave (v := some (.int (1 : Int32))) (fun h => by rw [Bd.returns] at h; cases h)
            refine ⟨_, _, retN X29 hx (t := .boolean) Bd.returns (by simp) (hb hby at_141) hr, hrun, hended, _, _, rfl, ?_, ⟨_, rfl⟩, hW, hsame.mono (by decide) (by decide)⟩
            show rm0_Q Z p1 p2 p3 p4 h0 n0 _ T29.heap _
            rw [e29]
            exact ⟨rfl, N29⟩
          · exfalso
            exact c133_30 (by simp only [own_in, if_neg c104_23, if_neg c113_26])
    · skip
      refine own_via (fun t k => XS.icmpYes X2.here hx rfl (pc0 := 36) (pc' := 47) rfl (hb hby at_36) rfl (feq c36_17).2 (by decide) (by decide) k) ?_
      show own_G p e below _ (T2.setTop (mkF m 47 #[.val (.int p1), .val (.int p2), .val (.int p3), .val (.int p4), .val (.int (own_min p1 p2)), .val (.int (own_max p1 p2)), .val (.int (p4 &&& (7 : Int32))), .unset, .unset, .unset, .unset] []))
      refine own_via (fun t k => XS.iload X2.here hx rfl (hb hby at_47) rfl k) ?_
      show own_G p e below _ (T2.setTop (mkF m 49 #[.val (.int p1), .val (.int p2), .val (.int p3), .val (.int p4), .val (.int (own_min p1 p2)), .val (.int (own_max p1 p2)), .val (.int (p4 &&& (7 : Int32))), .unset, .unset, .unset, .unset] [(.int (p4 &&& (7 : Int32)))]))
      refine own_via (fun t k => XS.iconst X2.here hx rfl (hb hby at_49) k) ?_
      show own_G p e below _ (T2.setTop (mkF m 50 #[.val (.int p1), .val (.int p2), .val (.int p3), .val (.int p4), .val (.int (own_min p1 p2)), .val (.int (own_max p1 p2)), .val (.int (p4 &&& (7 : Int32))), .unset, .unset, .unset, .unset] [(.int (2 : Int32)), (.int (p4 &&& (7 : Int32)))]))
      by_cases c50_31 : (p4 &&& (7 : Int32)) = (2 : Int32)
      · skip
        refine own_via (fun t k => XS.icmpNo X2.here hx rfl (hb hby at_50) rfl (teq c50_31).2 k) ?_
        show own_G p e below _ (T2.setTop (mkF m 53 #[.val (.int p1), .val (.int p2), .val (.int p3), .val (.int p4), .val (.int (own_min p1 p2)), .val (.int (own_max p1 p2)), .val (.int (p4 &&& (7 : Int32))), .unset, .unset, .unset, .unset] []))
        refine own_via (fun t k => XS.iload X2.here hx rfl (hb hby at_53) rfl k) ?_
        show own_G p e below _ (T2.setTop (mkF m 55 #[.val (.int p1), .val (.int p2), .val (.int p3), .val (.int p4), .val (.int (own_min p1 p2)), .val (.int (own_max p1 p2)), .val (.int (p4 &&& (7 : Int32))), .unset, .unset, .unset, .unset] [(.int (own_min p1 p2))]))
        refine own_via (fun t k => XS.i2l X2.here hx rfl (hb hby at_55) rfl k) ?_
        show own_G p e below _ (T2.setTop (mkF m 56 #[.val (.int p1), .val (.int p2), .val (.int p3), .val (.int p4), .val (.int (own_min p1 p2)), .val (.int (own_max p1 p2)), .val (.int (p4 &&& (7 : Int32))), .unset, .unset, .unset, .unset] [(.long ((own_min p1 p2).toInt64))]))
        refine own_via (fun t k => XS.lconst X2.here hx rfl (hb hby at_56) k) ?_
        show own_G p e below _ (T2.setTop (mkF m 57 #[.val (.int p1), .val (.int p2), .val (.int p3), .val (.int p4), .val (.int (own_min p1 p2)), .val (.int (own_max p1 p2)), .val (.int (p4 &&& (7 : Int32))), .unset, .unset, .unset, .unset] [(.long (1 : Int64)), (.long ((own_min p1 p2).toInt64))]))
        refine own_via (fun t k => XS.lsub X2.here hx rfl (hb hby at_57) rfl k) ?_
        show own_G p e below _ (T2.setTop (mkF m 58 #[.val (.int p1), .val (.int p2), .val (.int p3), .val (.int p4), .val (.int (own_min p1 p2)), .val (.int (own_max p1 p2)), .val (.int (p4 &&& (7 : Int32))), .unset, .unset, .unset, .unset] [(.long (((own_min p1 p2).toInt64) - (1 : Int64)))]))
        refine own_via (fun t k => XS.lstore X2.here hx rfl (hb hby at_58) rfl (l' := #[.val (.int p1), .val (.int p2), .val (.int p3), .val (.int p4), .val (.int (own_min p1 p2)), .val (.int (own_max p1 p2)), .val (.int (p4 &&& (7 : Int32))), .val (.long (((own_min p1 p2).toInt64) - (1 : Int64))), .second, .unset, .unset]) rfl k) ?_
        show own_G p e below _ (T2.setTop (mkF m 60 #[.val (.int p1), .val (.int p2), .val (.int p3), .val (.int p4), .val (.int (own_min p1 p2)), .val (.int (own_max p1 p2)), .val (.int (p4 &&& (7 : Int32))), .val (.long (((own_min p1 p2).toInt64) - (1 : Int64))), .second, .unset, .unset] []))
        refine own_via (fun t k => XS.goto X2.here hx rfl (pc0 := 60) (pc' := 83) rfl (hb hby at_60) (by decide) (by decide) k) ?_
        show own_G p e below _ (T2.setTop (mkF m 83 #[.val (.int p1), .val (.int p2), .val (.int p3), .val (.int p4), .val (.int (own_min p1 p2)), .val (.int (own_max p1 p2)), .val (.int (p4 &&& (7 : Int32))), .val (.long (((own_min p1 p2).toInt64) - (1 : Int64))), .second, .unset, .unset] []))
        obtain ⟨T32, h32, X32, e32, E32, A32, D32, -, st32⟩ := newO X2 hx hZ hown (hw _ (List.mem_of_getElem? (i := 7) rfl)) (hw _ (List.mem_of_getElem? (i := 8) rfl)) (hw _ (List.mem_of_getElem? (i := 9) rfl)) e2 (g := (mkF m 83 #[.val (.int p1), .val (.int p2), .val (.int p3), .val (.int p4), .val (.int (own_min p1 p2)), .val (.int (own_max p1 p2)), .val (.int (p4 &&& (7 : Int32))), .val (.long (((own_min p1 p2).toInt64) - (1 : Int64))), .second, .unset, .unset] [])) rfl (hb hby at_83) (by decide) (by decide)
        obtain ⟨b32, g32⟩ : ∃ z, z = h0.size := ⟨_, rfl⟩
        rw [← g32] at A32 D32 st32
        have gx_b32 : n0 ≤ b32 := Nat.le_trans Z0 (Nat.le_of_eq g32.symm)
        have Z32 : n0 ≤ h32.size := Nat.le_trans Z0 E32.1
        have F32_low : Fld Z h32 b32 "com/example/fee_simple/feesimple/ratiostudy/Interval" "low" "D" (.double (0 : UInt64)) := D32 (Or.inr (hw _ (List.mem_of_getElem? (i := 25) rfl))) (ty := .double) (by decide)
        have F32_high : Fld Z h32 b32 "com/example/fee_simple/feesimple/ratiostudy/Interval" "high" "D" (.double (0 : UInt64)) := D32 (Or.inr (hw _ (List.mem_of_getElem? (i := 27) rfl))) (ty := .double) (by decide)
        refine own_via st32 ?_
        show own_G p e below _ (T32.setTop (mkF m 86 #[.val (.int p1), .val (.int p2), .val (.int p3), .val (.int p4), .val (.int (own_min p1 p2)), .val (.int (own_max p1 p2)), .val (.int (p4 &&& (7 : Int32))), .val (.long (((own_min p1 p2).toInt64) - (1 : Int64))), .second, .unset, .unset] [(.ref b32)]))
        refine own_via (fun t k => XS.dup X32.here hx rfl (hb hby at_86) rfl rfl k) ?_
        show own_G p e below _ (T32.setTop (mkF m 87 #[.val (.int p1), .val (.int p2), .val (.int p3), .val (.int p4), .val (.int (own_min p1 p2)), .val (.int (own_max p1 p2)), .val (.int (p4 &&& (7 : Int32))), .val (.long (((own_min p1 p2).toInt64) - (1 : Int64))), .second, .unset, .unset] [(.ref b32), (.ref b32)]))
        refine own_via (fun t k => XS.iload X32.here hx rfl (hb hby at_87) rfl k) ?_
        show own_G p e below _ (T32.setTop (mkF m 89 #[.val (.int p1), .val (.int p2), .val (.int p3), .val (.int p4), .val (.int (own_min p1 p2)), .val (.int (own_max p1 p2)), .val (.int (p4 &&& (7 : Int32))), .val (.long (((own_min p1 p2).toInt64) - (1 : Int64))), .second, .unset, .unset] [(.int (own_min p1 p2)), (.ref b32), (.ref b32)]))
        refine own_via (fun t k => XS.i2dS X32.here hx rfl (hb hby at_89) rfl rfl k) ?_
        show own_G p e below _ (T32.setTop (mkF m 90 #[.val (.int p1), .val (.int p2), .val (.int p3), .val (.int p4), .val (.int (own_min p1 p2)), .val (.int (own_max p1 p2)), .val (.int (p4 &&& (7 : Int32))), .val (.long (((own_min p1 p2).toInt64) - (1 : Int64))), .second, .unset, .unset] [(.double (FP.i2d (own_min p1 p2))), (.ref b32), (.ref b32)]))
        refine own_via (fun t k => XS.iload X32.here hx rfl (hb hby at_90) rfl k) ?_
        show own_G p e below _ (T32.setTop (mkF m 92 #[.val (.int p1), .val (.int p2), .val (.int p3), .val (.int p4), .val (.int (own_min p1 p2)), .val (.int (own_max p1 p2)), .val (.int (p4 &&& (7 : Int32))), .val (.long (((own_min p1 p2).toInt64) - (1 : Int64))), .second, .unset, .unset] [(.int (own_max p1 p2)), (.double (FP.i2d (own_min p1 p2))), (.ref b32), (.ref b32)]))
        refine own_via (fun t k => XS.i2dS X32.here hx rfl (hb hby at_92) rfl rfl k) ?_
        show own_G p e below _ (T32.setTop (mkF m 93 #[.val (.int p1), .val (.int p2), .val (.int p3), .val (.int p4), .val (.int (own_min p1 p2)), .val (.int (own_max p1 p2)), .val (.int (p4 &&& (7 : Int32))), .val (.long (((own_min p1 p2).toInt64) - (1 : Int64))), .second, .unset, .unset] [(.double (FP.i2d (own_max p1 p2))), (.double (FP.i2d (own_min p1 p2))), (.ref b32), (.ref b32)]))
        obtain ⟨_, _, ⟨T33, L33, k33, n33⟩, -, X33, ⟨Lc33, hQ33, l33, y33, z33⟩, st33⟩ := X32.specialBack hx (y := (⟨"com/example/fee_simple/feesimple/ratiostudy/Interval", "<init>", "(DD)V"⟩ : MethodName)) rfl hown (mvT hZ (hw _ (List.mem_of_getElem? (i := 10) rfl))) (mvT hZ (hw _ (List.mem_of_getElem? (i := 11) rfl))) (mvT hZ (hw _ (List.mem_of_getElem? (i := 12) rfl))) (by decide) (backOf (W := 1) (rm3 l Z a0 hw [] b32 (own_min p1 p2) (own_max p1 p2) h32 n0 Z32 A32 F32_low F32_high gx_b32 (own_mm _ _)) hZ (hw _ (List.mem_of_getElem? (i := 12) rfl)) (hw _ (List.mem_of_getElem? (i := 9) rfl)) (by decide) (by decide)) (g := (mkF m 93 #[.val (.int p1), .val (.int p2), .val (.int p3), .val (.int p4), .val (.int (own_min p1 p2)), .val (.int (own_max p1 p2)), .val (.int (p4 &&& (7 : Int32))), .val (.long (((own_min p1 p2).toInt64) - (1 : Int64))), .second, .unset, .unset] [(.double (FP.i2d (own_max p1 p2))), (.double (FP.i2d (own_min p1 p2))), (.ref b32), (.ref b32)])) rfl (by rw [hml]; rfl) (Steps.refl _) (a := b32) (argsL := [(.double (FP.i2d (own_min p1 p2))), (.double (FP.i2d (own_max p1 p2)))]) (rest := [(.ref b32)]) (lenOf pd_rm0_1 rfl) rfl (by show 2 * 0 + _ ≤ _; exact Nat.le_of_eq rfl) (hb hby at_93) (fun _ _ => ⟨rfl, e32, (by decide : 1 + 0 ≤ _), (by decide : 2 + 0 ≤ _)⟩)
        dsimp only [Pt.U, Pt.locs, Pt.cells, Pt.slots] at X33 l33 y33 z33 st33 hQ33
        subst l33 y33 z33
        obtain ⟨rfl, N33q, K33, E33q, Fl33, Fc33⟩ := hQ33
        have N33 := Fr.app N2 N33q
        have F34 := A32.keep K33
        have Z33 : n0 ≤ T33.heap.size := Nat.le_trans Z32 K33.1
        refine own_via (fun t k => st33.trans k) ?_
        show own_G p e below _ (T33.setTop (mkF m 96 #[.val (.int p1), .val (.int p2), .val (.int p3), .val (.int p4), .val (.int (own_min p1 p2)), .val (.int (own_max p1 p2)), .val (.int (p4 &&& (7 : Int32))), .val (.long (((own_min p1 p2).toInt64) - (1 : Int64))), .second, .unset, .unset] [(.ref b32)]))
        refine own_via (fun t k => XS.astore X33.here hx rfl (hb hby at_96) rfl rfl (l' := #[.val (.int p1), .val (.int p2), .val (.int p3), .val (.int p4), .val (.int (own_min p1 p2)), .val (.int (own_max p1 p2)), .val (.int (p4 &&& (7 : Int32))), .val (.long (((own_min p1 p2).toInt64) - (1 : Int64))), .second, .val (.ref b32), .unset]) rfl k) ?_
        show own_G p e below _ (T33.setTop (mkF m 98 #[.val (.int p1), .val (.int p2), .val (.int p3), .val (.int p4), .val (.int (own_min p1 p2)), .val (.int (own_max p1 p2)), .val (.int (p4 &&& (7 : Int32))), .val (.long (((own_min p1 p2).toInt64) - (1 : Int64))), .second, .val (.ref b32), .unset] []))
        refine own_via (fun t k => XS.lload X33.here hx rfl (hb hby at_98) rfl k) ?_
        show own_G p e below _ (T33.setTop (mkF m 100 #[.val (.int p1), .val (.int p2), .val (.int p3), .val (.int p4), .val (.int (own_min p1 p2)), .val (.int (own_max p1 p2)), .val (.int (p4 &&& (7 : Int32))), .val (.long (((own_min p1 p2).toInt64) - (1 : Int64))), .second, .val (.ref b32), .unset] [(.long (((own_min p1 p2).toInt64) - (1 : Int64)))]))
        refine own_via (fun t k => XS.iload X33.here hx rfl (hb hby at_100) rfl k) ?_
        show own_G p e below _ (T33.setTop (mkF m 102 #[.val (.int p1), .val (.int p2), .val (.int p3), .val (.int p4), .val (.int (own_min p1 p2)), .val (.int (own_max p1 p2)), .val (.int (p4 &&& (7 : Int32))), .val (.long (((own_min p1 p2).toInt64) - (1 : Int64))), .second, .val (.ref b32), .unset] [(.int (own_min p1 p2)), (.long (((own_min p1 p2).toInt64) - (1 : Int64)))]))
        refine own_via (fun t k => XS.i2l X33.here hx rfl (hb hby at_102) rfl k) ?_
        show own_G p e below _ (T33.setTop (mkF m 103 #[.val (.int p1), .val (.int p2), .val (.int p3), .val (.int p4), .val (.int (own_min p1 p2)), .val (.int (own_max p1 p2)), .val (.int (p4 &&& (7 : Int32))), .val (.long (((own_min p1 p2).toInt64) - (1 : Int64))), .second, .val (.ref b32), .unset] [(.long ((own_min p1 p2).toInt64)), (.long (((own_min p1 p2).toInt64) - (1 : Int64)))]))
        refine own_via (fun t k => XS.lcmp X33.here hx rfl (hb hby at_103) rfl k) ?_
        show own_G p e below _ (T33.setTop (mkF m 104 #[.val (.int p1), .val (.int p2), .val (.int p3), .val (.int p4), .val (.int (own_min p1 p2)), .val (.int (own_max p1 p2)), .val (.int (p4 &&& (7 : Int32))), .val (.long (((own_min p1 p2).toInt64) - (1 : Int64))), .second, .val (.ref b32), .unset] [(.int (lcmpW (((own_min p1 p2).toInt64) - (1 : Int64)) ((own_min p1 p2).toInt64)))]))
        by_cases c104_37 : (lcmpW (((own_min p1 p2).toInt64) - (1 : Int64)) ((own_min p1 p2).toInt64)) < (0 : Int32)
        · skip
          refine own_via (fun t k => XS.ifYes X33.here hx rfl (pc0 := 104) (pc' := 120) rfl (hb hby at_104) rfl ((if0 _ _).trans (tlt c104_37).1) (by decide) (by decide) k) ?_
          show own_G p e below _ (T33.setTop (mkF m 120 #[.val (.int p1), .val (.int p2), .val (.int p3), .val (.int p4), .val (.int (own_min p1 p2)), .val (.int (own_max p1 p2)), .val (.int (p4 &&& (7 : Int32))), .val (.long (((own_min p1 p2).toInt64) - (1 : Int64))), .second, .val (.ref b32), .unset] []))
          refine own_via (fun t k => XS.iconst X33.here hx rfl (hb hby at_120) k) ?_
          show own_G p e below _ (T33.setTop (mkF m 121 #[.val (.int p1), .val (.int p2), .val (.int p3), .val (.int p4), .val (.int (own_min p1 p2)), .val (.int (own_max p1 p2)), .val (.int (p4 &&& (7 : Int32))), .val (.long (((own_min p1 p2).toInt64) - (1 : Int64))), .second, .val (.ref b32), .unset] [(.int (0 : Int32))]))
          refine own_via (fun t k => XS.istore X33.here hx rfl (hb hby at_121) rfl (l' := #[.val (.int p1), .val (.int p2), .val (.int p3), .val (.int p4), .val (.int (own_min p1 p2)), .val (.int (own_max p1 p2)), .val (.int (p4 &&& (7 : Int32))), .val (.long (((own_min p1 p2).toInt64) - (1 : Int64))), .second, .val (.ref b32), .val (.int (0 : Int32))]) rfl k) ?_
          show own_G p e below _ (T33.setTop (mkF m 123 #[.val (.int p1), .val (.int p2), .val (.int p3), .val (.int p4), .val (.int (own_min p1 p2)), .val (.int (own_max p1 p2)), .val (.int (p4 &&& (7 : Int32))), .val (.long (((own_min p1 p2).toInt64) - (1 : Int64))), .second, .val (.ref b32), .val (.int (0 : Int32))] []))
          refine own_via (fun t k => XS.aload X33.here hx rfl (hb hby at_123) rfl rfl k) ?_
          show own_G p e below _ (T33.setTop (mkF m 125 #[.val (.int p1), .val (.int p2), .val (.int p3), .val (.int p4), .val (.int (own_min p1 p2)), .val (.int (own_max p1 p2)), .val (.int (p4 &&& (7 : Int32))), .val (.long (((own_min p1 p2).toInt64) - (1 : Int64))), .second, .val (.ref b32), .val (.int (0 : Int32))] [(.ref b32)]))
          refine own_via (fun t k => XS.lload X33.here hx rfl (hb hby at_125) rfl k) ?_
          show own_G p e below _ (T33.setTop (mkF m 127 #[.val (.int p1), .val (.int p2), .val (.int p3), .val (.int p4), .val (.int (own_min p1 p2)), .val (.int (own_max p1 p2)), .val (.int (p4 &&& (7 : Int32))), .val (.long (((own_min p1 p2).toInt64) - (1 : Int64))), .second, .val (.ref b32), .val (.int (0 : Int32))] [(.long (((own_min p1 p2).toInt64) - (1 : Int64))), (.ref b32)]))
          refine own_via (fun t k => XS.l2dS X33.here hx rfl (hb hby at_127) rfl rfl k) ?_
          show own_G p e below _ (T33.setTop (mkF m 128 #[.val (.int p1), .val (.int p2), .val (.int p3), .val (.int p4), .val (.int (own_min p1 p2)), .val (.int (own_max p1 p2)), .val (.int (p4 &&& (7 : Int32))), .val (.long (((own_min p1 p2).toInt64) - (1 : Int64))), .second, .val (.ref b32), .val (.int (0 : Int32))] [(.double (FP.l2d (((own_min p1 p2).toInt64) - (1 : Int64)))), (.ref b32)]))
          obtain ⟨cq38, kq38, q38a, q38b, q38c⟩ := isOf hZ rfl E33q
          obtain ⟨_, _, ⟨T38, L38, k38, n38⟩, -, X38, ⟨Lc38, hQ38, l38, y38, z38⟩, st38⟩ := X33.virtualBack hx (y := (⟨"com/example/fee_simple/feesimple/ratiostudy/Interval", "contains", "(D)Z"⟩ : MethodName)) (z := (⟨"com/example/fee_simple/feesimple/ratiostudy/Interval", "contains", "(D)Z"⟩ : MethodName)) hown (mvT hZ (hw _ (List.mem_of_getElem? (i := 28) rfl))) (mvT hZ (hw _ (List.mem_of_getElem? (i := 29) rfl))) (notFace_of_selects (args := #[]) (mvT hZ (hw _ (List.mem_of_getElem? (i := 31) rfl)))) (mvT hZ (hw _ (List.mem_of_getElem? (i := 31) rfl))) (mvT hZ (hw _ (List.mem_of_getElem? (i := 30) rfl))) (by decide) (backOf (W := 0) (rm7 l Z a0 hw [] b32 (((own_min p1 p2).toInt64) - (1 : Int64)) (own_min p1 p2) (own_max p1 p2) T33.heap n0 Z33 Fl33 Fc33 (own_bm _)) hZ (hw _ (List.mem_of_getElem? (i := 32) rfl)) (hw _ (List.mem_of_getElem? (i := 9) rfl)) (by decide) (by decide)) q38a q38c (g := (mkF m 128 #[.val (.int p1), .val (.int p2), .val (.int p3), .val (.int p4), .val (.int (own_min p1 p2)), .val (.int (own_max p1 p2)), .val (.int (p4 &&& (7 : Int32))), .val (.long (((own_min p1 p2).toInt64) - (1 : Int64))), .second, .val (.ref b32), .val (.int (0 : Int32))] [(.double (FP.l2d (((own_min p1 p2).toInt64) - (1 : Int64)))), (.ref b32)])) rfl (by rw [hml]; rfl) (Steps.refl _) (argsL := [(.double (FP.l2d (((own_min p1 p2).toInt64) - (1 : Int64))))]) (rest := []) (lenOf pd_rm0_2 rfl) rfl (by show 2 * 0 + _ ≤ _; exact Nat.le_of_eq rfl) (hb hby at_128) (fun _ _ => ⟨rfl, rfl, (by decide : 1 + 0 ≤ _), (by decide : 2 + 0 ≤ _)⟩)
          dsimp only [Pt.U, Pt.locs, Pt.cells, Pt.slots] at X38 l38 y38 z38 st38 hQ38
          subst l38 y38 z38
          obtain ⟨rfl, N38q, e38⟩ := hQ38
          have N38 := Fr.app N33 N38q
          refine own_via (fun t k => st38.trans k) ?_
          show own_G p e below _ (T38.setTop (mkF m 131 #[.val (.int p1), .val (.int p2), .val (.int p3), .val (.int p4), .val (.int (own_min p1 p2)), .val (.int (own_max p1 p2)), .val (.int (p4 &&& (7 : Int32))), .val (.long (((own_min p1 p2).toInt64) - (1 : Int64))), .second, .val (.ref b32), .val (.int (0 : Int32))] [(.int (own_in (((own_min p1 p2).toInt64) - (1 : Int64)) (own_min p1 p2) (own_max p1 p2)))]))
          refine own_via (fun t k => XS.iload X38.here hx rfl (hb hby at_131) rfl k) ?_
          show own_G p e below _ (T38.setTop (mkF m 133 #[.val (.int p1), .val (.int p2), .val (.int p3), .val (.int p4), .val (.int (own_min p1 p2)), .val (.int (own_max p1 p2)), .val (.int (p4 &&& (7 : Int32))), .val (.long (((own_min p1 p2).toInt64) - (1 : Int64))), .second, .val (.ref b32), .val (.int (0 : Int32))] [(.int (0 : Int32)), (.int (own_in (((own_min p1 p2).toInt64) - (1 : Int64)) (own_min p1 p2) (own_max p1 p2)))]))
          by_cases c133_39 : (own_in (((own_min p1 p2).toInt64) - (1 : Int64)) (own_min p1 p2) (own_max p1 p2)) = (0 : Int32)
          · skip
            refine own_via (fun t k => XS.icmpNo X38.here hx rfl (hb hby at_133) rfl (teq c133_39).2 k) ?_
            show own_G p e below _ (T38.setTop (mkF m 136 #[.val (.int p1), .val (.int p2), .val (.int p3), .val (.int p4), .val (.int (own_min p1 p2)), .val (.int (own_max p1 p2)), .val (.int (p4 &&& (7 : Int32))), .val (.long (((own_min p1 p2).toInt64) - (1 : Int64))), .second, .val (.ref b32), .val (.int (0 : Int32))] []))
            refine own_via (fun t k => XS.iconst X38.here hx rfl (hb hby at_136) k) ?_
            show own_G p e below _ (T38.setTop (mkF m 137 #[.val (.int p1), .val (.int p2), .val (.int p3), .val (.int p4), .val (.int (own_min p1 p2)), .val (.int (own_max p1 p2)), .val (.int (p4 &&& (7 : Int32))), .val (.long (((own_min p1 p2).toInt64) - (1 : Int64))), .second, .val (.ref b32), .val (.int (0 : Int32))] [(.int (1 : Int32))]))
            refine own_via (fun t k => XS.goto X38.here hx rfl (pc0 := 137) (pc' := 141) rfl (hb hby at_137) (by decide) (by decide) k) ?_
            show own_G p e below _ (T38.setTop (mkF m 141 #[.val (.int p1), .val (.int p2), .val (.int p3), .val (.int p4), .val (.int (own_min p1 p2)), .val (.int (own_max p1 p2)), .val (.int (p4 &&& (7 : Int32))), .val (.long (((own_min p1 p2).toInt64) - (1 : Int64))), .second, .val (.ref b32), .val (.int (0 : Int32))] [(.int (1 : Int32))]))
            obtain ⟨fs, hr, hrun, hended, hW, hsame⟩ := X38.leave (v := some (.int (1 : Int32))) (fun h => by rw [Bd.returns] at h; cases h)
            refine ⟨_, _, retN X38 hx (t := .boolean) Bd.returns (by simp) (hb hby at_141) hr, hrun, hended, _, _, rfl, ?_, ⟨_, rfl⟩, hW, hsame.mono (by decide) (by decide)⟩
            show rm0_Q Z p1 p2 p3 p4 h0 n0 _ T38.heap _
            rw [e38]
            exact ⟨rfl, N38⟩
          · exfalso
            exact c133_39 (by simp only [own_in, if_pos c104_37])
        · skip
          refine own_via (fun t k => XS.ifNo X33.here hx rfl (hb hby at_104) rfl ((if0 _ _).trans (flt c104_37).1) k) ?_
          show own_G p e below _ (T33.setTop (mkF m 107 #[.val (.int p1), .val (.int p2), .val (.int p3), .val (.int p4), .val (.int (own_min p1 p2)), .val (.int (own_max p1 p2)), .val (.int (p4 &&& (7 : Int32))), .val (.long (((own_min p1 p2).toInt64) - (1 : Int64))), .second, .val (.ref b32), .unset] []))
          refine own_via (fun t k => XS.lload X33.here hx rfl (hb hby at_107) rfl k) ?_
          show own_G p e below _ (T33.setTop (mkF m 109 #[.val (.int p1), .val (.int p2), .val (.int p3), .val (.int p4), .val (.int (own_min p1 p2)), .val (.int (own_max p1 p2)), .val (.int (p4 &&& (7 : Int32))), .val (.long (((own_min p1 p2).toInt64) - (1 : Int64))), .second, .val (.ref b32), .unset] [(.long (((own_min p1 p2).toInt64) - (1 : Int64)))]))
          refine own_via (fun t k => XS.iload X33.here hx rfl (hb hby at_109) rfl k) ?_
          show own_G p e below _ (T33.setTop (mkF m 111 #[.val (.int p1), .val (.int p2), .val (.int p3), .val (.int p4), .val (.int (own_min p1 p2)), .val (.int (own_max p1 p2)), .val (.int (p4 &&& (7 : Int32))), .val (.long (((own_min p1 p2).toInt64) - (1 : Int64))), .second, .val (.ref b32), .unset] [(.int (own_max p1 p2)), (.long (((own_min p1 p2).toInt64) - (1 : Int64)))]))
          refine own_via (fun t k => XS.i2l X33.here hx rfl (hb hby at_111) rfl k) ?_
          show own_G p e below _ (T33.setTop (mkF m 112 #[.val (.int p1), .val (.int p2), .val (.int p3), .val (.int p4), .val (.int (own_min p1 p2)), .val (.int (own_max p1 p2)), .val (.int (p4 &&& (7 : Int32))), .val (.long (((own_min p1 p2).toInt64) - (1 : Int64))), .second, .val (.ref b32), .unset] [(.long ((own_max p1 p2).toInt64)), (.long (((own_min p1 p2).toInt64) - (1 : Int64)))]))
          refine own_via (fun t k => XS.lcmp X33.here hx rfl (hb hby at_112) rfl k) ?_
          show own_G p e below _ (T33.setTop (mkF m 113 #[.val (.int p1), .val (.int p2), .val (.int p3), .val (.int p4), .val (.int (own_min p1 p2)), .val (.int (own_max p1 p2)), .val (.int (p4 &&& (7 : Int32))), .val (.long (((own_min p1 p2).toInt64) - (1 : Int64))), .second, .val (.ref b32), .unset] [(.int (lcmpW (((own_min p1 p2).toInt64) - (1 : Int64)) ((own_max p1 p2).toInt64)))]))
          by_cases c113_40 : (0 : Int32) < (lcmpW (((own_min p1 p2).toInt64) - (1 : Int64)) ((own_max p1 p2).toInt64))
          · skip
            refine own_via (fun t k => XS.ifYes X33.here hx rfl (pc0 := 113) (pc' := 120) rfl (hb hby at_113) rfl ((if0 _ _).trans (tlt c113_40).2.2.1) (by decide) (by decide) k) ?_
            show own_G p e below _ (T33.setTop (mkF m 120 #[.val (.int p1), .val (.int p2), .val (.int p3), .val (.int p4), .val (.int (own_min p1 p2)), .val (.int (own_max p1 p2)), .val (.int (p4 &&& (7 : Int32))), .val (.long (((own_min p1 p2).toInt64) - (1 : Int64))), .second, .val (.ref b32), .unset] []))
            refine own_via (fun t k => XS.iconst X33.here hx rfl (hb hby at_120) k) ?_
            show own_G p e below _ (T33.setTop (mkF m 121 #[.val (.int p1), .val (.int p2), .val (.int p3), .val (.int p4), .val (.int (own_min p1 p2)), .val (.int (own_max p1 p2)), .val (.int (p4 &&& (7 : Int32))), .val (.long (((own_min p1 p2).toInt64) - (1 : Int64))), .second, .val (.ref b32), .unset] [(.int (0 : Int32))]))
            refine own_via (fun t k => XS.istore X33.here hx rfl (hb hby at_121) rfl (l' := #[.val (.int p1), .val (.int p2), .val (.int p3), .val (.int p4), .val (.int (own_min p1 p2)), .val (.int (own_max p1 p2)), .val (.int (p4 &&& (7 : Int32))), .val (.long (((own_min p1 p2).toInt64) - (1 : Int64))), .second, .val (.ref b32), .val (.int (0 : Int32))]) rfl k) ?_
            show own_G p e below _ (T33.setTop (mkF m 123 #[.val (.int p1), .val (.int p2), .val (.int p3), .val (.int p4), .val (.int (own_min p1 p2)), .val (.int (own_max p1 p2)), .val (.int (p4 &&& (7 : Int32))), .val (.long (((own_min p1 p2).toInt64) - (1 : Int64))), .second, .val (.ref b32), .val (.int (0 : Int32))] []))
            refine own_via (fun t k => XS.aload X33.here hx rfl (hb hby at_123) rfl rfl k) ?_
            show own_G p e below _ (T33.setTop (mkF m 125 #[.val (.int p1), .val (.int p2), .val (.int p3), .val (.int p4), .val (.int (own_min p1 p2)), .val (.int (own_max p1 p2)), .val (.int (p4 &&& (7 : Int32))), .val (.long (((own_min p1 p2).toInt64) - (1 : Int64))), .second, .val (.ref b32), .val (.int (0 : Int32))] [(.ref b32)]))
            refine own_via (fun t k => XS.lload X33.here hx rfl (hb hby at_125) rfl k) ?_
            show own_G p e below _ (T33.setTop (mkF m 127 #[.val (.int p1), .val (.int p2), .val (.int p3), .val (.int p4), .val (.int (own_min p1 p2)), .val (.int (own_max p1 p2)), .val (.int (p4 &&& (7 : Int32))), .val (.long (((own_min p1 p2).toInt64) - (1 : Int64))), .second, .val (.ref b32), .val (.int (0 : Int32))] [(.long (((own_min p1 p2).toInt64) - (1 : Int64))), (.ref b32)]))
            refine own_via (fun t k => XS.l2dS X33.here hx rfl (hb hby at_127) rfl rfl k) ?_
            show own_G p e below _ (T33.setTop (mkF m 128 #[.val (.int p1), .val (.int p2), .val (.int p3), .val (.int p4), .val (.int (own_min p1 p2)), .val (.int (own_max p1 p2)), .val (.int (p4 &&& (7 : Int32))), .val (.long (((own_min p1 p2).toInt64) - (1 : Int64))), .second, .val (.ref b32), .val (.int (0 : Int32))] [(.double (FP.l2d (((own_min p1 p2).toInt64) - (1 : Int64)))), (.ref b32)]))
            obtain ⟨cq41, kq41, q41a, q41b, q41c⟩ := isOf hZ rfl E33q
            obtain ⟨_, _, ⟨T41, L41, k41, n41⟩, -, X41, ⟨Lc41, hQ41, l41, y41, z41⟩, st41⟩ := X33.virtualBack hx (y := (⟨"com/example/fee_simple/feesimple/ratiostudy/Interval", "contains", "(D)Z"⟩ : MethodName)) (z := (⟨"com/example/fee_simple/feesimple/ratiostudy/Interval", "contains", "(D)Z"⟩ : MethodName)) hown (mvT hZ (hw _ (List.mem_of_getElem? (i := 28) rfl))) (mvT hZ (hw _ (List.mem_of_getElem? (i := 29) rfl))) (notFace_of_selects (args := #[]) (mvT hZ (hw _ (List.mem_of_getElem? (i := 31) rfl)))) (mvT hZ (hw _ (List.mem_of_getElem? (i := 31) rfl))) (mvT hZ (hw _ (List.mem_of_getElem? (i := 30) rfl))) (by decide) (backOf (W := 0) (rm7 l Z a0 hw [] b32 (((own_min p1 p2).toInt64) - (1 : Int64)) (own_min p1 p2) (own_max p1 p2) T33.heap n0 Z33 Fl33 Fc33 (own_bm _)) hZ (hw _ (List.mem_of_getElem? (i := 32) rfl)) (hw _ (List.mem_of_getElem? (i := 9) rfl)) (by decide) (by decide)) q41a q41c (g := (mkF m 128 #[.val (.int p1), .val (.int p2), .val (.int p3), .val (.int p4), .val (.int (own_min p1 p2)), .val (.int (own_max p1 p2)), .val (.int (p4 &&& (7 : Int32))), .val (.long (((own_min p1 p2).toInt64) - (1 : Int64))), .second, .val (.ref b32), .val (.int (0 : Int32))] [(.double (FP.l2d (((own_min p1 p2).toInt64) - (1 : Int64)))), (.ref b32)])) rfl (by rw [hml]; rfl) (Steps.refl _) (argsL := [(.double (FP.l2d (((own_min p1 p2).toInt64) - (1 : Int64))))]) (rest := []) (lenOf pd_rm0_2 rfl) rfl (by show 2 * 0 + _ ≤ _; exact Nat.le_of_eq rfl) (hb hby at_128) (fun _ _ => ⟨rfl, rfl, (by decide : 1 + 0 ≤ _), (by decide : 2 + 0 ≤ _)⟩)
            dsimp only [Pt.U, Pt.locs, Pt.cells, Pt.slots] at X41 l41 y41 z41 st41 hQ41
            subst l41 y41 z41
            obtain ⟨rfl, N41q, e41⟩ := hQ41
            have N41 := Fr.app N33 N41q
            refine own_via (fun t k => st41.trans k) ?_
            show own_G p e below _ (T41.setTop (mkF m 131 #[.val (.int p1), .val (.int p2), .val (.int p3), .val (.int p4), .val (.int (own_min p1 p2)), .val (.int (own_max p1 p2)), .val (.int (p4 &&& (7 : Int32))), .val (.long (((own_min p1 p2).toInt64) - (1 : Int64))), .second, .val (.ref b32), .val (.int (0 : Int32))] [(.int (own_in (((own_min p1 p2).toInt64) - (1 : Int64)) (own_min p1 p2) (own_max p1 p2)))]))
            refine own_via (fun t k => XS.iload X41.here hx rfl (hb hby at_131) rfl k) ?_
            show own_G p e below _ (T41.setTop (mkF m 133 #[.val (.int p1), .val (.int p2), .val (.int p3), .val (.int p4), .val (.int (own_min p1 p2)), .val (.int (own_max p1 p2)), .val (.int (p4 &&& (7 : Int32))), .val (.long (((own_min p1 p2).toInt64) - (1 : Int64))), .second, .val (.ref b32), .val (.int (0 : Int32))] [(.int (0 : Int32)), (.int (own_in (((own_min p1 p2).toInt64) - (1 : Int64)) (own_min p1 p2) (own_max p1 p2)))]))
            by_cases c133_42 : (own_in (((own_min p1 p2).toInt64) - (1 : Int64)) (own_min p1 p2) (own_max p1 p2)) = (0 : Int32)
            · skip
              refine own_via (fun t k => XS.icmpNo X41.here hx rfl (hb hby at_133) rfl (teq c133_42).2 k) ?_
              show own_G p e below _ (T41.setTop (mkF m 136 #[.val (.int p1), .val (.int p2), .val (.int p3), .val (.int p4), .val (.int (own_min p1 p2)), .val (.int (own_max p1 p2)), .val (.int (p4 &&& (7 : Int32))), .val (.long (((own_min p1 p2).toInt64) - (1 : Int64))), .second, .val (.ref b32), .val (.int (0 : Int32))] []))
              refine own_via (fun t k => XS.iconst X41.here hx rfl (hb hby at_136) k) ?_
              show own_G p e below _ (T41.setTop (mkF m 137 #[.val (.int p1), .val (.int p2), .val (.int p3), .val (.int p4), .val (.int (own_min p1 p2)), .val (.int (own_max p1 p2)), .val (.int (p4 &&& (7 : Int32))), .val (.long (((own_min p1 p2).toInt64) - (1 : Int64))), .second, .val (.ref b32), .val (.int (0 : Int32))] [(.int (1 : Int32))]))
              refine own_via (fun t k => XS.goto X41.here hx rfl (pc0 := 137) (pc' := 141) rfl (hb hby at_137) (by decide) (by decide) k) ?_
              show own_G p e below _ (T41.setTop (mkF m 141 #[.val (.int p1), .val (.int p2), .val (.int p3), .val (.int p4), .val (.int (own_min p1 p2)), .val (.int (own_max p1 p2)), .val (.int (p4 &&& (7 : Int32))), .val (.long (((own_min p1 p2).toInt64) - (1 : Int64))), .second, .val (.ref b32), .val (.int (0 : Int32))] [(.int (1 : Int32))]))
              obtain ⟨fs, hr, hrun, hended, hW, hsame⟩ := X41.leave (v := some (.int (1 : Int32))) (fun h => by rw [Bd.returns] at h; cases h)
              refine ⟨_, _, retN X41 hx (t := .boolean) Bd.returns (by simp) (hb hby at_141) hr, hrun, hended, _, _, rfl, ?_, ⟨_, rfl⟩, hW, hsame.mono (by decide) (by decide)⟩
              show rm0_Q Z p1 p2 p3 p4 h0 n0 _ T41.heap _
              rw [e41]
              exact ⟨rfl, N41⟩
            · exfalso
              exact c133_42 (by simp only [own_in, if_neg c104_37, if_pos c113_40])
          · skip
            refine own_via (fun t k => XS.ifNo X33.here hx rfl (hb hby at_113) rfl ((if0 _ _).trans (flt c113_40).2.2.1) k) ?_
            show own_G p e below _ (T33.setTop (mkF m 116 #[.val (.int p1), .val (.int p2), .val (.int p3), .val (.int p4), .val (.int (own_min p1 p2)), .val (.int (own_max p1 p2)), .val (.int (p4 &&& (7 : Int32))), .val (.long (((own_min p1 p2).toInt64) - (1 : Int64))), .second, .val (.ref b32), .unset] []))
            refine own_via (fun t k => XS.iconst X33.here hx rfl (hb hby at_116) k) ?_
            show own_G p e below _ (T33.setTop (mkF m 117 #[.val (.int p1), .val (.int p2), .val (.int p3), .val (.int p4), .val (.int (own_min p1 p2)), .val (.int (own_max p1 p2)), .val (.int (p4 &&& (7 : Int32))), .val (.long (((own_min p1 p2).toInt64) - (1 : Int64))), .second, .val (.ref b32), .unset] [(.int (1 : Int32))]))
            refine own_via (fun t k => XS.goto X33.here hx rfl (pc0 := 117) (pc' := 121) rfl (hb hby at_117) (by decide) (by decide) k) ?_
            show own_G p e below _ (T33.setTop (mkF m 121 #[.val (.int p1), .val (.int p2), .val (.int p3), .val (.int p4), .val (.int (own_min p1 p2)), .val (.int (own_max p1 p2)), .val (.int (p4 &&& (7 : Int32))), .val (.long (((own_min p1 p2).toInt64) - (1 : Int64))), .second, .val (.ref b32), .unset] [(.int (1 : Int32))]))
            refine own_via (fun t k => XS.istore X33.here hx rfl (hb hby at_121) rfl (l' := #[.val (.int p1), .val (.int p2), .val (.int p3), .val (.int p4), .val (.int (own_min p1 p2)), .val (.int (own_max p1 p2)), .val (.int (p4 &&& (7 : Int32))), .val (.long (((own_min p1 p2).toInt64) - (1 : Int64))), .second, .val (.ref b32), .val (.int (1 : Int32))]) rfl k) ?_
            show own_G p e below _ (T33.setTop (mkF m 123 #[.val (.int p1), .val (.int p2), .val (.int p3), .val (.int p4), .val (.int (own_min p1 p2)), .val (.int (own_max p1 p2)), .val (.int (p4 &&& (7 : Int32))), .val (.long (((own_min p1 p2).toInt64) - (1 : Int64))), .second, .val (.ref b32), .val (.int (1 : Int32))] []))
            refine own_via (fun t k => XS.aload X33.here hx rfl (hb hby at_123) rfl rfl k) ?_
            show own_G p e below _ (T33.setTop (mkF m 125 #[.val (.int p1), .val (.int p2), .val (.int p3), .val (.int p4), .val (.int (own_min p1 p2)), .val (.int (own_max p1 p2)), .val (.int (p4 &&& (7 : Int32))), .val (.long (((own_min p1 p2).toInt64) - (1 : Int64))), .second, .val (.ref b32), .val (.int (1 : Int32))] [(.ref b32)]))
            refine own_via (fun t k => XS.lload X33.here hx rfl (hb hby at_125) rfl k) ?_
            show own_G p e below _ (T33.setTop (mkF m 127 #[.val (.int p1), .val (.int p2), .val (.int p3), .val (.int p4), .val (.int (own_min p1 p2)), .val (.int (own_max p1 p2)), .val (.int (p4 &&& (7 : Int32))), .val (.long (((own_min p1 p2).toInt64) - (1 : Int64))), .second, .val (.ref b32), .val (.int (1 : Int32))] [(.long (((own_min p1 p2).toInt64) - (1 : Int64))), (.ref b32)]))
            refine own_via (fun t k => XS.l2dS X33.here hx rfl (hb hby at_127) rfl rfl k) ?_
            show own_G p e below _ (T33.setTop (mkF m 128 #[.val (.int p1), .val (.int p2), .val (.int p3), .val (.int p4), .val (.int (own_min p1 p2)), .val (.int (own_max p1 p2)), .val (.int (p4 &&& (7 : Int32))), .val (.long (((own_min p1 p2).toInt64) - (1 : Int64))), .second, .val (.ref b32), .val (.int (1 : Int32))] [(.double (FP.l2d (((own_min p1 p2).toInt64) - (1 : Int64)))), (.ref b32)]))
            obtain ⟨cq43, kq43, q43a, q43b, q43c⟩ := isOf hZ rfl E33q
            obtain ⟨_, _, ⟨T43, L43, k43, n43⟩, -, X43, ⟨Lc43, hQ43, l43, y43, z43⟩, st43⟩ := X33.virtualBack hx (y := (⟨"com/example/fee_simple/feesimple/ratiostudy/Interval", "contains", "(D)Z"⟩ : MethodName)) (z := (⟨"com/example/fee_simple/feesimple/ratiostudy/Interval", "contains", "(D)Z"⟩ : MethodName)) hown (mvT hZ (hw _ (List.mem_of_getElem? (i := 28) rfl))) (mvT hZ (hw _ (List.mem_of_getElem? (i := 29) rfl))) (notFace_of_selects (args := #[]) (mvT hZ (hw _ (List.mem_of_getElem? (i := 31) rfl)))) (mvT hZ (hw _ (List.mem_of_getElem? (i := 31) rfl))) (mvT hZ (hw _ (List.mem_of_getElem? (i := 30) rfl))) (by decide) (backOf (W := 0) (rm7 l Z a0 hw [] b32 (((own_min p1 p2).toInt64) - (1 : Int64)) (own_min p1 p2) (own_max p1 p2) T33.heap n0 Z33 Fl33 Fc33 (own_bm _)) hZ (hw _ (List.mem_of_getElem? (i := 32) rfl)) (hw _ (List.mem_of_getElem? (i := 9) rfl)) (by decide) (by decide)) q43a q43c (g := (mkF m 128 #[.val (.int p1), .val (.int p2), .val (.int p3), .val (.int p4), .val (.int (own_min p1 p2)), .val (.int (own_max p1 p2)), .val (.int (p4 &&& (7 : Int32))), .val (.long (((own_min p1 p2).toInt64) - (1 : Int64))), .second, .val (.ref b32), .val (.int (1 : Int32))] [(.double (FP.l2d (((own_min p1 p2).toInt64) - (1 : Int64)))), (.ref b32)])) rfl (by rw [hml]; rfl) (Steps.refl _) (argsL := [(.double (FP.l2d (((own_min p1 p2).toInt64) - (1 : Int64))))]) (rest := []) (lenOf pd_rm0_2 rfl) rfl (by show 2 * 0 + _ ≤ _; exact Nat.le_of_eq rfl) (hb hby at_128) (fun _ _ => ⟨rfl, rfl, (by decide : 1 + 0 ≤ _), (by decide : 2 + 0 ≤ _)⟩)
            dsimp only [Pt.U, Pt.locs, Pt.cells, Pt.slots] at X43 l43 y43 z43 st43 hQ43
            subst l43 y43 z43
            obtain ⟨rfl, N43q, e43⟩ := hQ43
            have N43 := Fr.app N33 N43q
            refine own_via (fun t k => st43.trans k) ?_
            show own_G p e below _ (T43.setTop (mkF m 131 #[.val (.int p1), .val (.int p2), .val (.int p3), .val (.int p4), .val (.int (own_min p1 p2)), .val (.int (own_max p1 p2)), .val (.int (p4 &&& (7 : Int32))), .val (.long (((own_min p1 p2).toInt64) - (1 : Int64))), .second, .val (.ref b32), .val (.int (1 : Int32))] [(.int (own_in (((own_min p1 p2).toInt64) - (1 : Int64)) (own_min p1 p2) (own_max p1 p2)))]))
            refine own_via (fun t k => XS.iload X43.here hx rfl (hb hby at_131) rfl k) ?_
            show own_G p e below _ (T43.setTop (mkF m 133 #[.val (.int p1), .val (.int p2), .val (.int p3), .val (.int p4), .val (.int (own_min p1 p2)), .val (.int (own_max p1 p2)), .val (.int (p4 &&& (7 : Int32))), .val (.long (((own_min p1 p2).toInt64) - (1 : Int64))), .second, .val (.ref b32), .val (.int (1 : Int32))] [(.int (1 : Int32)), (.int (own_in (((own_min p1 p2).toInt64) - (1 : Int64)) (own_min p1 p2) (own_max p1 p2)))]))
            by_cases c133_44 : (own_in (((own_min p1 p2).toInt64) - (1 : Int64)) (own_min p1 p2) (own_max p1 p2)) = (1 : Int32)
            · skip
              refine own_via (fun t k => XS.icmpNo X43.here hx rfl (hb hby at_133) rfl (teq c133_44).2 k) ?_
              show own_G p e below _ (T43.setTop (mkF m 136 #[.val (.int p1), .val (.int p2), .val (.int p3), .val (.int p4), .val (.int (own_min p1 p2)), .val (.int (own_max p1 p2)), .val (.int (p4 &&& (7 : Int32))), .val (.long (((own_min p1 p2).toInt64) - (1 : Int64))), .second, .val (.ref b32), .val (.int (1 : Int32))] []))
              refine own_via (fun t k => XS.iconst X43.here hx rfl (hb hby at_136) k) ?_
              show own_G p e below _ (T43.setTop (mkF m 137 #[.val (.int p1), .val (.int p2), .val (.int p3), .val (.int p4), .val (.int (own_min p1 p2)), .val (.int (own_max p1 p2)), .val (.int (p4 &&& (7 : Int32))), .val (.long (((own_min p1 p2).toInt64) - (1 : Int64))), .second, .val (.ref b32), .val (.int (1 : Int32))] [(.int (1 : Int32))]))
              refine own_via (fun t k => XS.goto X43.here hx rfl (pc0 := 137) (pc' := 141) rfl (hb hby at_137) (by decide) (by decide) k) ?_
              show own_G p e below _ (T43.setTop (mkF m 141 #[.val (.int p1), .val (.int p2), .val (.int p3), .val (.int p4), .val (.int (own_min p1 p2)), .val (.int (own_max p1 p2)), .val (.int (p4 &&& (7 : Int32))), .val (.long (((own_min p1 p2).toInt64) - (1 : Int64))), .second, .val (.ref b32), .val (.int (1 : Int32))] [(.int (1 : Int32))]))
              obtain ⟨fs, hr, hrun, hended, hW, hsame⟩ := X43.leave (v := some (.int (1 : Int32))) (fun h => by rw [Bd.returns] at h; cases h)
              refine ⟨_, _, retN X43 hx (t := .boolean) Bd.returns (by simp) (hb hby at_141) hr, hrun, hended, _, _, rfl, ?_, ⟨_, rfl⟩, hW, hsame.mono (by decide) (by decide)⟩
              show rm0_Q Z p1 p2 p3 p4 h0 n0 _ T43.heap _
              rw [e43]
              exact ⟨rfl, N43⟩
            · exfalso
              exact c133_44 (by simp only [own_in, if_neg c104_37, if_neg c113_40])
      · skip
        refine own_via (fun t k => XS.icmpYes X2.here hx rfl (pc0 := 50) (pc' := 63) rfl (hb hby at_50) rfl (feq c50_31).2 (by decide) (by decide) k) ?_
        show own_G p e below _ (T2.setTop (mkF m 63 #[.val (.int p1), .val (.int p2), .val (.int p3), .val (.int p4), .val (.int (own_min p1 p2)), .val (.int (own_max p1 p2)), .val (.int (p4 &&& (7 : Int32))), .unset, .unset, .unset, .unset] []))
        refine own_via (fun t k => XS.iload X2.here hx rfl (hb hby at_63) rfl k) ?_
        show own_G p e below _ (T2.setTop (mkF m 65 #[.val (.int p1), .val (.int p2), .val (.int p3), .val (.int p4), .val (.int (own_min p1 p2)), .val (.int (own_max p1 p2)), .val (.int (p4 &&& (7 : Int32))), .unset, .unset, .unset, .unset] [(.int (p4 &&& (7 : Int32)))]))
        refine own_via (fun t k => XS.iconst X2.here hx rfl (hb hby at_65) k) ?_
        show own_G p e below _ (T2.setTop (mkF m 66 #[.val (.int p1), .val (.int p2), .val (.int p3), .val (.int p4), .val (.int (own_min p1 p2)), .val (.int (own_max p1 p2)), .val (.int (p4 &&& (7 : Int32))), .unset, .unset, .unset, .unset] [(.int (3 : Int32)), (.int (p4 &&& (7 : Int32)))]))
        by_cases c66_45 : (p4 &&& (7 : Int32)) = (3 : Int32)
        · skip
          refine own_via (fun t k => XS.icmpNo X2.here hx rfl (hb hby at_66) rfl (teq c66_45).2 k) ?_
          show own_G p e below _ (T2.setTop (mkF m 69 #[.val (.int p1), .val (.int p2), .val (.int p3), .val (.int p4), .val (.int (own_min p1 p2)), .val (.int (own_max p1 p2)), .val (.int (p4 &&& (7 : Int32))), .unset, .unset, .unset, .unset] []))
          refine own_via (fun t k => XS.iload X2.here hx rfl (hb hby at_69) rfl k) ?_
          show own_G p e below _ (T2.setTop (mkF m 71 #[.val (.int p1), .val (.int p2), .val (.int p3), .val (.int p4), .val (.int (own_min p1 p2)), .val (.int (own_max p1 p2)), .val (.int (p4 &&& (7 : Int32))), .unset, .unset, .unset, .unset] [(.int (own_max p1 p2))]))
          refine own_via (fun t k => XS.i2l X2.here hx rfl (hb hby at_71) rfl k) ?_
          show own_G p e below _ (T2.setTop (mkF m 72 #[.val (.int p1), .val (.int p2), .val (.int p3), .val (.int p4), .val (.int (own_min p1 p2)), .val (.int (own_max p1 p2)), .val (.int (p4 &&& (7 : Int32))), .unset, .unset, .unset, .unset] [(.long ((own_max p1 p2).toInt64))]))
          refine own_via (fun t k => XS.lconst X2.here hx rfl (hb hby at_72) k) ?_
          show own_G p e below _ (T2.setTop (mkF m 73 #[.val (.int p1), .val (.int p2), .val (.int p3), .val (.int p4), .val (.int (own_min p1 p2)), .val (.int (own_max p1 p2)), .val (.int (p4 &&& (7 : Int32))), .unset, .unset, .unset, .unset] [(.long (1 : Int64)), (.long ((own_max p1 p2).toInt64))]))
          refine own_via (fun t k => XS.ladd X2.here hx rfl (hb hby at_73) rfl k) ?_
          show own_G p e below _ (T2.setTop (mkF m 74 #[.val (.int p1), .val (.int p2), .val (.int p3), .val (.int p4), .val (.int (own_min p1 p2)), .val (.int (own_max p1 p2)), .val (.int (p4 &&& (7 : Int32))), .unset, .unset, .unset, .unset] [(.long (((own_max p1 p2).toInt64) + (1 : Int64)))]))
          refine own_via (fun t k => XS.lstore X2.here hx rfl (hb hby at_74) rfl (l' := #[.val (.int p1), .val (.int p2), .val (.int p3), .val (.int p4), .val (.int (own_min p1 p2)), .val (.int (own_max p1 p2)), .val (.int (p4 &&& (7 : Int32))), .val (.long (((own_max p1 p2).toInt64) + (1 : Int64))), .second, .unset, .unset]) rfl k) ?_
          show own_G p e below _ (T2.setTop (mkF m 76 #[.val (.int p1), .val (.int p2), .val (.int p3), .val (.int p4), .val (.int (own_min p1 p2)), .val (.int (own_max p1 p2)), .val (.int (p4 &&& (7 : Int32))), .val (.long (((own_max p1 p2).toInt64) + (1 : Int64))), .second, .unset, .unset] []))
          refine own_via (fun t k => XS.goto X2.here hx rfl (pc0 := 76) (pc' := 83) rfl (hb hby at_76) (by decide) (by decide) k) ?_
          show own_G p e below _ (T2.setTop (mkF m 83 #[.val (.int p1), .val (.int p2), .val (.int p3), .val (.int p4), .val (.int (own_min p1 p2)), .val (.int (own_max p1 p2)), .val (.int (p4 &&& (7 : Int32))), .val (.long (((own_max p1 p2).toInt64) + (1 : Int64))), .second, .unset, .unset] []))
          obtain ⟨T46, h46, X46, e46, E46, A46, D46, -, st46⟩ := newO X2 hx hZ hown (hw _ (List.mem_of_getElem? (i := 7) rfl)) (hw _ (List.mem_of_getElem? (i := 8) rfl)) (hw _ (List.mem_of_getElem? (i := 9) rfl)) e2 (g := (mkF m 83 #[.val (.int p1), .val (.int p2), .val (.int p3), .val (.int p4), .val (.int (own_min p1 p2)), .val (.int (own_max p1 p2)), .val (.int (p4 &&& (7 : Int32))), .val (.long (((own_max p1 p2).toInt64) + (1 : Int64))), .second, .unset, .unset] [])) rfl (hb hby at_83) (by decide) (by decide)
          obtain ⟨b46, g46⟩ : ∃ z, z = h0.size := ⟨_, rfl⟩
          rw [← g46] at A46 D46 st46
          have gx_b46 : n0 ≤ b46 := Nat.le_trans Z0 (Nat.le_of_eq g46.symm)
          have Z46 : n0 ≤ h46.size := Nat.le_trans Z0 E46.1
          have F46_low : Fld Z h46 b46 "com/example/fee_simple/feesimple/ratiostudy/Interval" "low" "D" (.double (0 : UInt64)) := D46 (Or.inr (hw _ (List.mem_of_getElem? (i := 25) rfl))) (ty := .double) (by decide)
          have F46_high : Fld Z h46 b46 "com/example/fee_simple/feesimple/ratiostudy/Interval" "high" "D" (.double (0 : UInt64)) := D46 (Or.inr (hw _ (List.mem_of_getElem? (i := 27) rfl))) (ty := .double) (by decide)
          refine own_via st46 ?_
          show own_G p e below _ (T46.setTop (mkF m 86 #[.val (.int p1), .val (.int p2), .val (.int p3), .val (.int p4), .val (.int (own_min p1 p2)), .val (.int (own_max p1 p2)), .val (.int (p4 &&& (7 : Int32))), .val (.long (((own_max p1 p2).toInt64) + (1 : Int64))), .second, .unset, .unset] [(.ref b46)]))
          refine own_via (fun t k => XS.dup X46.here hx rfl (hb hby at_86) rfl rfl k) ?_
          show own_G p e below _ (T46.setTop (mkF m 87 #[.val (.int p1), .val (.int p2), .val (.int p3), .val (.int p4), .val (.int (own_min p1 p2)), .val (.int (own_max p1 p2)), .val (.int (p4 &&& (7 : Int32))), .val (.long (((own_max p1 p2).toInt64) + (1 : Int64))), .second, .unset, .unset] [(.ref b46), (.ref b46)]))
          refine own_via (fun t k => XS.iload X46.here hx rfl (hb hby at_87) rfl k) ?_
          show own_G p e below _ (T46.setTop (mkF m 89 #[.val (.int p1), .val (.int p2), .val (.int p3), .val (.int p4), .val (.int (own_min p1 p2)), .val (.int (own_max p1 p2)), .val (.int (p4 &&& (7 : Int32))), .val (.long (((own_max p1 p2).toInt64) + (1 : Int64))), .second, .unset, .unset] [(.int (own_min p1 p2)), (.ref b46), (.ref b46)]))
          refine own_via (fun t k => XS.i2dS X46.here hx rfl (hb hby at_89) rfl rfl k) ?_
          show own_G p e below _ (T46.setTop (mkF m 90 #[.val (.int p1), .val (.int p2), .val (.int p3), .val (.int p4), .val (.int (own_min p1 p2)), .val (.int (own_max p1 p2)), .val (.int (p4 &&& (7 : Int32))), .val (.long (((own_max p1 p2).toInt64) + (1 : Int64))), .second, .unset, .unset] [(.double (FP.i2d (own_min p1 p2))), (.ref b46), (.ref b46)]))
          refine own_via (fun t k => XS.iload X46.here hx rfl (hb hby at_90) rfl k) ?_
          show own_G p e below _ (T46.setTop (mkF m 92 #[.val (.int p1), .val (.int p2), .val (.int p3), .val (.int p4), .val (.int (own_min p1 p2)), .val (.int (own_max p1 p2)), .val (.int (p4 &&& (7 : Int32))), .val (.long (((own_max p1 p2).toInt64) + (1 : Int64))), .second, .unset, .unset] [(.int (own_max p1 p2)), (.double (FP.i2d (own_min p1 p2))), (.ref b46), (.ref b46)]))
          refine own_via (fun t k => XS.i2dS X46.here hx rfl (hb hby at_92) rfl rfl k) ?_
          show own_G p e below _ (T46.setTop (mkF m 93 #[.val (.int p1), .val (.int p2), .val (.int p3), .val (.int p4), .val (.int (own_min p1 p2)), .val (.int (own_max p1 p2)), .val (.int (p4 &&& (7 : Int32))), .val (.long (((own_max p1 p2).toInt64) + (1 : Int64))), .second, .unset, .unset] [(.double (FP.i2d (own_max p1 p2))), (.double (FP.i2d (own_min p1 p2))), (.ref b46), (.ref b46)]))
          obtain ⟨_, _, ⟨T47, L47, k47, n47⟩, -, X47, ⟨Lc47, hQ47, l47, y47, z47⟩, st47⟩ := X46.specialBack hx (y := (⟨"com/example/fee_simple/feesimple/ratiostudy/Interval", "<init>", "(DD)V"⟩ : MethodName)) rfl hown (mvT hZ (hw _ (List.mem_of_getElem? (i := 10) rfl))) (mvT hZ (hw _ (List.mem_of_getElem? (i := 11) rfl))) (mvT hZ (hw _ (List.mem_of_getElem? (i := 12) rfl))) (by decide) (backOf (W := 1) (rm3 l Z a0 hw [] b46 (own_min p1 p2) (own_max p1 p2) h46 n0 Z46 A46 F46_low F46_high gx_b46 (own_mm _ _)) hZ (hw _ (List.mem_of_getElem? (i := 12) rfl)) (hw _ (List.mem_of_getElem? (i := 9) rfl)) (by decide) (by decide)) (g := (mkF m 93 #[.val (.int p1), .val (.int p2), .val (.int p3), .val (.int p4), .val (.int (own_min p1 p2)), .val (.int (own_max p1 p2)), .val (.int (p4 &&& (7 : Int32))), .val (.long (((own_max p1 p2).toInt64) + (1 : Int64))), .second, .unset, .unset] [(.double (FP.i2d (own_max p1 p2))), (.double (FP.i2d (own_min p1 p2))), (.ref b46), (.ref b46)])) rfl (by rw [hml]; rfl) (Steps.refl _) (a := b46) (argsL := [(.double (FP.i2d (own_min p1 p2))), (.double (FP.i2d (own_max p1 p2)))]) (rest := [(.ref b46)]) (lenOf pd_rm0_1 rfl) rfl (by show 2 * 0 + _ ≤ _; exact Nat.le_of_eq rfl) (hb hby at_93) (fun _ _ => ⟨rfl, e46, (by decide : 1 + 0 ≤ _), (by decide : 2 + 0 ≤ _)⟩)
          dsimp only [Pt.U, Pt.locs, Pt.cells, Pt.slots] at X47 l47 y47 z47 st47 hQ47
          subst l47 y47 z47
          obtain ⟨rfl, N47q, K47, E47q, Fl47, Fc47⟩ := hQ47
          have N47 := Fr.app N2 N47q
          have F48 := A46.keep K47
          have Z47 : n0 ≤ T47.heap.size := Nat.le_trans Z46 K47.1
          refine own_via (fun t k => st47.trans k) ?_
          show own_G p e below _ (T47.setTop (mkF m 96 #[.val (.int p1), .val (.int p2), .val (.int p3), .val (.int p4), .val (.int (own_min p1 p2)), .val (.int (own_max p1 p2)), .val (.int (p4 &&& (7 : Int32))), .val (.long (((own_max p1 p2).toInt64) + (1 : Int64))), .second, .unset, .unset] [(.ref b46)]))
          refine own_via (fun t k => XS.astore X47.here hx rfl (hb hby at_96) rfl rfl (l' := #[.val (.int p1), .val (.int p2), .val (.int p3), .val (.int p4), .val (.int (own_min p1 p2)), .val (.int (own_max p1 p2)), .val (.int (p4 &&& (7 : Int32))), .val (.long (((own_max p1 p2).toInt64) + (1 : Int64))), .second, .val (.ref b46), .unset]) rfl k) ?_
          show own_G p e below _ (T47.setTop (mkF m 98 #[.val (.int p1), .val (.int p2), .val (.int p3), .val (.int p4), .val (.int (own_min p1 p2)), .val (.int (own_max p1 p2)), .val (.int (p4 &&& (7 : Int32))), .val (.long (((own_max p1 p2).toInt64) + (1 : Int64))), .second, .val (.ref b46), .unset] []))
          refine own_via (fun t k => XS.lload X47.here hx rfl (hb hby at_98) rfl k) ?_
          show own_G p e below _ (T47.setTop (mkF m 100 #[.val (.int p1), .val (.int p2), .val (.int p3), .val (.int p4), .val (.int (own_min p1 p2)), .val (.int (own_max p1 p2)), .val (.int (p4 &&& (7 : Int32))), .val (.long (((own_max p1 p2).toInt64) + (1 : Int64))), .second, .val (.ref b46), .unset] [(.long (((own_max p1 p2).toInt64) + (1 : Int64)))]))
          refine own_via (fun t k => XS.iload X47.here hx rfl (hb hby at_100) rfl k) ?_
          show own_G p e below _ (T47.setTop (mkF m 102 #[.val (.int p1), .val (.int p2), .val (.int p3), .val (.int p4), .val (.int (own_min p1 p2)), .val (.int (own_max p1 p2)), .val (.int (p4 &&& (7 : Int32))), .val (.long (((own_max p1 p2).toInt64) + (1 : Int64))), .second, .val (.ref b46), .unset] [(.int (own_min p1 p2)), (.long (((own_max p1 p2).toInt64) + (1 : Int64)))]))
          refine own_via (fun t k => XS.i2l X47.here hx rfl (hb hby at_102) rfl k) ?_
          show own_G p e below _ (T47.setTop (mkF m 103 #[.val (.int p1), .val (.int p2), .val (.int p3), .val (.int p4), .val (.int (own_min p1 p2)), .val (.int (own_max p1 p2)), .val (.int (p4 &&& (7 : Int32))), .val (.long (((own_max p1 p2).toInt64) + (1 : Int64))), .second, .val (.ref b46), .unset] [(.long ((own_min p1 p2).toInt64)), (.long (((own_max p1 p2).toInt64) + (1 : Int64)))]))
          refine own_via (fun t k => XS.lcmp X47.here hx rfl (hb hby at_103) rfl k) ?_
          show own_G p e below _ (T47.setTop (mkF m 104 #[.val (.int p1), .val (.int p2), .val (.int p3), .val (.int p4), .val (.int (own_min p1 p2)), .val (.int (own_max p1 p2)), .val (.int (p4 &&& (7 : Int32))), .val (.long (((own_max p1 p2).toInt64) + (1 : Int64))), .second, .val (.ref b46), .unset] [(.int (lcmpW (((own_max p1 p2).toInt64) + (1 : Int64)) ((own_min p1 p2).toInt64)))]))
          by_cases c104_51 : (lcmpW (((own_max p1 p2).toInt64) + (1 : Int64)) ((own_min p1 p2).toInt64)) < (0 : Int32)
          · skip
            refine own_via (fun t k => XS.ifYes X47.here hx rfl (pc0 := 104) (pc' := 120) rfl (hb hby at_104) rfl ((if0 _ _).trans (tlt c104_51).1) (by decide) (by decide) k) ?_
            show own_G p e below _ (T47.setTop (mkF m 120 #[.val (.int p1), .val (.int p2), .val (.int p3), .val (.int p4), .val (.int (own_min p1 p2)), .val (.int (own_max p1 p2)), .val (.int (p4 &&& (7 : Int32))), .val (.long (((own_max p1 p2).toInt64) + (1 : Int64))), .second, .val (.ref b46), .unset] []))
            refine own_via (fun t k => XS.iconst X47.here hx rfl (hb hby at_120) k) ?_
            show own_G p e below _ (T47.setTop (mkF m 121 #[.val (.int p1), .val (.int p2), .val (.int p3), .val (.int p4), .val (.int (own_min p1 p2)), .val (.int (own_max p1 p2)), .val (.int (p4 &&& (7 : Int32))), .val (.long (((own_max p1 p2).toInt64) + (1 : Int64))), .second, .val (.ref b46), .unset] [(.int (0 : Int32))]))
            refine own_via (fun t k => XS.istore X47.here hx rfl (hb hby at_121) rfl (l' := #[.val (.int p1), .val (.int p2), .val (.int p3), .val (.int p4), .val (.int (own_min p1 p2)), .val (.int (own_max p1 p2)), .val (.int (p4 &&& (7 : Int32))), .val (.long (((own_max p1 p2).toInt64) + (1 : Int64))), .second, .val (.ref b46), .val (.int (0 : Int32))]) rfl k) ?_
            show own_G p e below _ (T47.setTop (mkF m 123 #[.val (.int p1), .val (.int p2), .val (.int p3), .val (.int p4), .val (.int (own_min p1 p2)), .val (.int (own_max p1 p2)), .val (.int (p4 &&& (7 : Int32))), .val (.long (((own_max p1 p2).toInt64) + (1 : Int64))), .second, .val (.ref b46), .val (.int (0 : Int32))] []))
            refine own_via (fun t k => XS.aload X47.here hx rfl (hb hby at_123) rfl rfl k) ?_
            show own_G p e below _ (T47.setTop (mkF m 125 #[.val (.int p1), .val (.int p2), .val (.int p3), .val (.int p4), .val (.int (own_min p1 p2)), .val (.int (own_max p1 p2)), .val (.int (p4 &&& (7 : Int32))), .val (.long (((own_max p1 p2).toInt64) + (1 : Int64))), .second, .val (.ref b46), .val (.int (0 : Int32))] [(.ref b46)]))
            refine own_via (fun t k => XS.lload X47.here hx rfl (hb hby at_125) rfl k) ?_
            show own_G p e below _ (T47.setTop (mkF m 127 #[.val (.int p1), .val (.int p2), .val (.int p3), .val (.int p4), .val (.int (own_min p1 p2)), .val (.int (own_max p1 p2)), .val (.int (p4 &&& (7 : Int32))), .val (.long (((own_max p1 p2).toInt64) + (1 : Int64))), .second, .val (.ref b46), .val (.int (0 : Int32))] [(.long (((own_max p1 p2).toInt64) + (1 : Int64))), (.ref b46)]))
            refine own_via (fun t k => XS.l2dS X47.here hx rfl (hb hby at_127) rfl rfl k) ?_
            show own_G p e below _ (T47.setTop (mkF m 128 #[.val (.int p1), .val (.int p2), .val (.int p3), .val (.int p4), .val (.int (own_min p1 p2)), .val (.int (own_max p1 p2)), .val (.int (p4 &&& (7 : Int32))), .val (.long (((own_max p1 p2).toInt64) + (1 : Int64))), .second, .val (.ref b46), .val (.int (0 : Int32))] [(.double (FP.l2d (((own_max p1 p2).toInt64) + (1 : Int64)))), (.ref b46)]))
            obtain ⟨cq52, kq52, q52a, q52b, q52c⟩ := isOf hZ rfl E47q
            obtain ⟨_, _, ⟨T52, L52, k52, n52⟩, -, X52, ⟨Lc52, hQ52, l52, y52, z52⟩, st52⟩ := X47.virtualBack hx (y := (⟨"com/example/fee_simple/feesimple/ratiostudy/Interval", "contains", "(D)Z"⟩ : MethodName)) (z := (⟨"com/example/fee_simple/feesimple/ratiostudy/Interval", "contains", "(D)Z"⟩ : MethodName)) hown (mvT hZ (hw _ (List.mem_of_getElem? (i := 28) rfl))) (mvT hZ (hw _ (List.mem_of_getElem? (i := 29) rfl))) (notFace_of_selects (args := #[]) (mvT hZ (hw _ (List.mem_of_getElem? (i := 31) rfl)))) (mvT hZ (hw _ (List.mem_of_getElem? (i := 31) rfl))) (mvT hZ (hw _ (List.mem_of_getElem? (i := 30) rfl))) (by decide) (backOf (W := 0) (rm7 l Z a0 hw [] b46 (((own_max p1 p2).toInt64) + (1 : Int64)) (own_min p1 p2) (own_max p1 p2) T47.heap n0 Z47 Fl47 Fc47 (own_bp _)) hZ (hw _ (List.mem_of_getElem? (i := 32) rfl)) (hw _ (List.mem_of_getElem? (i := 9) rfl)) (by decide) (by decide)) q52a q52c (g := (mkF m 128 #[.val (.int p1), .val (.int p2), .val (.int p3), .val (.int p4), .val (.int (own_min p1 p2)), .val (.int (own_max p1 p2)), .val (.int (p4 &&& (7 : Int32))), .val (.long (((own_max p1 p2).toInt64) + (1 : Int64))), .second, .val (.ref b46), .val (.int (0 : Int32))] [(.double (FP.l2d (((own_max p1 p2).toInt64) + (1 : Int64)))), (.ref b46)])) rfl (by rw [hml]; rfl) (Steps.refl _) (argsL := [(.double (FP.l2d (((own_max p1 p2).toInt64) + (1 : Int64))))]) (rest := []) (lenOf pd_rm0_2 rfl) rfl (by show 2 * 0 + _ ≤ _; exact Nat.le_of_eq rfl) (hb hby at_128) (fun _ _ => ⟨rfl, rfl, (by decide : 1 + 0 ≤ _), (by decide : 2 + 0 ≤ _)⟩)
            dsimp only [Pt.U, Pt.locs, Pt.cells, Pt.slots] at X52 l52 y52 z52 st52 hQ52
            subst l52 y52 z52
            obtain ⟨rfl, N52q, e52⟩ := hQ52
            have N52 := Fr.app N47 N52q
            refine own_via (fun t k => st52.trans k) ?_
            show own_G p e below _ (T52.setTop (mkF m 131 #[.val (.int p1), .val (.int p2), .val (.int p3), .val (.int p4), .val (.int (own_min p1 p2)), .val (.int (own_max p1 p2)), .val (.int (p4 &&& (7 : Int32))), .val (.long (((own_max p1 p2).toInt64) + (1 : Int64))), .second, .val (.ref b46), .val (.int (0 : Int32))] [(.int (own_in (((own_max p1 p2).toInt64) + (1 : Int64)) (own_min p1 p2) (own_max p1 p2)))]))
            refine own_via (fun t k => XS.iload X52.here hx rfl (hb hby at_131) rfl k) ?_
            show own_G p e below _ (T52.setTop (mkF m 133 #[.val (.int p1), .val (.int p2), .val (.int p3), .val (.int p4), .val (.int (own_min p1 p2)), .val (.int (own_max p1 p2)), .val (.int (p4 &&& (7 : Int32))), .val (.long (((own_max p1 p2).toInt64) + (1 : Int64))), .second, .val (.ref b46), .val (.int (0 : Int32))] [(.int (0 : Int32)), (.int (own_in (((own_max p1 p2).toInt64) + (1 : Int64)) (own_min p1 p2) (own_max p1 p2)))]))
            by_cases c133_53 : (own_in (((own_max p1 p2).toInt64) + (1 : Int64)) (own_min p1 p2) (own_max p1 p2)) = (0 : Int32)
            · skip
              refine own_via (fun t k => XS.icmpNo X52.here hx rfl (hb hby at_133) rfl (teq c133_53).2 k) ?_
              show own_G p e below _ (T52.setTop (mkF m 136 #[.val (.int p1), .val (.int p2), .val (.int p3), .val (.int p4), .val (.int (own_min p1 p2)), .val (.int (own_max p1 p2)), .val (.int (p4 &&& (7 : Int32))), .val (.long (((own_max p1 p2).toInt64) + (1 : Int64))), .second, .val (.ref b46), .val (.int (0 : Int32))] []))
              refine own_via (fun t k => XS.iconst X52.here hx rfl (hb hby at_136) k) ?_
              show own_G p e below _ (T52.setTop (mkF m 137 #[.val (.int p1), .val (.int p2), .val (.int p3), .val (.int p4), .val (.int (own_min p1 p2)), .val (.int (own_max p1 p2)), .val (.int (p4 &&& (7 : Int32))), .val (.long (((own_max p1 p2).toInt64) + (1 : Int64))), .second, .val (.ref b46), .val (.int (0 : Int32))] [(.int (1 : Int32))]))
              refine own_via (fun t k => XS.goto X52.here hx rfl (pc0 := 137) (pc' := 141) rfl (hb hby at_137) (by decide) (by decide) k) ?_
              show own_G p e below _ (T52.setTop (mkF m 141 #[.val (.int p1), .val (.int p2), .val (.int p3), .val (.int p4), .val (.int (own_min p1 p2)), .val (.int (own_max p1 p2)), .val (.int (p4 &&& (7 : Int32))), .val (.long (((own_max p1 p2).toInt64) + (1 : Int64))), .second, .val (.ref b46), .val (.int (0 : Int32))] [(.int (1 : Int32))]))
              obtain ⟨fs, hr, hrun, hended, hW, hsame⟩ := X52.leave (v := some (.int (1 : Int32))) (fun h => by rw [Bd.returns] at h; cases h)
              refine ⟨_, _, retN X52 hx (t := .boolean) Bd.returns (by simp) (hb hby at_141) hr, hrun, hended, _, _, rfl, ?_, ⟨_, rfl⟩, hW, hsame.mono (by decide) (by decide)⟩
              show rm0_Q Z p1 p2 p3 p4 h0 n0 _ T52.heap _
              rw [e52]
              exact ⟨rfl, N52⟩
            · exfalso
              exact c133_53 (by simp only [own_in, if_pos c104_51])
          · skip
            refine own_via (fun t k => XS.ifNo X47.here hx rfl (hb hby at_104) rfl ((if0 _ _).trans (flt c104_51).1) k) ?_
            show own_G p e below _ (T47.setTop (mkF m 107 #[.val (.int p1), .val (.int p2), .val (.int p3), .val (.int p4), .val (.int (own_min p1 p2)), .val (.int (own_max p1 p2)), .val (.int (p4 &&& (7 : Int32))), .val (.long (((own_max p1 p2).toInt64) + (1 : Int64))), .second, .val (.ref b46), .unset] []))
            refine own_via (fun t k => XS.lload X47.here hx rfl (hb hby at_107) rfl k) ?_
            show own_G p e below _ (T47.setTop (mkF m 109 #[.val (.int p1), .val (.int p2), .val (.int p3), .val (.int p4), .val (.int (own_min p1 p2)), .val (.int (own_max p1 p2)), .val (.int (p4 &&& (7 : Int32))), .val (.long (((own_max p1 p2).toInt64) + (1 : Int64))), .second, .val (.ref b46), .unset] [(.long (((own_max p1 p2).toInt64) + (1 : Int64)))]))
            refine own_via (fun t k => XS.iload X47.here hx rfl (hb hby at_109) rfl k) ?_
            show own_G p e below _ (T47.setTop (mkF m 111 #[.val (.int p1), .val (.int p2), .val (.int p3), .val (.int p4), .val (.int (own_min p1 p2)), .val (.int (own_max p1 p2)), .val (.int (p4 &&& (7 : Int32))), .val (.long (((own_max p1 p2).toInt64) + (1 : Int64))), .second, .val (.ref b46), .unset] [(.int (own_max p1 p2)), (.long (((own_max p1 p2).toInt64) + (1 : Int64)))]))
            refine own_via (fun t k => XS.i2l X47.here hx rfl (hb hby at_111) rfl k) ?_
            show own_G p e below _ (T47.setTop (mkF m 112 #[.val (.int p1), .val (.int p2), .val (.int p3), .val (.int p4), .val (.int (own_min p1 p2)), .val (.int (own_max p1 p2)), .val (.int (p4 &&& (7 : Int32))), .val (.long (((own_max p1 p2).toInt64) + (1 : Int64))), .second, .val (.ref b46), .unset] [(.long ((own_max p1 p2).toInt64)), (.long (((own_max p1 p2).toInt64) + (1 : Int64)))]))
            refine own_via (fun t k => XS.lcmp X47.here hx rfl (hb hby at_112) rfl k) ?_
            show own_G p e below _ (T47.setTop (mkF m 113 #[.val (.int p1), .val (.int p2), .val (.int p3), .val (.int p4), .val (.int (own_min p1 p2)), .val (.int (own_max p1 p2)), .val (.int (p4 &&& (7 : Int32))), .val (.long (((own_max p1 p2).toInt64) + (1 : Int64))), .second, .val (.ref b46), .unset] [(.int (lcmpW (((own_max p1 p2).toInt64) + (1 : Int64)) ((own_max p1 p2).toInt64)))]))
            by_cases c113_54 : (0 : Int32) < (lcmpW (((own_max p1 p2).toInt64) + (1 : Int64)) ((own_max p1 p2).toInt64))
            · skip
              refine own_via (fun t k => XS.ifYes X47.here hx rfl (pc0 := 113) (pc' := 120) rfl (hb hby at_113) rfl ((if0 _ _).trans (tlt c113_54).2.2.1) (by decide) (by decide) k) ?_
              show own_G p e below _ (T47.setTop (mkF m 120 #[.val (.int p1), .val (.int p2), .val (.int p3), .val (.int p4), .val (.int (own_min p1 p2)), .val (.int (own_max p1 p2)), .val (.int (p4 &&& (7 : Int32))), .val (.long (((own_max p1 p2).toInt64) + (1 : Int64))), .second, .val (.ref b46), .unset] []))
              refine own_via (fun t k => XS.iconst X47.here hx rfl (hb hby at_120) k) ?_
              show own_G p e below _ (T47.setTop (mkF m 121 #[.val (.int p1), .val (.int p2), .val (.int p3), .val (.int p4), .val (.int (own_min p1 p2)), .val (.int (own_max p1 p2)), .val (.int (p4 &&& (7 : Int32))), .val (.long (((own_max p1 p2).toInt64) + (1 : Int64))), .second, .val (.ref b46), .unset] [(.int (0 : Int32))]))
              refine own_via (fun t k => XS.istore X47.here hx rfl (hb hby at_121) rfl (l' := #[.val (.int p1), .val (.int p2), .val (.int p3), .val (.int p4), .val (.int (own_min p1 p2)), .val (.int (own_max p1 p2)), .val (.int (p4 &&& (7 : Int32))), .val (.long (((own_max p1 p2).toInt64) + (1 : Int64))), .second, .val (.ref b46), .val (.int (0 : Int32))]) rfl k) ?_
              show own_G p e below _ (T47.setTop (mkF m 123 #[.val (.int p1), .val (.int p2), .val (.int p3), .val (.int p4), .val (.int (own_min p1 p2)), .val (.int (own_max p1 p2)), .val (.int (p4 &&& (7 : Int32))), .val (.long (((own_max p1 p2).toInt64) + (1 : Int64))), .second, .val (.ref b46), .val (.int (0 : Int32))] []))
              refine own_via (fun t k => XS.aload X47.here hx rfl (hb hby at_123) rfl rfl k) ?_
              show own_G p e below _ (T47.setTop (mkF m 125 #[.val (.int p1), .val (.int p2), .val (.int p3), .val (.int p4), .val (.int (own_min p1 p2)), .val (.int (own_max p1 p2)), .val (.int (p4 &&& (7 : Int32))), .val (.long (((own_max p1 p2).toInt64) + (1 : Int64))), .second, .val (.ref b46), .val (.int (0 : Int32))] [(.ref b46)]))
              refine own_via (fun t k => XS.lload X47.here hx rfl (hb hby at_125) rfl k) ?_
              show own_G p e below _ (T47.setTop (mkF m 127 #[.val (.int p1), .val (.int p2), .val (.int p3), .val (.int p4), .val (.int (own_min p1 p2)), .val (.int (own_max p1 p2)), .val (.int (p4 &&& (7 : Int32))), .val (.long (((own_max p1 p2).toInt64) + (1 : Int64))), .second, .val (.ref b46), .val (.int (0 : Int32))] [(.long (((own_max p1 p2).toInt64) + (1 : Int64))), (.ref b46)]))
              refine own_via (fun t k => XS.l2dS X47.here hx rfl (hb hby at_127) rfl rfl k) ?_
              show own_G p e below _ (T47.setTop (mkF m 128 #[.val (.int p1), .val (.int p2), .val (.int p3), .val (.int p4), .val (.int (own_min p1 p2)), .val (.int (own_max p1 p2)), .val (.int (p4 &&& (7 : Int32))), .val (.long (((own_max p1 p2).toInt64) + (1 : Int64))), .second, .val (.ref b46), .val (.int (0 : Int32))] [(.double (FP.l2d (((own_max p1 p2).toInt64) + (1 : Int64)))), (.ref b46)]))
              obtain ⟨cq55, kq55, q55a, q55b, q55c⟩ := isOf hZ rfl E47q
              obtain ⟨_, _, ⟨T55, L55, k55, n55⟩, -, X55, ⟨Lc55, hQ55, l55, y55, z55⟩, st55⟩ := X47.virtualBack hx (y := (⟨"com/example/fee_simple/feesimple/ratiostudy/Interval", "contains", "(D)Z"⟩ : MethodName)) (z := (⟨"com/example/fee_simple/feesimple/ratiostudy/Interval", "contains", "(D)Z"⟩ : MethodName)) hown (mvT hZ (hw _ (List.mem_of_getElem? (i := 28) rfl))) (mvT hZ (hw _ (List.mem_of_getElem? (i := 29) rfl))) (notFace_of_selects (args := #[]) (mvT hZ (hw _ (List.mem_of_getElem? (i := 31) rfl)))) (mvT hZ (hw _ (List.mem_of_getElem? (i := 31) rfl))) (mvT hZ (hw _ (List.mem_of_getElem? (i := 30) rfl))) (by decide) (backOf (W := 0) (rm7 l Z a0 hw [] b46 (((own_max p1 p2).toInt64) + (1 : Int64)) (own_min p1 p2) (own_max p1 p2) T47.heap n0 Z47 Fl47 Fc47 (own_bp _)) hZ (hw _ (List.mem_of_getElem? (i := 32) rfl)) (hw _ (List.mem_of_getElem? (i := 9) rfl)) (by decide) (by decide)) q55a q55c (g := (mkF m 128 #[.val (.int p1), .val (.int p2), .val (.int p3), .val (.int p4), .val (.int (own_min p1 p2)), .val (.int (own_max p1 p2)), .val (.int (p4 &&& (7 : Int32))), .val (.long (((own_max p1 p2).toInt64) + (1 : Int64))), .second, .val (.ref b46), .val (.int (0 : Int32))] [(.double (FP.l2d (((own_max p1 p2).toInt64) + (1 : Int64)))), (.ref b46)])) rfl (by rw [hml]; rfl) (Steps.refl _) (argsL := [(.double (FP.l2d (((own_max p1 p2).toInt64) + (1 : Int64))))]) (rest := []) (lenOf pd_rm0_2 rfl) rfl (by show 2 * 0 + _ ≤ _; exact Nat.le_of_eq rfl) (hb hby at_128) (fun _ _ => ⟨rfl, rfl, (by decide : 1 + 0 ≤ _), (by decide : 2 + 0 ≤ _)⟩)
              dsimp only [Pt.U, Pt.locs, Pt.cells, Pt.slots] at X55 l55 y55 z55 st55 hQ55
              subst l55 y55 z55
              obtain ⟨rfl, N55q, e55⟩ := hQ55
              have N55 := Fr.app N47 N55q
              refine own_via (fun t k => st55.trans k) ?_
              show own_G p e below _ (T55.setTop (mkF m 131 #[.val (.int p1), .val (.int p2), .val (.int p3), .val (.int p4), .val (.int (own_min p1 p2)), .val (.int (own_max p1 p2)), .val (.int (p4 &&& (7 : Int32))), .val (.long (((own_max p1 p2).toInt64) + (1 : Int64))), .second, .val (.ref b46), .val (.int (0 : Int32))] [(.int (own_in (((own_max p1 p2).toInt64) + (1 : Int64)) (own_min p1 p2) (own_max p1 p2)))]))
              refine own_via (fun t k => XS.iload X55.here hx rfl (hb hby at_131) rfl k) ?_
              show own_G p e below _ (T55.setTop (mkF m 133 #[.val (.int p1), .val (.int p2), .val (.int p3), .val (.int p4), .val (.int (own_min p1 p2)), .val (.int (own_max p1 p2)), .val (.int (p4 &&& (7 : Int32))), .val (.long (((own_max p1 p2).toInt64) + (1 : Int64))), .second, .val (.ref b46), .val (.int (0 : Int32))] [(.int (0 : Int32)), (.int (own_in (((own_max p1 p2).toInt64) + (1 : Int64)) (own_min p1 p2) (own_max p1 p2)))]))
              by_cases c133_56 : (own_in (((own_max p1 p2).toInt64) + (1 : Int64)) (own_min p1 p2) (own_max p1 p2)) = (0 : Int32)
              · skip
                refine own_via (fun t k => XS.icmpNo X55.here hx rfl (hb hby at_133) rfl (teq c133_56).2 k) ?_
                show own_G p e below _ (T55.setTop (mkF m 136 #[.val (.int p1), .val (.int p2), .val (.int p3), .val (.int p4), .val (.int (own_min p1 p2)), .val (.int (own_max p1 p2)), .val (.int (p4 &&& (7 : Int32))), .val (.long (((own_max p1 p2).toInt64) + (1 : Int64))), .second, .val (.ref b46), .val (.int (0 : Int32))] []))
                refine own_via (fun t k => XS.iconst X55.here hx rfl (hb hby at_136) k) ?_
                show own_G p e below _ (T55.setTop (mkF m 137 #[.val (.int p1), .val (.int p2), .val (.int p3), .val (.int p4), .val (.int (own_min p1 p2)), .val (.int (own_max p1 p2)), .val (.int (p4 &&& (7 : Int32))), .val (.long (((own_max p1 p2).toInt64) + (1 : Int64))), .second, .val (.ref b46), .val (.int (0 : Int32))] [(.int (1 : Int32))]))
                refine own_via (fun t k => XS.goto X55.here hx rfl (pc0 := 137) (pc' := 141) rfl (hb hby at_137) (by decide) (by decide) k) ?_
                show own_G p e below _ (T55.setTop (mkF m 141 #[.val (.int p1), .val (.int p2), .val (.int p3), .val (.int p4), .val (.int (own_min p1 p2)), .val (.int (own_max p1 p2)), .val (.int (p4 &&& (7 : Int32))), .val (.long (((own_max p1 p2).toInt64) + (1 : Int64))), .second, .val (.ref b46), .val (.int (0 : Int32))] [(.int (1 : Int32))]))
                obtain ⟨fs, hr, hrun, hended, hW, hsame⟩ := X55.leave (v := some (.int (1 : Int32))) (fun h => by rw [Bd.returns] at h; cases h)
                refine ⟨_, _, retN X55 hx (t := .boolean) Bd.returns (by simp) (hb hby at_141) hr, hrun, hended, _, _, rfl, ?_, ⟨_, rfl⟩, hW, hsame.mono (by decide) (by decide)⟩
                show rm0_Q Z p1 p2 p3 p4 h0 n0 _ T55.heap _
                rw [e55]
                exact ⟨rfl, N55⟩
              · exfalso
                exact c133_56 (by simp only [own_in, if_neg c104_51, if_pos c113_54])
            · skip
              refine own_via (fun t k => XS.ifNo X47.here hx rfl (hb hby at_113) rfl ((if0 _ _).trans (flt c113_54).2.2.1) k) ?_
              show own_G p e below _ (T47.setTop (mkF m 116 #[.val (.int p1), .val (.int p2), .val (.int p3), .val (.int p4), .val (.int (own_min p1 p2)), .val (.int (own_max p1 p2)), .val (.int (p4 &&& (7 : Int32))), .val (.long (((own_max p1 p2).toInt64) + (1 : Int64))), .second, .val (.ref b46), .unset] []))
              refine own_via (fun t k => XS.iconst X47.here hx rfl (hb hby at_116) k) ?_
              show own_G p e below _ (T47.setTop (mkF m 117 #[.val (.int p1), .val (.int p2), .val (.int p3), .val (.int p4), .val (.int (own_min p1 p2)), .val (.int (own_max p1 p2)), .val (.int (p4 &&& (7 : Int32))), .val (.long (((own_max p1 p2).toInt64) + (1 : Int64))), .second, .val (.ref b46), .unset] [(.int (1 : Int32))]))
              refine own_via (fun t k => XS.goto X47.here hx rfl (pc0 := 117) (pc' := 121) rfl (hb hby at_117) (by decide) (by decide) k) ?_
              show own_G p e below _ (T47.setTop (mkF m 121 #[.val (.int p1), .val (.int p2), .val (.int p3), .val (.int p4), .val (.int (own_min p1 p2)), .val (.int (own_max p1 p2)), .val (.int (p4 &&& (7 : Int32))), .val (.long (((own_max p1 p2).toInt64) + (1 : Int64))), .second, .val (.ref b46), .unset] [(.int (1 : Int32))]))
              refine own_via (fun t k => XS.istore X47.here hx rfl (hb hby at_121) rfl (l' := #[.val (.int p1), .val (.int p2), .val (.int p3), .val (.int p4), .val (.int (own_min p1 p2)), .val (.int (own_max p1 p2)), .val (.int (p4 &&& (7 : Int32))), .val (.long (((own_max p1 p2).toInt64) + (1 : Int64))), .second, .val (.ref b46), .val (.int (1 : Int32))]) rfl k) ?_
              show own_G p e below _ (T47.setTop (mkF m 123 #[.val (.int p1), .val (.int p2), .val (.int p3), .val (.int p4), .val (.int (own_min p1 p2)), .val (.int (own_max p1 p2)), .val (.int (p4 &&& (7 : Int32))), .val (.long (((own_max p1 p2).toInt64) + (1 : Int64))), .second, .val (.ref b46), .val (.int (1 : Int32))] []))
              refine own_via (fun t k => XS.aload X47.here hx rfl (hb hby at_123) rfl rfl k) ?_
              show own_G p e below _ (T47.setTop (mkF m 125 #[.val (.int p1), .val (.int p2), .val (.int p3), .val (.int p4), .val (.int (own_min p1 p2)), .val (.int (own_max p1 p2)), .val (.int (p4 &&& (7 : Int32))), .val (.long (((own_max p1 p2).toInt64) + (1 : Int64))), .second, .val (.ref b46), .val (.int (1 : Int32))] [(.ref b46)]))
              refine own_via (fun t k => XS.lload X47.here hx rfl (hb hby at_125) rfl k) ?_
              show own_G p e below _ (T47.setTop (mkF m 127 #[.val (.int p1), .val (.int p2), .val (.int p3), .val (.int p4), .val (.int (own_min p1 p2)), .val (.int (own_max p1 p2)), .val (.int (p4 &&& (7 : Int32))), .val (.long (((own_max p1 p2).toInt64) + (1 : Int64))), .second, .val (.ref b46), .val (.int (1 : Int32))] [(.long (((own_max p1 p2).toInt64) + (1 : Int64))), (.ref b46)]))
              refine own_via (fun t k => XS.l2dS X47.here hx rfl (hb hby at_127) rfl rfl k) ?_
              show own_G p e below _ (T47.setTop (mkF m 128 #[.val (.int p1), .val (.int p2), .val (.int p3), .val (.int p4), .val (.int (own_min p1 p2)), .val (.int (own_max p1 p2)), .val (.int (p4 &&& (7 : Int32))), .val (.long (((own_max p1 p2).toInt64) + (1 : Int64))), .second, .val (.ref b46), .val (.int (1 : Int32))] [(.double (FP.l2d (((own_max p1 p2).toInt64) + (1 : Int64)))), (.ref b46)]))
              obtain ⟨cq57, kq57, q57a, q57b, q57c⟩ := isOf hZ rfl E47q
              obtain ⟨_, _, ⟨T57, L57, k57, n57⟩, -, X57, ⟨Lc57, hQ57, l57, y57, z57⟩, st57⟩ := X47.virtualBack hx (y := (⟨"com/example/fee_simple/feesimple/ratiostudy/Interval", "contains", "(D)Z"⟩ : MethodName)) (z := (⟨"com/example/fee_simple/feesimple/ratiostudy/Interval", "contains", "(D)Z"⟩ : MethodName)) hown (mvT hZ (hw _ (List.mem_of_getElem? (i := 28) rfl))) (mvT hZ (hw _ (List.mem_of_getElem? (i := 29) rfl))) (notFace_of_selects (args := #[]) (mvT hZ (hw _ (List.mem_of_getElem? (i := 31) rfl)))) (mvT hZ (hw _ (List.mem_of_getElem? (i := 31) rfl))) (mvT hZ (hw _ (List.mem_of_getElem? (i := 30) rfl))) (by decide) (backOf (W := 0) (rm7 l Z a0 hw [] b46 (((own_max p1 p2).toInt64) + (1 : Int64)) (own_min p1 p2) (own_max p1 p2) T47.heap n0 Z47 Fl47 Fc47 (own_bp _)) hZ (hw _ (List.mem_of_getElem? (i := 32) rfl)) (hw _ (List.mem_of_getElem? (i := 9) rfl)) (by decide) (by decide)) q57a q57c (g := (mkF m 128 #[.val (.int p1), .val (.int p2), .val (.int p3), .val (.int p4), .val (.int (own_min p1 p2)), .val (.int (own_max p1 p2)), .val (.int (p4 &&& (7 : Int32))), .val (.long (((own_max p1 p2).toInt64) + (1 : Int64))), .second, .val (.ref b46), .val (.int (1 : Int32))] [(.double (FP.l2d (((own_max p1 p2).toInt64) + (1 : Int64)))), (.ref b46)])) rfl (by rw [hml]; rfl) (Steps.refl _) (argsL := [(.double (FP.l2d (((own_max p1 p2).toInt64) + (1 : Int64))))]) (rest := []) (lenOf pd_rm0_2 rfl) rfl (by show 2 * 0 + _ ≤ _; exact Nat.le_of_eq rfl) (hb hby at_128) (fun _ _ => ⟨rfl, rfl, (by decide : 1 + 0 ≤ _), (by decide : 2 + 0 ≤ _)⟩)
              dsimp only [Pt.U, Pt.locs, Pt.cells, Pt.slots] at X57 l57 y57 z57 st57 hQ57
              subst l57 y57 z57
              obtain ⟨rfl, N57q, e57⟩ := hQ57
              have N57 := Fr.app N47 N57q
              refine own_via (fun t k => st57.trans k) ?_
              show own_G p e below _ (T57.setTop (mkF m 131 #[.val (.int p1), .val (.int p2), .val (.int p3), .val (.int p4), .val (.int (own_min p1 p2)), .val (.int (own_max p1 p2)), .val (.int (p4 &&& (7 : Int32))), .val (.long (((own_max p1 p2).toInt64) + (1 : Int64))), .second, .val (.ref b46), .val (.int (1 : Int32))] [(.int (own_in (((own_max p1 p2).toInt64) + (1 : Int64)) (own_min p1 p2) (own_max p1 p2)))]))
              refine own_via (fun t k => XS.iload X57.here hx rfl (hb hby at_131) rfl k) ?_
              show own_G p e below _ (T57.setTop (mkF m 133 #[.val (.int p1), .val (.int p2), .val (.int p3), .val (.int p4), .val (.int (own_min p1 p2)), .val (.int (own_max p1 p2)), .val (.int (p4 &&& (7 : Int32))), .val (.long (((own_max p1 p2).toInt64) + (1 : Int64))), .second, .val (.ref b46), .val (.int (1 : Int32))] [(.int (1 : Int32)), (.int (own_in (((own_max p1 p2).toInt64) + (1 : Int64)) (own_min p1 p2) (own_max p1 p2)))]))
              by_cases c133_58 : (own_in (((own_max p1 p2).toInt64) + (1 : Int64)) (own_min p1 p2) (own_max p1 p2)) = (1 : Int32)
              · skip
                refine own_via (fun t k => XS.icmpNo X57.here hx rfl (hb hby at_133) rfl (teq c133_58).2 k) ?_
                show own_G p e below _ (T57.setTop (mkF m 136 #[.val (.int p1), .val (.int p2), .val (.int p3), .val (.int p4), .val (.int (own_min p1 p2)), .val (.int (own_max p1 p2)), .val (.int (p4 &&& (7 : Int32))), .val (.long (((own_max p1 p2).toInt64) + (1 : Int64))), .second, .val (.ref b46), .val (.int (1 : Int32))] []))
                refine own_via (fun t k => XS.iconst X57.here hx rfl (hb hby at_136) k) ?_
                show own_G p e below _ (T57.setTop (mkF m 137 #[.val (.int p1), .val (.int p2), .val (.int p3), .val (.int p4), .val (.int (own_min p1 p2)), .val (.int (own_max p1 p2)), .val (.int (p4 &&& (7 : Int32))), .val (.long (((own_max p1 p2).toInt64) + (1 : Int64))), .second, .val (.ref b46), .val (.int (1 : Int32))] [(.int (1 : Int32))]))
                refine own_via (fun t k => XS.goto X57.here hx rfl (pc0 := 137) (pc' := 141) rfl (hb hby at_137) (by decide) (by decide) k) ?_
                show own_G p e below _ (T57.setTop (mkF m 141 #[.val (.int p1), .val (.int p2), .val (.int p3), .val (.int p4), .val (.int (own_min p1 p2)), .val (.int (own_max p1 p2)), .val (.int (p4 &&& (7 : Int32))), .val (.long (((own_max p1 p2).toInt64) + (1 : Int64))), .second, .val (.ref b46), .val (.int (1 : Int32))] [(.int (1 : Int32))]))
                obtain ⟨fs, hr, hrun, hended, hW, hsame⟩ := X57.leave (v := some (.int (1 : Int32))) (fun h => by rw [Bd.returns] at h; cases h)
                refine ⟨_, _, retN X57 hx (t := .boolean) Bd.returns (by simp) (hb hby at_141) hr, hrun, hended, _, _, rfl, ?_, ⟨_, rfl⟩, hW, hsame.mono (by decide) (by decide)⟩
                show rm0_Q Z p1 p2 p3 p4 h0 n0 _ T57.heap _
                rw [e57]
                exact ⟨rfl, N57⟩
              · exfalso
                exact c133_58 (by simp only [own_in, if_neg c104_51, if_neg c113_54])
        · skip
          refine own_via (fun t k => XS.icmpYes X2.here hx rfl (pc0 := 66) (pc' := 79) rfl (hb hby at_66) rfl (feq c66_45).2 (by decide) (by decide) k) ?_
          show own_G p e below _ (T2.setTop (mkF m 79 #[.val (.int p1), .val (.int p2), .val (.int p3), .val (.int p4), .val (.int (own_min p1 p2)), .val (.int (own_max p1 p2)), .val (.int (p4 &&& (7 : Int32))), .unset, .unset, .unset, .unset] []))
          refine own_via (fun t k => XS.iloadN X2.here hx rfl (hb hby at_79) rfl k) ?_
          show own_G p e below _ (T2.setTop (mkF m 80 #[.val (.int p1), .val (.int p2), .val (.int p3), .val (.int p4), .val (.int (own_min p1 p2)), .val (.int (own_max p1 p2)), .val (.int (p4 &&& (7 : Int32))), .unset, .unset, .unset, .unset] [(.int p3)]))
          refine own_via (fun t k => XS.i2l X2.here hx rfl (hb hby at_80) rfl k) ?_
          show own_G p e below _ (T2.setTop (mkF m 81 #[.val (.int p1), .val (.int p2), .val (.int p3), .val (.int p4), .val (.int (own_min p1 p2)), .val (.int (own_max p1 p2)), .val (.int (p4 &&& (7 : Int32))), .unset, .unset, .unset, .unset] [(.long (p3.toInt64))]))
          refine own_via (fun t k => XS.lstore X2.here hx rfl (hb hby at_81) rfl (l' := #[.val (.int p1), .val (.int p2), .val (.int p3), .val (.int p4), .val (.int (own_min p1 p2)), .val (.int (own_max p1 p2)), .val (.int (p4 &&& (7 : Int32))), .val (.long (p3.toInt64)), .second, .unset, .unset]) rfl k) ?_
          show own_G p e below _ (T2.setTop (mkF m 83 #[.val (.int p1), .val (.int p2), .val (.int p3), .val (.int p4), .val (.int (own_min p1 p2)), .val (.int (own_max p1 p2)), .val (.int (p4 &&& (7 : Int32))), .val (.long (p3.toInt64)), .second, .unset, .unset] []))
          obtain ⟨T59, h59, X59, e59, E59, A59, D59, -, st59⟩ := newO X2 hx hZ hown (hw _ (List.mem_of_getElem? (i := 7) rfl)) (hw _ (List.mem_of_getElem? (i := 8) rfl)) (hw _ (List.mem_of_getElem? (i := 9) rfl)) e2 (g := (mkF m 83 #[.val (.int p1), .val (.int p2), .val (.int p3), .val (.int p4), .val (.int (own_min p1 p2)), .val (.int (own_max p1 p2)), .val (.int (p4 &&& (7 : Int32))), .val (.long (p3.toInt64)), .second, .unset, .unset] [])) rfl (hb hby at_83) (by decide) (by decide)
          obtain ⟨b59, g59⟩ : ∃ z, z = h0.size := ⟨_, rfl⟩
          rw [← g59] at A59 D59 st59
          have gx_b59 : n0 ≤ b59 := Nat.le_trans Z0 (Nat.le_of_eq g59.symm)
          have Z59 : n0 ≤ h59.size := Nat.le_trans Z0 E59.1
          have F59_low : Fld Z h59 b59 "com/example/fee_simple/feesimple/ratiostudy/Interval" "low" "D" (.double (0 : UInt64)) := D59 (Or.inr (hw _ (List.mem_of_getElem? (i := 25) rfl))) (ty := .double) (by decide)
          have F59_high : Fld Z h59 b59 "com/example/fee_simple/feesimple/ratiostudy/Interval" "high" "D" (.double (0 : UInt64)) := D59 (Or.inr (hw _ (List.mem_of_getElem? (i := 27) rfl))) (ty := .double) (by decide)
          refine own_via st59 ?_
          show own_G p e below _ (T59.setTop (mkF m 86 #[.val (.int p1), .val (.int p2), .val (.int p3), .val (.int p4), .val (.int (own_min p1 p2)), .val (.int (own_max p1 p2)), .val (.int (p4 &&& (7 : Int32))), .val (.long (p3.toInt64)), .second, .unset, .unset] [(.ref b59)]))
          refine own_via (fun t k => XS.dup X59.here hx rfl (hb hby at_86) rfl rfl k) ?_
          show own_G p e below _ (T59.setTop (mkF m 87 #[.val (.int p1), .val (.int p2), .val (.int p3), .val (.int p4), .val (.int (own_min p1 p2)), .val (.int (own_max p1 p2)), .val (.int (p4 &&& (7 : Int32))), .val (.long (p3.toInt64)), .second, .unset, .unset] [(.ref b59), (.ref b59)]))
          refine own_via (fun t k => XS.iload X59.here hx rfl (hb hby at_87) rfl k) ?_
          show own_G p e below _ (T59.setTop (mkF m 89 #[.val (.int p1), .val (.int p2), .val (.int p3), .val (.int p4), .val (.int (own_min p1 p2)), .val (.int (own_max p1 p2)), .val (.int (p4 &&& (7 : Int32))), .val (.long (p3.toInt64)), .second, .unset, .unset] [(.int (own_min p1 p2)), (.ref b59), (.ref b59)]))
          refine own_via (fun t k => XS.i2dS X59.here hx rfl (hb hby at_89) rfl rfl k) ?_
          show own_G p e below _ (T59.setTop (mkF m 90 #[.val (.int p1), .val (.int p2), .val (.int p3), .val (.int p4), .val (.int (own_min p1 p2)), .val (.int (own_max p1 p2)), .val (.int (p4 &&& (7 : Int32))), .val (.long (p3.toInt64)), .second, .unset, .unset] [(.double (FP.i2d (own_min p1 p2))), (.ref b59), (.ref b59)]))
          refine own_via (fun t k => XS.iload X59.here hx rfl (hb hby at_90) rfl k) ?_
          show own_G p e below _ (T59.setTop (mkF m 92 #[.val (.int p1), .val (.int p2), .val (.int p3), .val (.int p4), .val (.int (own_min p1 p2)), .val (.int (own_max p1 p2)), .val (.int (p4 &&& (7 : Int32))), .val (.long (p3.toInt64)), .second, .unset, .unset] [(.int (own_max p1 p2)), (.double (FP.i2d (own_min p1 p2))), (.ref b59), (.ref b59)]))
          refine own_via (fun t k => XS.i2dS X59.here hx rfl (hb hby at_92) rfl rfl k) ?_
          show own_G p e below _ (T59.setTop (mkF m 93 #[.val (.int p1), .val (.int p2), .val (.int p3), .val (.int p4), .val (.int (own_min p1 p2)), .val (.int (own_max p1 p2)), .val (.int (p4 &&& (7 : Int32))), .val (.long (p3.toInt64)), .second, .unset, .unset] [(.double (FP.i2d (own_max p1 p2))), (.double (FP.i2d (own_min p1 p2))), (.ref b59), (.ref b59)]))
          obtain ⟨_, _, ⟨T60, L60, k60, n60⟩, -, X60, ⟨Lc60, hQ60, l60, y60, z60⟩, st60⟩ := X59.specialBack hx (y := (⟨"com/example/fee_simple/feesimple/ratiostudy/Interval", "<init>", "(DD)V"⟩ : MethodName)) rfl hown (mvT hZ (hw _ (List.mem_of_getElem? (i := 10) rfl))) (mvT hZ (hw _ (List.mem_of_getElem? (i := 11) rfl))) (mvT hZ (hw _ (List.mem_of_getElem? (i := 12) rfl))) (by decide) (backOf (W := 1) (rm3 l Z a0 hw [] b59 (own_min p1 p2) (own_max p1 p2) h59 n0 Z59 A59 F59_low F59_high gx_b59 (own_mm _ _)) hZ (hw _ (List.mem_of_getElem? (i := 12) rfl)) (hw _ (List.mem_of_getElem? (i := 9) rfl)) (by decide) (by decide)) (g := (mkF m 93 #[.val (.int p1), .val (.int p2), .val (.int p3), .val (.int p4), .val (.int (own_min p1 p2)), .val (.int (own_max p1 p2)), .val (.int (p4 &&& (7 : Int32))), .val (.long (p3.toInt64)), .second, .unset, .unset] [(.double (FP.i2d (own_max p1 p2))), (.double (FP.i2d (own_min p1 p2))), (.ref b59), (.ref b59)])) rfl (by rw [hml]; rfl) (Steps.refl _) (a := b59) (argsL := [(.double (FP.i2d (own_min p1 p2))), (.double (FP.i2d (own_max p1 p2)))]) (rest := [(.ref b59)]) (lenOf pd_rm0_1 rfl) rfl (by show 2 * 0 + _ ≤ _; exact Nat.le_of_eq rfl) (hb hby at_93) (fun _ _ => ⟨rfl, e59, (by decide : 1 + 0 ≤ _), (by decide : 2 + 0 ≤ _)⟩)
          dsimp only [Pt.U, Pt.locs, Pt.cells, Pt.slots] at X60 l60 y60 z60 st60 hQ60
          subst l60 y60 z60
          obtain ⟨rfl, N60q, K60, E60q, Fl60, Fc60⟩ := hQ60
          have N60 := Fr.app N2 N60q
          have F61 := A59.keep K60
          have Z60 : n0 ≤ T60.heap.size := Nat.le_trans Z59 K60.1
          refine own_via (fun t k => st60.trans k) ?_
          show own_G p e below _ (T60.setTop (mkF m 96 #[.val (.int p1), .val (.int p2), .val (.int p3), .val (.int p4), .val (.int (own_min p1 p2)), .val (.int (own_max p1 p2)), .val (.int (p4 &&& (7 : Int32))), .val (.long (p3.toInt64)), .second, .unset, .unset] [(.ref b59)]))
          refine own_via (fun t k => XS.astore X60.here hx rfl (hb hby at_96) rfl rfl (l' := #[.val (.int p1), .val (.int p2), .val (.int p3), .val (.int p4), .val (.int (own_min p1 p2)), .val (.int (own_max p1 p2)), .val (.int (p4 &&& (7 : Int32))), .val (.long (p3.toInt64)), .second, .val (.ref b59), .unset]) rfl k) ?_
          show own_G p e below _ (T60.setTop (mkF m 98 #[.val (.int p1), .val (.int p2), .val (.int p3), .val (.int p4), .val (.int (own_min p1 p2)), .val (.int (own_max p1 p2)), .val (.int (p4 &&& (7 : Int32))), .val (.long (p3.toInt64)), .second, .val (.ref b59), .unset] []))
          refine own_via (fun t k => XS.lload X60.here hx rfl (hb hby at_98) rfl k) ?_
          show own_G p e below _ (T60.setTop (mkF m 100 #[.val (.int p1), .val (.int p2), .val (.int p3), .val (.int p4), .val (.int (own_min p1 p2)), .val (.int (own_max p1 p2)), .val (.int (p4 &&& (7 : Int32))), .val (.long (p3.toInt64)), .second, .val (.ref b59), .unset] [(.long (p3.toInt64))]))
          refine own_via (fun t k => XS.iload X60.here hx rfl (hb hby at_100) rfl k) ?_
          show own_G p e below _ (T60.setTop (mkF m 102 #[.val (.int p1), .val (.int p2), .val (.int p3), .val (.int p4), .val (.int (own_min p1 p2)), .val (.int (own_max p1 p2)), .val (.int (p4 &&& (7 : Int32))), .val (.long (p3.toInt64)), .second, .val (.ref b59), .unset] [(.int (own_min p1 p2)), (.long (p3.toInt64))]))
          refine own_via (fun t k => XS.i2l X60.here hx rfl (hb hby at_102) rfl k) ?_
          show own_G p e below _ (T60.setTop (mkF m 103 #[.val (.int p1), .val (.int p2), .val (.int p3), .val (.int p4), .val (.int (own_min p1 p2)), .val (.int (own_max p1 p2)), .val (.int (p4 &&& (7 : Int32))), .val (.long (p3.toInt64)), .second, .val (.ref b59), .unset] [(.long ((own_min p1 p2).toInt64)), (.long (p3.toInt64))]))
          refine own_via (fun t k => XS.lcmp X60.here hx rfl (hb hby at_103) rfl k) ?_
          show own_G p e below _ (T60.setTop (mkF m 104 #[.val (.int p1), .val (.int p2), .val (.int p3), .val (.int p4), .val (.int (own_min p1 p2)), .val (.int (own_max p1 p2)), .val (.int (p4 &&& (7 : Int32))), .val (.long (p3.toInt64)), .second, .val (.ref b59), .unset] [(.int (lcmpW (p3.toInt64) ((own_min p1 p2).toInt64)))]))
          by_cases c104_64 : (lcmpW (p3.toInt64) ((own_min p1 p2).toInt64)) < (0 : Int32)
          · skip
            refine own_via (fun t k => XS.ifYes X60.here hx rfl (pc0 := 104) (pc' := 120) rfl (hb hby at_104) rfl ((if0 _ _).trans (tlt c104_64).1) (by decide) (by decide) k) ?_
            show own_G p e below _ (T60.setTop (mkF m 120 #[.val (.int p1), .val (.int p2), .val (.int p3), .val (.int p4), .val (.int (own_min p1 p2)), .val (.int (own_max p1 p2)), .val (.int (p4 &&& (7 : Int32))), .val (.long (p3.toInt64)), .second, .val (.ref b59), .unset] []))
            refine own_via (fun t k => XS.iconst X60.here hx rfl (hb hby at_120) k) ?_
            show own_G p e below _ (T60.setTop (mkF m 121 #[.val (.int p1), .val (.int p2), .val (.int p3), .val (.int p4), .val (.int (own_min p1 p2)), .val (.int (own_max p1 p2)), .val (.int (p4 &&& (7 : Int32))), .val (.long (p3.toInt64)), .second, .val (.ref b59), .unset] [(.int (0 : Int32))]))
            refine own_via (fun t k => XS.istore X60.here hx rfl (hb hby at_121) rfl (l' := #[.val (.int p1), .val (.int p2), .val (.int p3), .val (.int p4), .val (.int (own_min p1 p2)), .val (.int (own_max p1 p2)), .val (.int (p4 &&& (7 : Int32))), .val (.long (p3.toInt64)), .second, .val (.ref b59), .val (.int (0 : Int32))]) rfl k) ?_
            show own_G p e below _ (T60.setTop (mkF m 123 #[.val (.int p1), .val (.int p2), .val (.int p3), .val (.int p4), .val (.int (own_min p1 p2)), .val (.int (own_max p1 p2)), .val (.int (p4 &&& (7 : Int32))), .val (.long (p3.toInt64)), .second, .val (.ref b59), .val (.int (0 : Int32))] []))
            refine own_via (fun t k => XS.aload X60.here hx rfl (hb hby at_123) rfl rfl k) ?_
            show own_G p e below _ (T60.setTop (mkF m 125 #[.val (.int p1), .val (.int p2), .val (.int p3), .val (.int p4), .val (.int (own_min p1 p2)), .val (.int (own_max p1 p2)), .val (.int (p4 &&& (7 : Int32))), .val (.long (p3.toInt64)), .second, .val (.ref b59), .val (.int (0 : Int32))] [(.ref b59)]))
            refine own_via (fun t k => XS.lload X60.here hx rfl (hb hby at_125) rfl k) ?_
            show own_G p e below _ (T60.setTop (mkF m 127 #[.val (.int p1), .val (.int p2), .val (.int p3), .val (.int p4), .val (.int (own_min p1 p2)), .val (.int (own_max p1 p2)), .val (.int (p4 &&& (7 : Int32))), .val (.long (p3.toInt64)), .second, .val (.ref b59), .val (.int (0 : Int32))] [(.long (p3.toInt64)), (.ref b59)]))
            refine own_via (fun t k => XS.l2dS X60.here hx rfl (hb hby at_127) rfl rfl k) ?_
            show own_G p e below _ (T60.setTop (mkF m 128 #[.val (.int p1), .val (.int p2), .val (.int p3), .val (.int p4), .val (.int (own_min p1 p2)), .val (.int (own_max p1 p2)), .val (.int (p4 &&& (7 : Int32))), .val (.long (p3.toInt64)), .second, .val (.ref b59), .val (.int (0 : Int32))] [(.double (FP.l2d (p3.toInt64))), (.ref b59)]))
            obtain ⟨cq65, kq65, q65a, q65b, q65c⟩ := isOf hZ rfl E60q
            obtain ⟨_, _, ⟨T65, L65, k65, n65⟩, -, X65, ⟨Lc65, hQ65, l65, y65, z65⟩, st65⟩ := X60.virtualBack hx (y := (⟨"com/example/fee_simple/feesimple/ratiostudy/Interval", "contains", "(D)Z"⟩ : MethodName)) (z := (⟨"com/example/fee_simple/feesimple/ratiostudy/Interval", "contains", "(D)Z"⟩ : MethodName)) hown (mvT hZ (hw _ (List.mem_of_getElem? (i := 28) rfl))) (mvT hZ (hw _ (List.mem_of_getElem? (i := 29) rfl))) (notFace_of_selects (args := #[]) (mvT hZ (hw _ (List.mem_of_getElem? (i := 31) rfl)))) (mvT hZ (hw _ (List.mem_of_getElem? (i := 31) rfl))) (mvT hZ (hw _ (List.mem_of_getElem? (i := 30) rfl))) (by decide) (backOf (W := 0) (rm7 l Z a0 hw [] b59 (p3.toInt64) (own_min p1 p2) (own_max p1 p2) T60.heap n0 Z60 Fl60 Fc60 (own_b53 _)) hZ (hw _ (List.mem_of_getElem? (i := 32) rfl)) (hw _ (List.mem_of_getElem? (i := 9) rfl)) (by decide) (by decide)) q65a q65c (g := (mkF m 128 #[.val (.int p1), .val (.int p2), .val (.int p3), .val (.int p4), .val (.int (own_min p1 p2)), .val (.int (own_max p1 p2)), .val (.int (p4 &&& (7 : Int32))), .val (.long (p3.toInt64)), .second, .val (.ref b59), .val (.int (0 : Int32))] [(.double (FP.l2d (p3.toInt64))), (.ref b59)])) rfl (by rw [hml]; rfl) (Steps.refl _) (argsL := [(.double (FP.l2d (p3.toInt64)))]) (rest := []) (lenOf pd_rm0_2 rfl) rfl (by show 2 * 0 + _ ≤ _; exact Nat.le_of_eq rfl) (hb hby at_128) (fun _ _ => ⟨rfl, rfl, (by decide : 1 + 0 ≤ _), (by decide : 2 + 0 ≤ _)⟩)
            dsimp only [Pt.U, Pt.locs, Pt.cells, Pt.slots] at X65 l65 y65 z65 st65 hQ65
            subst l65 y65 z65
            obtain ⟨rfl, N65q, e65⟩ := hQ65
            have N65 := Fr.app N60 N65q
            refine own_via (fun t k => st65.trans k) ?_
            show own_G p e below _ (T65.setTop (mkF m 131 #[.val (.int p1), .val (.int p2), .val (.int p3), .val (.int p4), .val (.int (own_min p1 p2)), .val (.int (own_max p1 p2)), .val (.int (p4 &&& (7 : Int32))), .val (.long (p3.toInt64)), .second, .val (.ref b59), .val (.int (0 : Int32))] [(.int (own_in (p3.toInt64) (own_min p1 p2) (own_max p1 p2)))]))
            refine own_via (fun t k => XS.iload X65.here hx rfl (hb hby at_131) rfl k) ?_
            show own_G p e below _ (T65.setTop (mkF m 133 #[.val (.int p1), .val (.int p2), .val (.int p3), .val (.int p4), .val (.int (own_min p1 p2)), .val (.int (own_max p1 p2)), .val (.int (p4 &&& (7 : Int32))), .val (.long (p3.toInt64)), .second, .val (.ref b59), .val (.int (0 : Int32))] [(.int (0 : Int32)), (.int (own_in (p3.toInt64) (own_min p1 p2) (own_max p1 p2)))]))
            by_cases c133_66 : (own_in (p3.toInt64) (own_min p1 p2) (own_max p1 p2)) = (0 : Int32)
            · skip
              refine own_via (fun t k => XS.icmpNo X65.here hx rfl (hb hby at_133) rfl (teq c133_66).2 k) ?_
              show own_G p e below _ (T65.setTop (mkF m 136 #[.val (.int p1), .val (.int p2), .val (.int p3), .val (.int p4), .val (.int (own_min p1 p2)), .val (.int (own_max p1 p2)), .val (.int (p4 &&& (7 : Int32))), .val (.long (p3.toInt64)), .second, .val (.ref b59), .val (.int (0 : Int32))] []))
              refine own_via (fun t k => XS.iconst X65.here hx rfl (hb hby at_136) k) ?_
              show own_G p e below _ (T65.setTop (mkF m 137 #[.val (.int p1), .val (.int p2), .val (.int p3), .val (.int p4), .val (.int (own_min p1 p2)), .val (.int (own_max p1 p2)), .val (.int (p4 &&& (7 : Int32))), .val (.long (p3.toInt64)), .second, .val (.ref b59), .val (.int (0 : Int32))] [(.int (1 : Int32))]))
              refine own_via (fun t k => XS.goto X65.here hx rfl (pc0 := 137) (pc' := 141) rfl (hb hby at_137) (by decide) (by decide) k) ?_
              show own_G p e below _ (T65.setTop (mkF m 141 #[.val (.int p1), .val (.int p2), .val (.int p3), .val (.int p4), .val (.int (own_min p1 p2)), .val (.int (own_max p1 p2)), .val (.int (p4 &&& (7 : Int32))), .val (.long (p3.toInt64)), .second, .val (.ref b59), .val (.int (0 : Int32))] [(.int (1 : Int32))]))
              obtain ⟨fs, hr, hrun, hended, hW, hsame⟩ := X65.leave (v := some (.int (1 : Int32))) (fun h => by rw [Bd.returns] at h; cases h)
              refine ⟨_, _, retN X65 hx (t := .boolean) Bd.returns (by simp) (hb hby at_141) hr, hrun, hended, _, _, rfl, ?_, ⟨_, rfl⟩, hW, hsame.mono (by decide) (by decide)⟩
              show rm0_Q Z p1 p2 p3 p4 h0 n0 _ T65.heap _
              rw [e65]
              exact ⟨rfl, N65⟩
            · exfalso
              exact c133_66 (by simp only [own_in, if_pos c104_64])
          · skip
            refine own_via (fun t k => XS.ifNo X60.here hx rfl (hb hby at_104) rfl ((if0 _ _).trans (flt c104_64).1) k) ?_
            show own_G p e below _ (T60.setTop (mkF m 107 #[.val (.int p1), .val (.int p2), .val (.int p3), .val (.int p4), .val (.int (own_min p1 p2)), .val (.int (own_max p1 p2)), .val (.int (p4 &&& (7 : Int32))), .val (.long (p3.toInt64)), .second, .val (.ref b59), .unset] []))
            refine own_via (fun t k => XS.lload X60.here hx rfl (hb hby at_107) rfl k) ?_
            show own_G p e below _ (T60.setTop (mkF m 109 #[.val (.int p1), .val (.int p2), .val (.int p3), .val (.int p4), .val (.int (own_min p1 p2)), .val (.int (own_max p1 p2)), .val (.int (p4 &&& (7 : Int32))), .val (.long (p3.toInt64)), .second, .val (.ref b59), .unset] [(.long (p3.toInt64))]))
            refine own_via (fun t k => XS.iload X60.here hx rfl (hb hby at_109) rfl k) ?_
            show own_G p e below _ (T60.setTop (mkF m 111 #[.val (.int p1), .val (.int p2), .val (.int p3), .val (.int p4), .val (.int (own_min p1 p2)), .val (.int (own_max p1 p2)), .val (.int (p4 &&& (7 : Int32))), .val (.long (p3.toInt64)), .second, .val (.ref b59), .unset] [(.int (own_max p1 p2)), (.long (p3.toInt64))]))
            refine own_via (fun t k => XS.i2l X60.here hx rfl (hb hby at_111) rfl k) ?_
            show own_G p e below _ (T60.setTop (mkF m 112 #[.val (.int p1), .val (.int p2), .val (.int p3), .val (.int p4), .val (.int (own_min p1 p2)), .val (.int (own_max p1 p2)), .val (.int (p4 &&& (7 : Int32))), .val (.long (p3.toInt64)), .second, .val (.ref b59), .unset] [(.long ((own_max p1 p2).toInt64)), (.long (p3.toInt64))]))
            refine own_via (fun t k => XS.lcmp X60.here hx rfl (hb hby at_112) rfl k) ?_
            show own_G p e below _ (T60.setTop (mkF m 113 #[.val (.int p1), .val (.int p2), .val (.int p3), .val (.int p4), .val (.int (own_min p1 p2)), .val (.int (own_max p1 p2)), .val (.int (p4 &&& (7 : Int32))), .val (.long (p3.toInt64)), .second, .val (.ref b59), .unset] [(.int (lcmpW (p3.toInt64) ((own_max p1 p2).toInt64)))]))
            by_cases c113_67 : (0 : Int32) < (lcmpW (p3.toInt64) ((own_max p1 p2).toInt64))
            · skip
              refine own_via (fun t k => XS.ifYes X60.here hx rfl (pc0 := 113) (pc' := 120) rfl (hb hby at_113) rfl ((if0 _ _).trans (tlt c113_67).2.2.1) (by decide) (by decide) k) ?_
              show own_G p e below _ (T60.setTop (mkF m 120 #[.val (.int p1), .val (.int p2), .val (.int p3), .val (.int p4), .val (.int (own_min p1 p2)), .val (.int (own_max p1 p2)), .val (.int (p4 &&& (7 : Int32))), .val (.long (p3.toInt64)), .second, .val (.ref b59), .unset] []))
              refine own_via (fun t k => XS.iconst X60.here hx rfl (hb hby at_120) k) ?_
              show own_G p e below _ (T60.setTop (mkF m 121 #[.val (.int p1), .val (.int p2), .val (.int p3), .val (.int p4), .val (.int (own_min p1 p2)), .val (.int (own_max p1 p2)), .val (.int (p4 &&& (7 : Int32))), .val (.long (p3.toInt64)), .second, .val (.ref b59), .unset] [(.int (0 : Int32))]))
              refine own_via (fun t k => XS.istore X60.here hx rfl (hb hby at_121) rfl (l' := #[.val (.int p1), .val (.int p2), .val (.int p3), .val (.int p4), .val (.int (own_min p1 p2)), .val (.int (own_max p1 p2)), .val (.int (p4 &&& (7 : Int32))), .val (.long (p3.toInt64)), .second, .val (.ref b59), .val (.int (0 : Int32))]) rfl k) ?_
              show own_G p e below _ (T60.setTop (mkF m 123 #[.val (.int p1), .val (.int p2), .val (.int p3), .val (.int p4), .val (.int (own_min p1 p2)), .val (.int (own_max p1 p2)), .val (.int (p4 &&& (7 : Int32))), .val (.long (p3.toInt64)), .second, .val (.ref b59), .val (.int (0 : Int32))] []))
              refine own_via (fun t k => XS.aload X60.here hx rfl (hb hby at_123) rfl rfl k) ?_
              show own_G p e below _ (T60.setTop (mkF m 125 #[.val (.int p1), .val (.int p2), .val (.int p3), .val (.int p4), .val (.int (own_min p1 p2)), .val (.int (own_max p1 p2)), .val (.int (p4 &&& (7 : Int32))), .val (.long (p3.toInt64)), .second, .val (.ref b59), .val (.int (0 : Int32))] [(.ref b59)]))
              refine own_via (fun t k => XS.lload X60.here hx rfl (hb hby at_125) rfl k) ?_
              show own_G p e below _ (T60.setTop (mkF m 127 #[.val (.int p1), .val (.int p2), .val (.int p3), .val (.int p4), .val (.int (own_min p1 p2)), .val (.int (own_max p1 p2)), .val (.int (p4 &&& (7 : Int32))), .val (.long (p3.toInt64)), .second, .val (.ref b59), .val (.int (0 : Int32))] [(.long (p3.toInt64)), (.ref b59)]))
              refine own_via (fun t k => XS.l2dS X60.here hx rfl (hb hby at_127) rfl rfl k) ?_
              show own_G p e below _ (T60.setTop (mkF m 128 #[.val (.int p1), .val (.int p2), .val (.int p3), .val (.int p4), .val (.int (own_min p1 p2)), .val (.int (own_max p1 p2)), .val (.int (p4 &&& (7 : Int32))), .val (.long (p3.toInt64)), .second, .val (.ref b59), .val (.int (0 : Int32))] [(.double (FP.l2d (p3.toInt64))), (.ref b59)]))
              obtain ⟨cq68, kq68, q68a, q68b, q68c⟩ := isOf hZ rfl E60q
              obtain ⟨_, _, ⟨T68, L68, k68, n68⟩, -, X68, ⟨Lc68, hQ68, l68, y68, z68⟩, st68⟩ := X60.virtualBack hx (y := (⟨"com/example/fee_simple/feesimple/ratiostudy/Interval", "contains", "(D)Z"⟩ : MethodName)) (z := (⟨"com/example/fee_simple/feesimple/ratiostudy/Interval", "contains", "(D)Z"⟩ : MethodName)) hown (mvT hZ (hw _ (List.mem_of_getElem? (i := 28) rfl))) (mvT hZ (hw _ (List.mem_of_getElem? (i := 29) rfl))) (notFace_of_selects (args := #[]) (mvT hZ (hw _ (List.mem_of_getElem? (i := 31) rfl)))) (mvT hZ (hw _ (List.mem_of_getElem? (i := 31) rfl))) (mvT hZ (hw _ (List.mem_of_getElem? (i := 30) rfl))) (by decide) (backOf (W := 0) (rm7 l Z a0 hw [] b59 (p3.toInt64) (own_min p1 p2) (own_max p1 p2) T60.heap n0 Z60 Fl60 Fc60 (own_b53 _)) hZ (hw _ (List.mem_of_getElem? (i := 32) rfl)) (hw _ (List.mem_of_getElem? (i := 9) rfl)) (by decide) (by decide)) q68a q68c (g := (mkF m 128 #[.val (.int p1), .val (.int p2), .val (.int p3), .val (.int p4), .val (.int (own_min p1 p2)), .val (.int (own_max p1 p2)), .val (.int (p4 &&& (7 : Int32))), .val (.long (p3.toInt64)), .second, .val (.ref b59), .val (.int (0 : Int32))] [(.double (FP.l2d (p3.toInt64))), (.ref b59)])) rfl (by rw [hml]; rfl) (Steps.refl _) (argsL := [(.double (FP.l2d (p3.toInt64)))]) (rest := []) (lenOf pd_rm0_2 rfl) rfl (by show 2 * 0 + _ ≤ _; exact Nat.le_of_eq rfl) (hb hby at_128) (fun _ _ => ⟨rfl, rfl, (by decide : 1 + 0 ≤ _), (by decide : 2 + 0 ≤ _)⟩)
              dsimp only [Pt.U, Pt.locs, Pt.cells, Pt.slots] at X68 l68 y68 z68 st68 hQ68
              subst l68 y68 z68
              obtain ⟨rfl, N68q, e68⟩ := hQ68
              have N68 := Fr.app N60 N68q
              refine own_via (fun t k => st68.trans k) ?_
              show own_G p e below _ (T68.setTop (mkF m 131 #[.val (.int p1), .val (.int p2), .val (.int p3), .val (.int p4), .val (.int (own_min p1 p2)), .val (.int (own_max p1 p2)), .val (.int (p4 &&& (7 : Int32))), .val (.long (p3.toInt64)), .second, .val (.ref b59), .val (.int (0 : Int32))] [(.int (own_in (p3.toInt64) (own_min p1 p2) (own_max p1 p2)))]))
              refine own_via (fun t k => XS.iload X68.here hx rfl (hb hby at_131) rfl k) ?_
              show own_G p e below _ (T68.setTop (mkF m 133 #[.val (.int p1), .val (.int p2), .val (.int p3), .val (.int p4), .val (.int (own_min p1 p2)), .val (.int (own_max p1 p2)), .val (.int (p4 &&& (7 : Int32))), .val (.long (p3.toInt64)), .second, .val (.ref b59), .val (.int (0 : Int32))] [(.int (0 : Int32)), (.int (own_in (p3.toInt64) (own_min p1 p2) (own_max p1 p2)))]))
              by_cases c133_69 : (own_in (p3.toInt64) (own_min p1 p2) (own_max p1 p2)) = (0 : Int32)
              · skip
                refine own_via (fun t k => XS.icmpNo X68.here hx rfl (hb hby at_133) rfl (teq c133_69).2 k) ?_
                show own_G p e below _ (T68.setTop (mkF m 136 #[.val (.int p1), .val (.int p2), .val (.int p3), .val (.int p4), .val (.int (own_min p1 p2)), .val (.int (own_max p1 p2)), .val (.int (p4 &&& (7 : Int32))), .val (.long (p3.toInt64)), .second, .val (.ref b59), .val (.int (0 : Int32))] []))
                refine own_via (fun t k => XS.iconst X68.here hx rfl (hb hby at_136) k) ?_
                show own_G p e below _ (T68.setTop (mkF m 137 #[.val (.int p1), .val (.int p2), .val (.int p3), .val (.int p4), .val (.int (own_min p1 p2)), .val (.int (own_max p1 p2)), .val (.int (p4 &&& (7 : Int32))), .val (.long (p3.toInt64)), .second, .val (.ref b59), .val (.int (0 : Int32))] [(.int (1 : Int32))]))
                refine own_via (fun t k => XS.goto X68.here hx rfl (pc0 := 137) (pc' := 141) rfl (hb hby at_137) (by decide) (by decide) k) ?_
                show own_G p e below _ (T68.setTop (mkF m 141 #[.val (.int p1), .val (.int p2), .val (.int p3), .val (.int p4), .val (.int (own_min p1 p2)), .val (.int (own_max p1 p2)), .val (.int (p4 &&& (7 : Int32))), .val (.long (p3.toInt64)), .second, .val (.ref b59), .val (.int (0 : Int32))] [(.int (1 : Int32))]))
                obtain ⟨fs, hr, hrun, hended, hW, hsame⟩ := X68.leave (v := some (.int (1 : Int32))) (fun h => by rw [Bd.returns] at h; cases h)
                refine ⟨_, _, retN X68 hx (t := .boolean) Bd.returns (by simp) (hb hby at_141) hr, hrun, hended, _, _, rfl, ?_, ⟨_, rfl⟩, hW, hsame.mono (by decide) (by decide)⟩
                show rm0_Q Z p1 p2 p3 p4 h0 n0 _ T68.heap _
                rw [e68]
                exact ⟨rfl, N68⟩
              · exfalso
                exact c133_69 (by simp only [own_in, if_neg c104_64, if_pos c113_67])
            · skip
              refine own_via (fun t k => XS.ifNo X60.here hx rfl (hb hby at_113) rfl ((if0 _ _).trans (flt c113_67).2.2.1) k) ?_
              show own_G p e below _ (T60.setTop (mkF m 116 #[.val (.int p1), .val (.int p2), .val (.int p3), .val (.int p4), .val (.int (own_min p1 p2)), .val (.int (own_max p1 p2)), .val (.int (p4 &&& (7 : Int32))), .val (.long (p3.toInt64)), .second, .val (.ref b59), .unset] []))
              refine own_via (fun t k => XS.iconst X60.here hx rfl (hb hby at_116) k) ?_
              show own_G p e below _ (T60.setTop (mkF m 117 #[.val (.int p1), .val (.int p2), .val (.int p3), .val (.int p4), .val (.int (own_min p1 p2)), .val (.int (own_max p1 p2)), .val (.int (p4 &&& (7 : Int32))), .val (.long (p3.toInt64)), .second, .val (.ref b59), .unset] [(.int (1 : Int32))]))
              refine own_via (fun t k => XS.goto X60.here hx rfl (pc0 := 117) (pc' := 121) rfl (hb hby at_117) (by decide) (by decide) k) ?_
              show own_G p e below _ (T60.setTop (mkF m 121 #[.val (.int p1), .val (.int p2), .val (.int p3), .val (.int p4), .val (.int (own_min p1 p2)), .val (.int (own_max p1 p2)), .val (.int (p4 &&& (7 : Int32))), .val (.long (p3.toInt64)), .second, .val (.ref b59), .unset] [(.int (1 : Int32))]))
              refine own_via (fun t k => XS.istore X60.here hx rfl (hb hby at_121) rfl (l' := #[.val (.int p1), .val (.int p2), .val (.int p3), .val (.int p4), .val (.int (own_min p1 p2)), .val (.int (own_max p1 p2)), .val (.int (p4 &&& (7 : Int32))), .val (.long (p3.toInt64)), .second, .val (.ref b59), .val (.int (1 : Int32))]) rfl k) ?_
              show own_G p e below _ (T60.setTop (mkF m 123 #[.val (.int p1), .val (.int p2), .val (.int p3), .val (.int p4), .val (.int (own_min p1 p2)), .val (.int (own_max p1 p2)), .val (.int (p4 &&& (7 : Int32))), .val (.long (p3.toInt64)), .second, .val (.ref b59), .val (.int (1 : Int32))] []))
              refine own_via (fun t k => XS.aload X60.here hx rfl (hb hby at_123) rfl rfl k) ?_
              show own_G p e below _ (T60.setTop (mkF m 125 #[.val (.int p1), .val (.int p2), .val (.int p3), .val (.int p4), .val (.int (own_min p1 p2)), .val (.int (own_max p1 p2)), .val (.int (p4 &&& (7 : Int32))), .val (.long (p3.toInt64)), .second, .val (.ref b59), .val (.int (1 : Int32))] [(.ref b59)]))
              refine own_via (fun t k => XS.lload X60.here hx rfl (hb hby at_125) rfl k) ?_
              show own_G p e below _ (T60.setTop (mkF m 127 #[.val (.int p1), .val (.int p2), .val (.int p3), .val (.int p4), .val (.int (own_min p1 p2)), .val (.int (own_max p1 p2)), .val (.int (p4 &&& (7 : Int32))), .val (.long (p3.toInt64)), .second, .val (.ref b59), .val (.int (1 : Int32))] [(.long (p3.toInt64)), (.ref b59)]))
              refine own_via (fun t k => XS.l2dS X60.here hx rfl (hb hby at_127) rfl rfl k) ?_
              show own_G p e below _ (T60.setTop (mkF m 128 #[.val (.int p1), .val (.int p2), .val (.int p3), .val (.int p4), .val (.int (own_min p1 p2)), .val (.int (own_max p1 p2)), .val (.int (p4 &&& (7 : Int32))), .val (.long (p3.toInt64)), .second, .val (.ref b59), .val (.int (1 : Int32))] [(.double (FP.l2d (p3.toInt64))), (.ref b59)]))
              obtain ⟨cq70, kq70, q70a, q70b, q70c⟩ := isOf hZ rfl E60q
              obtain ⟨_, _, ⟨T70, L70, k70, n70⟩, -, X70, ⟨Lc70, hQ70, l70, y70, z70⟩, st70⟩ := X60.virtualBack hx (y := (⟨"com/example/fee_simple/feesimple/ratiostudy/Interval", "contains", "(D)Z"⟩ : MethodName)) (z := (⟨"com/example/fee_simple/feesimple/ratiostudy/Interval", "contains", "(D)Z"⟩ : MethodName)) hown (mvT hZ (hw _ (List.mem_of_getElem? (i := 28) rfl))) (mvT hZ (hw _ (List.mem_of_getElem? (i := 29) rfl))) (notFace_of_selects (args := #[]) (mvT hZ (hw _ (List.mem_of_getElem? (i := 31) rfl)))) (mvT hZ (hw _ (List.mem_of_getElem? (i := 31) rfl))) (mvT hZ (hw _ (List.mem_of_getElem? (i := 30) rfl))) (by decide) (backOf (W := 0) (rm7 l Z a0 hw [] b59 (p3.toInt64) (own_min p1 p2) (own_max p1 p2) T60.heap n0 Z60 Fl60 Fc60 (own_b53 _)) hZ (hw _ (List.mem_of_getElem? (i := 32) rfl)) (hw _ (List.mem_of_getElem? (i := 9) rfl)) (by decide) (by decide)) q70a q70c (g := (mkF m 128 #[.val (.int p1), .val (.int p2), .val (.int p3), .val (.int p4), .val (.int (own_min p1 p2)), .val (.int (own_max p1 p2)), .val (.int (p4 &&& (7 : Int32))), .val (.long (p3.toInt64)), .second, .val (.ref b59), .val (.int (1 : Int32))] [(.double (FP.l2d (p3.toInt64))), (.ref b59)])) rfl (by rw [hml]; rfl) (Steps.refl _) (argsL := [(.double (FP.l2d (p3.toInt64)))]) (rest := []) (lenOf pd_rm0_2 rfl) rfl (by show 2 * 0 + _ ≤ _; exact Nat.le_of_eq rfl) (hb hby at_128) (fun _ _ => ⟨rfl, rfl, (by decide : 1 + 0 ≤ _), (by decide : 2 + 0 ≤ _)⟩)
              dsimp only [Pt.U, Pt.locs, Pt.cells, Pt.slots] at X70 l70 y70 z70 st70 hQ70
              subst l70 y70 z70
              obtain ⟨rfl, N70q, e70⟩ := hQ70
              have N70 := Fr.app N60 N70q
              refine own_via (fun t k => st70.trans k) ?_
              show own_G p e below _ (T70.setTop (mkF m 131 #[.val (.int p1), .val (.int p2), .val (.int p3), .val (.int p4), .val (.int (own_min p1 p2)), .val (.int (own_max p1 p2)), .val (.int (p4 &&& (7 : Int32))), .val (.long (p3.toInt64)), .second, .val (.ref b59), .val (.int (1 : Int32))] [(.int (own_in (p3.toInt64) (own_min p1 p2) (own_max p1 p2)))]))
              refine own_via (fun t k => XS.iload X70.here hx rfl (hb hby at_131) rfl k) ?_
              show own_G p e below _ (T70.setTop (mkF m 133 #[.val (.int p1), .val (.int p2), .val (.int p3), .val (.int p4), .val (.int (own_min p1 p2)), .val (.int (own_max p1 p2)), .val (.int (p4 &&& (7 : Int32))), .val (.long (p3.toInt64)), .second, .val (.ref b59), .val (.int (1 : Int32))] [(.int (1 : Int32)), (.int (own_in (p3.toInt64) (own_min p1 p2) (own_max p1 p2)))]))
              by_cases c133_71 : (own_in (p3.toInt64) (own_min p1 p2) (own_max p1 p2)) = (1 : Int32)
              · skip
                refine own_via (fun t k => XS.icmpNo X70.here hx rfl (hb hby at_133) rfl (teq c133_71).2 k) ?_
                show own_G p e below _ (T70.setTop (mkF m 136 #[.val (.int p1), .val (.int p2), .val (.int p3), .val (.int p4), .val (.int (own_min p1 p2)), .val (.int (own_max p1 p2)), .val (.int (p4 &&& (7 : Int32))), .val (.long (p3.toInt64)), .second, .val (.ref b59), .val (.int (1 : Int32))] []))
                refine own_via (fun t k => XS.iconst X70.here hx rfl (hb hby at_136) k) ?_
                show own_G p e below _ (T70.setTop (mkF m 137 #[.val (.int p1), .val (.int p2), .val (.int p3), .val (.int p4), .val (.int (own_min p1 p2)), .val (.int (own_max p1 p2)), .val (.int (p4 &&& (7 : Int32))), .val (.long (p3.toInt64)), .second, .val (.ref b59), .val (.int (1 : Int32))] [(.int (1 : Int32))]))
                refine own_via (fun t k => XS.goto X70.here hx rfl (pc0 := 137) (pc' := 141) rfl (hb hby at_137) (by decide) (by decide) k) ?_
                show own_G p e below _ (T70.setTop (mkF m 141 #[.val (.int p1), .val (.int p2), .val (.int p3), .val (.int p4), .val (.int (own_min p1 p2)), .val (.int (own_max p1 p2)), .val (.int (p4 &&& (7 : Int32))), .val (.long (p3.toInt64)), .second, .val (.ref b59), .val (.int (1 : Int32))] [(.int (1 : Int32))]))
                obtain ⟨fs, hr, hrun, hended, hW, hsame⟩ := X70.leave (v := some (.int (1 : Int32))) (fun h => by rw [Bd.returns] at h; cases h)
                refine ⟨_, _, retN X70 hx (t := .boolean) Bd.returns (by simp) (hb hby at_141) hr, hrun, hended, _, _, rfl, ?_, ⟨_, rfl⟩, hW, hsame.mono (by decide) (by decide)⟩
                show rm0_Q Z p1 p2 p3 p4 h0 n0 _ T70.heap _
                rw [e70]
                exact ⟨rfl, N70⟩
              · exfalso
                exact c133_71 (by simp only [own_in, if_neg c104_64, if_neg c113_67])

set_option maxRecDepth 65536 in
set_option maxHeartbeats 40000000 in
theorem comes_1 {Post : Tables → Env → Array Value → State → Outcome → State → Prop} (hpost : ∀ tb e args s v u, (limb_1_1.after args s (.returned v) u = true ∧ limb_1_2.after args s (.returned v) u = true ∧ True) → FrameEnd s (.returned v) u (Jvm.fieldLocs frame_1_writes args s ++ Jvm.arrayLocs frame_1_arrays args s ++ Jvm.staticLocs frame_1_statics s) 16 128 → Post tb e args s (.returned v) u) :
    ArmFor flags0 classFile x code maxLocals ret World_1 tables_1 room_1 Calls_1 rest_1 Pre_1 Post := by
  intro l hfl _ _ p e ha hc hk s m args below hf hA hF happ hP
  obtain ⟨hcalls, hrest, hpre⟩ := hP
  obtain ⟨-, -, -, hnamed, -, -, -, hat⟩ := (Spec.applies_iff hf).mp happ
  obtain ⟨hg, hn⟩ := and_e (Cond.before_iff.mp (show (Jvm.Cond.and given_1 narrow_1).before args s = true from hpre))
  obtain ⟨gg1, gg2⟩ := and_e hg
  obtain ⟨gg3, gg4⟩ := and_e gg2
  obtain ⟨gg5, gg6⟩ := and_e gg4
  obtain ⟨gg7, gg8⟩ := and_e gg6
  obtain ⟨w0, w1, w2, w3, rfl⟩ : ∃ w0 w1 w2 w3 : Value, args = #[w0, w1, w2, w3] := by
    have hs : args.size = 4 := by simpa [Cond.value, given_1] using gg1
    obtain ⟨L⟩ := args
    match L, hs with
    | [w0, w1, w2, w3], _ => exact ⟨w0, w1, w2, w3, rfl⟩
  have hw := fun d (hd : d ∈ tables_1) => atoms_spec (ws := Jvm.Cond.code x code maxLocals ret :: tables_1) hat d (List.mem_cons_of_mem _ hd)
  obtain ⟨i0, ei0⟩ := is_v gg3
  obtain rfl : w0 = (.int i0) := Option.some.inj ei0
  obtain ⟨i1, ei1⟩ := is_v gg5
  obtain rfl : w1 = (.int i1) := Option.some.inj ei1
  obtain ⟨i2, ei2⟩ := is_v gg7
  obtain rfl : w2 = (.int i2) := Option.some.inj ei2
  obtain ⟨i3, ei3⟩ := is_v gg8
  obtain rfl : w3 = (.int i3) := Option.some.inj ei3
  obtain ⟨n, o, h1, h2, h3, _, L, rfl, ⟨rfl, N⟩, hq⟩ := rm0 l s _ hw tables_1 i0 i1 i2 i3 s.heap s.heap.size (Nat.le_refl _) p e ha hc hk s m _ below hf ((Spec.applies_iff_loose hf).mp happ).1 ⟨rfl, State.Warmed39.refl s, rfl⟩ trivial
  refine ⟨n, _, h1, h2, h3, hpost _ _ _ _ _ _ ⟨Cond.after_iff.mpr rfl, Cond.after_iff.mpr (eq_i res_at (Term.int_eval (1)) rfl), trivial⟩ ⟨hq.1, hq.2.1, (hq.2.2.sift fun y hy => Or.inr (N y hy)).mono (by decide) (by decide)⟩⟩
theorem main_1_1 : Claimed_1_1 := comes_1 fun _ _ _ _ _ _ h hF => ⟨h.1, hF⟩
theorem main_1_2 : Claimed_1_2 := comes_1 fun _ _ _ _ _ _ h hF => ⟨h.2.1, hF⟩

end Jvm.Pilot.@@N@@
namespace Jvm.Pilot.@@N@@
open Jvm Jvm.ClassFile Sem Op Lib Jvm.Free Jvm.Stand Jvm.Pilot.@@N@@.Jvm.D
/-! MADE BY PROGRAM (witnessworld.py) out of the Statement's table words and the real class files: 15 classes; the members and pool entries that the words name. The judged class is class 1, her method 1. -/
namespace start1
open Jvm.ClassFile
def u (s : String) : CpInfo := .utf8 (stringToUtf16 s)
/-- a pool by its gaps: so many unusable entries, then the entry; so many at the end -/
def gap : Nat → List CpInfo → List CpInfo
  | 0, r => r
  | n + 1, r => .unusable :: gap n r
def poolList (es : List (Nat × CpInfo)) (last : Nat) : List CpInfo := es.foldr (fun e r => gap e.1 (e.2 :: r)) (gap last [])
def pool (es : List (Nat × CpInfo)) (last : Nat) : Array CpInfo := ⟨poolList es last⟩
def fileOf (pool : Array CpInfo) (this : Nat) (attrs : Array Attribute := #[]) (ms : Array MethodInfo := #[]) (fl : Nat := 33) (sup : Nat := 0) (ifs : Array Nat := #[]) (fds : Array FieldInfo := #[]) : ClassFile where
  minorVersion := 0
  majorVersion := 65
  constantPool := pool
  accessFlags := fl
  thisClass := this
  superClass := sup
  interfaces := ifs
  fields := fds
  methods := ms
  attributes := attrs
def plain (name : String) (sup : Option ClassId) : Class where
  name := name
  kind := .ordinary
  loader := none
  accessFlags := 33
  super := sup
  interfaces := #[]
  cf := none
  fields := #[]
  methods := #[]
  instanceTypes := #[]
  staticTypes := #[]
  resolved := #[]
  callSites := []
  init := .initialized
  statics := none
  mirror := none

def pool0 : Array CpInfo := pool [(5, u "<init>"), (0, u "()V"), (1, .class_ 10), (1, u "java/lang/Object")] 113

def k0c0 : Code := { maxStack := 0, maxLocals := 1, code := object_method_1_code, exceptionTable := #[], attributes := #[] }
def k0m0 : Method := { name := "<init>", desc := "()V", sig := { parameters := [], returnType := none }, accessFlags := 1, code := some k0c0 }
/-- java/lang/Object -/
def k0 : Class := { plain "java/lang/Object" none with
  accessFlags := 33
  interfaces := #[]
  cf := some (fileOf pool0 8 #[] #[{ accessFlags := 1, nameIndex := 5, descriptorIndex := 6, attributes := #[] }] 33 0 #[] #[])
  fields := #[]
  methods := #[k0m0]
  instanceTypes := #[]
  staticTypes := #[]
  resolved := Array.replicate 124 none
  statics := none }

def pool1 : Array CpInfo := pool [(2, .class_ 4), (1, u "java/lang/Object"), (0, u "<init>"), (0, u "()V"), (0, .methodref 8 9), (0, .class_ 10), (0, .nameAndType 11 12), (0, u "java/lang/Math"), (0, u "min"), (0, u "(II)I"), (0, .methodref 8 14), (0, .nameAndType 15 12), (0, u "max"), (0, .class_ 17), (0, u "com/example/fee_simple/feesimple/ratiostudy/Interval"), (0, .methodref 16 19), (0, .nameAndType 5 20), (0, u "(DD)V"), (0, .methodref 16 22), (0, .nameAndType 23 24), (0, u "contains"), (0, u "(D)Z"), (0, .class_ 26), (0, u "com/example/fee_simple/feesimple/ratiostudy/IntervalContainsPinLaw"), (2, u "law"), (0, u "(IIII)Z")] 3

def k1m0 : Method := { name := "<init>", desc := "()V", sig := { parameters := [], returnType := none }, accessFlags := 1, code := none }
def k1c1 : Code := { maxStack := 6, maxLocals := 11, code := code, exceptionTable := #[], attributes := #[] }
def k1m1 : Method := { name := "law", desc := "(IIII)Z", sig := { parameters := [.int, .int, .int, .int], returnType := some .boolean }, accessFlags := 9, code := some k1c1 }
/-- com/example/fee_simple/feesimple/ratiostudy/IntervalContainsPinLaw -/
def k1 : Class := { plain "com/example/fee_simple/feesimple/ratiostudy/IntervalContainsPinLaw" (some 0) with
  accessFlags := 49
  interfaces := #[]
  cf := some (fileOf pool1 25 #[] #[{ accessFlags := 1, nameIndex := 5, descriptorIndex := 6, attributes := #[] }, { accessFlags := 9, nameIndex := 29, descriptorIndex := 30, attributes := #[] }] 49 2 #[] #[])
  fields := #[]
  methods := #[k1m0, k1m1]
  instanceTypes := #[]
  staticTypes := #[]
  resolved := Array.replicate 34 none
  statics := none }

def pool2 : Array CpInfo := pool [(1, .class_ 2), (0, u "java/lang/Math"), (1, .class_ 6), (1, u "java/lang/Object"), (0, u "<init>"), (0, u "()V"), (5, u "(D)D"), (83, .class_ 100), (1, u "java/lang/Math$RandomNumberGeneratorHolder"), (23, u "abs"), (47, u "negativeZeroFloatBits"), (0, u "J"), (2, u "negativeZeroDoubleBits"), (21, u "max"), (2, u "min"), (43, u "$assertionsDisabled"), (0, u "Z"), (88, u "(II)I"), (2, u "twoToTheDoubleScaleDown"), (0, u "D"), (4, u "twoToTheDoubleScaleUp"), (9, u "E"), (3, u "PI"), (2, u "TAU"), (2, u "DEGREES_TO_RADIANS"), (0, u "RADIANS_TO_DEGREES")] 94

def k2m0 : Method := { name := "<init>", desc := "()V", sig := { parameters := [], returnType := none }, accessFlags := 2, code := none }
def k2c1 : Code := { maxStack := 4, maxLocals := 2, code := jdk_29_method_64_code, exceptionTable := #[], attributes := #[] }
def k2m1 : Method := { name := "abs", desc := "(D)D", sig := { parameters := [.double], returnType := some .double }, accessFlags := 9, code := some k2c1 }
def k2c2 : Code := { maxStack := 2, maxLocals := 2, code := jdk_29_method_65_code, exceptionTable := #[], attributes := #[] }
def k2m2 : Method := { name := "max", desc := "(II)I", sig := { parameters := [.int, .int], returnType := some .int }, accessFlags := 9, code := some k2c2 }
def k2c3 : Code := { maxStack := 2, maxLocals := 2, code := jdk_29_method_69_code, exceptionTable := #[], attributes := #[] }
def k2m3 : Method := { name := "min", desc := "(II)I", sig := { parameters := [.int, .int], returnType := some .int }, accessFlags := 9, code := some k2c3 }
/-- java/lang/Math -/
def k2 : Class := { plain "java/lang/Math" (some 0) with
  accessFlags := 49
  interfaces := #[]
  cf := some (fileOf pool2 1 #[.nestMembers #[98]] #[{ accessFlags := 2, nameIndex := 7, descriptorIndex := 8, attributes := #[] }, { accessFlags := 9, nameIndex := 124, descriptorIndex := 14, attributes := #[] }, { accessFlags := 9, nameIndex := 198, descriptorIndex := 335, attributes := #[] }, { accessFlags := 9, nameIndex := 201, descriptorIndex := 335, attributes := #[] }] 49 4 #[] #[{ accessFlags := 25, nameIndex := 354, descriptorIndex := 339, attributes := #[] }, { accessFlags := 25, nameIndex := 358, descriptorIndex := 339, attributes := #[] }, { accessFlags := 25, nameIndex := 361, descriptorIndex := 339, attributes := #[] }, { accessFlags := 26, nameIndex := 364, descriptorIndex := 339, attributes := #[] }, { accessFlags := 26, nameIndex := 365, descriptorIndex := 339, attributes := #[] }, { accessFlags := 26, nameIndex := 172, descriptorIndex := 173, attributes := #[] }, { accessFlags := 26, nameIndex := 176, descriptorIndex := 173, attributes := #[] }, { accessFlags := 8, nameIndex := 344, descriptorIndex := 339, attributes := #[] }, { accessFlags := 8, nameIndex := 338, descriptorIndex := 339, attributes := #[] }, { accessFlags := 4120, nameIndex := 245, descriptorIndex := 246, attributes := #[] }])
  fields := #[{ name := "E", type := .double, accessFlags := 25, slot := 0, constantValue := 0 }, { name := "PI", type := .double, accessFlags := 25, slot := 1, constantValue := 0 }, { name := "TAU", type := .double, accessFlags := 25, slot := 2, constantValue := 0 }, { name := "DEGREES_TO_RADIANS", type := .double, accessFlags := 26, slot := 3, constantValue := 0 }, { name := "RADIANS_TO_DEGREES", type := .double, accessFlags := 26, slot := 4, constantValue := 0 }, { name := "negativeZeroFloatBits", type := .long, accessFlags := 26, slot := 5, constantValue := 0 }, { name := "negativeZeroDoubleBits", type := .long, accessFlags := 26, slot := 6, constantValue := 0 }, { name := "twoToTheDoubleScaleUp", type := .double, accessFlags := 8, slot := 7, constantValue := 0 }, { name := "twoToTheDoubleScaleDown", type := .double, accessFlags := 8, slot := 8, constantValue := 0 }, { name := "$assertionsDisabled", type := .boolean, accessFlags := 4120, slot := 9, constantValue := 0 }]
  methods := #[k2m0, k2m1, k2m2, k2m3]
  instanceTypes := #[]
  staticTypes := #[.double, .double, .double, .double, .double, .long, .long, .double, .double, .boolean]
  resolved := Array.replicate 460 none
  statics := none }

def pool3 : Array CpInfo := pool [(1, .methodref 2 3), (0, .class_ 4), (0, .nameAndType 5 6), (0, u "java/lang/Object"), (0, u "<init>"), (0, u "()V"), (0, .methodref 8 9), (0, .class_ 10), (0, .nameAndType 11 12), (0, u "java/lang/Double"), (0, u "isFinite"), (0, u "(D)Z"), (9, .fieldref 23 24), (0, .class_ 25), (0, .nameAndType 26 27), (0, u "com/example/fee_simple/feesimple/ratiostudy/Interval"), (0, u "low"), (0, u "D"), (0, .fieldref 23 29), (0, .nameAndType 30 27), (0, u "high"), (0, u "(DD)V"), (6, u "contains")] 17

def k3c0 : Code := { maxStack := 6, maxLocals := 5, code := prog_101_method_1_code, exceptionTable := #[], attributes := #[] }
def k3m0 : Method := { name := "<init>", desc := "(DD)V", sig := { parameters := [.double, .double], returnType := none }, accessFlags := 1, code := some k3c0 }
def k3c1 : Code := { maxStack := 4, maxLocals := 3, code := prog_101_method_4_code, exceptionTable := #[], attributes := #[] }
def k3m1 : Method := { name := "contains", desc := "(D)Z", sig := { parameters := [.double], returnType := some .boolean }, accessFlags := 1, code := some k3c1 }
/-- com/example/fee_simple/feesimple/ratiostudy/Interval -/
def k3 : Class := { plain "com/example/fee_simple/feesimple/ratiostudy/Interval" (some 0) with
  accessFlags := 33
  interfaces := #[]
  cf := some (fileOf pool3 23 #[] #[{ accessFlags := 1, nameIndex := 5, descriptorIndex := 31, attributes := #[] }, { accessFlags := 1, nameIndex := 38, descriptorIndex := 12, attributes := #[] }] 33 2 #[] #[{ accessFlags := 18, nameIndex := 26, descriptorIndex := 27, attributes := #[] }, { accessFlags := 18, nameIndex := 30, descriptorIndex := 27, attributes := #[] }])
  fields := #[{ name := "low", type := .double, accessFlags := 18, slot := 0, constantValue := 0 }, { name := "high", type := .double, accessFlags := 18, slot := 1, constantValue := 0 }]
  methods := #[k3m0, k3m1]
  instanceTypes := #[.double, .double]
  staticTypes := #[]
  resolved := Array.replicate 56 none
  statics := none }

def pool4 : Array CpInfo := pool [(1, .class_ 2), (0, u "java/io/Serializable"), (0, .class_ 4), (0, u "java/lang/Object")] 2

/-- java/io/Serializable -/
def k4 : Class := { plain "java/io/Serializable" (some 0) with
  accessFlags := 1537
  interfaces := #[]
  cf := some (fileOf pool4 1 #[] #[] 1537 3 #[] #[])
  fields := #[]
  methods := #[]
  instanceTypes := #[]
  staticTypes := #[]
  resolved := Array.replicate 7 none
  statics := none }

def pool5 : Array CpInfo := pool [(2, .class_ 4), (1, u "java/lang/Object"), (0, u "<init>"), (0, u "()V"), (1, .class_ 10), (1, u "java/lang/Number"), (2, .class_ 14), (0, u "java/io/Serializable"), (0, u "serialVersionUID"), (0, u "J")] 20

def k5m0 : Method := { name := "<init>", desc := "()V", sig := { parameters := [], returnType := none }, accessFlags := 1, code := none }
/-- java/lang/Number -/
def k5 : Class := { plain "java/lang/Number" (some 0) with
  accessFlags := 1057
  interfaces := #[4]
  cf := some (fileOf pool5 8 #[] #[{ accessFlags := 1, nameIndex := 5, descriptorIndex := 6, attributes := #[] }] 1057 2 #[13] #[{ accessFlags := 26, nameIndex := 15, descriptorIndex := 16, attributes := #[] }])
  fields := #[{ name := "serialVersionUID", type := .long, accessFlags := 26, slot := 0, constantValue := 0 }]
  methods := #[k5m0]
  instanceTypes := #[]
  staticTypes := #[.long]
  resolved := Array.replicate 37 none
  statics := none }

def pool6 : Array CpInfo := pool [(1, .class_ 2), (0, u "java/lang/Comparable"), (0, .class_ 4), (0, u "java/lang/Object")] 7

/-- java/lang/Comparable -/
def k6 : Class := { plain "java/lang/Comparable" (some 0) with
  accessFlags := 1537
  interfaces := #[]
  cf := some (fileOf pool6 1 #[] #[] 1537 3 #[] #[])
  fields := #[]
  methods := #[]
  instanceTypes := #[]
  staticTypes := #[]
  resolved := Array.replicate 12 none
  statics := none }

def pool7 : Array CpInfo := pool [(1, .class_ 2), (0, u "java/lang/constant/Constable"), (0, .class_ 4), (0, u "java/lang/Object")] 6

/-- java/lang/constant/Constable -/
def k7 : Class := { plain "java/lang/constant/Constable" (some 0) with
  accessFlags := 1537
  interfaces := #[]
  cf := some (fileOf pool7 1 #[] #[] 1537 3 #[] #[])
  fields := #[]
  methods := #[]
  instanceTypes := #[]
  staticTypes := #[]
  resolved := Array.replicate 11 none
  statics := none }

def pool8 : Array CpInfo := pool [(1, .class_ 2), (0, u "java/lang/constant/ConstantDesc"), (0, .class_ 4), (0, u "java/lang/Object")] 32

/-- java/lang/constant/ConstantDesc -/
def k8 : Class := { plain "java/lang/constant/ConstantDesc" (some 0) with
  accessFlags := 1537
  interfaces := #[]
  cf := some (fileOf pool8 1 #[] #[] 1537 3 #[] #[])
  fields := #[]
  methods := #[]
  instanceTypes := #[]
  staticTypes := #[]
  resolved := Array.replicate 37 none
  statics := none }

def pool9 : Array CpInfo := pool [(1, .class_ 2), (0, u "java/lang/Double"), (10, u "isFinite"), (0, u "(D)Z"), (8, .class_ 25), (1, u "java/lang/Math"), (12, .methodref 23 39), (0, .nameAndType 40 41), (0, u "abs"), (0, u "(D)D"), (69, .double 9218868437227405311), (2, .class_ 116), (1, u "java/lang/Number"), (3, u "value"), (0, u "D"), (51, u "TYPE"), (0, u "Ljava/lang/Class;"), (0, .class_ 176), (0, u "java/lang/Comparable"), (0, .class_ 178), (0, u "java/lang/constant/Constable"), (0, .class_ 180), (0, u "java/lang/constant/ConstantDesc"), (0, u "POSITIVE_INFINITY"), (3, u "NEGATIVE_INFINITY"), (2, u "NaN"), (2, u "MAX_VALUE"), (0, u "MIN_NORMAL"), (0, u "MIN_VALUE"), (2, u "SIZE"), (0, u "I"), (1, u "PRECISION"), (1, u "MAX_EXPONENT"), (1, u "MIN_EXPONENT"), (1, u "BYTES"), (3, u "serialVersionUID"), (0, u "J")] 79

def k9c0 : Code := { maxStack := 4, maxLocals := 2, code := jdk_117_method_8_code, exceptionTable := #[], attributes := #[] }
def k9m0 : Method := { name := "isFinite", desc := "(D)Z", sig := { parameters := [.double], returnType := some .boolean }, accessFlags := 9, code := some k9c0 }
/-- java/lang/Double -/
def k9 : Class := { plain "java/lang/Double" (some 5) with
  accessFlags := 49
  interfaces := #[6, 7, 8]
  cf := some (fileOf pool9 1 #[] #[{ accessFlags := 9, nameIndex := 13, descriptorIndex := 14, attributes := #[] }] 49 114 #[175, 177, 179] #[{ accessFlags := 25, nameIndex := 181, descriptorIndex := 121, attributes := #[] }, { accessFlags := 25, nameIndex := 185, descriptorIndex := 121, attributes := #[] }, { accessFlags := 25, nameIndex := 188, descriptorIndex := 121, attributes := #[] }, { accessFlags := 25, nameIndex := 191, descriptorIndex := 121, attributes := #[] }, { accessFlags := 25, nameIndex := 192, descriptorIndex := 121, attributes := #[] }, { accessFlags := 25, nameIndex := 193, descriptorIndex := 121, attributes := #[] }, { accessFlags := 25, nameIndex := 196, descriptorIndex := 197, attributes := #[] }, { accessFlags := 25, nameIndex := 199, descriptorIndex := 197, attributes := #[] }, { accessFlags := 25, nameIndex := 201, descriptorIndex := 197, attributes := #[] }, { accessFlags := 25, nameIndex := 203, descriptorIndex := 197, attributes := #[] }, { accessFlags := 25, nameIndex := 205, descriptorIndex := 197, attributes := #[] }, { accessFlags := 25, nameIndex := 173, descriptorIndex := 174, attributes := #[] }, { accessFlags := 18, nameIndex := 120, descriptorIndex := 121, attributes := #[] }, { accessFlags := 26, nameIndex := 209, descriptorIndex := 210, attributes := #[] }])
  fields := #[{ name := "POSITIVE_INFINITY", type := .double, accessFlags := 25, slot := 0, constantValue := 0 }, { name := "NEGATIVE_INFINITY", type := .double, accessFlags := 25, slot := 1, constantValue := 0 }, { name := "NaN", type := .double, accessFlags := 25, slot := 2, constantValue := 0 }, { name := "MAX_VALUE", type := .double, accessFlags := 25, slot := 3, constantValue := 0 }, { name := "MIN_NORMAL", type := .double, accessFlags := 25, slot := 4, constantValue := 0 }, { name := "MIN_VALUE", type := .double, accessFlags := 25, slot := 5, constantValue := 0 }, { name := "SIZE", type := .int, accessFlags := 25, slot := 6, constantValue := 0 }, { name := "PRECISION", type := .int, accessFlags := 25, slot := 7, constantValue := 0 }, { name := "MAX_EXPONENT", type := .int, accessFlags := 25, slot := 8, constantValue := 0 }, { name := "MIN_EXPONENT", type := .int, accessFlags := 25, slot := 9, constantValue := 0 }, { name := "BYTES", type := .int, accessFlags := 25, slot := 10, constantValue := 0 }, { name := "TYPE", type := (.object "java/lang/Class"), accessFlags := 25, slot := 11, constantValue := 0 }, { name := "value", type := .double, accessFlags := 18, slot := 0, constantValue := 0 }, { name := "serialVersionUID", type := .long, accessFlags := 26, slot := 12, constantValue := 0 }]
  methods := #[k9m0]
  instanceTypes := #[.double]
  staticTypes := #[.double, .double, .double, .double, .double, .double, .int, .int, .int, .int, .int, (.object "java/lang/Class"), .long]
  resolved := Array.replicate 290 none
  statics := none }

def pool10 : Array CpInfo := pool [(1, u "java/lang/Cloneable"), (0, .class_ 1), (0, u "java/lang/Object"), (0, .class_ 3)] 3

/-- java/lang/Cloneable -/
def k10 : Class := { plain "java/lang/Cloneable" (some 0) with
  accessFlags := 1537
  interfaces := #[]
  cf := some (fileOf pool10 2 #[] #[] 1537 4 #[] #[])
  fields := #[]
  methods := #[]
  instanceTypes := #[]
  staticTypes := #[]
  resolved := Array.replicate 8 none
  statics := none }

/-- the primitive byte -/
def k11 : Class := { plain "byte" none with kind := .primitive 'B', accessFlags := 0x411 }
/-- [B -/
def k12 : Class := { plain "[B" (some 0) with kind := .array 11 .byte, interfaces := #[10, 4], accessFlags := 1041 }

/-- the primitive int -/
def k13 : Class := { plain "int" none with kind := .primitive 'I', accessFlags := 0x411 }
/-- [I -/
def k14 : Class := { plain "[I" (some 0) with kind := .array 13 .int, interfaces := #[10, 4], accessFlags := 1041 }

def heap : Heap := #[]
def classes : Array Class := #[k0, k1, k2, k3, k4, k5, k6, k7, k8, k9, k10, k11, k12, k13, k14]
def interned : List (Array UInt16 × Addr) := []
def slotsUsed : Nat := 0
def theMethod : MethodId := ⟨1, 1⟩
def args0 : Array Value := #[.int 1, .int 2, .int 3, .int 4]
def aboutOver (below : List Frame) : State where
  vm := { classes := classes, interned := interned.toArray }
  heap := heap
  slotsUsed := slotsUsed
  threads := #[{ frames := .invoking theMethod args0 :: below }]
def below0 : List Frame := [.native { method := ⟨0, 0⟩, args := #[] }]
def about1 : State := aboutOver below0
def p0 : Program := .bare "" "" ""
def e0 : Env := launch0.env 0 0 0
theorem w_frames : about1.frames = Frame.invoking theMethod args0 :: below0 := rfl
set_option maxRecDepth 65536 in
theorem w_args : argsFit about1.vm theMethod args0 = true := by decide +kernel
set_option maxRecDepth 65536 in
theorem w_heap : heapFits about1 = true := by decide +kernel
set_option maxRecDepth 65536 in
theorem w_runnable : about1.curStatus? = some .runnable := by decide +kernel
set_option maxRecDepth 65536 in
theorem w_alone : about1.alone = true := by decide +kernel
set_option maxRecDepth 65536 in
theorem w_named : about1.methodNamed? x = some theMethod := by decide +kernel
set_option maxRecDepth 65536 in
theorem w_hears : about1.hears theMethod below0 = true := by decide +kernel
set_option maxRecDepth 65536 in
theorem w_ripe : about1.ripe theMethod args0 below0 = true := by decide +kernel
theorem w_running : about1.status = .running := rfl
set_option maxRecDepth 65536 in
theorem w_room : about1.hasRoom e0.platform room_1 = true :=
  launch0.hasRoom_least _ room_1 (by decide +kernel) (by decide +kernel) (by decide +kernel) (by decide +kernel) (by decide +kernel) (by decide +kernel)
theorem allAtoms_all (ts : List Jvm.Cond) (a : Array Jvm.Value) (st : Jvm.State) : (allAtoms ts).before a st = ts.all (fun c => c.before a st) := by
  induction ts with
  | nil => rfl
  | cons c t ih =>
    show (Jvm.Cond.and c (allAtoms t)).before a st = _
    rw [Jvm.Cond.before_and, ih, List.all_cons]
def words1 : List Jvm.Cond := Jvm.Cond.code x code maxLocals ret :: tables_1
/-- a 'code' word, met by the world's own term for the bytes: nothing is compared byte by byte -/
theorem code_word {y : MethodName} {bytes : ByteArray} {mx : Nat} {rt : Option FieldType} {a : Array Value} {s : State} {m : MethodId} {meth : Method} {c : Code} (h1 : s.methodNamed? y = some m) (h2 : s.vm.method? m = some meth) (h3 : meth.code = some c) (h4 : c.code = bytes)
    (h5 : (c.maxLocals == mx && c.exceptionTable.isEmpty && decide (c.maxStack ≤ mostOperands) && decide (meth.sig.returnType = rt) && !meth.locks && decide (parseMethodDescriptor y.desc = some meth.sig)) = true) : (Jvm.Cond.code y bytes mx rt).before a s = true := by
  simp only [Bool.and_eq_true, beq_iff_eq, Bool.not_eq_true', decide_eq_true_eq] at h5
  obtain ⟨⟨⟨⟨⟨g1, g2⟩, g3⟩, g4⟩, g5⟩, g6⟩ := h5
  simp [Cond.before, Cond.holds, Cond.value, h1, h2, h3, h4, g1, g2, g3, g4, g5, g6]
def isCode : Jvm.Cond → Bool
  | .code _ _ _ _ => true
  | _ => false
theorem all_split {L : List Jvm.Cond} {P : Jvm.Cond → Bool} (h1 : L.all (fun c => isCode c || P c) = true) (h2 : ∀ c ∈ L.filter isCode, P c = true) : L.all P = true := by
  refine List.all_eq_true.mpr fun c hc => ?_
  have h := List.all_eq_true.mp h1 c hc
  rcases Bool.eq_false_or_eq_true (isCode c) with hi | hi
  · exact h2 c (List.mem_filter.mpr ⟨hc, hi⟩)
  · simpa [hi] using h
set_option maxRecDepth 65536 in
theorem w_c0 : (Jvm.Cond.code x code maxLocals ret).before args0 about1 = true := code_word (m := ⟨1, 1⟩) (meth := k1m1) (c := k1c1) (by decide +kernel) rfl rfl rfl (by decide +kernel)
set_option maxRecDepth 65536 in
theorem w_c1 : (Jvm.Cond.code ({ cls := "java/lang/Math", name := "min", desc := "(II)I" } : Jvm.MethodName) jdk_29_method_69_code (2 : Nat) (Option.some Jvm.ClassFile.FieldType.int)).before args0 about1 = true := code_word (m := ⟨2, 3⟩) (meth := k2m3) (c := k2c3) (by decide +kernel) rfl rfl rfl (by decide +kernel)
set_option maxRecDepth 65536 in
theorem w_c2 : (Jvm.Cond.code ({ cls := "java/lang/Math", name := "max", desc := "(II)I" } : Jvm.MethodName) jdk_29_method_65_code (2 : Nat) (Option.some Jvm.ClassFile.FieldType.int)).before args0 about1 = true := code_word (m := ⟨2, 2⟩) (meth := k2m2) (c := k2c2) (by decide +kernel) rfl rfl rfl (by decide +kernel)
set_option maxRecDepth 65536 in
theorem w_c3 : (Jvm.Cond.code ({ cls := "com/example/fee_simple/feesimple/ratiostudy/Interval", name := "<init>", desc := "(DD)V" } : Jvm.MethodName) prog_101_method_1_code (5 : Nat) (Option.none : Option Jvm.ClassFile.FieldType)).before args0 about1 = true := code_word (m := ⟨3, 0⟩) (meth := k3m0) (c := k3c0) (by decide +kernel) rfl rfl rfl (by decide +kernel)
set_option maxRecDepth 65536 in
theorem w_c4 : (Jvm.Cond.code ({ cls := "java/lang/Object", name := "<init>", desc := "()V" } : Jvm.MethodName) object_method_1_code (1 : Nat) (Option.none : Option Jvm.ClassFile.FieldType)).before args0 about1 = true := code_word (m := ⟨0, 0⟩) (meth := k0m0) (c := k0c0) (by decide +kernel) rfl rfl rfl (by decide +kernel)
set_option maxRecDepth 65536 in
theorem w_c5 : (Jvm.Cond.code ({ cls := "java/lang/Double", name := "isFinite", desc := "(D)Z" } : Jvm.MethodName) jdk_117_method_8_code (2 : Nat) (Option.some Jvm.ClassFile.FieldType.boolean)).before args0 about1 = true := code_word (m := ⟨9, 0⟩) (meth := k9m0) (c := k9c0) (by decide +kernel) rfl rfl rfl (by decide +kernel)
set_option maxRecDepth 65536 in
theorem w_c6 : (Jvm.Cond.code ({ cls := "java/lang/Math", name := "abs", desc := "(D)D" } : Jvm.MethodName) jdk_29_method_64_code (2 : Nat) (Option.some Jvm.ClassFile.FieldType.double)).before args0 about1 = true := code_word (m := ⟨2, 1⟩) (meth := k2m1) (c := k2c1) (by decide +kernel) rfl rfl rfl (by decide +kernel)
set_option maxRecDepth 65536 in
theorem w_c7 : (Jvm.Cond.code ({ cls := "com/example/fee_simple/feesimple/ratiostudy/Interval", name := "contains", desc := "(D)Z" } : Jvm.MethodName) prog_101_method_4_code (3 : Nat) (Option.some Jvm.ClassFile.FieldType.boolean)).before args0 about1 = true := code_word (m := ⟨3, 1⟩) (meth := k3m1) (c := k3c1) (by decide +kernel) rfl rfl rfl (by decide +kernel)
def codes1 : List Jvm.Cond := [Jvm.Cond.code x code maxLocals ret, Jvm.Cond.code ({ cls := "java/lang/Math", name := "min", desc := "(II)I" } : Jvm.MethodName) jdk_29_method_69_code (2 : Nat) (Option.some Jvm.ClassFile.FieldType.int), Jvm.Cond.code ({ cls := "java/lang/Math", name := "max", desc := "(II)I" } : Jvm.MethodName) jdk_29_method_65_code (2 : Nat) (Option.some Jvm.ClassFile.FieldType.int), Jvm.Cond.code ({ cls := "com/example/fee_simple/feesimple/ratiostudy/Interval", name := "<init>", desc := "(DD)V" } : Jvm.MethodName) prog_101_method_1_code (5 : Nat) (Option.none : Option Jvm.ClassFile.FieldType), Jvm.Cond.code ({ cls := "java/lang/Object", name := "<init>", desc := "()V" } : Jvm.MethodName) object_method_1_code (1 : Nat) (Option.none : Option Jvm.ClassFile.FieldType), Jvm.Cond.code ({ cls := "java/lang/Double", name := "isFinite", desc := "(D)Z" } : Jvm.MethodName) jdk_117_method_8_code (2 : Nat) (Option.some Jvm.ClassFile.FieldType.boolean), Jvm.Cond.code ({ cls := "java/lang/Math", name := "abs", desc := "(D)D" } : Jvm.MethodName) jdk_29_method_64_code (2 : Nat) (Option.some Jvm.ClassFile.FieldType.double), Jvm.Cond.code ({ cls := "com/example/fee_simple/feesimple/ratiostudy/Interval", name := "contains", desc := "(D)Z" } : Jvm.MethodName) prog_101_method_4_code (3 : Nat) (Option.some Jvm.ClassFile.FieldType.boolean)]
set_option maxRecDepth 65536 in
theorem codes_eq : words1.filter isCode = codes1 := rfl
theorem w_codes : ∀ c ∈ words1.filter isCode, c.before args0 about1 = true := by
  rw [codes_eq]
  intro c hc
  simp only [codes1, List.mem_cons, List.not_mem_nil, or_false] at hc
  rcases hc with rfl | rfl | rfl | rfl | rfl | rfl | rfl | rfl
  · exact w_c0
  · exact w_c1
  · exact w_c2
  · exact w_c3
  · exact w_c4
  · exact w_c5
  · exact w_c6
  · exact w_c7
set_option maxRecDepth 65536 in
theorem w_t1 : (words1.take 24).all (fun c => isCode c || c.before args0 about1) = true := by decide +kernel
set_option maxRecDepth 65536 in
theorem w_t2 : (words1.drop 24).all (fun c => isCode c || c.before args0 about1) = true := by decide +kernel
theorem w_tables : (allAtoms (Jvm.Cond.code x code maxLocals ret :: tables_1)).before args0 about1 = true := by
  rw [allAtoms_all]
  show words1.all (fun c => c.before args0 about1) = true
  refine all_split ?_ w_codes
  rw [← List.take_append_drop 24 words1, List.all_append, w_t1, w_t2]
  rfl
set_option maxRecDepth 65536 in
theorem w_case : (Jvm.Cond.and given_1 narrow_1).before args0 about1 = true := by decide +kernel
theorem w_applies : (headSpec (Jvm.Cond.code x code maxLocals ret :: tables_1) room_1).applies x e0.platform about1 = true :=
  (Spec.applies_iff w_frames).mpr ⟨w_running, w_runnable, w_alone, w_named, w_hears, w_ripe, w_room, w_tables⟩
theorem atStart : AtStart classFile x code maxLocals ret World_1 tables_1 room_1 Calls_1 rest_1 Pre_1 launch0 p0 e0 about1 theMethod args0 below0 :=
  ⟨lists_1, trivial, launch0.admits_env _ _ _, launch0.least_env, fairChoices_fair.cas, fairChoices_fair.clock, w_frames, w_args, w_heap, w_applies, trivial, trivial, w_case⟩
end start1
theorem witness_1 : WitnessClaimed_1 := ⟨start1.p0, start1.e0, start1.about1, start1.theMethod, start1.args0, start1.below0, start1.atStart⟩
end Jvm.Pilot.@@N@@
