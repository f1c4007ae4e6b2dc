import JvmDerived
import JvmDerived.Pilot.@@N@@Statement
import JvmDerived.Pilot.@@N@@Code
set_option linter.unusedVariables false
set_option linter.unusedSimpArgs false
@@BLOCK:NumsL.lean.txt@@
namespace Jvm.Pilot.@@N@@
open Jvm Jvm.ClassFile Sem Op Lib Jvm.Free Jvm.Stand Jvm.LawKit Jvm.RoadKit Bundle Jvm.Pilot.@@N@@.Jvm.D

def own_G (p : Program) (e : Env) (below : List Frame) (B : State → Outcome → Prop) (U : State) : Prop := ∃ t o, Steps p.tables e below U t ∧ t.status = .running ∧ Ended t below o ∧ B t o
theorem own_via {p : Program} {e : Env} {below : List Frame} {B : State → Outcome → Prop} {U U' : State} (h : ∀ t, Steps p.tables e below U' t → Steps p.tables e below U t) (k : own_G p e below B U') : own_G p e below B U := by
  obtain ⟨t, o, a, r⟩ := k
  exact ⟨t, o, h t a, r⟩
theorem own_start {p : Program} {e : Env} {below : List Frame} {B : State → Outcome → Prop} {U : State} (k : own_G p e below B U) : ∃ t o, Steps p.tables e below U t ∧ t.status = .running ∧ Ended t below o ∧ B t o := k

def own_aft (l1 c1 l2 c2 : Int32) : Int32 := if l2 < l1 then 1 else if l1 = l2 then (if c2 < c1 then 1 else 0) else 0
def own_key (l c : Int32) : Int64 := (l.toInt64 <<< ((32 : Int32) &&& 0x3f).toInt64) ||| ((c ^^^ (-2147483648 : Int32)).toInt64 &&& (4294967295 : Int64))
/-- the two halves of a long, laid together -/
theorem own_or (A B : Int64) (hA : A.toInt % 4294967296 = 0) (h0 : 0 ≤ B.toInt) (h1 : B.toInt < 4294967296) : (A ||| B).toInt = A.toInt + B.toInt := by
  have eA : A.toInt = Int.bmod (A.toBitVec.toNat : Int) (2 ^ 64) := BitVec.toInt_eq_toNat_bmod _
  have eB : B.toInt = Int.bmod (B.toBitVec.toNat : Int) (2 ^ 64) := BitVec.toInt_eq_toNat_bmod _
  have eO : (A ||| B).toInt = Int.bmod ((A ||| B).toBitVec.toNat : Int) (2 ^ 64) := BitVec.toInt_eq_toNat_bmod _
  have nO : (A ||| B).toBitVec.toNat = A.toBitVec.toNat ||| B.toBitVec.toNat := by rw [Int64.toBitVec_or, BitVec.toNat_or]
  have lA := A.toBitVec.isLt
  have lB := B.toBitVec.isLt
  rw [Int.bmod_def] at eA eB eO
  have hb : B.toBitVec.toNat < 2 ^ 32 := by split at eB <;> omega
  have ha : A.toBitVec.toNat = 2 ^ 32 * (A.toBitVec.toNat / 2 ^ 32) := by split at eA <;> omega
  rw [ha, ← Nat.two_pow_add_eq_or_of_lt hb] at nO
  split at eA <;> split at eB <;> split at eO <;> omega
theorem own_flip (c : Int32) : (c ^^^ (-2147483648 : Int32)).toInt % 4294967296 = c.toInt + 2147483648 := by
  have e1 : c.toInt = Int.bmod (c.toBitVec.toNat : Int) (2 ^ 32) := BitVec.toInt_eq_toNat_bmod _
  have e2 : (c ^^^ (-2147483648 : Int32)).toInt = Int.bmod ((c ^^^ (-2147483648 : Int32)).toBitVec.toNat : Int) (2 ^ 32) := BitVec.toInt_eq_toNat_bmod _
  have n2 : (c ^^^ (-2147483648 : Int32)).toBitVec.toNat = c.toBitVec.toNat ^^^ 2147483648 := by rw [Int32.toBitVec_xor, BitVec.toNat_xor]; rfl
  have l1 := c.toBitVec.isLt
  generalize c.toBitVec.toNat = X at *
  have d : (X ^^^ 2147483648) / 2 ^ 31 = (X / 2 ^ 31) ^^^ 1 := by rw [Nat.xor_div_two_pow]
  have r : (X ^^^ 2147483648) % 2 ^ 31 = X % 2 ^ 31 := by rw [Nat.xor_mod_two_pow]; show X % 2 ^ 31 ^^^ 0 = _; rw [Nat.xor_zero]
  have t : X / 2 ^ 31 = 0 ∨ X / 2 ^ 31 = 1 := by omega
  rw [n2] at e2
  generalize X ^^^ 2147483648 = Y at *
  rw [Int.bmod_def] at e1 e2
  rcases t with t | t <;> rw [t] at d <;> simp at d <;> split at e1 <;> split at e2 <;> omega
theorem own_key_toInt (l c : Int32) : (own_key l c).toInt = l.toInt * 4294967296 + (c.toInt + 2147483648) := by
  have a1 := l.toInt_lt; have a2 := l.le_toInt
  have b1 := c.toInt_lt; have b2 := c.le_toInt
  have eA : (l.toInt64 <<< ((32 : Int32) &&& 0x3f).toInt64).toInt = l.toInt * 2 ^ 32 := by
    rw [Jvm.Kit.i64_shl l.toInt64 (((32 : Int32) &&& 0x3f).toInt64) (k := 32) (by decide) (by rw [Int32.toInt_toInt64]; omega) (by rw [Int32.toInt_toInt64]; omega), Int32.toInt_toInt64]
  have eB : ((c ^^^ (-2147483648 : Int32)).toInt64 &&& (4294967295 : Int64)).toInt = c.toInt + 2147483648 := by
    rw [Jvm.Kit.i64_mask _ 4294967295 (k := 32) (by decide) (by decide), Int32.toInt_toInt64]; exact own_flip c
  unfold own_key
  rw [own_or _ _ (by rw [eA]; omega) (by rw [eB]; omega) (by rw [eB]; omega), eA, eB]
  omega
theorem own_cmp (l1 c1 l2 c2 : Int32) : (0 : Int32) < lcmpW (own_key l1 c1) (own_key l2 c2) ↔ own_aft l1 c1 l2 c2 = 1 := by
  rw [lcW, lc_gt, Int64.lt_iff_toInt_lt, own_key_toInt, own_key_toInt]
  have a1 := l1.toInt_lt; have a2 := l1.le_toInt; have a3 := l2.toInt_lt; have a4 := l2.le_toInt
  have b1 := c1.toInt_lt; have b2 := c1.le_toInt; have b3 := c2.toInt_lt; have b4 := c2.le_toInt
  simp only [own_aft, Int32.lt_iff_toInt_lt, ← Int32.toInt_inj (x := l1)]
  repeat' split
  all_goals (constructor <;> intro h)
  all_goals first | rfl | omega | (exfalso; omega) | exact absurd h (by decide)
theorem own_aft01 (l1 c1 l2 c2 : Int32) (h : ¬ own_aft l1 c1 l2 c2 = 1) : own_aft l1 c1 l2 c2 = 0 := by
  revert h; simp only [own_aft]; repeat' split
  all_goals simp

theorem d1_0 : decode prog_37_method_1_code 0 = .ok (.aload_n 0, 1) := by decide +kernel
theorem d1_1 : decode prog_37_method_1_code 1 = .ok (.invokespecial 1, 3) := by decide +kernel
theorem d1_4 : decode prog_37_method_1_code 4 = .ok (.aload_n 0, 1) := by decide +kernel
theorem d1_5 : decode prog_37_method_1_code 5 = .ok (.iload_n 1, 1) := by decide +kernel
theorem d1_6 : decode prog_37_method_1_code 6 = .ok (.putfield 7, 3) := by decide +kernel
theorem d1_9 : decode prog_37_method_1_code 9 = .ok (.aload_n 0, 1) := by decide +kernel
theorem d1_10 : decode prog_37_method_1_code 10 = .ok (.iload_n 2, 1) := by decide +kernel
theorem d1_11 : decode prog_37_method_1_code 11 = .ok (.putfield 13, 3) := by decide +kernel
theorem d1_14 : decode prog_37_method_1_code 14 = .ok (.return_, 1) := by decide +kernel
theorem rm1_pn : plainName "com/example/meridial/meridial/adql/Position" = true := by first | (simp [plainName, overriddenIn]; done) | decide +kernel
theorem rm1_ef (m : MethodId) (z0 : Addr) (z1 : Int32) (z2 : Int32) : entryFrame m #[(.ref z0), (.int z1), (.int z2)] 3 = mkF m 0 #[.val (.ref z0), .val (.int z1), .val (.int z2)] [] := by first | (simp [entryFrame, mkF, argsToLocals, Value.category]; done) | rfl
def rm1_Q (Z : State) (a1 : Addr) (p2 : Int32) (p3 : Int32)  (h0 : Heap) (n0 : Nat) (v : Option Value) (h : Heap) (L : List Loc) : Prop := v = none ∧ Fr n0 L ∧ Keep h0 h [a1] ∧ Exa Z h a1 "com/example/meridial/meridial/adql/Position" ∧ Fld Z h a1 "com/example/meridial/meridial/adql/Position" "line" "I" (.int p2) ∧ Fld Z h a1 "com/example/meridial/meridial/adql/Position" "column" "I" (.int p3)
set_option maxRecDepth 65536 in
set_option maxHeartbeats 40000000 in
theorem rm1 (l : Launch) (Z : State) (a0 : Array Value) (hw : ∀ d ∈ tables_1, d.before a0 Z = true) (ws : List Jvm.Cond) (a1 : Addr) (p2 : Int32) (p3 : Int32)  (h0 : Heap) (n0 : Nat) (Z0 : n0 ≤ h0.size) (E_a1 : Exa Z h0 a1 "com/example/meridial/meridial/adql/Position") (F_line : Fld Z h0 a1 "com/example/meridial/meridial/adql/Position" "line" "I" (.int (0 : Int32))) (F_col : Fld Z h0 a1 "com/example/meridial/meridial/adql/Position" "column" "I" (.int (0 : Int32))) (gx_a1 : n0 ≤ a1) :
    MetFree l (⟨"com/example/meridial/meridial/adql/Position", "<init>", "(II)V"⟩ : MethodName) (head1 (Jvm.Cond.code (⟨"com/example/meridial/meridial/adql/Position", "<init>", "(II)V"⟩ : MethodName) prog_37_method_1_code 3 none :: ws) ({ frames := 1, cells := 0, slots := 0, locals := 12 } : Room)) (fun a U => a = #[(.ref a1), (.int p2), (.int p3)] ∧ Z.Warmed39 U.vm ∧ U.heap = h0) (fun _ _ _ _ _ => True) (fun _ U o U' => ∃ v L, o = .returned v ∧ rm1_Q Z a1 p2 p3 h0 n0 v U'.heap L ∧ FrameEnd U o U' L ({ frames := 1, cells := 0, slots := 0, locals := 12 } : Room).cells ({ frames := 1, cells := 0, slots := 0, locals := 12 } : Room).slots) := by
  refine MetFree.of_bodySF (plainFor_of_name rm1_pn) hisR ?_
  intro p e s m args below meth c s₁ Bd hml0 hP hK
  obtain ⟨rfl, hZ, hh⟩ := hP
  have hx := Bd.exec
  have hby := Bd.bytes
  have hml : c.maxLocals = 3 := hml0
  have hown : s.vm.findClass "com/example/meridial/meridial/adql/Position" = some m.cls := findClass_of_methodNamed Bd.named
  have hnm := (name_of_methodNamed Bd.named Bd.method).1
  have X0 : Stand p l e ({ frames := 1, cells := 0, slots := 0, locals := 12 } : Room) s m #[(.ref a1), (.int p2), (.int p3)] below meth c s₁ [] 0 0 := Stand.of_body Bd
  have e0 : s₁.heap = h0 := by rw [← hh, Bd.state]; rfl
  have N0 := Fr.nil n0
  refine own_via (fun t k => castTop (rm1_ef m a1 p2 p3) k) ?_
  have K0 := Keep.refl h0 [a1]
  show own_G p e below _ (s₁.setTop (mkF m 0 #[.val (.ref a1), .val (.int p2), .val (.int p3)] []))
  refine own_via (fun t k => XS.aloadN X0.here hx rfl (hb hby d1_0) rfl rfl k) ?_
  show own_G p e below _ (s₁.setTop (mkF m 1 #[.val (.ref a1), .val (.int p2), .val (.int p3)] [(.ref a1)]))
  obtain ⟨T1, X1, e1, st1⟩ := initO X0 hx hZ hown (hw _ (List.mem_of_getElem? (i := 6) rfl)) (hw _ (List.mem_of_getElem? (i := 7) rfl)) (hw _ (List.mem_of_getElem? (i := 8) rfl)) e0 (g := (mkF m 1 #[.val (.ref a1), .val (.int p2), .val (.int p3)] [(.ref a1)])) rfl (by rw [hml]; rfl) rfl (hb hby d1_1) (by decide) (W := 0) (by show 2 * 0 + _ ≤ _; exact Nat.le_of_eq rfl) (by decide)
  refine own_via st1 ?_
  show own_G p e below _ (T1.setTop (mkF m 4 #[.val (.ref a1), .val (.int p2), .val (.int p3)] []))
  refine own_via (fun t k => XS.aloadN X1.here hx rfl (hb hby d1_4) rfl rfl k) ?_
  show own_G p e below _ (T1.setTop (mkF m 5 #[.val (.ref a1), .val (.int p2), .val (.int p3)] [(.ref a1)]))
  refine own_via (fun t k => XS.iloadN X1.here hx rfl (hb hby d1_5) rfl k) ?_
  show own_G p e below _ (T1.setTop (mkF m 6 #[.val (.ref a1), .val (.int p2), .val (.int p3)] [(.int p2), (.ref a1)]))
  obtain ⟨T2, h2, X2, e2, W2, st2⟩ := putF X1 hx hZ hown (host := "") (Or.inl (hw _ (List.mem_of_getElem? (i := 9) rfl))) Via.refl e1 F_line E_a1 (Or.inr ⟨(hw _ (List.mem_of_getElem? (i := 10) rfl)), rfl, hnm⟩) (hw _ (List.mem_of_getElem? (i := 1) rfl)) (ty := .int) (by decide) rfl rfl (g := (mkF m 6 #[.val (.ref a1), .val (.int p2), .val (.int p3)] [(.int p2), (.ref a1)])) rfl rfl (hb hby d1_6)
  have Fw2 := F_line.same W2
  have F3 := E_a1.wr W2
  have F4 := F_col.other W2 (Or.inr (slot_ne (Or.inr (hw _ (List.mem_of_getElem? (i := 12) rfl))) (Or.inr (hw _ (List.mem_of_getElem? (i := 10) rfl))) (by decide) (t := .int) (t' := .int) (by decide) (by decide)))
  have N2 := Fr.snoc X2 N0 gx_a1
  have Z2 : n0 ≤ h2.size := Nat.le_trans Z0 (Nat.le_of_eq W2.size.symm)
  have K2 := K0.wr W2 (Or.inl (List.mem_of_getElem? (i := 0) rfl))
  refine own_via st2 ?_
  show own_G p e below _ (T2.setTop (mkF m 9 #[.val (.ref a1), .val (.int p2), .val (.int p3)] []))
  refine own_via (fun t k => XS.aloadN X2.here hx rfl (hb hby d1_9) rfl rfl k) ?_
  show own_G p e below _ (T2.setTop (mkF m 10 #[.val (.ref a1), .val (.int p2), .val (.int p3)] [(.ref a1)]))
  refine own_via (fun t k => XS.iloadN X2.here hx rfl (hb hby d1_10) rfl k) ?_
  show own_G p e below _ (T2.setTop (mkF m 11 #[.val (.ref a1), .val (.int p2), .val (.int p3)] [(.int p3), (.ref a1)]))
  obtain ⟨T5, h5, X5, e5, W5, st5⟩ := putF X2 hx hZ hown (host := "") (Or.inl (hw _ (List.mem_of_getElem? (i := 11) rfl))) Via.refl e2 F4 F3 (Or.inr ⟨(hw _ (List.mem_of_getElem? (i := 12) rfl)), rfl, hnm⟩) (hw _ (List.mem_of_getElem? (i := 1) rfl)) (ty := .int) (by decide) rfl rfl (g := (mkF m 11 #[.val (.ref a1), .val (.int p2), .val (.int p3)] [(.int p3), (.ref a1)])) rfl rfl (hb hby d1_11)
  have Fw5 := F4.same W5
  have F6 := F3.wr W5
  have F7 := Fw2.other W5 (Or.inr (slot_ne (Or.inr (hw _ (List.mem_of_getElem? (i := 10) rfl))) (Or.inr (hw _ (List.mem_of_getElem? (i := 12) rfl))) (by decide) (t := .int) (t' := .int) (by decide) (by decide)))
  have N5 := Fr.snoc X5 N2 gx_a1
  have Z5 : n0 ≤ h5.size := Nat.le_trans Z2 (Nat.le_of_eq W5.size.symm)
  have K5 := K2.wr W5 (Or.inl (List.mem_of_getElem? (i := 0) rfl))
  refine own_via st5 ?_
  show own_G p e below _ (T5.setTop (mkF m 14 #[.val (.ref a1), .val (.int p2), .val (.int p3)] []))
  obtain ⟨fs, hr, hrun, hended, hW, hsame⟩ := X5.leave (v := none) (fun _ => rfl)
  refine ⟨_, _, X5.returnOut hx Bd.returns (hb hby d1_14) hr, hrun, hended, _, _, rfl, ?_, ⟨_, rfl⟩, hW, hsame.mono (by decide) (by decide)⟩
  show rm1_Q Z a1 p2 p3 h0 n0 _ T5.heap _
  rw [e5]
  exact ⟨rfl, N5, K5, F6, F7, Fw5⟩

theorem d3_0 : decode method_2_code 0 = .ok (.iload_n 0, 1) := by decide +kernel
theorem d3_1 : decode method_2_code 1 = .ok (.i2l, 1) := by decide +kernel
theorem d3_2 : decode method_2_code 2 = .ok (.bipush 32, 2) := by decide +kernel
theorem d3_4 : decode method_2_code 4 = .ok (.lshl, 1) := by decide +kernel
theorem d3_5 : decode method_2_code 5 = .ok (.iload_n 1, 1) := by decide +kernel
theorem d3_6 : decode method_2_code 6 = .ok (.ldc 7, 2) := by decide +kernel
theorem d3_8 : decode method_2_code 8 = .ok (.ixor, 1) := by decide +kernel
theorem d3_9 : decode method_2_code 9 = .ok (.i2l, 1) := by decide +kernel
theorem d3_10 : decode method_2_code 10 = .ok (.ldc2_w 8, 3) := by decide +kernel
theorem d3_13 : decode method_2_code 13 = .ok (.land, 1) := by decide +kernel
theorem d3_14 : decode method_2_code 14 = .ok (.lor, 1) := by decide +kernel
theorem d3_15 : decode method_2_code 15 = .ok (.lreturn, 1) := by decide +kernel
theorem rm3_pn : plainName "com/example/meridial/meridial/adql/PositionIsAfterPinLaw" = true := by first | (simp [plainName, overriddenIn]; done) | decide +kernel
theorem rm3_ef (m : MethodId) (z0 : Int32) (z1 : Int32) : entryFrame m #[(.int z0), (.int z1)] 2 = mkF m 0 #[.val (.int z0), .val (.int z1)] [] := by first | (simp [entryFrame, mkF, argsToLocals, Value.category]; done) | rfl
def rm3_Q (Z : State) (p1 : Int32) (p2 : Int32)  (h0 : Heap) (n0 : Nat) (v : Option Value) (h : Heap) (L : List Loc) : Prop := v = some (.long (own_key p1 p2)) ∧ Fr n0 L ∧ h = h0
set_option maxRecDepth 65536 in
set_option maxHeartbeats 40000000 in
theorem rm3 (l : Launch) (Z : State) (a0 : Array Value) (hw : ∀ d ∈ tables_1, d.before a0 Z = true) (ws : List Jvm.Cond) (p1 : Int32) (p2 : Int32)  (h0 : Heap) (n0 : Nat) (Z0 : n0 ≤ h0.size)  :
    MetFree l (⟨"com/example/meridial/meridial/adql/PositionIsAfterPinLaw", "key", "(II)J"⟩ : MethodName) (head1 (Jvm.Cond.code (⟨"com/example/meridial/meridial/adql/PositionIsAfterPinLaw", "key", "(II)J"⟩ : MethodName) method_2_code 2 (some .long) :: ws) ({ frames := 0, cells := 0, slots := 0, locals := 0 } : Room)) (fun a U => a = #[(.int p1), (.int p2)] ∧ Z.Warmed39 U.vm ∧ U.heap = h0) (fun _ _ _ _ _ => True) (fun _ U o U' => ∃ v L, o = .returned v ∧ rm3_Q Z p1 p2 h0 n0 v U'.heap L ∧ FrameEnd U o U' L ({ frames := 0, cells := 0, slots := 0, locals := 0 } : Room).cells ({ frames := 0, cells := 0, slots := 0, locals := 0 } : Room).slots) := by
  refine MetFree.of_bodySF (plainFor_of_name rm3_pn) hisR ?_
  intro p e s m args below meth c s₁ Bd hml0 hP hK
  obtain ⟨rfl, hZ, hh⟩ := hP
  have hx := Bd.exec
  have hby := Bd.bytes
  have hml : c.maxLocals = 2 := hml0
  have hown : s.vm.findClass "com/example/meridial/meridial/adql/PositionIsAfterPinLaw" = some m.cls := findClass_of_methodNamed Bd.named
  have hnm := (name_of_methodNamed Bd.named Bd.method).1
  have X0 : Stand p l e ({ frames := 0, cells := 0, slots := 0, locals := 0 } : Room) s m #[(.int p1), (.int p2)] below meth c s₁ [] 0 0 := Stand.of_body Bd
  have e0 : s₁.heap = h0 := by rw [← hh, Bd.state]; rfl
  have N0 := Fr.nil n0
  refine own_via (fun t k => castTop (rm3_ef m p1 p2) k) ?_
  show own_G p e below _ (s₁.setTop (mkF m 0 #[.val (.int p1), .val (.int p2)] []))
  refine own_via (fun t k => XS.iloadN X0.here hx rfl (hb hby d3_0) rfl k) ?_
  show own_G p e below _ (s₁.setTop (mkF m 1 #[.val (.int p1), .val (.int p2)] [(.int p1)]))
  refine own_via (fun t k => XS.i2l X0.here hx rfl (hb hby d3_1) rfl k) ?_
  show own_G p e below _ (s₁.setTop (mkF m 2 #[.val (.int p1), .val (.int p2)] [(.long (p1.toInt64))]))
  refine own_via (fun t k => XS.bipush X0.here hx rfl (hb hby d3_2) k) ?_
  show own_G p e below _ (s₁.setTop (mkF m 4 #[.val (.int p1), .val (.int p2)] [(.int (32 : Int32)), (.long (p1.toInt64))]))
  refine own_via (fun t k => XS.lshl X0.here hx rfl (hb hby d3_4) rfl k) ?_
  show own_G p e below _ (s₁.setTop (mkF m 5 #[.val (.int p1), .val (.int p2)] [(.long ((p1.toInt64) <<< ((32 : Int32) &&& 0x3f).toInt64))]))
  refine own_via (fun t k => XS.iloadN X0.here hx rfl (hb hby d3_5) rfl k) ?_
  show own_G p e below _ (s₁.setTop (mkF m 6 #[.val (.int p1), .val (.int p2)] [(.int p2), (.long ((p1.toInt64) <<< ((32 : Int32) &&& 0x3f).toInt64))]))
  refine own_via (fun t k => X0.ldcInt hx hown (mvT hZ (hw _ (List.mem_of_getElem? (i := 17) rfl))) (g := (mkF m 6 #[.val (.int p1), .val (.int p2)] [(.int p2), (.long ((p1.toInt64) <<< ((32 : Int32) &&& 0x3f).toInt64))])) rfl (hb hby d3_6) _ k) ?_
  show own_G p e below _ (s₁.setTop (mkF m 8 #[.val (.int p1), .val (.int p2)] [(.int (-2147483648 : Int32)), (.int p2), (.long ((p1.toInt64) <<< ((32 : Int32) &&& 0x3f).toInt64))]))
  refine own_via (fun t k => XS.ixor X0.here hx rfl (hb hby d3_8) rfl k) ?_
  show own_G p e below _ (s₁.setTop (mkF m 9 #[.val (.int p1), .val (.int p2)] [(.int (p2 ^^^ (-2147483648 : Int32))), (.long ((p1.toInt64) <<< ((32 : Int32) &&& 0x3f).toInt64))]))
  refine own_via (fun t k => XS.i2l X0.here hx rfl (hb hby d3_9) rfl k) ?_
  show own_G p e below _ (s₁.setTop (mkF m 10 #[.val (.int p1), .val (.int p2)] [(.long ((p2 ^^^ (-2147483648 : Int32)).toInt64)), (.long ((p1.toInt64) <<< ((32 : Int32) &&& 0x3f).toInt64))]))
  refine own_via (fun t k => X0.ldc2Long hx hown (mvT hZ (hw _ (List.mem_of_getElem? (i := 18) rfl))) (g := (mkF m 10 #[.val (.int p1), .val (.int p2)] [(.long ((p2 ^^^ (-2147483648 : Int32)).toInt64)), (.long ((p1.toInt64) <<< ((32 : Int32) &&& 0x3f).toInt64))])) rfl (hb hby d3_10) _ k) ?_
  show own_G p e below _ (s₁.setTop (mkF m 13 #[.val (.int p1), .val (.int p2)] [(.long (4294967295 : Int64)), (.long ((p2 ^^^ (-2147483648 : Int32)).toInt64)), (.long ((p1.toInt64) <<< ((32 : Int32) &&& 0x3f).toInt64))]))
  refine own_via (fun t k => XS.land X0.here hx rfl (hb hby d3_13) rfl k) ?_
  show own_G p e below _ (s₁.setTop (mkF m 14 #[.val (.int p1), .val (.int p2)] [(.long (((p2 ^^^ (-2147483648 : Int32)).toInt64) &&& (4294967295 : Int64))), (.long ((p1.toInt64) <<< ((32 : Int32) &&& 0x3f).toInt64))]))
  refine own_via (fun t k => XS.lor X0.here hx rfl (hb hby d3_14) rfl k) ?_
  show own_G p e below _ (s₁.setTop (mkF m 15 #[.val (.int p1), .val (.int p2)] [(.long (((p1.toInt64) <<< ((32 : Int32) &&& 0x3f).toInt64) ||| (((p2 ^^^ (-2147483648 : Int32)).toInt64) &&& (4294967295 : Int64))))]))
  obtain ⟨fs, hr, hrun, hended, hW, hsame⟩ := X0.leave (v := some (.long (((p1.toInt64) <<< ((32 : Int32) &&& 0x3f).toInt64) ||| (((p2 ^^^ (-2147483648 : Int32)).toInt64) &&& (4294967295 : Int64))))) (fun h => by rw [Bd.returns] at h; cases h)
  refine ⟨_, _, retOut X0 hx Bd.returns rfl (Or.inr (Or.inl ⟨rfl, rfl, _, rfl⟩)) (hb hby d3_15) hr, hrun, hended, _, _, rfl, ?_, ⟨_, rfl⟩, hW, hsame.mono (by decide) (by decide)⟩
  show rm3_Q Z p1 p2 h0 n0 _ s₁.heap _
  rw [e0]
  exact ⟨rfl, N0, rfl⟩

theorem d4_0 : decode prog_37_method_4_code 0 = .ok (.aload_n 0, 1) := by decide +kernel
theorem d4_1 : decode prog_37_method_4_code 1 = .ok (.getfield 7, 3) := by decide +kernel
theorem d4_4 : decode prog_37_method_4_code 4 = .ok (.aload_n 1, 1) := by decide +kernel
theorem d4_5 : decode prog_37_method_4_code 5 = .ok (.getfield 7, 3) := by decide +kernel
theorem d4_8 : decode prog_37_method_4_code 8 = .ok (.if_icmp .gt 25, 3) := by decide +kernel
theorem d4_11 : decode prog_37_method_4_code 11 = .ok (.aload_n 0, 1) := by decide +kernel
theorem d4_12 : decode prog_37_method_4_code 12 = .ok (.getfield 7, 3) := by decide +kernel
theorem d4_15 : decode prog_37_method_4_code 15 = .ok (.aload_n 1, 1) := by decide +kernel
theorem d4_16 : decode prog_37_method_4_code 16 = .ok (.getfield 7, 3) := by decide +kernel
theorem d4_19 : decode prog_37_method_4_code 19 = .ok (.if_icmp .ne 18, 3) := by decide +kernel
theorem d4_22 : decode prog_37_method_4_code 22 = .ok (.aload_n 0, 1) := by decide +kernel
theorem d4_23 : decode prog_37_method_4_code 23 = .ok (.getfield 13, 3) := by decide +kernel
theorem d4_26 : decode prog_37_method_4_code 26 = .ok (.aload_n 1, 1) := by decide +kernel
theorem d4_27 : decode prog_37_method_4_code 27 = .ok (.getfield 13, 3) := by decide +kernel
theorem d4_30 : decode prog_37_method_4_code 30 = .ok (.if_icmp .le 7, 3) := by decide +kernel
theorem d4_33 : decode prog_37_method_4_code 33 = .ok (.iconst 1, 1) := by decide +kernel
theorem d4_34 : decode prog_37_method_4_code 34 = .ok (.goto 4, 3) := by decide +kernel
theorem d4_37 : decode prog_37_method_4_code 37 = .ok (.iconst 0, 1) := by decide +kernel
theorem d4_38 : decode prog_37_method_4_code 38 = .ok (.ireturn, 1) := by decide +kernel
theorem rm4_pn : plainName "com/example/meridial/meridial/adql/Position" = true := by first | (simp [plainName, overriddenIn]; done) | decide +kernel
theorem rm4_ef (m : MethodId) (z0 : Addr) (z1 : Addr) : entryFrame m #[(.ref z0), (.ref z1)] 2 = mkF m 0 #[.val (.ref z0), .val (.ref z1)] [] := by first | (simp [entryFrame, mkF, argsToLocals, Value.category]; done) | rfl
def rm4_Q (Z : State) (a1 : Addr) (a2 : Addr) (u1 : Int32) (v1 : Int32) (u2 : Int32) (v2 : Int32) (h0 : Heap) (n0 : Nat) (v : Option Value) (h : Heap) (L : List Loc) : Prop := v = some (.int (own_aft u1 v1 u2 v2)) ∧ Fr n0 L ∧ h = h0
set_option maxRecDepth 65536 in
set_option maxHeartbeats 40000000 in
theorem rm4 (l : Launch) (Z : State) (a0 : Array Value) (hw : ∀ d ∈ tables_1, d.before a0 Z = true) (ws : List Jvm.Cond) (a1 : Addr) (a2 : Addr) (u1 : Int32) (v1 : Int32) (u2 : Int32) (v2 : Int32) (h0 : Heap) (n0 : Nat) (Z0 : n0 ≤ h0.size) (G1 : Fld Z h0 a1 "com/example/meridial/meridial/adql/Position" "line" "I" (.int u1)) (G2 : Fld Z h0 a1 "com/example/meridial/meridial/adql/Position" "column" "I" (.int v1)) (G3 : Fld Z h0 a2 "com/example/meridial/meridial/adql/Position" "line" "I" (.int u2)) (G4 : Fld Z h0 a2 "com/example/meridial/meridial/adql/Position" "column" "I" (.int v2)) :
    MetFree l (⟨"com/example/meridial/meridial/adql/Position", "isAfter", "(Lcom/example/meridial/meridial/adql/Position;)Z"⟩ : MethodName) (head1 (Jvm.Cond.code (⟨"com/example/meridial/meridial/adql/Position", "isAfter", "(Lcom/example/meridial/meridial/adql/Position;)Z"⟩ : MethodName) prog_37_method_4_code 2 (some .boolean) :: ws) ({ frames := 0, cells := 0, slots := 0, locals := 0 } : Room)) (fun a U => a = #[(.ref a1), (.ref a2)] ∧ Z.Warmed39 U.vm ∧ U.heap = h0) (fun _ _ _ _ _ => True) (fun _ U o U' => ∃ v L, o = .returned v ∧ rm4_Q Z a1 a2 u1 v1 u2 v2 h0 n0 v U'.heap L ∧ FrameEnd U o U' L ({ frames := 0, cells := 0, slots := 0, locals := 0 } : Room).cells ({ frames := 0, cells := 0, slots := 0, locals := 0 } : Room).slots) := by
  refine MetFree.of_bodySF (plainFor_of_name rm4_pn) hisR ?_
  intro p e s m args below meth c s₁ Bd hml0 hP hK
  obtain ⟨rfl, hZ, hh⟩ := hP
  have hx := Bd.exec
  have hby := Bd.bytes
  have hml : c.maxLocals = 2 := hml0
  have hown : s.vm.findClass "com/example/meridial/meridial/adql/Position" = some m.cls := findClass_of_methodNamed Bd.named
  have hnm := (name_of_methodNamed Bd.named Bd.method).1
  have X0 : Stand p l e ({ frames := 0, cells := 0, slots := 0, locals := 0 } : Room) s m #[(.ref a1), (.ref a2)] below meth c s₁ [] 0 0 := Stand.of_body Bd
  have e0 : s₁.heap = h0 := by rw [← hh, Bd.state]; rfl
  have N0 := Fr.nil n0
  refine own_via (fun t k => castTop (rm4_ef m a1 a2) k) ?_
  show own_G p e below _ (s₁.setTop (mkF m 0 #[.val (.ref a1), .val (.ref a2)] []))
  refine own_via (fun t k => XS.aloadN X0.here hx rfl (hb hby d4_0) rfl rfl k) ?_
  show own_G p e below _ (s₁.setTop (mkF m 1 #[.val (.ref a1), .val (.ref a2)] [(.ref a1)]))
  obtain ⟨T1, X1, e1, st1⟩ := getF X0 hx hZ hown (host := "") (Or.inl (hw _ (List.mem_of_getElem? (i := 9) rfl))) Via.refl e0 G1 (g := (mkF m 1 #[.val (.ref a1), .val (.ref a2)] [(.ref a1)])) rfl rfl (hb hby d4_1)
  refine own_via st1 ?_
  show own_G p e below _ (T1.setTop (mkF m 4 #[.val (.ref a1), .val (.ref a2)] [(.int u1)]))
  refine own_via (fun t k => XS.aloadN X1.here hx rfl (hb hby d4_4) rfl rfl k) ?_
  show own_G p e below _ (T1.setTop (mkF m 5 #[.val (.ref a1), .val (.ref a2)] [(.ref a2), (.int u1)]))
  obtain ⟨T2, X2, e2, st2⟩ := getF X1 hx hZ hown (host := "") (Or.inl (hw _ (List.mem_of_getElem? (i := 9) rfl))) Via.refl e1 G3 (g := (mkF m 5 #[.val (.ref a1), .val (.ref a2)] [(.ref a2), (.int u1)])) rfl rfl (hb hby d4_5)
  refine own_via st2 ?_
  show own_G p e below _ (T2.setTop (mkF m 8 #[.val (.ref a1), .val (.ref a2)] [(.int u2), (.int u1)]))
  by_cases c8_3 : u2 < u1
  · skip
    refine own_via (fun t k => XS.icmpYes X2.here hx rfl (pc0 := 8) (pc' := 33) rfl (hb hby d4_8) rfl (tlt c8_3).2.2.1 (by decide) (by decide) k) ?_
    show own_G p e below _ (T2.setTop (mkF m 33 #[.val (.ref a1), .val (.ref a2)] []))
    refine own_via (fun t k => XS.iconst X2.here hx rfl (hb hby d4_33) k) ?_
    show own_G p e below _ (T2.setTop (mkF m 34 #[.val (.ref a1), .val (.ref a2)] [(.int (1 : Int32))]))
    refine own_via (fun t k => XS.goto X2.here hx rfl (pc0 := 34) (pc' := 38) rfl (hb hby d4_34) (by decide) (by decide) k) ?_
    show own_G p e below _ (T2.setTop (mkF m 38 #[.val (.ref a1), .val (.ref a2)] [(.int (1 : Int32))]))
    obtain ⟨fs, hr, hrun, hended, hW, hsame⟩ := X2.leave (v := some (.int (1 : Int32))) (fun h => by rw [Bd.returns] at h; cases h)
    refine ⟨_, _, retN X2 hx (t := .boolean) Bd.returns (by simp) (hb hby d4_38) hr, hrun, hended, _, _, rfl, ?_, ⟨_, rfl⟩, hW, hsame.mono (by decide) (by decide)⟩
    show rm4_Q Z a1 a2 u1 v1 u2 v2 h0 n0 _ T2.heap _
    rw [e2]
    exact ⟨by simp only [own_aft, if_pos c8_3], N0, rfl⟩
  · skip
    refine own_via (fun t k => XS.icmpNo X2.here hx rfl (hb hby d4_8) rfl (flt c8_3).2.2.1 k) ?_
    show own_G p e below _ (T2.setTop (mkF m 11 #[.val (.ref a1), .val (.ref a2)] []))
    refine own_via (fun t k => XS.aloadN X2.here hx rfl (hb hby d4_11) rfl rfl k) ?_
    show own_G p e below _ (T2.setTop (mkF m 12 #[.val (.ref a1), .val (.ref a2)] [(.ref a1)]))
    obtain ⟨T4, X4, e4, st4⟩ := getF X2 hx hZ hown (host := "") (Or.inl (hw _ (List.mem_of_getElem? (i := 9) rfl))) Via.refl e2 G1 (g := (mkF m 12 #[.val (.ref a1), .val (.ref a2)] [(.ref a1)])) rfl rfl (hb hby d4_12)
    refine own_via st4 ?_
    show own_G p e below _ (T4.setTop (mkF m 15 #[.val (.ref a1), .val (.ref a2)] [(.int u1)]))
    refine own_via (fun t k => XS.aloadN X4.here hx rfl (hb hby d4_15) rfl rfl k) ?_
    show own_G p e below _ (T4.setTop (mkF m 16 #[.val (.ref a1), .val (.ref a2)] [(.ref a2), (.int u1)]))
    obtain ⟨T5, X5, e5, st5⟩ := getF X4 hx hZ hown (host := "") (Or.inl (hw _ (List.mem_of_getElem? (i := 9) rfl))) Via.refl e4 G3 (g := (mkF m 16 #[.val (.ref a1), .val (.ref a2)] [(.ref a2), (.int u1)])) rfl rfl (hb hby d4_16)
    refine own_via st5 ?_
    show own_G p e below _ (T5.setTop (mkF m 19 #[.val (.ref a1), .val (.ref a2)] [(.int u2), (.int u1)]))
    by_cases c19_6 : u1 = u2
    · skip
      refine own_via (fun t k => XS.icmpNo X5.here hx rfl (hb hby d4_19) rfl (teq c19_6).2 k) ?_
      show own_G p e below _ (T5.setTop (mkF m 22 #[.val (.ref a1), .val (.ref a2)] []))
      refine own_via (fun t k => XS.aloadN X5.here hx rfl (hb hby d4_22) rfl rfl k) ?_
      show own_G p e below _ (T5.setTop (mkF m 23 #[.val (.ref a1), .val (.ref a2)] [(.ref a1)]))
      obtain ⟨T7, X7, e7, st7⟩ := getF X5 hx hZ hown (host := "") (Or.inl (hw _ (List.mem_of_getElem? (i := 11) rfl))) Via.refl e5 G2 (g := (mkF m 23 #[.val (.ref a1), .val (.ref a2)] [(.ref a1)])) rfl rfl (hb hby d4_23)
      refine own_via st7 ?_
      show own_G p e below _ (T7.setTop (mkF m 26 #[.val (.ref a1), .val (.ref a2)] [(.int v1)]))
      refine own_via (fun t k => XS.aloadN X7.here hx rfl (hb hby d4_26) rfl rfl k) ?_
      show own_G p e below _ (T7.setTop (mkF m 27 #[.val (.ref a1), .val (.ref a2)] [(.ref a2), (.int v1)]))
      obtain ⟨T8, X8, e8, st8⟩ := getF X7 hx hZ hown (host := "") (Or.inl (hw _ (List.mem_of_getElem? (i := 11) rfl))) Via.refl e7 G4 (g := (mkF m 27 #[.val (.ref a1), .val (.ref a2)] [(.ref a2), (.int v1)])) rfl rfl (hb hby d4_27)
      refine own_via st8 ?_
      show own_G p e below _ (T8.setTop (mkF m 30 #[.val (.ref a1), .val (.ref a2)] [(.int v2), (.int v1)]))
      by_cases c30_9 : v2 < v1
      · skip
        refine own_via (fun t k => XS.icmpNo X8.here hx rfl (hb hby d4_30) rfl (tlt c30_9).2.2.2 k) ?_
        show own_G p e below _ (T8.setTop (mkF m 33 #[.val (.ref a1), .val (.ref a2)] []))
        refine own_via (fun t k => XS.iconst X8.here hx rfl (hb hby d4_33) k) ?_
        show own_G p e below _ (T8.setTop (mkF m 34 #[.val (.ref a1), .val (.ref a2)] [(.int (1 : Int32))]))
        refine own_via (fun t k => XS.goto X8.here hx rfl (pc0 := 34) (pc' := 38) rfl (hb hby d4_34) (by decide) (by decide) k) ?_
        show own_G p e below _ (T8.setTop (mkF m 38 #[.val (.ref a1), .val (.ref a2)] [(.int (1 : Int32))]))
        obtain ⟨fs, hr, hrun, hended, hW, hsame⟩ := X8.leave (v := some (.int (1 : Int32))) (fun h => by rw [Bd.returns] at h; cases h)
        refine ⟨_, _, retN X8 hx (t := .boolean) Bd.returns (by simp) (hb hby d4_38) hr, hrun, hended, _, _, rfl, ?_, ⟨_, rfl⟩, hW, hsame.mono (by decide) (by decide)⟩
        show rm4_Q Z a1 a2 u1 v1 u2 v2 h0 n0 _ T8.heap _
        rw [e8]
        exact ⟨by simp only [own_aft, if_neg c8_3, if_pos c19_6, if_pos c30_9], N0, rfl⟩
      · skip
        refine own_via (fun t k => XS.icmpYes X8.here hx rfl (pc0 := 30) (pc' := 37) rfl (hb hby d4_30) rfl (flt c30_9).2.2.2 (by decide) (by decide) k) ?_
        show own_G p e below _ (T8.setTop (mkF m 37 #[.val (.ref a1), .val (.ref a2)] []))
        refine own_via (fun t k => XS.iconst X8.here hx rfl (hb hby d4_37) k) ?_
        show own_G p e below _ (T8.setTop (mkF m 38 #[.val (.ref a1), .val (.ref a2)] [(.int (0 : Int32))]))
        obtain ⟨fs, hr, hrun, hended, hW, hsame⟩ := X8.leave (v := some (.int (0 : Int32))) (fun h => by rw [Bd.returns] at h; cases h)
        refine ⟨_, _, retN X8 hx (t := .boolean) Bd.returns (by simp) (hb hby d4_38) hr, hrun, hended, _, _, rfl, ?_, ⟨_, rfl⟩, hW, hsame.mono (by decide) (by decide)⟩
        show rm4_Q Z a1 a2 u1 v1 u2 v2 h0 n0 _ T8.heap _
        rw [e8]
        exact ⟨by simp only [own_aft, if_neg c8_3, if_pos c19_6, if_neg c30_9], N0, rfl⟩
    · skip
      refine own_via (fun t k => XS.icmpYes X5.here hx rfl (pc0 := 19) (pc' := 37) rfl (hb hby d4_19) rfl (feq c19_6).2 (by decide) (by decide) k) ?_
      show own_G p e below _ (T5.setTop (mkF m 37 #[.val (.ref a1), .val (.ref a2)] []))
      refine own_via (fun t k => XS.iconst X5.here hx rfl (hb hby d4_37) k) ?_
      show own_G p e below _ (T5.setTop (mkF m 38 #[.val (.ref a1), .val (.ref a2)] [(.int (0 : Int32))]))
      obtain ⟨fs, hr, hrun, hended, hW, hsame⟩ := X5.leave (v := some (.int (0 : Int32))) (fun h => by rw [Bd.returns] at h; cases h)
      refine ⟨_, _, retN X5 hx (t := .boolean) Bd.returns (by simp) (hb hby d4_38) hr, hrun, hended, _, _, rfl, ?_, ⟨_, rfl⟩, hW, hsame.mono (by decide) (by decide)⟩
      show rm4_Q Z a1 a2 u1 v1 u2 v2 h0 n0 _ T5.heap _
      rw [e5]
      exact ⟨by simp only [own_aft, if_neg c8_3, if_neg c19_6], N0, rfl⟩

theorem rm0_pn : plainName "com/example/meridial/meridial/adql/PositionIsAfterPinLaw" = true := by first | (simp [plainName, overriddenIn]; done) | decide +kernel
theorem pd_rm0_0 : parseMethodDescriptor "(II)V" = some ⟨[.int, .int], none⟩ := by decide +kernel
theorem pd_rm0_1 : parseMethodDescriptor "(II)J" = some ⟨[.int, .int], some .long⟩ := by decide +kernel
theorem pd_rm0_2 : parseMethodDescriptor "(Lcom/example/meridial/meridial/adql/Position;)Z" = some ⟨[(.object "com/example/meridial/meridial/adql/Position")], some .boolean⟩ := by decide +kernel
theorem rm0_ef (m : MethodId) (z0 : Int32) (z1 : Int32) (z2 : Int32) (z3 : Int32) (z4 : Int32) : entryFrame m #[(.int z0), (.int z1), (.int z2), (.int z3), (.int z4)] maxLocals = mkF m 0 #[.val (.int z0), .val (.int z1), .val (.int z2), .val (.int z3), .val (.int z4), .unset, .unset, .unset, .unset, .unset, .unset, .unset, .unset, .unset, .unset] [] := by first | (simp [entryFrame, mkF, argsToLocals, Value.category, maxLocals]; done) | rfl
def rm0_Q (Z : State) (p1 : Int32) (p2 : Int32) (p3 : Int32) (p4 : Int32) (p5 : Int32)  (h0 : Heap) (n0 : Nat) (v : Option Value) (h : Heap) (L : List Loc) : Prop := v = some (.int 1) ∧ Fr n0 L
set_option maxRecDepth 65536 in
set_option maxHeartbeats 40000000 in
theorem rm0 (l : Launch) (Z : State) (a0 : Array Value) (hw : ∀ d ∈ tables_1, d.before a0 Z = true) (ws : List Jvm.Cond) (p1 : Int32) (p2 : Int32) (p3 : Int32) (p4 : Int32) (p5 : Int32)  (h0 : Heap) (n0 : Nat) (Z0 : n0 ≤ h0.size)  :
    MetFree l x (head1 (Jvm.Cond.code x code maxLocals ret :: ws) room_1) (fun a U => a = #[(.int p1), (.int p2), (.int p3), (.int p4), (.int p5)] ∧ Z.Warmed39 U.vm ∧ U.heap = h0) (fun _ _ _ _ _ => True) (fun _ U o U' => ∃ v L, o = .returned v ∧ rm0_Q Z p1 p2 p3 p4 p5 h0 n0 v U'.heap L ∧ FrameEnd U o U' L room_1.cells room_1.slots) := by
  refine MetFree.of_bodySF (plainFor_of_name rm0_pn) hisR ?_
  intro p e s m args below meth c s₁ Bd hml0 hP hK
  obtain ⟨rfl, hZ, hh⟩ := hP
  have hx := Bd.exec
  have hby := Bd.bytes
  have hml : c.maxLocals = 15 := hml0
  have hown : s.vm.findClass "com/example/meridial/meridial/adql/PositionIsAfterPinLaw" = some m.cls := findClass_of_methodNamed Bd.named
  have hnm := (name_of_methodNamed Bd.named Bd.method).1
  have X0 : Stand p l e room_1 s m #[(.int p1), (.int p2), (.int p3), (.int p4), (.int p5)] below meth c s₁ [] 0 0 := Stand.of_body Bd
  have e0 : s₁.heap = h0 := by rw [← hh, Bd.state]; rfl
  have N0 := Fr.nil n0
  refine own_via (fun t k => castTop (rm0_ef m p1 p2 p3 p4 p5) k) ?_
  show own_G p e below _ (s₁.setTop (mkF m 0 #[.val (.int p1), .val (.int p2), .val (.int p3), .val (.int p4), .val (.int p5), .unset, .unset, .unset, .unset, .unset, .unset, .unset, .unset, .unset, .unset] []))
  refine own_via (fun t k => XS.iload X0.here hx rfl (hb hby at_0) rfl k) ?_
  show own_G p e below _ (s₁.setTop (mkF m 2 #[.val (.int p1), .val (.int p2), .val (.int p3), .val (.int p4), .val (.int p5), .unset, .unset, .unset, .unset, .unset, .unset, .unset, .unset, .unset, .unset] [(.int p5)]))
  refine own_via (fun t k => XS.iconst X0.here hx rfl (hb hby at_2) k) ?_
  show own_G p e below _ (s₁.setTop (mkF m 3 #[.val (.int p1), .val (.int p2), .val (.int p3), .val (.int p4), .val (.int p5), .unset, .unset, .unset, .unset, .unset, .unset, .unset, .unset, .unset, .unset] [(.int (1 : Int32)), (.int p5)]))
  refine own_via (fun t k => XS.iand X0.here hx rfl (hb hby at_3) rfl k) ?_
  show own_G p e below _ (s₁.setTop (mkF m 4 #[.val (.int p1), .val (.int p2), .val (.int p3), .val (.int p4), .val (.int p5), .unset, .unset, .unset, .unset, .unset, .unset, .unset, .unset, .unset, .unset] [(.int (p5 &&& (1 : Int32)))]))
  by_cases c4_1 : (p5 &&& (1 : Int32)) = (0 : Int32)
  · skip
    refine own_via (fun t k => XS.ifYes X0.here hx rfl (pc0 := 4) (pc' := 11) rfl (hb hby at_4) rfl ((if0 _ _).trans (teq c4_1).1) (by decide) (by decide) k) ?_
    show own_G p e below _ (s₁.setTop (mkF m 11 #[.val (.int p1), .val (.int p2), .val (.int p3), .val (.int p4), .val (.int p5), .unset, .unset, .unset, .unset, .unset, .unset, .unset, .unset, .unset, .unset] []))
    refine own_via (fun t k => XS.iloadN X0.here hx rfl (hb hby at_11) rfl k) ?_
    show own_G p e below _ (s₁.setTop (mkF m 12 #[.val (.int p1), .val (.int p2), .val (.int p3), .val (.int p4), .val (.int p5), .unset, .unset, .unset, .unset, .unset, .unset, .unset, .unset, .unset, .unset] [(.int p3)]))
    refine own_via (fun t k => XS.istore X0.here hx rfl (hb hby at_12) rfl (l' := #[.val (.int p1), .val (.int p2), .val (.int p3), .val (.int p4), .val (.int p5), .val (.int p3), .unset, .unset, .unset, .unset, .unset, .unset, .unset, .unset, .unset]) rfl k) ?_
    show own_G p e below _ (s₁.setTop (mkF m 14 #[.val (.int p1), .val (.int p2), .val (.int p3), .val (.int p4), .val (.int p5), .val (.int p3), .unset, .unset, .unset, .unset, .unset, .unset, .unset, .unset, .unset] []))
    refine own_via (fun t k => XS.iload X0.here hx rfl (hb hby at_14) rfl k) ?_
    show own_G p e below _ (s₁.setTop (mkF m 16 #[.val (.int p1), .val (.int p2), .val (.int p3), .val (.int p4), .val (.int p5), .val (.int p3), .unset, .unset, .unset, .unset, .unset, .unset, .unset, .unset, .unset] [(.int p5)]))
    refine own_via (fun t k => XS.iconst X0.here hx rfl (hb hby at_16) k) ?_
    show own_G p e below _ (s₁.setTop (mkF m 17 #[.val (.int p1), .val (.int p2), .val (.int p3), .val (.int p4), .val (.int p5), .val (.int p3), .unset, .unset, .unset, .unset, .unset, .unset, .unset, .unset, .unset] [(.int (2 : Int32)), (.int p5)]))
    refine own_via (fun t k => XS.iand X0.here hx rfl (hb hby at_17) rfl k) ?_
    show own_G p e below _ (s₁.setTop (mkF m 18 #[.val (.int p1), .val (.int p2), .val (.int p3), .val (.int p4), .val (.int p5), .val (.int p3), .unset, .unset, .unset, .unset, .unset, .unset, .unset, .unset, .unset] [(.int (p5 &&& (2 : Int32)))]))
    by_cases c18_2 : (p5 &&& (2 : Int32)) = (0 : Int32)
    · skip
      refine own_via (fun t k => XS.ifYes X0.here hx rfl (pc0 := 18) (pc' := 25) rfl (hb hby at_18) rfl ((if0 _ _).trans (teq c18_2).1) (by decide) (by decide) k) ?_
      show own_G p e below _ (s₁.setTop (mkF m 25 #[.val (.int p1), .val (.int p2), .val (.int p3), .val (.int p4), .val (.int p5), .val (.int p3), .unset, .unset, .unset, .unset, .unset, .unset, .unset, .unset, .unset] []))
      refine own_via (fun t k => XS.iloadN X0.here hx rfl (hb hby at_25) rfl k) ?_
      show own_G p e below _ (s₁.setTop (mkF m 26 #[.val (.int p1), .val (.int p2), .val (.int p3), .val (.int p4), .val (.int p5), .val (.int p3), .unset, .unset, .unset, .unset, .unset, .unset, .unset, .unset, .unset] [(.int p4)]))
      refine own_via (fun t k => XS.istore X0.here hx rfl (hb hby at_26) rfl (l' := #[.val (.int p1), .val (.int p2), .val (.int p3), .val (.int p4), .val (.int p5), .val (.int p3), .val (.int p4), .unset, .unset, .unset, .unset, .unset, .unset, .unset, .unset]) rfl k) ?_
      show own_G p e below _ (s₁.setTop (mkF m 28 #[.val (.int p1), .val (.int p2), .val (.int p3), .val (.int p4), .val (.int p5), .val (.int p3), .val (.int p4), .unset, .unset, .unset, .unset, .unset, .unset, .unset, .unset] []))
      obtain ⟨T3, h3, X3, e3, E3, A3, D3, -, st3⟩ := newO X0 hx hZ hown (hw _ (List.mem_of_getElem? (i := 0) rfl)) (hw _ (List.mem_of_getElem? (i := 1) rfl)) (hw _ (List.mem_of_getElem? (i := 2) rfl)) e0 (g := (mkF m 28 #[.val (.int p1), .val (.int p2), .val (.int p3), .val (.int p4), .val (.int p5), .val (.int p3), .val (.int p4), .unset, .unset, .unset, .unset, .unset, .unset, .unset, .unset] [])) rfl (hb hby at_28) (by decide) (by decide)
      obtain ⟨b3, g3⟩ : ∃ z, z = h0.size := ⟨_, rfl⟩
      rw [← g3] at A3 D3 st3
      have gx_b3 : n0 ≤ b3 := Nat.le_trans Z0 (Nat.le_of_eq g3.symm)
      have Z3 : n0 ≤ h3.size := Nat.le_trans Z0 E3.1
      have F3_line : Fld Z h3 b3 "com/example/meridial/meridial/adql/Position" "line" "I" (.int (0 : Int32)) := D3 (Or.inr (hw _ (List.mem_of_getElem? (i := 10) rfl))) (ty := .int) (by decide)
      have F3_column : Fld Z h3 b3 "com/example/meridial/meridial/adql/Position" "column" "I" (.int (0 : Int32)) := D3 (Or.inr (hw _ (List.mem_of_getElem? (i := 12) rfl))) (ty := .int) (by decide)
      refine own_via st3 ?_
      show own_G p e below _ (T3.setTop (mkF m 31 #[.val (.int p1), .val (.int p2), .val (.int p3), .val (.int p4), .val (.int p5), .val (.int p3), .val (.int p4), .unset, .unset, .unset, .unset, .unset, .unset, .unset, .unset] [(.ref b3)]))
      refine own_via (fun t k => XS.dup X3.here hx rfl (hb hby at_31) rfl rfl k) ?_
      show own_G p e below _ (T3.setTop (mkF m 32 #[.val (.int p1), .val (.int p2), .val (.int p3), .val (.int p4), .val (.int p5), .val (.int p3), .val (.int p4), .unset, .unset, .unset, .unset, .unset, .unset, .unset, .unset] [(.ref b3), (.ref b3)]))
      refine own_via (fun t k => XS.iloadN X3.here hx rfl (hb hby at_32) rfl k) ?_
      show own_G p e below _ (T3.setTop (mkF m 33 #[.val (.int p1), .val (.int p2), .val (.int p3), .val (.int p4), .val (.int p5), .val (.int p3), .val (.int p4), .unset, .unset, .unset, .unset, .unset, .unset, .unset, .unset] [(.int p1), (.ref b3), (.ref b3)]))
      refine own_via (fun t k => XS.iloadN X3.here hx rfl (hb hby at_33) rfl k) ?_
      show own_G p e below _ (T3.setTop (mkF m 34 #[.val (.int p1), .val (.int p2), .val (.int p3), .val (.int p4), .val (.int p5), .val (.int p3), .val (.int p4), .unset, .unset, .unset, .unset, .unset, .unset, .unset, .unset] [(.int p2), (.int p1), (.ref b3), (.ref b3)]))
      obtain ⟨_, _, ⟨T4, L4, k4, n4⟩, -, X4, ⟨Lc4, hQ4, l4, y4, z4⟩, st4⟩ := X3.specialBack hx (y := (⟨"com/example/meridial/meridial/adql/Position", "<init>", "(II)V"⟩ : MethodName)) rfl hown (mvT hZ (hw _ (List.mem_of_getElem? (i := 3) rfl))) (mvT hZ (hw _ (List.mem_of_getElem? (i := 4) rfl))) (mvT hZ (hw _ (List.mem_of_getElem? (i := 5) rfl))) (by decide) (backOf (W := 1) (rm1 l Z a0 hw [] b3 p1 p2 h3 n0 Z3 A3 F3_line F3_column gx_b3) hZ (hw _ (List.mem_of_getElem? (i := 5) rfl)) (hw _ (List.mem_of_getElem? (i := 2) rfl)) (by decide) (by decide)) (g := (mkF m 34 #[.val (.int p1), .val (.int p2), .val (.int p3), .val (.int p4), .val (.int p5), .val (.int p3), .val (.int p4), .unset, .unset, .unset, .unset, .unset, .unset, .unset, .unset] [(.int p2), (.int p1), (.ref b3), (.ref b3)])) rfl (by rw [hml]; rfl) (Steps.refl _) (a := b3) (argsL := [(.int p1), (.int p2)]) (rest := [(.ref b3)]) (lenOf pd_rm0_0 rfl) rfl (by show 2 * 0 + _ ≤ _; exact Nat.le_of_eq rfl) (hb hby at_34) (fun _ _ => ⟨rfl, e3, (by decide : 1 + 0 ≤ _), (by decide : 2 + 0 ≤ _)⟩)
      dsimp only [Pt.U, Pt.locs, Pt.cells, Pt.slots] at X4 l4 y4 z4 st4 hQ4
      subst l4 y4 z4
      obtain ⟨rfl, N4q, K4, E4q, Fl4, Fc4⟩ := hQ4
      have N4 := Fr.app N0 N4q
      have F5 := A3.keep K4
      have Z4 : n0 ≤ T4.heap.size := Nat.le_trans Z3 K4.1
      refine own_via (fun t k => st4.trans k) ?_
      show own_G p e below _ (T4.setTop (mkF m 37 #[.val (.int p1), .val (.int p2), .val (.int p3), .val (.int p4), .val (.int p5), .val (.int p3), .val (.int p4), .unset, .unset, .unset, .unset, .unset, .unset, .unset, .unset] [(.ref b3)]))
      refine own_via (fun t k => XS.astore X4.here hx rfl (hb hby at_37) rfl rfl (l' := #[.val (.int p1), .val (.int p2), .val (.int p3), .val (.int p4), .val (.int p5), .val (.int p3), .val (.int p4), .val (.ref b3), .unset, .unset, .unset, .unset, .unset, .unset, .unset]) rfl k) ?_
      show own_G p e below _ (T4.setTop (mkF m 39 #[.val (.int p1), .val (.int p2), .val (.int p3), .val (.int p4), .val (.int p5), .val (.int p3), .val (.int p4), .val (.ref b3), .unset, .unset, .unset, .unset, .unset, .unset, .unset] []))
      obtain ⟨T8, h8, X8, e8, E8, A8, D8, -, st8⟩ := newO X4 hx hZ hown (hw _ (List.mem_of_getElem? (i := 0) rfl)) (hw _ (List.mem_of_getElem? (i := 1) rfl)) (hw _ (List.mem_of_getElem? (i := 2) rfl)) rfl (g := (mkF m 39 #[.val (.int p1), .val (.int p2), .val (.int p3), .val (.int p4), .val (.int p5), .val (.int p3), .val (.int p4), .val (.ref b3), .unset, .unset, .unset, .unset, .unset, .unset, .unset] [])) rfl (hb hby at_39) (by decide) (by decide)
      obtain ⟨b8, g8⟩ : ∃ z, z = T4.heap.size := ⟨_, rfl⟩
      rw [← g8] at A8 D8 st8
      have gx_b8 : n0 ≤ b8 := Nat.le_trans Z4 (Nat.le_of_eq g8.symm)
      have Z8 : n0 ≤ h8.size := Nat.le_trans Z4 E8.1
      have ne_b3_b8 : b3 ≠ b8 := Nat.ne_of_lt (Nat.lt_of_lt_of_le E4q.lt (Nat.le_of_eq g8.symm))
      have F9 := E4q.ext E8
      have F10 := Fl4.ext E8
      have F11 := Fc4.ext E8
      have F8_line : Fld Z h8 b8 "com/example/meridial/meridial/adql/Position" "line" "I" (.int (0 : Int32)) := D8 (Or.inr (hw _ (List.mem_of_getElem? (i := 10) rfl))) (ty := .int) (by decide)
      have F8_column : Fld Z h8 b8 "com/example/meridial/meridial/adql/Position" "column" "I" (.int (0 : Int32)) := D8 (Or.inr (hw _ (List.mem_of_getElem? (i := 12) rfl))) (ty := .int) (by decide)
      refine own_via st8 ?_
      show own_G p e below _ (T8.setTop (mkF m 42 #[.val (.int p1), .val (.int p2), .val (.int p3), .val (.int p4), .val (.int p5), .val (.int p3), .val (.int p4), .val (.ref b3), .unset, .unset, .unset, .unset, .unset, .unset, .unset] [(.ref b8)]))
      refine own_via (fun t k => XS.dup X8.here hx rfl (hb hby at_42) rfl rfl k) ?_
      show own_G p e below _ (T8.setTop (mkF m 43 #[.val (.int p1), .val (.int p2), .val (.int p3), .val (.int p4), .val (.int p5), .val (.int p3), .val (.int p4), .val (.ref b3), .unset, .unset, .unset, .unset, .unset, .unset, .unset] [(.ref b8), (.ref b8)]))
      refine own_via (fun t k => XS.iload X8.here hx rfl (hb hby at_43) rfl k) ?_
      show own_G p e below _ (T8.setTop (mkF m 45 #[.val (.int p1), .val (.int p2), .val (.int p3), .val (.int p4), .val (.int p5), .val (.int p3), .val (.int p4), .val (.ref b3), .unset, .unset, .unset, .unset, .unset, .unset, .unset] [(.int p3), (.ref b8), (.ref b8)]))
      refine own_via (fun t k => XS.iload X8.here hx rfl (hb hby at_45) rfl k) ?_
      show own_G p e below _ (T8.setTop (mkF m 47 #[.val (.int p1), .val (.int p2), .val (.int p3), .val (.int p4), .val (.int p5), .val (.int p3), .val (.int p4), .val (.ref b3), .unset, .unset, .unset, .unset, .unset, .unset, .unset] [(.int p4), (.int p3), (.ref b8), (.ref b8)]))
      obtain ⟨_, _, ⟨T12, L12, k12, n12⟩, -, X12, ⟨Lc12, hQ12, l12, y12, z12⟩, st12⟩ := X8.specialBack hx (y := (⟨"com/example/meridial/meridial/adql/Position", "<init>", "(II)V"⟩ : MethodName)) rfl hown (mvT hZ (hw _ (List.mem_of_getElem? (i := 3) rfl))) (mvT hZ (hw _ (List.mem_of_getElem? (i := 4) rfl))) (mvT hZ (hw _ (List.mem_of_getElem? (i := 5) rfl))) (by decide) (backOf (W := 1) (rm1 l Z a0 hw [] b8 p3 p4 h8 n0 Z8 A8 F8_line F8_column gx_b8) hZ (hw _ (List.mem_of_getElem? (i := 5) rfl)) (hw _ (List.mem_of_getElem? (i := 2) rfl)) (by decide) (by decide)) (g := (mkF m 47 #[.val (.int p1), .val (.int p2), .val (.int p3), .val (.int p4), .val (.int p5), .val (.int p3), .val (.int p4), .val (.ref b3), .unset, .unset, .unset, .unset, .unset, .unset, .unset] [(.int p4), (.int p3), (.ref b8), (.ref b8)])) rfl (by rw [hml]; rfl) (Steps.refl _) (a := b8) (argsL := [(.int p3), (.int p4)]) (rest := [(.ref b8)]) (lenOf pd_rm0_0 rfl) rfl (by show 2 * 0 + _ ≤ _; exact Nat.le_of_eq rfl) (hb hby at_47) (fun _ _ => ⟨rfl, e8, (by decide : 2 + 0 ≤ _), (by decide : 4 + 0 ≤ _)⟩)
      dsimp only [Pt.U, Pt.locs, Pt.cells, Pt.slots] at X12 l12 y12 z12 st12 hQ12
      subst l12 y12 z12
      obtain ⟨rfl, N12q, K12, E12q, Fl12, Fc12⟩ := hQ12
      have N12 := Fr.app N4 N12q
      have F13 := F9.keep K12
      have F14 := F10.keep K12 (ninS ne_b3_b8 nin0)
      have F15 := F11.keep K12 (ninS ne_b3_b8 nin0)
      have F16 := A8.keep K12
      have Z12 : n0 ≤ T12.heap.size := Nat.le_trans Z8 K12.1
      refine own_via (fun t k => st12.trans k) ?_
      show own_G p e below _ (T12.setTop (mkF m 50 #[.val (.int p1), .val (.int p2), .val (.int p3), .val (.int p4), .val (.int p5), .val (.int p3), .val (.int p4), .val (.ref b3), .unset, .unset, .unset, .unset, .unset, .unset, .unset] [(.ref b8)]))
      refine own_via (fun t k => XS.astore X12.here hx rfl (hb hby at_50) rfl rfl (l' := #[.val (.int p1), .val (.int p2), .val (.int p3), .val (.int p4), .val (.int p5), .val (.int p3), .val (.int p4), .val (.ref b3), .val (.ref b8), .unset, .unset, .unset, .unset, .unset, .unset]) rfl k) ?_
      show own_G p e below _ (T12.setTop (mkF m 52 #[.val (.int p1), .val (.int p2), .val (.int p3), .val (.int p4), .val (.int p5), .val (.int p3), .val (.int p4), .val (.ref b3), .val (.ref b8), .unset, .unset, .unset, .unset, .unset, .unset] []))
      refine own_via (fun t k => XS.iloadN X12.here hx rfl (hb hby at_52) rfl k) ?_
      show own_G p e below _ (T12.setTop (mkF m 53 #[.val (.int p1), .val (.int p2), .val (.int p3), .val (.int p4), .val (.int p5), .val (.int p3), .val (.int p4), .val (.ref b3), .val (.ref b8), .unset, .unset, .unset, .unset, .unset, .unset] [(.int p1)]))
      refine own_via (fun t k => XS.iloadN X12.here hx rfl (hb hby at_53) rfl k) ?_
      show own_G p e below _ (T12.setTop (mkF m 54 #[.val (.int p1), .val (.int p2), .val (.int p3), .val (.int p4), .val (.int p5), .val (.int p3), .val (.int p4), .val (.ref b3), .val (.ref b8), .unset, .unset, .unset, .unset, .unset, .unset] [(.int p2), (.int p1)]))
      obtain ⟨_, _, ⟨T19, L19, k19, n19⟩, -, X19, ⟨Lc19, hQ19, l19, y19, z19⟩, st19⟩ := Jvm.LawKit.callS X12 hx (y := (⟨"com/example/meridial/meridial/adql/PositionIsAfterPinLaw", "key", "(II)J"⟩ : MethodName)) hown (mvT hZ (hw _ (List.mem_of_getElem? (i := 13) rfl))) (mvT hZ (hw _ (List.mem_of_getElem? (i := 14) rfl))) (mvT hZ (hw _ (List.mem_of_getElem? (i := 15) rfl))) (mvT hZ (hw _ (List.mem_of_getElem? (i := 16) rfl))) (by decide) (backOf (W := 0) (rm3 l Z a0 hw [] p1 p2  T12.heap n0 Z12 ) hZ (hw _ (List.mem_of_getElem? (i := 16) rfl)) (hw _ (List.mem_of_getElem? (i := 15) rfl)) (by decide) (by decide)) (g := (mkF m 54 #[.val (.int p1), .val (.int p2), .val (.int p3), .val (.int p4), .val (.int p5), .val (.int p3), .val (.int p4), .val (.ref b3), .val (.ref b8), .unset, .unset, .unset, .unset, .unset, .unset] [(.int p2), (.int p1)])) rfl (by rw [hml]; rfl) (argsL := [(.int p1), (.int p2)]) (rest := []) (lenOf pd_rm0_1 rfl) rfl (by show 2 * 0 + _ ≤ _; exact Nat.le_of_eq rfl) (hb hby at_54) (fun _ _ => ⟨rfl, rfl, (by decide : 2 + 0 ≤ _), (by decide : 4 + 0 ≤ _)⟩)
      dsimp only [Pt.U, Pt.locs, Pt.cells, Pt.slots] at X19 l19 y19 z19 st19 hQ19
      subst l19 y19 z19
      obtain ⟨rfl, N19q, e19⟩ := hQ19
      have N19 := Fr.app N12 N19q
      refine own_via st19 ?_
      show own_G p e below _ (T19.setTop (mkF m 57 #[.val (.int p1), .val (.int p2), .val (.int p3), .val (.int p4), .val (.int p5), .val (.int p3), .val (.int p4), .val (.ref b3), .val (.ref b8), .unset, .unset, .unset, .unset, .unset, .unset] [(.long (own_key p1 p2))]))
      refine own_via (fun t k => XS.lstore X19.here hx rfl (hb hby at_57) rfl (l' := #[.val (.int p1), .val (.int p2), .val (.int p3), .val (.int p4), .val (.int p5), .val (.int p3), .val (.int p4), .val (.ref b3), .val (.ref b8), .val (.long (own_key p1 p2)), .second, .unset, .unset, .unset, .unset]) rfl k) ?_
      show own_G p e below _ (T19.setTop (mkF m 59 #[.val (.int p1), .val (.int p2), .val (.int p3), .val (.int p4), .val (.int p5), .val (.int p3), .val (.int p4), .val (.ref b3), .val (.ref b8), .val (.long (own_key p1 p2)), .second, .unset, .unset, .unset, .unset] []))
      refine own_via (fun t k => XS.iload X19.here hx rfl (hb hby at_59) rfl k) ?_
      show own_G p e below _ (T19.setTop (mkF m 61 #[.val (.int p1), .val (.int p2), .val (.int p3), .val (.int p4), .val (.int p5), .val (.int p3), .val (.int p4), .val (.ref b3), .val (.ref b8), .val (.long (own_key p1 p2)), .second, .unset, .unset, .unset, .unset] [(.int p3)]))
      refine own_via (fun t k => XS.iload X19.here hx rfl (hb hby at_61) rfl k) ?_
      show own_G p e below _ (T19.setTop (mkF m 63 #[.val (.int p1), .val (.int p2), .val (.int p3), .val (.int p4), .val (.int p5), .val (.int p3), .val (.int p4), .val (.ref b3), .val (.ref b8), .val (.long (own_key p1 p2)), .second, .unset, .unset, .unset, .unset] [(.int p4), (.int p3)]))
      obtain ⟨_, _, ⟨T20, L20, k20, n20⟩, -, X20, ⟨Lc20, hQ20, l20, y20, z20⟩, st20⟩ := Jvm.LawKit.callS X19 hx (y := (⟨"com/example/meridial/meridial/adql/PositionIsAfterPinLaw", "key", "(II)J"⟩ : MethodName)) hown (mvT hZ (hw _ (List.mem_of_getElem? (i := 13) rfl))) (mvT hZ (hw _ (List.mem_of_getElem? (i := 14) rfl))) (mvT hZ (hw _ (List.mem_of_getElem? (i := 15) rfl))) (mvT hZ (hw _ (List.mem_of_getElem? (i := 16) rfl))) (by decide) (backOf (W := 0) (rm3 l Z a0 hw [] p3 p4  T12.heap n0 Z12 ) hZ (hw _ (List.mem_of_getElem? (i := 16) rfl)) (hw _ (List.mem_of_getElem? (i := 15) rfl)) (by decide) (by decide)) (g := (mkF m 63 #[.val (.int p1), .val (.int p2), .val (.int p3), .val (.int p4), .val (.int p5), .val (.int p3), .val (.int p4), .val (.ref b3), .val (.ref b8), .val (.long (own_key p1 p2)), .second, .unset, .unset, .unset, .unset] [(.int p4), (.int p3)])) rfl (by rw [hml]; rfl) (argsL := [(.int p3), (.int p4)]) (rest := []) (lenOf pd_rm0_1 rfl) rfl (by show 2 * 0 + _ ≤ _; exact Nat.le_of_eq rfl) (hb hby at_63) (fun _ _ => ⟨rfl, e19, (by decide : 2 + 0 ≤ _), (by decide : 4 + 0 ≤ _)⟩)
      dsimp only [Pt.U, Pt.locs, Pt.cells, Pt.slots] at X20 l20 y20 z20 st20 hQ20
      subst l20 y20 z20
      obtain ⟨rfl, N20q, e20⟩ := hQ20
      have N20 := Fr.app N19 N20q
      refine own_via st20 ?_
      show own_G p e below _ (T20.setTop (mkF m 66 #[.val (.int p1), .val (.int p2), .val (.int p3), .val (.int p4), .val (.int p5), .val (.int p3), .val (.int p4), .val (.ref b3), .val (.ref b8), .val (.long (own_key p1 p2)), .second, .unset, .unset, .unset, .unset] [(.long (own_key p3 p4))]))
      refine own_via (fun t k => XS.lstore X20.here hx rfl (hb hby at_66) rfl (l' := #[.val (.int p1), .val (.int p2), .val (.int p3), .val (.int p4), .val (.int p5), .val (.int p3), .val (.int p4), .val (.ref b3), .val (.ref b8), .val (.long (own_key p1 p2)), .second, .val (.long (own_key p3 p4)), .second, .unset, .unset]) rfl k) ?_
      show own_G p e below _ (T20.setTop (mkF m 68 #[.val (.int p1), .val (.int p2), .val (.int p3), .val (.int p4), .val (.int p5), .val (.int p3), .val (.int p4), .val (.ref b3), .val (.ref b8), .val (.long (own_key p1 p2)), .second, .val (.long (own_key p3 p4)), .second, .unset, .unset] []))
      refine own_via (fun t k => XS.aload X20.here hx rfl (hb hby at_68) rfl rfl k) ?_
      show own_G p e below _ (T20.setTop (mkF m 70 #[.val (.int p1), .val (.int p2), .val (.int p3), .val (.int p4), .val (.int p5), .val (.int p3), .val (.int p4), .val (.ref b3), .val (.ref b8), .val (.long (own_key p1 p2)), .second, .val (.long (own_key p3 p4)), .second, .unset, .unset] [(.ref b3)]))
      refine own_via (fun t k => XS.aload X20.here hx rfl (hb hby at_70) rfl rfl k) ?_
      show own_G p e below _ (T20.setTop (mkF m 72 #[.val (.int p1), .val (.int p2), .val (.int p3), .val (.int p4), .val (.int p5), .val (.int p3), .val (.int p4), .val (.ref b3), .val (.ref b8), .val (.long (own_key p1 p2)), .second, .val (.long (own_key p3 p4)), .second, .unset, .unset] [(.ref b8), (.ref b3)]))
      obtain ⟨cq21, kq21, q21a, q21b, q21c⟩ := isOf hZ e20 F13
      obtain ⟨_, _, ⟨T21, L21, k21, n21⟩, -, X21, ⟨Lc21, hQ21, l21, y21, z21⟩, st21⟩ := X20.virtualBack hx (y := (⟨"com/example/meridial/meridial/adql/Position", "isAfter", "(Lcom/example/meridial/meridial/adql/Position;)Z"⟩ : MethodName)) (z := (⟨"com/example/meridial/meridial/adql/Position", "isAfter", "(Lcom/example/meridial/meridial/adql/Position;)Z"⟩ : MethodName)) hown (mvT hZ (hw _ (List.mem_of_getElem? (i := 19) rfl))) (mvT hZ (hw _ (List.mem_of_getElem? (i := 20) rfl))) (notFace_of_selects (args := #[]) (mvT hZ (hw _ (List.mem_of_getElem? (i := 22) rfl)))) (mvT hZ (hw _ (List.mem_of_getElem? (i := 22) rfl))) (mvT hZ (hw _ (List.mem_of_getElem? (i := 21) rfl))) (by decide) (backOf (W := 0) (rm4 l Z a0 hw [] b3 b8 p1 p2 p3 p4 T12.heap n0 Z12 F14 F15 Fl12 Fc12) hZ (hw _ (List.mem_of_getElem? (i := 23) rfl)) (hw _ (List.mem_of_getElem? (i := 2) rfl)) (by decide) (by decide)) q21a q21c (g := (mkF m 72 #[.val (.int p1), .val (.int p2), .val (.int p3), .val (.int p4), .val (.int p5), .val (.int p3), .val (.int p4), .val (.ref b3), .val (.ref b8), .val (.long (own_key p1 p2)), .second, .val (.long (own_key p3 p4)), .second, .unset, .unset] [(.ref b8), (.ref b3)])) rfl (by rw [hml]; rfl) (Steps.refl _) (argsL := [(.ref b8)]) (rest := []) (lenOf pd_rm0_2 rfl) rfl (by show 2 * 0 + _ ≤ _; exact Nat.le_of_eq rfl) (hb hby at_72) (fun _ _ => ⟨rfl, e20, (by decide : 2 + 0 ≤ _), (by decide : 4 + 0 ≤ _)⟩)
      dsimp only [Pt.U, Pt.locs, Pt.cells, Pt.slots] at X21 l21 y21 z21 st21 hQ21
      subst l21 y21 z21
      obtain ⟨rfl, N21q, e21⟩ := hQ21
      have N21 := Fr.app N20 N21q
      refine own_via (fun t k => st21.trans k) ?_
      show own_G p e below _ (T21.setTop (mkF m 75 #[.val (.int p1), .val (.int p2), .val (.int p3), .val (.int p4), .val (.int p5), .val (.int p3), .val (.int p4), .val (.ref b3), .val (.ref b8), .val (.long (own_key p1 p2)), .second, .val (.long (own_key p3 p4)), .second, .unset, .unset] [(.int (own_aft p1 p2 p3 p4))]))
      refine own_via (fun t k => XS.istore X21.here hx rfl (hb hby at_75) rfl (l' := #[.val (.int p1), .val (.int p2), .val (.int p3), .val (.int p4), .val (.int p5), .val (.int p3), .val (.int p4), .val (.ref b3), .val (.ref b8), .val (.long (own_key p1 p2)), .second, .val (.long (own_key p3 p4)), .second, .val (.int (own_aft p1 p2 p3 p4)), .unset]) rfl k) ?_
      show own_G p e below _ (T21.setTop (mkF m 77 #[.val (.int p1), .val (.int p2), .val (.int p3), .val (.int p4), .val (.int p5), .val (.int p3), .val (.int p4), .val (.ref b3), .val (.ref b8), .val (.long (own_key p1 p2)), .second, .val (.long (own_key p3 p4)), .second, .val (.int (own_aft p1 p2 p3 p4)), .unset] []))
      refine own_via (fun t k => XS.aload X21.here hx rfl (hb hby at_77) rfl rfl k) ?_
      show own_G p e below _ (T21.setTop (mkF m 79 #[.val (.int p1), .val (.int p2), .val (.int p3), .val (.int p4), .val (.int p5), .val (.int p3), .val (.int p4), .val (.ref b3), .val (.ref b8), .val (.long (own_key p1 p2)), .second, .val (.long (own_key p3 p4)), .second, .val (.int (own_aft p1 p2 p3 p4)), .unset] [(.ref b8)]))
      refine own_via (fun t k => XS.aload X21.here hx rfl (hb hby at_79) rfl rfl k) ?_
      show own_G p e below _ (T21.setTop (mkF m 81 #[.val (.int p1), .val (.int p2), .val (.int p3), .val (.int p4), .val (.int p5), .val (.int p3), .val (.int p4), .val (.ref b3), .val (.ref b8), .val (.long (own_key p1 p2)), .second, .val (.long (own_key p3 p4)), .second, .val (.int (own_aft p1 p2 p3 p4)), .unset] [(.ref b3), (.ref b8)]))
      obtain ⟨cq22, kq22, q22a, q22b, q22c⟩ := isOf hZ e21 E12q
      obtain ⟨_, _, ⟨T22, L22, k22, n22⟩, -, X22, ⟨Lc22, hQ22, l22, y22, z22⟩, st22⟩ := X21.virtualBack hx (y := (⟨"com/example/meridial/meridial/adql/Position", "isAfter", "(Lcom/example/meridial/meridial/adql/Position;)Z"⟩ : MethodName)) (z := (⟨"com/example/meridial/meridial/adql/Position", "isAfter", "(Lcom/example/meridial/meridial/adql/Position;)Z"⟩ : MethodName)) hown (mvT hZ (hw _ (List.mem_of_getElem? (i := 19) rfl))) (mvT hZ (hw _ (List.mem_of_getElem? (i := 20) rfl))) (notFace_of_selects (args := #[]) (mvT hZ (hw _ (List.mem_of_getElem? (i := 22) rfl)))) (mvT hZ (hw _ (List.mem_of_getElem? (i := 22) rfl))) (mvT hZ (hw _ (List.mem_of_getElem? (i := 21) rfl))) (by decide) (backOf (W := 0) (rm4 l Z a0 hw [] b8 b3 p3 p4 p1 p2 T12.heap n0 Z12 Fl12 Fc12 F14 F15) hZ (hw _ (List.mem_of_getElem? (i := 23) rfl)) (hw _ (List.mem_of_getElem? (i := 2) rfl)) (by decide) (by decide)) q22a q22c (g := (mkF m 81 #[.val (.int p1), .val (.int p2), .val (.int p3), .val (.int p4), .val (.int p5), .val (.int p3), .val (.int p4), .val (.ref b3), .val (.ref b8), .val (.long (own_key p1 p2)), .second, .val (.long (own_key p3 p4)), .second, .val (.int (own_aft p1 p2 p3 p4)), .unset] [(.ref b3), (.ref b8)])) rfl (by rw [hml]; rfl) (Steps.refl _) (argsL := [(.ref b3)]) (rest := []) (lenOf pd_rm0_2 rfl) rfl (by show 2 * 0 + _ ≤ _; exact Nat.le_of_eq rfl) (hb hby at_81) (fun _ _ => ⟨rfl, e21, (by decide : 2 + 0 ≤ _), (by decide : 4 + 0 ≤ _)⟩)
      dsimp only [Pt.U, Pt.locs, Pt.cells, Pt.slots] at X22 l22 y22 z22 st22 hQ22
      subst l22 y22 z22
      obtain ⟨rfl, N22q, e22⟩ := hQ22
      have N22 := Fr.app N21 N22q
      refine own_via (fun t k => st22.trans k) ?_
      show own_G p e below _ (T22.setTop (mkF m 84 #[.val (.int p1), .val (.int p2), .val (.int p3), .val (.int p4), .val (.int p5), .val (.int p3), .val (.int p4), .val (.ref b3), .val (.ref b8), .val (.long (own_key p1 p2)), .second, .val (.long (own_key p3 p4)), .second, .val (.int (own_aft p1 p2 p3 p4)), .unset] [(.int (own_aft p3 p4 p1 p2))]))
      refine own_via (fun t k => XS.istore X22.here hx rfl (hb hby at_84) rfl (l' := #[.val (.int p1), .val (.int p2), .val (.int p3), .val (.int p4), .val (.int p5), .val (.int p3), .val (.int p4), .val (.ref b3), .val (.ref b8), .val (.long (own_key p1 p2)), .second, .val (.long (own_key p3 p4)), .second, .val (.int (own_aft p1 p2 p3 p4)), .val (.int (own_aft p3 p4 p1 p2))]) rfl k) ?_
      show own_G p e below _ (T22.setTop (mkF m 86 #[.val (.int p1), .val (.int p2), .val (.int p3), .val (.int p4), .val (.int p5), .val (.int p3), .val (.int p4), .val (.ref b3), .val (.ref b8), .val (.long (own_key p1 p2)), .second, .val (.long (own_key p3 p4)), .second, .val (.int (own_aft p1 p2 p3 p4)), .val (.int (own_aft p3 p4 p1 p2))] []))
      refine own_via (fun t k => XS.iload X22.here hx rfl (hb hby at_86) rfl k) ?_
      show own_G p e below _ (T22.setTop (mkF m 88 #[.val (.int p1), .val (.int p2), .val (.int p3), .val (.int p4), .val (.int p5), .val (.int p3), .val (.int p4), .val (.ref b3), .val (.ref b8), .val (.long (own_key p1 p2)), .second, .val (.long (own_key p3 p4)), .second, .val (.int (own_aft p1 p2 p3 p4)), .val (.int (own_aft p3 p4 p1 p2))] [(.int (own_aft p1 p2 p3 p4))]))
      refine own_via (fun t k => XS.lload X22.here hx rfl (hb hby at_88) rfl k) ?_
      show own_G p e below _ (T22.setTop (mkF m 90 #[.val (.int p1), .val (.int p2), .val (.int p3), .val (.int p4), .val (.int p5), .val (.int p3), .val (.int p4), .val (.ref b3), .val (.ref b8), .val (.long (own_key p1 p2)), .second, .val (.long (own_key p3 p4)), .second, .val (.int (own_aft p1 p2 p3 p4)), .val (.int (own_aft p3 p4 p1 p2))] [(.long (own_key p1 p2)), (.int (own_aft p1 p2 p3 p4))]))
      refine own_via (fun t k => XS.lload X22.here hx rfl (hb hby at_90) rfl k) ?_
      show own_G p e below _ (T22.setTop (mkF m 92 #[.val (.int p1), .val (.int p2), .val (.int p3), .val (.int p4), .val (.int p5), .val (.int p3), .val (.int p4), .val (.ref b3), .val (.ref b8), .val (.long (own_key p1 p2)), .second, .val (.long (own_key p3 p4)), .second, .val (.int (own_aft p1 p2 p3 p4)), .val (.int (own_aft p3 p4 p1 p2))] [(.long (own_key p3 p4)), (.long (own_key p1 p2)), (.int (own_aft p1 p2 p3 p4))]))
      refine own_via (fun t k => XS.lcmp X22.here hx rfl (hb hby at_92) rfl k) ?_
      show own_G p e below _ (T22.setTop (mkF m 93 #[.val (.int p1), .val (.int p2), .val (.int p3), .val (.int p4), .val (.int p5), .val (.int p3), .val (.int p4), .val (.ref b3), .val (.ref b8), .val (.long (own_key p1 p2)), .second, .val (.long (own_key p3 p4)), .second, .val (.int (own_aft p1 p2 p3 p4)), .val (.int (own_aft p3 p4 p1 p2))] [(.int (lcmpW (own_key p1 p2) (own_key p3 p4))), (.int (own_aft p1 p2 p3 p4))]))
      by_cases c93_23 : (0 : Int32) < (lcmpW (own_key p1 p2) (own_key p3 p4))
      · skip
        refine own_via (fun t k => XS.ifNo X22.here hx rfl (hb hby at_93) rfl ((if0 _ _).trans (tlt c93_23).2.2.2) k) ?_
        show own_G p e below _ (T22.setTop (mkF m 96 #[.val (.int p1), .val (.int p2), .val (.int p3), .val (.int p4), .val (.int p5), .val (.int p3), .val (.int p4), .val (.ref b3), .val (.ref b8), .val (.long (own_key p1 p2)), .second, .val (.long (own_key p3 p4)), .second, .val (.int (own_aft p1 p2 p3 p4)), .val (.int (own_aft p3 p4 p1 p2))] [(.int (own_aft p1 p2 p3 p4))]))
        refine own_via (fun t k => XS.iconst X22.here hx rfl (hb hby at_96) k) ?_
        show own_G p e below _ (T22.setTop (mkF m 97 #[.val (.int p1), .val (.int p2), .val (.int p3), .val (.int p4), .val (.int p5), .val (.int p3), .val (.int p4), .val (.ref b3), .val (.ref b8), .val (.long (own_key p1 p2)), .second, .val (.long (own_key p3 p4)), .second, .val (.int (own_aft p1 p2 p3 p4)), .val (.int (own_aft p3 p4 p1 p2))] [(.int (1 : Int32)), (.int (own_aft p1 p2 p3 p4))]))
        refine own_via (fun t k => XS.goto X22.here hx rfl (pc0 := 97) (pc' := 101) rfl (hb hby at_97) (by decide) (by decide) k) ?_
        show own_G p e below _ (T22.setTop (mkF m 101 #[.val (.int p1), .val (.int p2), .val (.int p3), .val (.int p4), .val (.int p5), .val (.int p3), .val (.int p4), .val (.ref b3), .val (.ref b8), .val (.long (own_key p1 p2)), .second, .val (.long (own_key p3 p4)), .second, .val (.int (own_aft p1 p2 p3 p4)), .val (.int (own_aft p3 p4 p1 p2))] [(.int (1 : Int32)), (.int (own_aft p1 p2 p3 p4))]))
        by_cases c101_24 : (own_aft p1 p2 p3 p4) = (1 : Int32)
        · skip
          refine own_via (fun t k => XS.icmpNo X22.here hx rfl (hb hby at_101) rfl (teq c101_24).2 k) ?_
          show own_G p e below _ (T22.setTop (mkF m 104 #[.val (.int p1), .val (.int p2), .val (.int p3), .val (.int p4), .val (.int p5), .val (.int p3), .val (.int p4), .val (.ref b3), .val (.ref b8), .val (.long (own_key p1 p2)), .second, .val (.long (own_key p3 p4)), .second, .val (.int (own_aft p1 p2 p3 p4)), .val (.int (own_aft p3 p4 p1 p2))] []))
          refine own_via (fun t k => XS.iload X22.here hx rfl (hb hby at_104) rfl k) ?_
          show own_G p e below _ (T22.setTop (mkF m 106 #[.val (.int p1), .val (.int p2), .val (.int p3), .val (.int p4), .val (.int p5), .val (.int p3), .val (.int p4), .val (.ref b3), .val (.ref b8), .val (.long (own_key p1 p2)), .second, .val (.long (own_key p3 p4)), .second, .val (.int (own_aft p1 p2 p3 p4)), .val (.int (own_aft p3 p4 p1 p2))] [(.int (own_aft p3 p4 p1 p2))]))
          refine own_via (fun t k => XS.lload X22.here hx rfl (hb hby at_106) rfl k) ?_
          show own_G p e below _ (T22.setTop (mkF m 108 #[.val (.int p1), .val (.int p2), .val (.int p3), .val (.int p4), .val (.int p5), .val (.int p3), .val (.int p4), .val (.ref b3), .val (.ref b8), .val (.long (own_key p1 p2)), .second, .val (.long (own_key p3 p4)), .second, .val (.int (own_aft p1 p2 p3 p4)), .val (.int (own_aft p3 p4 p1 p2))] [(.long (own_key p3 p4)), (.int (own_aft p3 p4 p1 p2))]))
          refine own_via (fun t k => XS.lload X22.here hx rfl (hb hby at_108) rfl k) ?_
          show own_G p e below _ (T22.setTop (mkF m 110 #[.val (.int p1), .val (.int p2), .val (.int p3), .val (.int p4), .val (.int p5), .val (.int p3), .val (.int p4), .val (.ref b3), .val (.ref b8), .val (.long (own_key p1 p2)), .second, .val (.long (own_key p3 p4)), .second, .val (.int (own_aft p1 p2 p3 p4)), .val (.int (own_aft p3 p4 p1 p2))] [(.long (own_key p1 p2)), (.long (own_key p3 p4)), (.int (own_aft p3 p4 p1 p2))]))
          refine own_via (fun t k => XS.lcmp X22.here hx rfl (hb hby at_110) rfl k) ?_
          show own_G p e below _ (T22.setTop (mkF m 111 #[.val (.int p1), .val (.int p2), .val (.int p3), .val (.int p4), .val (.int p5), .val (.int p3), .val (.int p4), .val (.ref b3), .val (.ref b8), .val (.long (own_key p1 p2)), .second, .val (.long (own_key p3 p4)), .second, .val (.int (own_aft p1 p2 p3 p4)), .val (.int (own_aft p3 p4 p1 p2))] [(.int (lcmpW (own_key p3 p4) (own_key p1 p2))), (.int (own_aft p3 p4 p1 p2))]))
          by_cases c111_25 : (0 : Int32) < (lcmpW (own_key p3 p4) (own_key p1 p2))
          · skip
            refine own_via (fun t k => XS.ifNo X22.here hx rfl (hb hby at_111) rfl ((if0 _ _).trans (tlt c111_25).2.2.2) k) ?_
            show own_G p e below _ (T22.setTop (mkF m 114 #[.val (.int p1), .val (.int p2), .val (.int p3), .val (.int p4), .val (.int p5), .val (.int p3), .val (.int p4), .val (.ref b3), .val (.ref b8), .val (.long (own_key p1 p2)), .second, .val (.long (own_key p3 p4)), .second, .val (.int (own_aft p1 p2 p3 p4)), .val (.int (own_aft p3 p4 p1 p2))] [(.int (own_aft p3 p4 p1 p2))]))
            refine own_via (fun t k => XS.iconst X22.here hx rfl (hb hby at_114) k) ?_
            show own_G p e below _ (T22.setTop (mkF m 115 #[.val (.int p1), .val (.int p2), .val (.int p3), .val (.int p4), .val (.int p5), .val (.int p3), .val (.int p4), .val (.ref b3), .val (.ref b8), .val (.long (own_key p1 p2)), .second, .val (.long (own_key p3 p4)), .second, .val (.int (own_aft p1 p2 p3 p4)), .val (.int (own_aft p3 p4 p1 p2))] [(.int (1 : Int32)), (.int (own_aft p3 p4 p1 p2))]))
            refine own_via (fun t k => XS.goto X22.here hx rfl (pc0 := 115) (pc' := 119) rfl (hb hby at_115) (by decide) (by decide) k) ?_
            show own_G p e below _ (T22.setTop (mkF m 119 #[.val (.int p1), .val (.int p2), .val (.int p3), .val (.int p4), .val (.int p5), .val (.int p3), .val (.int p4), .val (.ref b3), .val (.ref b8), .val (.long (own_key p1 p2)), .second, .val (.long (own_key p3 p4)), .second, .val (.int (own_aft p1 p2 p3 p4)), .val (.int (own_aft p3 p4 p1 p2))] [(.int (1 : Int32)), (.int (own_aft p3 p4 p1 p2))]))
            by_cases c119_26 : (own_aft p3 p4 p1 p2) = (1 : Int32)
            · skip
              refine own_via (fun t k => XS.icmpNo X22.here hx rfl (hb hby at_119) rfl (teq c119_26).2 k) ?_
              show own_G p e below _ (T22.setTop (mkF m 122 #[.val (.int p1), .val (.int p2), .val (.int p3), .val (.int p4), .val (.int p5), .val (.int p3), .val (.int p4), .val (.ref b3), .val (.ref b8), .val (.long (own_key p1 p2)), .second, .val (.long (own_key p3 p4)), .second, .val (.int (own_aft p1 p2 p3 p4)), .val (.int (own_aft p3 p4 p1 p2))] []))
              refine own_via (fun t k => XS.iconst X22.here hx rfl (hb hby at_122) k) ?_
              show own_G p e below _ (T22.setTop (mkF m 123 #[.val (.int p1), .val (.int p2), .val (.int p3), .val (.int p4), .val (.int p5), .val (.int p3), .val (.int p4), .val (.ref b3), .val (.ref b8), .val (.long (own_key p1 p2)), .second, .val (.long (own_key p3 p4)), .second, .val (.int (own_aft p1 p2 p3 p4)), .val (.int (own_aft p3 p4 p1 p2))] [(.int (1 : Int32))]))
              refine own_via (fun t k => XS.goto X22.here hx rfl (pc0 := 123) (pc' := 127) rfl (hb hby at_123) (by decide) (by decide) k) ?_
              show own_G p e below _ (T22.setTop (mkF m 127 #[.val (.int p1), .val (.int p2), .val (.int p3), .val (.int p4), .val (.int p5), .val (.int p3), .val (.int p4), .val (.ref b3), .val (.ref b8), .val (.long (own_key p1 p2)), .second, .val (.long (own_key p3 p4)), .second, .val (.int (own_aft p1 p2 p3 p4)), .val (.int (own_aft p3 p4 p1 p2))] [(.int (1 : Int32))]))
              obtain ⟨fs, hr, hrun, hended, hW, hsame⟩ := X22.leave (v := some (.int (1 : Int32))) (fun h => by rw [Bd.returns] at h; cases h)
              refine ⟨_, _, retN X22 hx (t := .boolean) Bd.returns (by simp) (hb hby at_127) hr, hrun, hended, _, _, rfl, ?_, ⟨_, rfl⟩, hW, hsame.mono (by decide) (by decide)⟩
              show rm0_Q Z p1 p2 p3 p4 p5 h0 n0 _ T22.heap _
              rw [e22]
              exact ⟨rfl, N22⟩
            · exfalso
              exact c119_26 ((own_cmp _ _ _ _).mp c111_25)
          · skip
            refine own_via (fun t k => XS.ifYes X22.here hx rfl (pc0 := 111) (pc' := 118) rfl (hb hby at_111) rfl ((if0 _ _).trans (flt c111_25).2.2.2) (by decide) (by decide) k) ?_
            show own_G p e below _ (T22.setTop (mkF m 118 #[.val (.int p1), .val (.int p2), .val (.int p3), .val (.int p4), .val (.int p5), .val (.int p3), .val (.int p4), .val (.ref b3), .val (.ref b8), .val (.long (own_key p1 p2)), .second, .val (.long (own_key p3 p4)), .second, .val (.int (own_aft p1 p2 p3 p4)), .val (.int (own_aft p3 p4 p1 p2))] [(.int (own_aft p3 p4 p1 p2))]))
            refine own_via (fun t k => XS.iconst X22.here hx rfl (hb hby at_118) k) ?_
            show own_G p e below _ (T22.setTop (mkF m 119 #[.val (.int p1), .val (.int p2), .val (.int p3), .val (.int p4), .val (.int p5), .val (.int p3), .val (.int p4), .val (.ref b3), .val (.ref b8), .val (.long (own_key p1 p2)), .second, .val (.long (own_key p3 p4)), .second, .val (.int (own_aft p1 p2 p3 p4)), .val (.int (own_aft p3 p4 p1 p2))] [(.int (0 : Int32)), (.int (own_aft p3 p4 p1 p2))]))
            by_cases c119_27 : (own_aft p3 p4 p1 p2) = (0 : Int32)
            · skip
              refine own_via (fun t k => XS.icmpNo X22.here hx rfl (hb hby at_119) rfl (teq c119_27).2 k) ?_
              show own_G p e below _ (T22.setTop (mkF m 122 #[.val (.int p1), .val (.int p2), .val (.int p3), .val (.int p4), .val (.int p5), .val (.int p3), .val (.int p4), .val (.ref b3), .val (.ref b8), .val (.long (own_key p1 p2)), .second, .val (.long (own_key p3 p4)), .second, .val (.int (own_aft p1 p2 p3 p4)), .val (.int (own_aft p3 p4 p1 p2))] []))
              refine own_via (fun t k => XS.iconst X22.here hx rfl (hb hby at_122) k) ?_
              show own_G p e below _ (T22.setTop (mkF m 123 #[.val (.int p1), .val (.int p2), .val (.int p3), .val (.int p4), .val (.int p5), .val (.int p3), .val (.int p4), .val (.ref b3), .val (.ref b8), .val (.long (own_key p1 p2)), .second, .val (.long (own_key p3 p4)), .second, .val (.int (own_aft p1 p2 p3 p4)), .val (.int (own_aft p3 p4 p1 p2))] [(.int (1 : Int32))]))
              refine own_via (fun t k => XS.goto X22.here hx rfl (pc0 := 123) (pc' := 127) rfl (hb hby at_123) (by decide) (by decide) k) ?_
              show own_G p e below _ (T22.setTop (mkF m 127 #[.val (.int p1), .val (.int p2), .val (.int p3), .val (.int p4), .val (.int p5), .val (.int p3), .val (.int p4), .val (.ref b3), .val (.ref b8), .val (.long (own_key p1 p2)), .second, .val (.long (own_key p3 p4)), .second, .val (.int (own_aft p1 p2 p3 p4)), .val (.int (own_aft p3 p4 p1 p2))] [(.int (1 : Int32))]))
              obtain ⟨fs, hr, hrun, hended, hW, hsame⟩ := X22.leave (v := some (.int (1 : Int32))) (fun h => by rw [Bd.returns] at h; cases h)
              refine ⟨_, _, retN X22 hx (t := .boolean) Bd.returns (by simp) (hb hby at_127) hr, hrun, hended, _, _, rfl, ?_, ⟨_, rfl⟩, hW, hsame.mono (by decide) (by decide)⟩
              show rm0_Q Z p1 p2 p3 p4 p5 h0 n0 _ T22.heap _
              rw [e22]
              exact ⟨rfl, N22⟩
            · exfalso
              exact c119_27 (own_aft01 _ _ _ _ fun k => c111_25 ((own_cmp _ _ _ _).mpr k))
        · exfalso
          exact c101_24 ((own_cmp _ _ _ _).mp c93_23)
      · skip
        refine own_via (fun t k => XS.ifYes X22.here hx rfl (pc0 := 93) (pc' := 100) rfl (hb hby at_93) rfl ((if0 _ _).trans (flt c93_23).2.2.2) (by decide) (by decide) k) ?_
        show own_G p e below _ (T22.setTop (mkF m 100 #[.val (.int p1), .val (.int p2), .val (.int p3), .val (.int p4), .val (.int p5), .val (.int p3), .val (.int p4), .val (.ref b3), .val (.ref b8), .val (.long (own_key p1 p2)), .second, .val (.long (own_key p3 p4)), .second, .val (.int (own_aft p1 p2 p3 p4)), .val (.int (own_aft p3 p4 p1 p2))] [(.int (own_aft p1 p2 p3 p4))]))
        refine own_via (fun t k => XS.iconst X22.here hx rfl (hb hby at_100) k) ?_
        show own_G p e below _ (T22.setTop (mkF m 101 #[.val (.int p1), .val (.int p2), .val (.int p3), .val (.int p4), .val (.int p5), .val (.int p3), .val (.int p4), .val (.ref b3), .val (.ref b8), .val (.long (own_key p1 p2)), .second, .val (.long (own_key p3 p4)), .second, .val (.int (own_aft p1 p2 p3 p4)), .val (.int (own_aft p3 p4 p1 p2))] [(.int (0 : Int32)), (.int (own_aft p1 p2 p3 p4))]))
        by_cases c101_28 : (own_aft p1 p2 p3 p4) = (0 : Int32)
        · skip
          refine own_via (fun t k => XS.icmpNo X22.here hx rfl (hb hby at_101) rfl (teq c101_28).2 k) ?_
          show own_G p e below _ (T22.setTop (mkF m 104 #[.val (.int p1), .val (.int p2), .val (.int p3), .val (.int p4), .val (.int p5), .val (.int p3), .val (.int p4), .val (.ref b3), .val (.ref b8), .val (.long (own_key p1 p2)), .second, .val (.long (own_key p3 p4)), .second, .val (.int (own_aft p1 p2 p3 p4)), .val (.int (own_aft p3 p4 p1 p2))] []))
          refine own_via (fun t k => XS.iload X22.here hx rfl (hb hby at_104) rfl k) ?_
          show own_G p e below _ (T22.setTop (mkF m 106 #[.val (.int p1), .val (.int p2), .val (.int p3), .val (.int p4), .val (.int p5), .val (.int p3), .val (.int p4), .val (.ref b3), .val (.ref b8), .val (.long (own_key p1 p2)), .second, .val (.long (own_key p3 p4)), .second, .val (.int (own_aft p1 p2 p3 p4)), .val (.int (own_aft p3 p4 p1 p2))] [(.int (own_aft p3 p4 p1 p2))]))
          refine own_via (fun t k => XS.lload X22.here hx rfl (hb hby at_106) rfl k) ?_
          show own_G p e below _ (T22.setTop (mkF m 108 #[.val (.int p1), .val (.int p2), .val (.int p3), .val (.int p4), .val (.int p5), .val (.int p3), .val (.int p4), .val (.ref b3), .val (.ref b8), .val (.long (own_key p1 p2)), .second, .val (.long (own_key p3 p4)), .second, .val (.int (own_aft p1 p2 p3 p4)), .val (.int (own_aft p3 p4 p1 p2))] [(.long (own_key p3 p4)), (.int (own_aft p3 p4 p1 p2))]))
          refine own_via (fun t k => XS.lload X22.here hx rfl (hb hby at_108) rfl k) ?_
          show own_G p e below _ (T22.setTop (mkF m 110 #[.val (.int p1), .val (.int p2), .val (.int p3), .val (.int p4), .val (.int p5), .val (.int p3), .val (.int p4), .val (.ref b3), .val (.ref b8), .val (.long (own_key p1 p2)), .second, .val (.long (own_key p3 p4)), .second, .val (.int (own_aft p1 p2 p3 p4)), .val (.int (own_aft p3 p4 p1 p2))] [(.long (own_key p1 p2)), (.long (own_key p3 p4)), (.int (own_aft p3 p4 p1 p2))]))
          refine own_via (fun t k => XS.lcmp X22.here hx rfl (hb hby at_110) rfl k) ?_
          show own_G p e below _ (T22.setTop (mkF m 111 #[.val (.int p1), .val (.int p2), .val (.int p3), .val (.int p4), .val (.int p5), .val (.int p3), .val (.int p4), .val (.ref b3), .val (.ref b8), .val (.long (own_key p1 p2)), .second, .val (.long (own_key p3 p4)), .second, .val (.int (own_aft p1 p2 p3 p4)), .val (.int (own_aft p3 p4 p1 p2))] [(.int (lcmpW (own_key p3 p4) (own_key p1 p2))), (.int (own_aft p3 p4 p1 p2))]))
          by_cases c111_29 : (0 : Int32) < (lcmpW (own_key p3 p4) (own_key p1 p2))
          · skip
            refine own_via (fun t k => XS.ifNo X22.here hx rfl (hb hby at_111) rfl ((if0 _ _).trans (tlt c111_29).2.2.2) k) ?_
            show own_G p e below _ (T22.setTop (mkF m 114 #[.val (.int p1), .val (.int p2), .val (.int p3), .val (.int p4), .val (.int p5), .val (.int p3), .val (.int p4), .val (.ref b3), .val (.ref b8), .val (.long (own_key p1 p2)), .second, .val (.long (own_key p3 p4)), .second, .val (.int (own_aft p1 p2 p3 p4)), .val (.int (own_aft p3 p4 p1 p2))] [(.int (own_aft p3 p4 p1 p2))]))
            refine own_via (fun t k => XS.iconst X22.here hx rfl (hb hby at_114) k) ?_
            show own_G p e below _ (T22.setTop (mkF m 115 #[.val (.int p1), .val (.int p2), .val (.int p3), .val (.int p4), .val (.int p5), .val (.int p3), .val (.int p4), .val (.ref b3), .val (.ref b8), .val (.long (own_key p1 p2)), .second, .val (.long (own_key p3 p4)), .second, .val (.int (own_aft p1 p2 p3 p4)), .val (.int (own_aft p3 p4 p1 p2))] [(.int (1 : Int32)), (.int (own_aft p3 p4 p1 p2))]))
            refine own_via (fun t k => XS.goto X22.here hx rfl (pc0 := 115) (pc' := 119) rfl (hb hby at_115) (by decide) (by decide) k) ?_
            show own_G p e below _ (T22.setTop (mkF m 119 #[.val (.int p1), .val (.int p2), .val (.int p3), .val (.int p4), .val (.int p5), .val (.int p3), .val (.int p4), .val (.ref b3), .val (.ref b8), .val (.long (own_key p1 p2)), .second, .val (.long (own_key p3 p4)), .second, .val (.int (own_aft p1 p2 p3 p4)), .val (.int (own_aft p3 p4 p1 p2))] [(.int (1 : Int32)), (.int (own_aft p3 p4 p1 p2))]))
            by_cases c119_30 : (own_aft p3 p4 p1 p2) = (1 : Int32)
            · skip
              refine own_via (fun t k => XS.icmpNo X22.here hx rfl (hb hby at_119) rfl (teq c119_30).2 k) ?_
              show own_G p e below _ (T22.setTop (mkF m 122 #[.val (.int p1), .val (.int p2), .val (.int p3), .val (.int p4), .val (.int p5), .val (.int p3), .val (.int p4), .val (.ref b3), .val (.ref b8), .val (.long (own_key p1 p2)), .second, .val (.long (own_key p3 p4)), .second, .val (.int (own_aft p1 p2 p3 p4)), .val (.int (own_aft p3 p4 p1 p2))] []))
              refine own_via (fun t k => XS.iconst X22.here hx rfl (hb hby at_122) k) ?_
              show own_G p e below _ (T22.setTop (mkF m 123 #[.val (.int p1), .val (.int p2), .val (.int p3), .val (.int p4), .val (.int p5), .val (.int p3), .val (.int p4), .val (.ref b3), .val (.ref b8), .val (.long (own_key p1 p2)), .second, .val (.long (own_key p3 p4)), .second, .val (.int (own_aft p1 p2 p3 p4)), .val (.int (own_aft p3 p4 p1 p2))] [(.int (1 : Int32))]))
              refine own_via (fun t k => XS.goto X22.here hx rfl (pc0 := 123) (pc' := 127) rfl (hb hby at_123) (by decide) (by decide) k) ?_
              show own_G p e below _ (T22.setTop (mkF m 127 #[.val (.int p1), .val (.int p2), .val (.int p3), .val (.int p4), .val (.int p5), .val (.int p3), .val (.int p4), .val (.ref b3), .val (.ref b8), .val (.long (own_key p1 p2)), .second, .val (.long (own_key p3 p4)), .second, .val (.int (own_aft p1 p2 p3 p4)), .val (.int (own_aft p3 p4 p1 p2))] [(.int (1 : Int32))]))
              obtain ⟨fs, hr, hrun, hended, hW, hsame⟩ := X22.leave (v := some (.int (1 : Int32))) (fun h => by rw [Bd.returns] at h; cases h)
              refine ⟨_, _, retN X22 hx (t := .boolean) Bd.returns (by simp) (hb hby at_127) hr, hrun, hended, _, _, rfl, ?_, ⟨_, rfl⟩, hW, hsame.mono (by decide) (by decide)⟩
              show rm0_Q Z p1 p2 p3 p4 p5 h0 n0 _ T22.heap _
              rw [e22]
              exact ⟨rfl, N22⟩
            · exfalso
              exact c119_30 ((own_cmp _ _ _ _).mp c111_29)
          · skip
            refine own_via (fun t k => XS.ifYes X22.here hx rfl (pc0 := 111) (pc' := 118) rfl (hb hby at_111) rfl ((if0 _ _).trans (flt c111_29).2.2.2) (by decide) (by decide) k) ?_
            show own_G p e below _ (T22.setTop (mkF m 118 #[.val (.int p1), .val (.int p2), .val (.int p3), .val (.int p4), .val (.int p5), .val (.int p3), .val (.int p4), .val (.ref b3), .val (.ref b8), .val (.long (own_key p1 p2)), .second, .val (.long (own_key p3 p4)), .second, .val (.int (own_aft p1 p2 p3 p4)), .val (.int (own_aft p3 p4 p1 p2))] [(.int (own_aft p3 p4 p1 p2))]))
            refine own_via (fun t k => XS.iconst X22.here hx rfl (hb hby at_118) k) ?_
            show own_G p e below _ (T22.setTop (mkF m 119 #[.val (.int p1), .val (.int p2), .val (.int p3), .val (.int p4), .val (.int p5), .val (.int p3), .val (.int p4), .val (.ref b3), .val (.ref b8), .val (.long (own_key p1 p2)), .second, .val (.long (own_key p3 p4)), .second, .val (.int (own_aft p1 p2 p3 p4)), .val (.int (own_aft p3 p4 p1 p2))] [(.int (0 : Int32)), (.int (own_aft p3 p4 p1 p2))]))
            by_cases c119_31 : (own_aft p3 p4 p1 p2) = (0 : Int32)
            · skip
              refine own_via (fun t k => XS.icmpNo X22.here hx rfl (hb hby at_119) rfl (teq c119_31).2 k) ?_
              show own_G p e below _ (T22.setTop (mkF m 122 #[.val (.int p1), .val (.int p2), .val (.int p3), .val (.int p4), .val (.int p5), .val (.int p3), .val (.int p4), .val (.ref b3), .val (.ref b8), .val (.long (own_key p1 p2)), .second, .val (.long (own_key p3 p4)), .second, .val (.int (own_aft p1 p2 p3 p4)), .val (.int (own_aft p3 p4 p1 p2))] []))
              refine own_via (fun t k => XS.iconst X22.here hx rfl (hb hby at_122) k) ?_
              show own_G p e below _ (T22.setTop (mkF m 123 #[.val (.int p1), .val (.int p2), .val (.int p3), .val (.int p4), .val (.int p5), .val (.int p3), .val (.int p4), .val (.ref b3), .val (.ref b8), .val (.long (own_key p1 p2)), .second, .val (.long (own_key p3 p4)), .second, .val (.int (own_aft p1 p2 p3 p4)), .val (.int (own_aft p3 p4 p1 p2))] [(.int (1 : Int32))]))
              refine own_via (fun t k => XS.goto X22.here hx rfl (pc0 := 123) (pc' := 127) rfl (hb hby at_123) (by decide) (by decide) k) ?_
              show own_G p e below _ (T22.setTop (mkF m 127 #[.val (.int p1), .val (.int p2), .val (.int p3), .val (.int p4), .val (.int p5), .val (.int p3), .val (.int p4), .val (.ref b3), .val (.ref b8), .val (.long (own_key p1 p2)), .second, .val (.long (own_key p3 p4)), .second, .val (.int (own_aft p1 p2 p3 p4)), .val (.int (own_aft p3 p4 p1 p2))] [(.int (1 : Int32))]))
              obtain ⟨fs, hr, hrun, hended, hW, hsame⟩ := X22.leave (v := some (.int (1 : Int32))) (fun h => by rw [Bd.returns] at h; cases h)
              refine ⟨_, _, retN X22 hx (t := .boolean) Bd.returns (by simp) (hb hby at_127) hr, hrun, hended, _, _, rfl, ?_, ⟨_, rfl⟩, hW, hsame.mono (by decide) (by decide)⟩
              show rm0_Q Z p1 p2 p3 p4 p5 h0 n0 _ T22.heap _
              rw [e22]
              exact ⟨rfl, N22⟩
            · exfalso
              exact c119_31 (own_aft01 _ _ _ _ fun k => c111_29 ((own_cmp _ _ _ _).mpr k))
        · exfalso
          exact c101_28 (own_aft01 _ _ _ _ fun k => c93_23 ((own_cmp _ _ _ _).mpr k))
    · skip
      refine own_via (fun t k => XS.ifNo X0.here hx rfl (hb hby at_18) rfl ((if0 _ _).trans (feq c18_2).1) k) ?_
      show own_G p e below _ (s₁.setTop (mkF m 21 #[.val (.int p1), .val (.int p2), .val (.int p3), .val (.int p4), .val (.int p5), .val (.int p3), .unset, .unset, .unset, .unset, .unset, .unset, .unset, .unset, .unset] []))
      refine own_via (fun t k => XS.iloadN X0.here hx rfl (hb hby at_21) rfl k) ?_
      show own_G p e below _ (s₁.setTop (mkF m 22 #[.val (.int p1), .val (.int p2), .val (.int p3), .val (.int p4), .val (.int p5), .val (.int p3), .unset, .unset, .unset, .unset, .unset, .unset, .unset, .unset, .unset] [(.int p2)]))
      refine own_via (fun t k => XS.goto X0.here hx rfl (pc0 := 22) (pc' := 26) rfl (hb hby at_22) (by decide) (by decide) k) ?_
      show own_G p e below _ (s₁.setTop (mkF m 26 #[.val (.int p1), .val (.int p2), .val (.int p3), .val (.int p4), .val (.int p5), .val (.int p3), .unset, .unset, .unset, .unset, .unset, .unset, .unset, .unset, .unset] [(.int p2)]))
      refine own_via (fun t k => XS.istore X0.here hx rfl (hb hby at_26) rfl (l' := #[.val (.int p1), .val (.int p2), .val (.int p3), .val (.int p4), .val (.int p5), .val (.int p3), .val (.int p2), .unset, .unset, .unset, .unset, .unset, .unset, .unset, .unset]) rfl k) ?_
      show own_G p e below _ (s₁.setTop (mkF m 28 #[.val (.int p1), .val (.int p2), .val (.int p3), .val (.int p4), .val (.int p5), .val (.int p3), .val (.int p2), .unset, .unset, .unset, .unset, .unset, .unset, .unset, .unset] []))
      obtain ⟨T32, h32, X32, e32, E32, A32, D32, -, st32⟩ := newO X0 hx hZ hown (hw _ (List.mem_of_getElem? (i := 0) rfl)) (hw _ (List.mem_of_getElem? (i := 1) rfl)) (hw _ (List.mem_of_getElem? (i := 2) rfl)) e0 (g := (mkF m 28 #[.val (.int p1), .val (.int p2), .val (.int p3), .val (.int p4), .val (.int p5), .val (.int p3), .val (.int p2), .unset, .unset, .unset, .unset, .unset, .unset, .unset, .unset] [])) rfl (hb hby at_28) (by decide) (by decide)
      obtain ⟨b32, g32⟩ : ∃ z, z = h0.size := ⟨_, rfl⟩
      rw [← g32] at A32 D32 st32
      have gx_b32 : n0 ≤ b32 := Nat.le_trans Z0 (Nat.le_of_eq g32.symm)
      have Z32 : n0 ≤ h32.size := Nat.le_trans Z0 E32.1
      have F32_line : Fld Z h32 b32 "com/example/meridial/meridial/adql/Position" "line" "I" (.int (0 : Int32)) := D32 (Or.inr (hw _ (List.mem_of_getElem? (i := 10) rfl))) (ty := .int) (by decide)
      have F32_column : Fld Z h32 b32 "com/example/meridial/meridial/adql/Position" "column" "I" (.int (0 : Int32)) := D32 (Or.inr (hw _ (List.mem_of_getElem? (i := 12) rfl))) (ty := .int) (by decide)
      refine own_via st32 ?_
      show own_G p e below _ (T32.setTop (mkF m 31 #[.val (.int p1), .val (.int p2), .val (.int p3), .val (.int p4), .val (.int p5), .val (.int p3), .val (.int p2), .unset, .unset, .unset, .unset, .unset, .unset, .unset, .unset] [(.ref b32)]))
      refine own_via (fun t k => XS.dup X32.here hx rfl (hb hby at_31) rfl rfl k) ?_
      show own_G p e below _ (T32.setTop (mkF m 32 #[.val (.int p1), .val (.int p2), .val (.int p3), .val (.int p4), .val (.int p5), .val (.int p3), .val (.int p2), .unset, .unset, .unset, .unset, .unset, .unset, .unset, .unset] [(.ref b32), (.ref b32)]))
      refine own_via (fun t k => XS.iloadN X32.here hx rfl (hb hby at_32) rfl k) ?_
      show own_G p e below _ (T32.setTop (mkF m 33 #[.val (.int p1), .val (.int p2), .val (.int p3), .val (.int p4), .val (.int p5), .val (.int p3), .val (.int p2), .unset, .unset, .unset, .unset, .unset, .unset, .unset, .unset] [(.int p1), (.ref b32), (.ref b32)]))
      refine own_via (fun t k => XS.iloadN X32.here hx rfl (hb hby at_33) rfl k) ?_
      show own_G p e below _ (T32.setTop (mkF m 34 #[.val (.int p1), .val (.int p2), .val (.int p3), .val (.int p4), .val (.int p5), .val (.int p3), .val (.int p2), .unset, .unset, .unset, .unset, .unset, .unset, .unset, .unset] [(.int p2), (.int p1), (.ref b32), (.ref b32)]))
      obtain ⟨_, _, ⟨T33, L33, k33, n33⟩, -, X33, ⟨Lc33, hQ33, l33, y33, z33⟩, st33⟩ := X32.specialBack hx (y := (⟨"com/example/meridial/meridial/adql/Position", "<init>", "(II)V"⟩ : MethodName)) rfl hown (mvT hZ (hw _ (List.mem_of_getElem? (i := 3) rfl))) (mvT hZ (hw _ (List.mem_of_getElem? (i := 4) rfl))) (mvT hZ (hw _ (List.mem_of_getElem? (i := 5) rfl))) (by decide) (backOf (W := 1) (rm1 l Z a0 hw [] b32 p1 p2 h32 n0 Z32 A32 F32_line F32_column gx_b32) hZ (hw _ (List.mem_of_getElem? (i := 5) rfl)) (hw _ (List.mem_of_getElem? (i := 2) rfl)) (by decide) (by decide)) (g := (mkF m 34 #[.val (.int p1), .val (.int p2), .val (.int p3), .val (.int p4), .val (.int p5), .val (.int p3), .val (.int p2), .unset, .unset, .unset, .unset, .unset, .unset, .unset, .unset] [(.int p2), (.int p1), (.ref b32), (.ref b32)])) rfl (by rw [hml]; rfl) (Steps.refl _) (a := b32) (argsL := [(.int p1), (.int p2)]) (rest := [(.ref b32)]) (lenOf pd_rm0_0 rfl) rfl (by show 2 * 0 + _ ≤ _; exact Nat.le_of_eq rfl) (hb hby at_34) (fun _ _ => ⟨rfl, e32, (by decide : 1 + 0 ≤ _), (by decide : 2 + 0 ≤ _)⟩)
      dsimp only [Pt.U, Pt.locs, Pt.cells, Pt.slots] at X33 l33 y33 z33 st33 hQ33
      subst l33 y33 z33
      obtain ⟨rfl, N33q, K33, E33q, Fl33, Fc33⟩ := hQ33
      have N33 := Fr.app N0 N33q
      have F34 := A32.keep K33
      have Z33 : n0 ≤ T33.heap.size := Nat.le_trans Z32 K33.1
      refine own_via (fun t k => st33.trans k) ?_
      show own_G p e below _ (T33.setTop (mkF m 37 #[.val (.int p1), .val (.int p2), .val (.int p3), .val (.int p4), .val (.int p5), .val (.int p3), .val (.int p2), .unset, .unset, .unset, .unset, .unset, .unset, .unset, .unset] [(.ref b32)]))
      refine own_via (fun t k => XS.astore X33.here hx rfl (hb hby at_37) rfl rfl (l' := #[.val (.int p1), .val (.int p2), .val (.int p3), .val (.int p4), .val (.int p5), .val (.int p3), .val (.int p2), .val (.ref b32), .unset, .unset, .unset, .unset, .unset, .unset, .unset]) rfl k) ?_
      show own_G p e below _ (T33.setTop (mkF m 39 #[.val (.int p1), .val (.int p2), .val (.int p3), .val (.int p4), .val (.int p5), .val (.int p3), .val (.int p2), .val (.ref b32), .unset, .unset, .unset, .unset, .unset, .unset, .unset] []))
      obtain ⟨T37, h37, X37, e37, E37, A37, D37, -, st37⟩ := newO X33 hx hZ hown (hw _ (List.mem_of_getElem? (i := 0) rfl)) (hw _ (List.mem_of_getElem? (i := 1) rfl)) (hw _ (List.mem_of_getElem? (i := 2) rfl)) rfl (g := (mkF m 39 #[.val (.int p1), .val (.int p2), .val (.int p3), .val (.int p4), .val (.int p5), .val (.int p3), .val (.int p2), .val (.ref b32), .unset, .unset, .unset, .unset, .unset, .unset, .unset] [])) rfl (hb hby at_39) (by decide) (by decide)
      obtain ⟨b37, g37⟩ : ∃ z, z = T33.heap.size := ⟨_, rfl⟩
      rw [← g37] at A37 D37 st37
      have gx_b37 : n0 ≤ b37 := Nat.le_trans Z33 (Nat.le_of_eq g37.symm)
      have Z37 : n0 ≤ h37.size := Nat.le_trans Z33 E37.1
      have ne_b32_b37 : b32 ≠ b37 := Nat.ne_of_lt (Nat.lt_of_lt_of_le E33q.lt (Nat.le_of_eq g37.symm))
      have F38 := E33q.ext E37
      have F39 := Fl33.ext E37
      have F40 := Fc33.ext E37
      have F37_line : Fld Z h37 b37 "com/example/meridial/meridial/adql/Position" "line" "I" (.int (0 : Int32)) := D37 (Or.inr (hw _ (List.mem_of_getElem? (i := 10) rfl))) (ty := .int) (by decide)
      have F37_column : Fld Z h37 b37 "com/example/meridial/meridial/adql/Position" "column" "I" (.int (0 : Int32)) := D37 (Or.inr (hw _ (List.mem_of_getElem? (i := 12) rfl))) (ty := .int) (by decide)
      refine own_via st37 ?_
      show own_G p e below _ (T37.setTop (mkF m 42 #[.val (.int p1), .val (.int p2), .val (.int p3), .val (.int p4), .val (.int p5), .val (.int p3), .val (.int p2), .val (.ref b32), .unset, .unset, .unset, .unset, .unset, .unset, .unset] [(.ref b37)]))
      refine own_via (fun t k => XS.dup X37.here hx rfl (hb hby at_42) rfl rfl k) ?_
      show own_G p e below _ (T37.setTop (mkF m 43 #[.val (.int p1), .val (.int p2), .val (.int p3), .val (.int p4), .val (.int p5), .val (.int p3), .val (.int p2), .val (.ref b32), .unset, .unset, .unset, .unset, .unset, .unset, .unset] [(.ref b37), (.ref b37)]))
      refine own_via (fun t k => XS.iload X37.here hx rfl (hb hby at_43) rfl k) ?_
      show own_G p e below _ (T37.setTop (mkF m 45 #[.val (.int p1), .val (.int p2), .val (.int p3), .val (.int p4), .val (.int p5), .val (.int p3), .val (.int p2), .val (.ref b32), .unset, .unset, .unset, .unset, .unset, .unset, .unset] [(.int p3), (.ref b37), (.ref b37)]))
      refine own_via (fun t k => XS.iload X37.here hx rfl (hb hby at_45) rfl k) ?_
      show own_G p e below _ (T37.setTop (mkF m 47 #[.val (.int p1), .val (.int p2), .val (.int p3), .val (.int p4), .val (.int p5), .val (.int p3), .val (.int p2), .val (.ref b32), .unset, .unset, .unset, .unset, .unset, .unset, .unset] [(.int p2), (.int p3), (.ref b37), (.ref b37)]))
      obtain ⟨_, _, ⟨T41, L41, k41, n41⟩, -, X41, ⟨Lc41, hQ41, l41, y41, z41⟩, st41⟩ := X37.specialBack hx (y := (⟨"com/example/meridial/meridial/adql/Position", "<init>", "(II)V"⟩ : MethodName)) rfl hown (mvT hZ (hw _ (List.mem_of_getElem? (i := 3) rfl))) (mvT hZ (hw _ (List.mem_of_getElem? (i := 4) rfl))) (mvT hZ (hw _ (List.mem_of_getElem? (i := 5) rfl))) (by decide) (backOf (W := 1) (rm1 l Z a0 hw [] b37 p3 p2 h37 n0 Z37 A37 F37_line F37_column gx_b37) hZ (hw _ (List.mem_of_getElem? (i := 5) rfl)) (hw _ (List.mem_of_getElem? (i := 2) rfl)) (by decide) (by decide)) (g := (mkF m 47 #[.val (.int p1), .val (.int p2), .val (.int p3), .val (.int p4), .val (.int p5), .val (.int p3), .val (.int p2), .val (.ref b32), .unset, .unset, .unset, .unset, .unset, .unset, .unset] [(.int p2), (.int p3), (.ref b37), (.ref b37)])) rfl (by rw [hml]; rfl) (Steps.refl _) (a := b37) (argsL := [(.int p3), (.int p2)]) (rest := [(.ref b37)]) (lenOf pd_rm0_0 rfl) rfl (by show 2 * 0 + _ ≤ _; exact Nat.le_of_eq rfl) (hb hby at_47) (fun _ _ => ⟨rfl, e37, (by decide : 2 + 0 ≤ _), (by decide : 4 + 0 ≤ _)⟩)
      dsimp only [Pt.U, Pt.locs, Pt.cells, Pt.slots] at X41 l41 y41 z41 st41 hQ41
      subst l41 y41 z41
      obtain ⟨rfl, N41q, K41, E41q, Fl41, Fc41⟩ := hQ41
      have N41 := Fr.app N33 N41q
      have F42 := F38.keep K41
      have F43 := F39.keep K41 (ninS ne_b32_b37 nin0)
      have F44 := F40.keep K41 (ninS ne_b32_b37 nin0)
      have F45 := A37.keep K41
      have Z41 : n0 ≤ T41.heap.size := Nat.le_trans Z37 K41.1
      refine own_via (fun t k => st41.trans k) ?_
      show own_G p e below _ (T41.setTop (mkF m 50 #[.val (.int p1), .val (.int p2), .val (.int p3), .val (.int p4), .val (.int p5), .val (.int p3), .val (.int p2), .val (.ref b32), .unset, .unset, .unset, .unset, .unset, .unset, .unset] [(.ref b37)]))
      refine own_via (fun t k => XS.astore X41.here hx rfl (hb hby at_50) rfl rfl (l' := #[.val (.int p1), .val (.int p2), .val (.int p3), .val (.int p4), .val (.int p5), .val (.int p3), .val (.int p2), .val (.ref b32), .val (.ref b37), .unset, .unset, .unset, .unset, .unset, .unset]) rfl k) ?_
      show own_G p e below _ (T41.setTop (mkF m 52 #[.val (.int p1), .val (.int p2), .val (.int p3), .val (.int p4), .val (.int p5), .val (.int p3), .val (.int p2), .val (.ref b32), .val (.ref b37), .unset, .unset, .unset, .unset, .unset, .unset] []))
      refine own_via (fun t k => XS.iloadN X41.here hx rfl (hb hby at_52) rfl k) ?_
      show own_G p e below _ (T41.setTop (mkF m 53 #[.val (.int p1), .val (.int p2), .val (.int p3), .val (.int p4), .val (.int p5), .val (.int p3), .val (.int p2), .val (.ref b32), .val (.ref b37), .unset, .unset, .unset, .unset, .unset, .unset] [(.int p1)]))
      refine own_via (fun t k => XS.iloadN X41.here hx rfl (hb hby at_53) rfl k) ?_
      show own_G p e below _ (T41.setTop (mkF m 54 #[.val (.int p1), .val (.int p2), .val (.int p3), .val (.int p4), .val (.int p5), .val (.int p3), .val (.int p2), .val (.ref b32), .val (.ref b37), .unset, .unset, .unset, .unset, .unset, .unset] [(.int p2), (.int p1)]))
      obtain ⟨_, _, ⟨T48, L48, k48, n48⟩, -, X48, ⟨Lc48, hQ48, l48, y48, z48⟩, st48⟩ := Jvm.LawKit.callS X41 hx (y := (⟨"com/example/meridial/meridial/adql/PositionIsAfterPinLaw", "key", "(II)J"⟩ : MethodName)) hown (mvT hZ (hw _ (List.mem_of_getElem? (i := 13) rfl))) (mvT hZ (hw _ (List.mem_of_getElem? (i := 14) rfl))) (mvT hZ (hw _ (List.mem_of_getElem? (i := 15) rfl))) (mvT hZ (hw _ (List.mem_of_getElem? (i := 16) rfl))) (by decide) (backOf (W := 0) (rm3 l Z a0 hw [] p1 p2  T41.heap n0 Z41 ) hZ (hw _ (List.mem_of_getElem? (i := 16) rfl)) (hw _ (List.mem_of_getElem? (i := 15) rfl)) (by decide) (by decide)) (g := (mkF m 54 #[.val (.int p1), .val (.int p2), .val (.int p3), .val (.int p4), .val (.int p5), .val (.int p3), .val (.int p2), .val (.ref b32), .val (.ref b37), .unset, .unset, .unset, .unset, .unset, .unset] [(.int p2), (.int p1)])) rfl (by rw [hml]; rfl) (argsL := [(.int p1), (.int p2)]) (rest := []) (lenOf pd_rm0_1 rfl) rfl (by show 2 * 0 + _ ≤ _; exact Nat.le_of_eq rfl) (hb hby at_54) (fun _ _ => ⟨rfl, rfl, (by decide : 2 + 0 ≤ _), (by decide : 4 + 0 ≤ _)⟩)
      dsimp only [Pt.U, Pt.locs, Pt.cells, Pt.slots] at X48 l48 y48 z48 st48 hQ48
      subst l48 y48 z48
      obtain ⟨rfl, N48q, e48⟩ := hQ48
      have N48 := Fr.app N41 N48q
      refine own_via st48 ?_
      show own_G p e below _ (T48.setTop (mkF m 57 #[.val (.int p1), .val (.int p2), .val (.int p3), .val (.int p4), .val (.int p5), .val (.int p3), .val (.int p2), .val (.ref b32), .val (.ref b37), .unset, .unset, .unset, .unset, .unset, .unset] [(.long (own_key p1 p2))]))
      refine own_via (fun t k => XS.lstore X48.here hx rfl (hb hby at_57) rfl (l' := #[.val (.int p1), .val (.int p2), .val (.int p3), .val (.int p4), .val (.int p5), .val (.int p3), .val (.int p2), .val (.ref b32), .val (.ref b37), .val (.long (own_key p1 p2)), .second, .unset, .unset, .unset, .unset]) rfl k) ?_
      show own_G p e below _ (T48.setTop (mkF m 59 #[.val (.int p1), .val (.int p2), .val (.int p3), .val (.int p4), .val (.int p5), .val (.int p3), .val (.int p2), .val (.ref b32), .val (.ref b37), .val (.long (own_key p1 p2)), .second, .unset, .unset, .unset, .unset] []))
      refine own_via (fun t k => XS.iload X48.here hx rfl (hb hby at_59) rfl k) ?_
      show own_G p e below _ (T48.setTop (mkF m 61 #[.val (.int p1), .val (.int p2), .val (.int p3), .val (.int p4), .val (.int p5), .val (.int p3), .val (.int p2), .val (.ref b32), .val (.ref b37), .val (.long (own_key p1 p2)), .second, .unset, .unset, .unset, .unset] [(.int p3)]))
      refine own_via (fun t k => XS.iload X48.here hx rfl (hb hby at_61) rfl k) ?_
      show own_G p e below _ (T48.setTop (mkF m 63 #[.val (.int p1), .val (.int p2), .val (.int p3), .val (.int p4), .val (.int p5), .val (.int p3), .val (.int p2), .val (.ref b32), .val (.ref b37), .val (.long (own_key p1 p2)), .second, .unset, .unset, .unset, .unset] [(.int p2), (.int p3)]))
      obtain ⟨_, _, ⟨T49, L49, k49, n49⟩, -, X49, ⟨Lc49, hQ49, l49, y49, z49⟩, st49⟩ := Jvm.LawKit.callS X48 hx (y := (⟨"com/example/meridial/meridial/adql/PositionIsAfterPinLaw", "key", "(II)J"⟩ : MethodName)) hown (mvT hZ (hw _ (List.mem_of_getElem? (i := 13) rfl))) (mvT hZ (hw _ (List.mem_of_getElem? (i := 14) rfl))) (mvT hZ (hw _ (List.mem_of_getElem? (i := 15) rfl))) (mvT hZ (hw _ (List.mem_of_getElem? (i := 16) rfl))) (by decide) (backOf (W := 0) (rm3 l Z a0 hw [] p3 p2  T41.heap n0 Z41 ) hZ (hw _ (List.mem_of_getElem? (i := 16) rfl)) (hw _ (List.mem_of_getElem? (i := 15) rfl)) (by decide) (by decide)) (g := (mkF m 63 #[.val (.int p1), .val (.int p2), .val (.int p3), .val (.int p4), .val (.int p5), .val (.int p3), .val (.int p2), .val (.ref b32), .val (.ref b37), .val (.long (own_key p1 p2)), .second, .unset, .unset, .unset, .unset] [(.int p2), (.int p3)])) rfl (by rw [hml]; rfl) (argsL := [(.int p3), (.int p2)]) (rest := []) (lenOf pd_rm0_1 rfl) rfl (by show 2 * 0 + _ ≤ _; exact Nat.le_of_eq rfl) (hb hby at_63) (fun _ _ => ⟨rfl, e48, (by decide : 2 + 0 ≤ _), (by decide : 4 + 0 ≤ _)⟩)
      dsimp only [Pt.U, Pt.locs, Pt.cells, Pt.slots] at X49 l49 y49 z49 st49 hQ49
      subst l49 y49 z49
      obtain ⟨rfl, N49q, e49⟩ := hQ49
      have N49 := Fr.app N48 N49q
      refine own_via st49 ?_
      show own_G p e below _ (T49.setTop (mkF m 66 #[.val (.int p1), .val (.int p2), .val (.int p3), .val (.int p4), .val (.int p5), .val (.int p3), .val (.int p2), .val (.ref b32), .val (.ref b37), .val (.long (own_key p1 p2)), .second, .unset, .unset, .unset, .unset] [(.long (own_key p3 p2))]))
      refine own_via (fun t k => XS.lstore X49.here hx rfl (hb hby at_66) rfl (l' := #[.val (.int p1), .val (.int p2), .val (.int p3), .val (.int p4), .val (.int p5), .val (.int p3), .val (.int p2), .val (.ref b32), .val (.ref b37), .val (.long (own_key p1 p2)), .second, .val (.long (own_key p3 p2)), .second, .unset, .unset]) rfl k) ?_
      show own_G p e below _ (T49.setTop (mkF m 68 #[.val (.int p1), .val (.int p2), .val (.int p3), .val (.int p4), .val (.int p5), .val (.int p3), .val (.int p2), .val (.ref b32), .val (.ref b37), .val (.long (own_key p1 p2)), .second, .val (.long (own_key p3 p2)), .second, .unset, .unset] []))
      refine own_via (fun t k => XS.aload X49.here hx rfl (hb hby at_68) rfl rfl k) ?_
      show own_G p e below _ (T49.setTop (mkF m 70 #[.val (.int p1), .val (.int p2), .val (.int p3), .val (.int p4), .val (.int p5), .val (.int p3), .val (.int p2), .val (.ref b32), .val (.ref b37), .val (.long (own_key p1 p2)), .second, .val (.long (own_key p3 p2)), .second, .unset, .unset] [(.ref b32)]))
      refine own_via (fun t k => XS.aload X49.here hx rfl (hb hby at_70) rfl rfl k) ?_
      show own_G p e below _ (T49.setTop (mkF m 72 #[.val (.int p1), .val (.int p2), .val (.int p3), .val (.int p4), .val (.int p5), .val (.int p3), .val (.int p2), .val (.ref b32), .val (.ref b37), .val (.long (own_key p1 p2)), .second, .val (.long (own_key p3 p2)), .second, .unset, .unset] [(.ref b37), (.ref b32)]))
      obtain ⟨cq50, kq50, q50a, q50b, q50c⟩ := isOf hZ e49 F42
      obtain ⟨_, _, ⟨T50, L50, k50, n50⟩, -, X50, ⟨Lc50, hQ50, l50, y50, z50⟩, st50⟩ := X49.virtualBack hx (y := (⟨"com/example/meridial/meridial/adql/Position", "isAfter", "(Lcom/example/meridial/meridial/adql/Position;)Z"⟩ : MethodName)) (z := (⟨"com/example/meridial/meridial/adql/Position", "isAfter", "(Lcom/example/meridial/meridial/adql/Position;)Z"⟩ : MethodName)) hown (mvT hZ (hw _ (List.mem_of_getElem? (i := 19) rfl))) (mvT hZ (hw _ (List.mem_of_getElem? (i := 20) rfl))) (notFace_of_selects (args := #[]) (mvT hZ (hw _ (List.mem_of_getElem? (i := 22) rfl)))) (mvT hZ (hw _ (List.mem_of_getElem? (i := 22) rfl))) (mvT hZ (hw _ (List.mem_of_getElem? (i := 21) rfl))) (by decide) (backOf (W := 0) (rm4 l Z a0 hw [] b32 b37 p1 p2 p3 p2 T41.heap n0 Z41 F43 F44 Fl41 Fc41) hZ (hw _ (List.mem_of_getElem? (i := 23) rfl)) (hw _ (List.mem_of_getElem? (i := 2) rfl)) (by decide) (by decide)) q50a q50c (g := (mkF m 72 #[.val (.int p1), .val (.int p2), .val (.int p3), .val (.int p4), .val (.int p5), .val (.int p3), .val (.int p2), .val (.ref b32), .val (.ref b37), .val (.long (own_key p1 p2)), .second, .val (.long (own_key p3 p2)), .second, .unset, .unset] [(.ref b37), (.ref b32)])) rfl (by rw [hml]; rfl) (Steps.refl _) (argsL := [(.ref b37)]) (rest := []) (lenOf pd_rm0_2 rfl) rfl (by show 2 * 0 + _ ≤ _; exact Nat.le_of_eq rfl) (hb hby at_72) (fun _ _ => ⟨rfl, e49, (by decide : 2 + 0 ≤ _), (by decide : 4 + 0 ≤ _)⟩)
      dsimp only [Pt.U, Pt.locs, Pt.cells, Pt.slots] at X50 l50 y50 z50 st50 hQ50
      subst l50 y50 z50
      obtain ⟨rfl, N50q, e50⟩ := hQ50
      have N50 := Fr.app N49 N50q
      refine own_via (fun t k => st50.trans k) ?_
      show own_G p e below _ (T50.setTop (mkF m 75 #[.val (.int p1), .val (.int p2), .val (.int p3), .val (.int p4), .val (.int p5), .val (.int p3), .val (.int p2), .val (.ref b32), .val (.ref b37), .val (.long (own_key p1 p2)), .second, .val (.long (own_key p3 p2)), .second, .unset, .unset] [(.int (own_aft p1 p2 p3 p2))]))
      refine own_via (fun t k => XS.istore X50.here hx rfl (hb hby at_75) rfl (l' := #[.val (.int p1), .val (.int p2), .val (.int p3), .val (.int p4), .val (.int p5), .val (.int p3), .val (.int p2), .val (.ref b32), .val (.ref b37), .val (.long (own_key p1 p2)), .second, .val (.long (own_key p3 p2)), .second, .val (.int (own_aft p1 p2 p3 p2)), .unset]) rfl k) ?_
      show own_G p e below _ (T50.setTop (mkF m 77 #[.val (.int p1), .val (.int p2), .val (.int p3), .val (.int p4), .val (.int p5), .val (.int p3), .val (.int p2), .val (.ref b32), .val (.ref b37), .val (.long (own_key p1 p2)), .second, .val (.long (own_key p3 p2)), .second, .val (.int (own_aft p1 p2 p3 p2)), .unset] []))
      refine own_via (fun t k => XS.aload X50.here hx rfl (hb hby at_77) rfl rfl k) ?_
      show own_G p e below _ (T50.setTop (mkF m 79 #[.val (.int p1), .val (.int p2), .val (.int p3), .val (.int p4), .val (.int p5), .val (.int p3), .val (.int p2), .val (.ref b32), .val (.ref b37), .val (.long (own_key p1 p2)), .second, .val (.long (own_key p3 p2)), .second, .val (.int (own_aft p1 p2 p3 p2)), .unset] [(.ref b37)]))
      refine own_via (fun t k => XS.aload X50.here hx rfl (hb hby at_79) rfl rfl k) ?_
      show own_G p e below _ (T50.setTop (mkF m 81 #[.val (.int p1), .val (.int p2), .val (.int p3), .val (.int p4), .val (.int p5), .val (.int p3), .val (.int p2), .val (.ref b32), .val (.ref b37), .val (.long (own_key p1 p2)), .second, .val (.long (own_key p3 p2)), .second, .val (.int (own_aft p1 p2 p3 p2)), .unset] [(.ref b32), (.ref b37)]))
      obtain ⟨cq51, kq51, q51a, q51b, q51c⟩ := isOf hZ e50 E41q
      obtain ⟨_, _, ⟨T51, L51, k51, n51⟩, -, X51, ⟨Lc51, hQ51, l51, y51, z51⟩, st51⟩ := X50.virtualBack hx (y := (⟨"com/example/meridial/meridial/adql/Position", "isAfter", "(Lcom/example/meridial/meridial/adql/Position;)Z"⟩ : MethodName)) (z := (⟨"com/example/meridial/meridial/adql/Position", "isAfter", "(Lcom/example/meridial/meridial/adql/Position;)Z"⟩ : MethodName)) hown (mvT hZ (hw _ (List.mem_of_getElem? (i := 19) rfl))) (mvT hZ (hw _ (List.mem_of_getElem? (i := 20) rfl))) (notFace_of_selects (args := #[]) (mvT hZ (hw _ (List.mem_of_getElem? (i := 22) rfl)))) (mvT hZ (hw _ (List.mem_of_getElem? (i := 22) rfl))) (mvT hZ (hw _ (List.mem_of_getElem? (i := 21) rfl))) (by decide) (backOf (W := 0) (rm4 l Z a0 hw [] b37 b32 p3 p2 p1 p2 T41.heap n0 Z41 Fl41 Fc41 F43 F44) hZ (hw _ (List.mem_of_getElem? (i := 23) rfl)) (hw _ (List.mem_of_getElem? (i := 2) rfl)) (by decide) (by decide)) q51a q51c (g := (mkF m 81 #[.val (.int p1), .val (.int p2), .val (.int p3), .val (.int p4), .val (.int p5), .val (.int p3), .val (.int p2), .val (.ref b32), .val (.ref b37), .val (.long (own_key p1 p2)), .second, .val (.long (own_key p3 p2)), .second, .val (.int (own_aft p1 p2 p3 p2)), .unset] [(.ref b32), (.ref b37)])) rfl (by rw [hml]; rfl) (Steps.refl _) (argsL := [(.ref b32)]) (rest := []) (lenOf pd_rm0_2 rfl) rfl (by show 2 * 0 + _ ≤ _; exact Nat.le_of_eq rfl) (hb hby at_81) (fun _ _ => ⟨rfl, e50, (by decide : 2 + 0 ≤ _), (by decide : 4 + 0 ≤ _)⟩)
      dsimp only [Pt.U, Pt.locs, Pt.cells, Pt.slots] at X51 l51 y51 z51 st51 hQ51
      subst l51 y51 z51
      obtain ⟨rfl, N51q, e51⟩ := hQ51
      have N51 := Fr.app N50 N51q
      refine own_via (fun t k => st51.trans k) ?_
      show own_G p e below _ (T51.setTop (mkF m 84 #[.val (.int p1), .val (.int p2), .val (.int p3), .val (.int p4), .val (.int p5), .val (.int p3), .val (.int p2), .val (.ref b32), .val (.ref b37), .val (.long (own_key p1 p2)), .second, .val (.long (own_key p3 p2)), .second, .val (.int (own_aft p1 p2 p3 p2)), .unset] [(.int (own_aft p3 p2 p1 p2))]))
      refine own_via (fun t k => XS.istore X51.here hx rfl (hb hby at_84) rfl (l' := #[.val (.int p1), .val (.int p2), .val (.int p3), .val (.int p4), .val (.int p5), .val (.int p3), .val (.int p2), .val (.ref b32), .val (.ref b37), .val (.long (own_key p1 p2)), .second, .val (.long (own_key p3 p2)), .second, .val (.int (own_aft p1 p2 p3 p2)), .val (.int (own_aft p3 p2 p1 p2))]) rfl k) ?_
      show own_G p e below _ (T51.setTop (mkF m 86 #[.val (.int p1), .val (.int p2), .val (.int p3), .val (.int p4), .val (.int p5), .val (.int p3), .val (.int p2), .val (.ref b32), .val (.ref b37), .val (.long (own_key p1 p2)), .second, .val (.long (own_key p3 p2)), .second, .val (.int (own_aft p1 p2 p3 p2)), .val (.int (own_aft p3 p2 p1 p2))] []))
      refine own_via (fun t k => XS.iload X51.here hx rfl (hb hby at_86) rfl k) ?_
      show own_G p e below _ (T51.setTop (mkF m 88 #[.val (.int p1), .val (.int p2), .val (.int p3), .val (.int p4), .val (.int p5), .val (.int p3), .val (.int p2), .val (.ref b32), .val (.ref b37), .val (.long (own_key p1 p2)), .second, .val (.long (own_key p3 p2)), .second, .val (.int (own_aft p1 p2 p3 p2)), .val (.int (own_aft p3 p2 p1 p2))] [(.int (own_aft p1 p2 p3 p2))]))
      refine own_via (fun t k => XS.lload X51.here hx rfl (hb hby at_88) rfl k) ?_
      show own_G p e below _ (T51.setTop (mkF m 90 #[.val (.int p1), .val (.int p2), .val (.int p3), .val (.int p4), .val (.int p5), .val (.int p3), .val (.int p2), .val (.ref b32), .val (.ref b37), .val (.long (own_key p1 p2)), .second, .val (.long (own_key p3 p2)), .second, .val (.int (own_aft p1 p2 p3 p2)), .val (.int (own_aft p3 p2 p1 p2))] [(.long (own_key p1 p2)), (.int (own_aft p1 p2 p3 p2))]))
      refine own_via (fun t k => XS.lload X51.here hx rfl (hb hby at_90) rfl k) ?_
      show own_G p e below _ (T51.setTop (mkF m 92 #[.val (.int p1), .val (.int p2), .val (.int p3), .val (.int p4), .val (.int p5), .val (.int p3), .val (.int p2), .val (.ref b32), .val (.ref b37), .val (.long (own_key p1 p2)), .second, .val (.long (own_key p3 p2)), .second, .val (.int (own_aft p1 p2 p3 p2)), .val (.int (own_aft p3 p2 p1 p2))] [(.long (own_key p3 p2)), (.long (own_key p1 p2)), (.int (own_aft p1 p2 p3 p2))]))
      refine own_via (fun t k => XS.lcmp X51.here hx rfl (hb hby at_92) rfl k) ?_
      show own_G p e below _ (T51.setTop (mkF m 93 #[.val (.int p1), .val (.int p2), .val (.int p3), .val (.int p4), .val (.int p5), .val (.int p3), .val (.int p2), .val (.ref b32), .val (.ref b37), .val (.long (own_key p1 p2)), .second, .val (.long (own_key p3 p2)), .second, .val (.int (own_aft p1 p2 p3 p2)), .val (.int (own_aft p3 p2 p1 p2))] [(.int (lcmpW (own_key p1 p2) (own_key p3 p2))), (.int (own_aft p1 p2 p3 p2))]))
      by_cases c93_52 : (0 : Int32) < (lcmpW (own_key p1 p2) (own_key p3 p2))
      · skip
        refine own_via (fun t k => XS.ifNo X51.here hx rfl (hb hby at_93) rfl ((if0 _ _).trans (tlt c93_52).2.2.2) k) ?_
        show own_G p e below _ (T51.setTop (mkF m 96 #[.val (.int p1), .val (.int p2), .val (.int p3), .val (.int p4), .val (.int p5), .val (.int p3), .val (.int p2), .val (.ref b32), .val (.ref b37), .val (.long (own_key p1 p2)), .second, .val (.long (own_key p3 p2)), .second, .val (.int (own_aft p1 p2 p3 p2)), .val (.int (own_aft p3 p2 p1 p2))] [(.int (own_aft p1 p2 p3 p2))]))
        refine own_via (fun t k => XS.iconst X51.here hx rfl (hb hby at_96) k) ?_
        show own_G p e below _ (T51.setTop (mkF m 97 #[.val (.int p1), .val (.int p2), .val (.int p3), .val (.int p4), .val (.int p5), .val (.int p3), .val (.int p2), .val (.ref b32), .val (.ref b37), .val (.long (own_key p1 p2)), .second, .val (.long (own_key p3 p2)), .second, .val (.int (own_aft p1 p2 p3 p2)), .val (.int (own_aft p3 p2 p1 p2))] [(.int (1 : Int32)), (.int (own_aft p1 p2 p3 p2))]))
        refine own_via (fun t k => XS.goto X51.here hx rfl (pc0 := 97) (pc' := 101) rfl (hb hby at_97) (by decide) (by decide) k) ?_
        show own_G p e below _ (T51.setTop (mkF m 101 #[.val (.int p1), .val (.int p2), .val (.int p3), .val (.int p4), .val (.int p5), .val (.int p3), .val (.int p2), .val (.ref b32), .val (.ref b37), .val (.long (own_key p1 p2)), .second, .val (.long (own_key p3 p2)), .second, .val (.int (own_aft p1 p2 p3 p2)), .val (.int (own_aft p3 p2 p1 p2))] [(.int (1 : Int32)), (.int (own_aft p1 p2 p3 p2))]))
        by_cases c101_53 : (own_aft p1 p2 p3 p2) = (1 : Int32)
        · skip
          refine own_via (fun t k => XS.icmpNo X51.here hx rfl (hb hby at_101) rfl (teq c101_53).2 k) ?_
          show own_G p e below _ (T51.setTop (mkF m 104 #[.val (.int p1), .val (.int p2), .val (.int p3), .val (.int p4), .val (.int p5), .val (.int p3), .val (.int p2), .val (.ref b32), .val (.ref b37), .val (.long (own_key p1 p2)), .second, .val (.long (own_key p3 p2)), .second, .val (.int (own_aft p1 p2 p3 p2)), .val (.int (own_aft p3 p2 p1 p2))] []))
          refine own_via (fun t k => XS.iload X51.here hx rfl (hb hby at_104) rfl k) ?_
          show own_G p e below _ (T51.setTop (mkF m 106 #[.val (.int p1), .val (.int p2), .val (.int p3), .val (.int p4), .val (.int p5), .val (.int p3), .val (.int p2), .val (.ref b32), .val (.ref b37), .val (.long (own_key p1 p2)), .second, .val (.long (own_key p3 p2)), .second, .val (.int (own_aft p1 p2 p3 p2)), .val (.int (own_aft p3 p2 p1 p2))] [(.int (own_aft p3 p2 p1 p2))]))
          refine own_via (fun t k => XS.lload X51.here hx rfl (hb hby at_106) rfl k) ?_
          show own_G p e below _ (T51.setTop (mkF m 108 #[.val (.int p1), .val (.int p2), .val (.int p3), .val (.int p4), .val (.int p5), .val (.int p3), .val (.int p2), .val (.ref b32), .val (.ref b37), .val (.long (own_key p1 p2)), .second, .val (.long (own_key p3 p2)), .second, .val (.int (own_aft p1 p2 p3 p2)), .val (.int (own_aft p3 p2 p1 p2))] [(.long (own_key p3 p2)), (.int (own_aft p3 p2 p1 p2))]))
          refine own_via (fun t k => XS.lload X51.here hx rfl (hb hby at_108) rfl k) ?_
          show own_G p e below _ (T51.setTop (mkF m 110 #[.val (.int p1), .val (.int p2), .val (.int p3), .val (.int p4), .val (.int p5), .val (.int p3), .val (.int p2), .val (.ref b32), .val (.ref b37), .val (.long (own_key p1 p2)), .second, .val (.long (own_key p3 p2)), .second, .val (.int (own_aft p1 p2 p3 p2)), .val (.int (own_aft p3 p2 p1 p2))] [(.long (own_key p1 p2)), (.long (own_key p3 p2)), (.int (own_aft p3 p2 p1 p2))]))
          refine own_via (fun t k => XS.lcmp X51.here hx rfl (hb hby at_110) rfl k) ?_
          show own_G p e below _ (T51.setTop (mkF m 111 #[.val (.int p1), .val (.int p2), .val (.int p3), .val (.int p4), .val (.int p5), .val (.int p3), .val (.int p2), .val (.ref b32), .val (.ref b37), .val (.long (own_key p1 p2)), .second, .val (.long (own_key p3 p2)), .second, .val (.int (own_aft p1 p2 p3 p2)), .val (.int (own_aft p3 p2 p1 p2))] [(.int (lcmpW (own_key p3 p2) (own_key p1 p2))), (.int (own_aft p3 p2 p1 p2))]))
          by_cases c111_54 : (0 : Int32) < (lcmpW (own_key p3 p2) (own_key p1 p2))
          · skip
            refine own_via (fun t k => XS.ifNo X51.here hx rfl (hb hby at_111) rfl ((if0 _ _).trans (tlt c111_54).2.2.2) k) ?_
            show own_G p e below _ (T51.setTop (mkF m 114 #[.val (.int p1), .val (.int p2), .val (.int p3), .val (.int p4), .val (.int p5), .val (.int p3), .val (.int p2), .val (.ref b32), .val (.ref b37), .val (.long (own_key p1 p2)), .second, .val (.long (own_key p3 p2)), .second, .val (.int (own_aft p1 p2 p3 p2)), .val (.int (own_aft p3 p2 p1 p2))] [(.int (own_aft p3 p2 p1 p2))]))
            refine own_via (fun t k => XS.iconst X51.here hx rfl (hb hby at_114) k) ?_
            show own_G p e below _ (T51.setTop (mkF m 115 #[.val (.int p1), .val (.int p2), .val (.int p3), .val (.int p4), .val (.int p5), .val (.int p3), .val (.int p2), .val (.ref b32), .val (.ref b37), .val (.long (own_key p1 p2)), .second, .val (.long (own_key p3 p2)), .second, .val (.int (own_aft p1 p2 p3 p2)), .val (.int (own_aft p3 p2 p1 p2))] [(.int (1 : Int32)), (.int (own_aft p3 p2 p1 p2))]))
            refine own_via (fun t k => XS.goto X51.here hx rfl (pc0 := 115) (pc' := 119) rfl (hb hby at_115) (by decide) (by decide) k) ?_
            show own_G p e below _ (T51.setTop (mkF m 119 #[.val (.int p1), .val (.int p2), .val (.int p3), .val (.int p4), .val (.int p5), .val (.int p3), .val (.int p2), .val (.ref b32), .val (.ref b37), .val (.long (own_key p1 p2)), .second, .val (.long (own_key p3 p2)), .second, .val (.int (own_aft p1 p2 p3 p2)), .val (.int (own_aft p3 p2 p1 p2))] [(.int (1 : Int32)), (.int (own_aft p3 p2 p1 p2))]))
            by_cases c119_55 : (own_aft p3 p2 p1 p2) = (1 : Int32)
            · skip
              refine own_via (fun t k => XS.icmpNo X51.here hx rfl (hb hby at_119) rfl (teq c119_55).2 k) ?_
              show own_G p e below _ (T51.setTop (mkF m 122 #[.val (.int p1), .val (.int p2), .val (.int p3), .val (.int p4), .val (.int p5), .val (.int p3), .val (.int p2), .val (.ref b32), .val (.ref b37), .val (.long (own_key p1 p2)), .second, .val (.long (own_key p3 p2)), .second, .val (.int (own_aft p1 p2 p3 p2)), .val (.int (own_aft p3 p2 p1 p2))] []))
              refine own_via (fun t k => XS.iconst X51.here hx rfl (hb hby at_122) k) ?_
              show own_G p e below _ (T51.setTop (mkF m 123 #[.val (.int p1), .val (.int p2), .val (.int p3), .val (.int p4), .val (.int p5), .val (.int p3), .val (.int p2), .val (.ref b32), .val (.ref b37), .val (.long (own_key p1 p2)), .second, .val (.long (own_key p3 p2)), .second, .val (.int (own_aft p1 p2 p3 p2)), .val (.int (own_aft p3 p2 p1 p2))] [(.int (1 : Int32))]))
              refine own_via (fun t k => XS.goto X51.here hx rfl (pc0 := 123) (pc' := 127) rfl (hb hby at_123) (by decide) (by decide) k) ?_
              show own_G p e below _ (T51.setTop (mkF m 127 #[.val (.int p1), .val (.int p2), .val (.int p3), .val (.int p4), .val (.int p5), .val (.int p3), .val (.int p2), .val (.ref b32), .val (.ref b37), .val (.long (own_key p1 p2)), .second, .val (.long (own_key p3 p2)), .second, .val (.int (own_aft p1 p2 p3 p2)), .val (.int (own_aft p3 p2 p1 p2))] [(.int (1 : Int32))]))
              obtain ⟨fs, hr, hrun, hended, hW, hsame⟩ := X51.leave (v := some (.int (1 : Int32))) (fun h => by rw [Bd.returns] at h; cases h)
              refine ⟨_, _, retN X51 hx (t := .boolean) Bd.returns (by simp) (hb hby at_127) hr, hrun, hended, _, _, rfl, ?_, ⟨_, rfl⟩, hW, hsame.mono (by decide) (by decide)⟩
              show rm0_Q Z p1 p2 p3 p4 p5 h0 n0 _ T51.heap _
              rw [e51]
              exact ⟨rfl, N51⟩
            · exfalso
              exact c119_55 ((own_cmp _ _ _ _).mp c111_54)
          · skip
            refine own_via (fun t k => XS.ifYes X51.here hx rfl (pc0 := 111) (pc' := 118) rfl (hb hby at_111) rfl ((if0 _ _).trans (flt c111_54).2.2.2) (by decide) (by decide) k) ?_
            show own_G p e below _ (T51.setTop (mkF m 118 #[.val (.int p1), .val (.int p2), .val (.int p3), .val (.int p4), .val (.int p5), .val (.int p3), .val (.int p2), .val (.ref b32), .val (.ref b37), .val (.long (own_key p1 p2)), .second, .val (.long (own_key p3 p2)), .second, .val (.int (own_aft p1 p2 p3 p2)), .val (.int (own_aft p3 p2 p1 p2))] [(.int (own_aft p3 p2 p1 p2))]))
            refine own_via (fun t k => XS.iconst X51.here hx rfl (hb hby at_118) k) ?_
            show own_G p e below _ (T51.setTop (mkF m 119 #[.val (.int p1), .val (.int p2), .val (.int p3), .val (.int p4), .val (.int p5), .val (.int p3), .val (.int p2), .val (.ref b32), .val (.ref b37), .val (.long (own_key p1 p2)), .second, .val (.long (own_key p3 p2)), .second, .val (.int (own_aft p1 p2 p3 p2)), .val (.int (own_aft p3 p2 p1 p2))] [(.int (0 : Int32)), (.int (own_aft p3 p2 p1 p2))]))
            by_cases c119_56 : (own_aft p3 p2 p1 p2) = (0 : Int32)
            · skip
              refine own_via (fun t k => XS.icmpNo X51.here hx rfl (hb hby at_119) rfl (teq c119_56).2 k) ?_
              show own_G p e below _ (T51.setTop (mkF m 122 #[.val (.int p1), .val (.int p2), .val (.int p3), .val (.int p4), .val (.int p5), .val (.int p3), .val (.int p2), .val (.ref b32), .val (.ref b37), .val (.long (own_key p1 p2)), .second, .val (.long (own_key p3 p2)), .second, .val (.int (own_aft p1 p2 p3 p2)), .val (.int (own_aft p3 p2 p1 p2))] []))
              refine own_via (fun t k => XS.iconst X51.here hx rfl (hb hby at_122) k) ?_
              show own_G p e below _ (T51.setTop (mkF m 123 #[.val (.int p1), .val (.int p2), .val (.int p3), .val (.int p4), .val (.int p5), .val (.int p3), .val (.int p2), .val (.ref b32), .val (.ref b37), .val (.long (own_key p1 p2)), .second, .val (.long (own_key p3 p2)), .second, .val (.int (own_aft p1 p2 p3 p2)), .val (.int (own_aft p3 p2 p1 p2))] [(.int (1 : Int32))]))
              refine own_via (fun t k => XS.goto X51.here hx rfl (pc0 := 123) (pc' := 127) rfl (hb hby at_123) (by decide) (by decide) k) ?_
              show own_G p e below _ (T51.setTop (mkF m 127 #[.val (.int p1), .val (.int p2), .val (.int p3), .val (.int p4), .val (.int p5), .val (.int p3), .val (.int p2), .val (.ref b32), .val (.ref b37), .val (.long (own_key p1 p2)), .second, .val (.long (own_key p3 p2)), .second, .val (.int (own_aft p1 p2 p3 p2)), .val (.int (own_aft p3 p2 p1 p2))] [(.int (1 : Int32))]))
              obtain ⟨fs, hr, hrun, hended, hW, hsame⟩ := X51.leave (v := some (.int (1 : Int32))) (fun h => by rw [Bd.returns] at h; cases h)
              refine ⟨_, _, retN X51 hx (t := .boolean) Bd.returns (by simp) (hb hby at_127) hr, hrun, hended, _, _, rfl, ?_, ⟨_, rfl⟩, hW, hsame.mono (by decide) (by decide)⟩
              show rm0_Q Z p1 p2 p3 p4 p5 h0 n0 _ T51.heap _
              rw [e51]
              exact ⟨rfl, N51⟩
            · exfalso
              exact c119_56 (own_aft01 _ _ _ _ fun k => c111_54 ((own_cmp _ _ _ _).mpr k))
        · exfalso
          exact c101_53 ((own_cmp _ _ _ _).mp c93_52)
      · skip
        refine own_via (fun t k => XS.ifYes X51.here hx rfl (pc0 := 93) (pc' := 100) rfl (hb hby at_93) rfl ((if0 _ _).trans (flt c93_52).2.2.2) (by decide) (by decide) k) ?_
        show own_G p e below _ (T51.setTop (mkF m 100 #[.val (.int p1), .val (.int p2), .val (.int p3), .val (.int p4), .val (.int p5), .val (.int p3), .val (.int p2), .val (.ref b32), .val (.ref b37), .val (.long (own_key p1 p2)), .second, .val (.long (own_key p3 p2)), .second, .val (.int (own_aft p1 p2 p3 p2)), .val (.int (own_aft p3 p2 p1 p2))] [(.int (own_aft p1 p2 p3 p2))]))
        refine own_via (fun t k => XS.iconst X51.here hx rfl (hb hby at_100) k) ?_
        show own_G p e below _ (T51.setTop (mkF m 101 #[.val (.int p1), .val (.int p2), .val (.int p3), .val (.int p4), .val (.int p5), .val (.int p3), .val (.int p2), .val (.ref b32), .val (.ref b37), .val (.long (own_key p1 p2)), .second, .val (.long (own_key p3 p2)), .second, .val (.int (own_aft p1 p2 p3 p2)), .val (.int (own_aft p3 p2 p1 p2))] [(.int (0 : Int32)), (.int (own_aft p1 p2 p3 p2))]))
        by_cases c101_57 : (own_aft p1 p2 p3 p2) = (0 : Int32)
        · skip
          refine own_via (fun t k => XS.icmpNo X51.here hx rfl (hb hby at_101) rfl (teq c101_57).2 k) ?_
          show own_G p e below _ (T51.setTop (mkF m 104 #[.val (.int p1), .val (.int p2), .val (.int p3), .val (.int p4), .val (.int p5), .val (.int p3), .val (.int p2), .val (.ref b32), .val (.ref b37), .val (.long (own_key p1 p2)), .second, .val (.long (own_key p3 p2)), .second, .val (.int (own_aft p1 p2 p3 p2)), .val (.int (own_aft p3 p2 p1 p2))] []))
          refine own_via (fun t k => XS.iload X51.here hx rfl (hb hby at_104) rfl k) ?_
          show own_G p e below _ (T51.setTop (mkF m 106 #[.val (.int p1), .val (.int p2), .val (.int p3), .val (.int p4), .val (.int p5), .val (.int p3), .val (.int p2), .val (.ref b32), .val (.ref b37), .val (.long (own_key p1 p2)), .second, .val (.long (own_key p3 p2)), .second, .val (.int (own_aft p1 p2 p3 p2)), .val (.int (own_aft p3 p2 p1 p2))] [(.int (own_aft p3 p2 p1 p2))]))
          refine own_via (fun t k => XS.lload X51.here hx rfl (hb hby at_106) rfl k) ?_
          show own_G p e below _ (T51.setTop (mkF m 108 #[.val (.int p1), .val (.int p2), .val (.int p3), .val (.int p4), .val (.int p5), .val (.int p3), .val (.int p2), .val (.ref b32), .val (.ref b37), .val (.long (own_key p1 p2)), .second, .val (.long (own_key p3 p2)), .second, .val (.int (own_aft p1 p2 p3 p2)), .val (.int (own_aft p3 p2 p1 p2))] [(.long (own_key p3 p2)), (.int (own_aft p3 p2 p1 p2))]))
          refine own_via (fun t k => XS.lload X51.here hx rfl (hb hby at_108) rfl k) ?_
          show own_G p e below _ (T51.setTop (mkF m 110 #[.val (.int p1), .val (.int p2), .val (.int p3), .val (.int p4), .val (.int p5), .val (.int p3), .val (.int p2), .val (.ref b32), .val (.ref b37), .val (.long (own_key p1 p2)), .second, .val (.long (own_key p3 p2)), .second, .val (.int (own_aft p1 p2 p3 p2)), .val (.int (own_aft p3 p2 p1 p2))] [(.long (own_key p1 p2)), (.long (own_key p3 p2)), (.int (own_aft p3 p2 p1 p2))]))
          refine own_via (fun t k => XS.lcmp X51.here hx rfl (hb hby at_110) rfl k) ?_
          show own_G p e below _ (T51.setTop (mkF m 111 #[.val (.int p1), .val (.int p2), .val (.int p3), .val (.int p4), .val (.int p5), .val (.int p3), .val (.int p2), .val (.ref b32), .val (.ref b37), .val (.long (own_key p1 p2)), .second, .val (.long (own_key p3 p2)), .second, .val (.int (own_aft p1 p2 p3 p2)), .val (.int (own_aft p3 p2 p1 p2))] [(.int (lcmpW (own_key p3 p2) (own_key p1 p2))), (.int (own_aft p3 p2 p1 p2))]))
          by_cases c111_58 : (0 : Int32) < (lcmpW (own_key p3 p2) (own_key p1 p2))
          · skip
            refine own_via (fun t k => XS.ifNo X51.here hx rfl (hb hby at_111) rfl ((if0 _ _).trans (tlt c111_58).2.2.2) k) ?_
            show own_G p e below _ (T51.setTop (mkF m 114 #[.val (.int p1), .val (.int p2), .val (.int p3), .val (.int p4), .val (.int p5), .val (.int p3), .val (.int p2), .val (.ref b32), .val (.ref b37), .val (.long (own_key p1 p2)), .second, .val (.long (own_key p3 p2)), .second, .val (.int (own_aft p1 p2 p3 p2)), .val (.int (own_aft p3 p2 p1 p2))] [(.int (own_aft p3 p2 p1 p2))]))
            refine own_via (fun t k => XS.iconst X51.here hx rfl (hb hby at_114) k) ?_
            show own_G p e below _ (T51.setTop (mkF m 115 #[.val (.int p1), .val (.int p2), .val (.int p3), .val (.int p4), .val (.int p5), .val (.int p3), .val (.int p2), .val (.ref b32), .val (.ref b37), .val (.long (own_key p1 p2)), .second, .val (.long (own_key p3 p2)), .second, .val (.int (own_aft p1 p2 p3 p2)), .val (.int (own_aft p3 p2 p1 p2))] [(.int (1 : Int32)), (.int (own_aft p3 p2 p1 p2))]))
            refine own_via (fun t k => XS.goto X51.here hx rfl (pc0 := 115) (pc' := 119) rfl (hb hby at_115) (by decide) (by decide) k) ?_
            show own_G p e below _ (T51.setTop (mkF m 119 #[.val (.int p1), .val (.int p2), .val (.int p3), .val (.int p4), .val (.int p5), .val (.int p3), .val (.int p2), .val (.ref b32), .val (.ref b37), .val (.long (own_key p1 p2)), .second, .val (.long (own_key p3 p2)), .second, .val (.int (own_aft p1 p2 p3 p2)), .val (.int (own_aft p3 p2 p1 p2))] [(.int (1 : Int32)), (.int (own_aft p3 p2 p1 p2))]))
            by_cases c119_59 : (own_aft p3 p2 p1 p2) = (1 : Int32)
            · skip
              refine own_via (fun t k => XS.icmpNo X51.here hx rfl (hb hby at_119) rfl (teq c119_59).2 k) ?_
              show own_G p e below _ (T51.setTop (mkF m 122 #[.val (.int p1), .val (.int p2), .val (.int p3), .val (.int p4), .val (.int p5), .val (.int p3), .val (.int p2), .val (.ref b32), .val (.ref b37), .val (.long (own_key p1 p2)), .second, .val (.long (own_key p3 p2)), .second, .val (.int (own_aft p1 p2 p3 p2)), .val (.int (own_aft p3 p2 p1 p2))] []))
              refine own_via (fun t k => XS.iconst X51.here hx rfl (hb hby at_122) k) ?_
              show own_G p e below _ (T51.setTop (mkF m 123 #[.val (.int p1), .val (.int p2), .val (.int p3), .val (.int p4), .val (.int p5), .val (.int p3), .val (.int p2), .val (.ref b32), .val (.ref b37), .val (.long (own_key p1 p2)), .second, .val (.long (own_key p3 p2)), .second, .val (.int (own_aft p1 p2 p3 p2)), .val (.int (own_aft p3 p2 p1 p2))] [(.int (1 : Int32))]))
              refine own_via (fun t k => XS.goto X51.here hx rfl (pc0 := 123) (pc' := 127) rfl (hb hby at_123) (by decide) (by decide) k) ?_
              show own_G p e below _ (T51.setTop (mkF m 127 #[.val (.int p1), .val (.int p2), .val (.int p3), .val (.int p4), .val (.int p5), .val (.int p3), .val (.int p2), .val (.ref b32), .val (.ref b37), .val (.long (own_key p1 p2)), .second, .val (.long (own_key p3 p2)), .second, .val (.int (own_aft p1 p2 p3 p2)), .val (.int (own_aft p3 p2 p1 p2))] [(.int (1 : Int32))]))
              obtain ⟨fs, hr, hrun, hended, hW, hsame⟩ := X51.leave (v := some (.int (1 : Int32))) (fun h => by rw [Bd.returns] at h; cases h)
              refine ⟨_, _, retN X51 hx (t := .boolean) Bd.returns (by simp) (hb hby at_127) hr, hrun, hended, _, _, rfl, ?_, ⟨_, rfl⟩, hW, hsame.mono (by decide) (by decide)⟩
              show rm0_Q Z p1 p2 p3 p4 p5 h0 n0 _ T51.heap _
              rw [e51]
              exact ⟨rfl, N51⟩
            · exfalso
              exact c119_59 ((own_cmp _ _ _ _).mp c111_58)
          · skip
            refine own_via (fun t k => XS.ifYes X51.here hx rfl (pc0 := 111) (pc' := 118) rfl (hb hby at_111) rfl ((if0 _ _).trans (flt c111_58).2.2.2) (by decide) (by decide) k) ?_
            show own_G p e below _ (T51.setTop (mkF m 118 #[.val (.int p1), .val (.int p2), .val (.int p3), .val (.int p4), .val (.int p5), .val (.int p3), .val (.int p2), .val (.ref b32), .val (.ref b37), .val (.long (own_key p1 p2)), .second, .val (.long (own_key p3 p2)), .second, .val (.int (own_aft p1 p2 p3 p2)), .val (.int (own_aft p3 p2 p1 p2))] [(.int (own_aft p3 p2 p1 p2))]))
            refine own_via (fun t k => XS.iconst X51.here hx rfl (hb hby at_118) k) ?_
            show own_G p e below _ (T51.setTop (mkF m 119 #[.val (.int p1), .val (.int p2), .val (.int p3), .val (.int p4), .val (.int p5), .val (.int p3), .val (.int p2), .val (.ref b32), .val (.ref b37), .val (.long (own_key p1 p2)), .second, .val (.long (own_key p3 p2)), .second, .val (.int (own_aft p1 p2 p3 p2)), .val (.int (own_aft p3 p2 p1 p2))] [(.int (0 : Int32)), (.int (own_aft p3 p2 p1 p2))]))
            by_cases c119_60 : (own_aft p3 p2 p1 p2) = (0 : Int32)
            · skip
              refine own_via (fun t k => XS.icmpNo X51.here hx rfl (hb hby at_119) rfl (teq c119_60).2 k) ?_
              show own_G p e below _ (T51.setTop (mkF m 122 #[.val (.int p1), .val (.int p2), .val (.int p3), .val (.int p4), .val (.int p5), .val (.int p3), .val (.int p2), .val (.ref b32), .val (.ref b37), .val (.long (own_key p1 p2)), .second, .val (.long (own_key p3 p2)), .second, .val (.int (own_aft p1 p2 p3 p2)), .val (.int (own_aft p3 p2 p1 p2))] []))
              refine own_via (fun t k => XS.iconst X51.here hx rfl (hb hby at_122) k) ?_
              show own_G p e below _ (T51.setTop (mkF m 123 #[.val (.int p1), .val (.int p2), .val (.int p3), .val (.int p4), .val (.int p5), .val (.int p3), .val (.int p2), .val (.ref b32), .val (.ref b37), .val (.long (own_key p1 p2)), .second, .val (.long (own_key p3 p2)), .second, .val (.int (own_aft p1 p2 p3 p2)), .val (.int (own_aft p3 p2 p1 p2))] [(.int (1 : Int32))]))
              refine own_via (fun t k => XS.goto X51.here hx rfl (pc0 := 123) (pc' := 127) rfl (hb hby at_123) (by decide) (by decide) k) ?_
              show own_G p e below _ (T51.setTop (mkF m 127 #[.val (.int p1), .val (.int p2), .val (.int p3), .val (.int p4), .val (.int p5), .val (.int p3), .val (.int p2), .val (.ref b32), .val (.ref b37), .val (.long (own_key p1 p2)), .second, .val (.long (own_key p3 p2)), .second, .val (.int (own_aft p1 p2 p3 p2)), .val (.int (own_aft p3 p2 p1 p2))] [(.int (1 : Int32))]))
              obtain ⟨fs, hr, hrun, hended, hW, hsame⟩ := X51.leave (v := some (.int (1 : Int32))) (fun h => by rw [Bd.returns] at h; cases h)
              refine ⟨_, _, retN X51 hx (t := .boolean) Bd.returns (by simp) (hb hby at_127) hr, hrun, hended, _, _, rfl, ?_, ⟨_, rfl⟩, hW, hsame.mono (by decide) (by decide)⟩
              show rm0_Q Z p1 p2 p3 p4 p5 h0 n0 _ T51.heap _
              rw [e51]
              exact ⟨rfl, N51⟩
            · exfalso
              exact c119_60 (own_aft01 _ _ _ _ fun k => c111_58 ((own_cmp _ _ _ _).mpr k))
        · exfalso
          exact c101_57 (own_aft01 _ _ _ _ fun k => c93_52 ((own_cmp _ _ _ _).mpr k))
  · skip
    refine own_via (fun t k => XS.ifNo X0.here hx rfl (hb hby at_4) rfl ((if0 _ _).trans (feq c4_1).1) k) ?_
    show own_G p e below _ (s₁.setTop (mkF m 7 #[.val (.int p1), .val (.int p2), .val (.int p3), .val (.int p4), .val (.int p5), .unset, .unset, .unset, .unset, .unset, .unset, .unset, .unset, .unset, .unset] []))
    refine own_via (fun t k => XS.iloadN X0.here hx rfl (hb hby at_7) rfl k) ?_
    show own_G p e below _ (s₁.setTop (mkF m 8 #[.val (.int p1), .val (.int p2), .val (.int p3), .val (.int p4), .val (.int p5), .unset, .unset, .unset, .unset, .unset, .unset, .unset, .unset, .unset, .unset] [(.int p1)]))
    refine own_via (fun t k => XS.goto X0.here hx rfl (pc0 := 8) (pc' := 12) rfl (hb hby at_8) (by decide) (by decide) k) ?_
    show own_G p e below _ (s₁.setTop (mkF m 12 #[.val (.int p1), .val (.int p2), .val (.int p3), .val (.int p4), .val (.int p5), .unset, .unset, .unset, .unset, .unset, .unset, .unset, .unset, .unset, .unset] [(.int p1)]))
    refine own_via (fun t k => XS.istore X0.here hx rfl (hb hby at_12) rfl (l' := #[.val (.int p1), .val (.int p2), .val (.int p3), .val (.int p4), .val (.int p5), .val (.int p1), .unset, .unset, .unset, .unset, .unset, .unset, .unset, .unset, .unset]) rfl k) ?_
    show own_G p e below _ (s₁.setTop (mkF m 14 #[.val (.int p1), .val (.int p2), .val (.int p3), .val (.int p4), .val (.int p5), .val (.int p1), .unset, .unset, .unset, .unset, .unset, .unset, .unset, .unset, .unset] []))
    refine own_via (fun t k => XS.iload X0.here hx rfl (hb hby at_14) rfl k) ?_
    show own_G p e below _ (s₁.setTop (mkF m 16 #[.val (.int p1), .val (.int p2), .val (.int p3), .val (.int p4), .val (.int p5), .val (.int p1), .unset, .unset, .unset, .unset, .unset, .unset, .unset, .unset, .unset] [(.int p5)]))
    refine own_via (fun t k => XS.iconst X0.here hx rfl (hb hby at_16) k) ?_
    show own_G p e below _ (s₁.setTop (mkF m 17 #[.val (.int p1), .val (.int p2), .val (.int p3), .val (.int p4), .val (.int p5), .val (.int p1), .unset, .unset, .unset, .unset, .unset, .unset, .unset, .unset, .unset] [(.int (2 : Int32)), (.int p5)]))
    refine own_via (fun t k => XS.iand X0.here hx rfl (hb hby at_17) rfl k) ?_
    show own_G p e below _ (s₁.setTop (mkF m 18 #[.val (.int p1), .val (.int p2), .val (.int p3), .val (.int p4), .val (.int p5), .val (.int p1), .unset, .unset, .unset, .unset, .unset, .unset, .unset, .unset, .unset] [(.int (p5 &&& (2 : Int32)))]))
    by_cases c18_61 : (p5 &&& (2 : Int32)) = (0 : Int32)
    · skip
      refine own_via (fun t k => XS.ifYes X0.here hx rfl (pc0 := 18) (pc' := 25) rfl (hb hby at_18) rfl ((if0 _ _).trans (teq c18_61).1) (by decide) (by decide) k) ?_
      show own_G p e below _ (s₁.setTop (mkF m 25 #[.val (.int p1), .val (.int p2), .val (.int p3), .val (.int p4), .val (.int p5), .val (.int p1), .unset, .unset, .unset, .unset, .unset, .unset, .unset, .unset, .unset] []))
      refine own_via (fun t k => XS.iloadN X0.here hx rfl (hb hby at_25) rfl k) ?_
      show own_G p e below _ (s₁.setTop (mkF m 26 #[.val (.int p1), .val (.int p2), .val (.int p3), .val (.int p4), .val (.int p5), .val (.int p1), .unset, .unset, .unset, .unset, .unset, .unset, .unset, .unset, .unset] [(.int p4)]))
      refine own_via (fun t k => XS.istore X0.here hx rfl (hb hby at_26) rfl (l' := #[.val (.int p1), .val (.int p2), .val (.int p3), .val (.int p4), .val (.int p5), .val (.int p1), .val (.int p4), .unset, .unset, .unset, .unset, .unset, .unset, .unset, .unset]) rfl k) ?_
      show own_G p e below _ (s₁.setTop (mkF m 28 #[.val (.int p1), .val (.int p2), .val (.int p3), .val (.int p4), .val (.int p5), .val (.int p1), .val (.int p4), .unset, .unset, .unset, .unset, .unset, .unset, .unset, .unset] []))
      obtain ⟨T62, h62, X62, e62, E62, A62, D62, -, st62⟩ := newO X0 hx hZ hown (hw _ (List.mem_of_getElem? (i := 0) rfl)) (hw _ (List.mem_of_getElem? (i := 1) rfl)) (hw _ (List.mem_of_getElem? (i := 2) rfl)) e0 (g := (mkF m 28 #[.val (.int p1), .val (.int p2), .val (.int p3), .val (.int p4), .val (.int p5), .val (.int p1), .val (.int p4), .unset, .unset, .unset, .unset, .unset, .unset, .unset, .unset] [])) rfl (hb hby at_28) (by decide) (by decide)
      obtain ⟨b62, g62⟩ : ∃ z, z = h0.size := ⟨_, rfl⟩
      rw [← g62] at A62 D62 st62
      have gx_b62 : n0 ≤ b62 := Nat.le_trans Z0 (Nat.le_of_eq g62.symm)
      have Z62 : n0 ≤ h62.size := Nat.le_trans Z0 E62.1
      have F62_line : Fld Z h62 b62 "com/example/meridial/meridial/adql/Position" "line" "I" (.int (0 : Int32)) := D62 (Or.inr (hw _ (List.mem_of_getElem? (i := 10) rfl))) (ty := .int) (by decide)
      have F62_column : Fld Z h62 b62 "com/example/meridial/meridial/adql/Position" "column" "I" (.int (0 : Int32)) := D62 (Or.inr (hw _ (List.mem_of_getElem? (i := 12) rfl))) (ty := .int) (by decide)
      refine own_via st62 ?_
      show own_G p e below _ (T62.setTop (mkF m 31 #[.val (.int p1), .val (.int p2), .val (.int p3), .val (.int p4), .val (.int p5), .val (.int p1), .val (.int p4), .unset, .unset, .unset, .unset, .unset, .unset, .unset, .unset] [(.ref b62)]))
      refine own_via (fun t k => XS.dup X62.here hx rfl (hb hby at_31) rfl rfl k) ?_
      show own_G p e below _ (T62.setTop (mkF m 32 #[.val (.int p1), .val (.int p2), .val (.int p3), .val (.int p4), .val (.int p5), .val (.int p1), .val (.int p4), .unset, .unset, .unset, .unset, .unset, .unset, .unset, .unset] [(.ref b62), (.ref b62)]))
      refine own_via (fun t k => XS.iloadN X62.here hx rfl (hb hby at_32) rfl k) ?_
      show own_G p e below _ (T62.setTop (mkF m 33 #[.val (.int p1), .val (.int p2), .val (.int p3), .val (.int p4), .val (.int p5), .val (.int p1), .val (.int p4), .unset, .unset, .unset, .unset, .unset, .unset, .unset, .unset] [(.int p1), (.ref b62), (.ref b62)]))
      refine own_via (fun t k => XS.iloadN X62.here hx rfl (hb hby at_33) rfl k) ?_
      show own_G p e below _ (T62.setTop (mkF m 34 #[.val (.int p1), .val (.int p2), .val (.int p3), .val (.int p4), .val (.int p5), .val (.int p1), .val (.int p4), .unset, .unset, .unset, .unset, .unset, .unset, .unset, .unset] [(.int p2), (.int p1), (.ref b62), (.ref b62)]))
      obtain ⟨_, _, ⟨T63, L63, k63, n63⟩, -, X63, ⟨Lc63, hQ63, l63, y63, z63⟩, st63⟩ := X62.specialBack hx (y := (⟨"com/example/meridial/meridial/adql/Position", "<init>", "(II)V"⟩ : MethodName)) rfl hown (mvT hZ (hw _ (List.mem_of_getElem? (i := 3) rfl))) (mvT hZ (hw _ (List.mem_of_getElem? (i := 4) rfl))) (mvT hZ (hw _ (List.mem_of_getElem? (i := 5) rfl))) (by decide) (backOf (W := 1) (rm1 l Z a0 hw [] b62 p1 p2 h62 n0 Z62 A62 F62_line F62_column gx_b62) hZ (hw _ (List.mem_of_getElem? (i := 5) rfl)) (hw _ (List.mem_of_getElem? (i := 2) rfl)) (by decide) (by decide)) (g := (mkF m 34 #[.val (.int p1), .val (.int p2), .val (.int p3), .val (.int p4), .val (.int p5), .val (.int p1), .val (.int p4), .unset, .unset, .unset, .unset, .unset, .unset, .unset, .unset] [(.int p2), (.int p1), (.ref b62), (.ref b62)])) rfl (by rw [hml]; rfl) (Steps.refl _) (a := b62) (argsL := [(.int p1), (.int p2)]) (rest := [(.ref b62)]) (lenOf pd_rm0_0 rfl) rfl (by show 2 * 0 + _ ≤ _; exact Nat.le_of_eq rfl) (hb hby at_34) (fun _ _ => ⟨rfl, e62, (by decide : 1 + 0 ≤ _), (by decide : 2 + 0 ≤ _)⟩)
      dsimp only [Pt.U, Pt.locs, Pt.cells, Pt.slots] at X63 l63 y63 z63 st63 hQ63
      subst l63 y63 z63
      obtain ⟨rfl, N63q, K63, E63q, Fl63, Fc63⟩ := hQ63
      have N63 := Fr.app N0 N63q
      have F64 := A62.keep K63
      have Z63 : n0 ≤ T63.heap.size := Nat.le_trans Z62 K63.1
      refine own_via (fun t k => st63.trans k) ?_
      show own_G p e below _ (T63.setTop (mkF m 37 #[.val (.int p1), .val (.int p2), .val (.int p3), .val (.int p4), .val (.int p5), .val (.int p1), .val (.int p4), .unset, .unset, .unset, .unset, .unset, .unset, .unset, .unset] [(.ref b62)]))
      refine own_via (fun t k => XS.astore X63.here hx rfl (hb hby at_37) rfl rfl (l' := #[.val (.int p1), .val (.int p2), .val (.int p3), .val (.int p4), .val (.int p5), .val (.int p1), .val (.int p4), .val (.ref b62), .unset, .unset, .unset, .unset, .unset, .unset, .unset]) rfl k) ?_
      show own_G p e below _ (T63.setTop (mkF m 39 #[.val (.int p1), .val (.int p2), .val (.int p3), .val (.int p4), .val (.int p5), .val (.int p1), .val (.int p4), .val (.ref b62), .unset, .unset, .unset, .unset, .unset, .unset, .unset] []))
      obtain ⟨T67, h67, X67, e67, E67, A67, D67, -, st67⟩ := newO X63 hx hZ hown (hw _ (List.mem_of_getElem? (i := 0) rfl)) (hw _ (List.mem_of_getElem? (i := 1) rfl)) (hw _ (List.mem_of_getElem? (i := 2) rfl)) rfl (g := (mkF m 39 #[.val (.int p1), .val (.int p2), .val (.int p3), .val (.int p4), .val (.int p5), .val (.int p1), .val (.int p4), .val (.ref b62), .unset, .unset, .unset, .unset, .unset, .unset, .unset] [])) rfl (hb hby at_39) (by decide) (by decide)
      obtain ⟨b67, g67⟩ : ∃ z, z = T63.heap.size := ⟨_, rfl⟩
      rw [← g67] at A67 D67 st67
      have gx_b67 : n0 ≤ b67 := Nat.le_trans Z63 (Nat.le_of_eq g67.symm)
      have Z67 : n0 ≤ h67.size := Nat.le_trans Z63 E67.1
      have ne_b62_b67 : b62 ≠ b67 := Nat.ne_of_lt (Nat.lt_of_lt_of_le E63q.lt (Nat.le_of_eq g67.symm))
      have F68 := E63q.ext E67
      have F69 := Fl63.ext E67
      have F70 := Fc63.ext E67
      have F67_line : Fld Z h67 b67 "com/example/meridial/meridial/adql/Position" "line" "I" (.int (0 : Int32)) := D67 (Or.inr (hw _ (List.mem_of_getElem? (i := 10) rfl))) (ty := .int) (by decide)
      have F67_column : Fld Z h67 b67 "com/example/meridial/meridial/adql/Position" "column" "I" (.int (0 : Int32)) := D67 (Or.inr (hw _ (List.mem_of_getElem? (i := 12) rfl))) (ty := .int) (by decide)
      refine own_via st67 ?_
      show own_G p e below _ (T67.setTop (mkF m 42 #[.val (.int p1), .val (.int p2), .val (.int p3), .val (.int p4), .val (.int p5), .val (.int p1), .val (.int p4), .val (.ref b62), .unset, .unset, .unset, .unset, .unset, .unset, .unset] [(.ref b67)]))
      refine own_via (fun t k => XS.dup X67.here hx rfl (hb hby at_42) rfl rfl k) ?_
      show own_G p e below _ (T67.setTop (mkF m 43 #[.val (.int p1), .val (.int p2), .val (.int p3), .val (.int p4), .val (.int p5), .val (.int p1), .val (.int p4), .val (.ref b62), .unset, .unset, .unset, .unset, .unset, .unset, .unset] [(.ref b67), (.ref b67)]))
      refine own_via (fun t k => XS.iload X67.here hx rfl (hb hby at_43) rfl k) ?_
      show own_G p e below _ (T67.setTop (mkF m 45 #[.val (.int p1), .val (.int p2), .val (.int p3), .val (.int p4), .val (.int p5), .val (.int p1), .val (.int p4), .val (.ref b62), .unset, .unset, .unset, .unset, .unset, .unset, .unset] [(.int p1), (.ref b67), (.ref b67)]))
      refine own_via (fun t k => XS.iload X67.here hx rfl (hb hby at_45) rfl k) ?_
      show own_G p e below _ (T67.setTop (mkF m 47 #[.val (.int p1), .val (.int p2), .val (.int p3), .val (.int p4), .val (.int p5), .val (.int p1), .val (.int p4), .val (.ref b62), .unset, .unset, .unset, .unset, .unset, .unset, .unset] [(.int p4), (.int p1), (.ref b67), (.ref b67)]))
      obtain ⟨_, _, ⟨T71, L71, k71, n71⟩, -, X71, ⟨Lc71, hQ71, l71, y71, z71⟩, st71⟩ := X67.specialBack hx (y := (⟨"com/example/meridial/meridial/adql/Position", "<init>", "(II)V"⟩ : MethodName)) rfl hown (mvT hZ (hw _ (List.mem_of_getElem? (i := 3) rfl))) (mvT hZ (hw _ (List.mem_of_getElem? (i := 4) rfl))) (mvT hZ (hw _ (List.mem_of_getElem? (i := 5) rfl))) (by decide) (backOf (W := 1) (rm1 l Z a0 hw [] b67 p1 p4 h67 n0 Z67 A67 F67_line F67_column gx_b67) hZ (hw _ (List.mem_of_getElem? (i := 5) rfl)) (hw _ (List.mem_of_getElem? (i := 2) rfl)) (by decide) (by decide)) (g := (mkF m 47 #[.val (.int p1), .val (.int p2), .val (.int p3), .val (.int p4), .val (.int p5), .val (.int p1), .val (.int p4), .val (.ref b62), .unset, .unset, .unset, .unset, .unset, .unset, .unset] [(.int p4), (.int p1), (.ref b67), (.ref b67)])) rfl (by rw [hml]; rfl) (Steps.refl _) (a := b67) (argsL := [(.int p1), (.int p4)]) (rest := [(.ref b67)]) (lenOf pd_rm0_0 rfl) rfl (by show 2 * 0 + _ ≤ _; exact Nat.le_of_eq rfl) (hb hby at_47) (fun _ _ => ⟨rfl, e67, (by decide : 2 + 0 ≤ _), (by decide : 4 + 0 ≤ _)⟩)
      dsimp only [Pt.U, Pt.locs, Pt.cells, Pt.slots] at X71 l71 y71 z71 st71 hQ71
      subst l71 y71 z71
      obtain ⟨rfl, N71q, K71, E71q, Fl71, Fc71⟩ := hQ71
      have N71 := Fr.app N63 N71q
      have F72 := F68.keep K71
      have F73 := F69.keep K71 (ninS ne_b62_b67 nin0)
      have F74 := F70.keep K71 (ninS ne_b62_b67 nin0)
      have F75 := A67.keep K71
      have Z71 : n0 ≤ T71.heap.size := Nat.le_trans Z67 K71.1
      refine own_via (fun t k => st71.trans k) ?_
      show own_G p e below _ (T71.setTop (mkF m 50 #[.val (.int p1), .val (.int p2), .val (.int p3), .val (.int p4), .val (.int p5), .val (.int p1), .val (.int p4), .val (.ref b62), .unset, .unset, .unset, .unset, .unset, .unset, .unset] [(.ref b67)]))
      refine own_via (fun t k => XS.astore X71.here hx rfl (hb hby at_50) rfl rfl (l' := #[.val (.int p1), .val (.int p2), .val (.int p3), .val (.int p4), .val (.int p5), .val (.int p1), .val (.int p4), .val (.ref b62), .val (.ref b67), .unset, .unset, .unset, .unset, .unset, .unset]) rfl k) ?_
      show own_G p e below _ (T71.setTop (mkF m 52 #[.val (.int p1), .val (.int p2), .val (.int p3), .val (.int p4), .val (.int p5), .val (.int p1), .val (.int p4), .val (.ref b62), .val (.ref b67), .unset, .unset, .unset, .unset, .unset, .unset] []))
      refine own_via (fun t k => XS.iloadN X71.here hx rfl (hb hby at_52) rfl k) ?_
      show own_G p e below _ (T71.setTop (mkF m 53 #[.val (.int p1), .val (.int p2), .val (.int p3), .val (.int p4), .val (.int p5), .val (.int p1), .val (.int p4), .val (.ref b62), .val (.ref b67), .unset, .unset, .unset, .unset, .unset, .unset] [(.int p1)]))
      refine own_via (fun t k => XS.iloadN X71.here hx rfl (hb hby at_53) rfl k) ?_
      show own_G p e below _ (T71.setTop (mkF m 54 #[.val (.int p1), .val (.int p2), .val (.int p3), .val (.int p4), .val (.int p5), .val (.int p1), .val (.int p4), .val (.ref b62), .val (.ref b67), .unset, .unset, .unset, .unset, .unset, .unset] [(.int p2), (.int p1)]))
      obtain ⟨_, _, ⟨T78, L78, k78, n78⟩, -, X78, ⟨Lc78, hQ78, l78, y78, z78⟩, st78⟩ := Jvm.LawKit.callS X71 hx (y := (⟨"com/example/meridial/meridial/adql/PositionIsAfterPinLaw", "key", "(II)J"⟩ : MethodName)) hown (mvT hZ (hw _ (List.mem_of_getElem? (i := 13) rfl))) (mvT hZ (hw _ (List.mem_of_getElem? (i := 14) rfl))) (mvT hZ (hw _ (List.mem_of_getElem? (i := 15) rfl))) (mvT hZ (hw _ (List.mem_of_getElem? (i := 16) rfl))) (by decide) (backOf (W := 0) (rm3 l Z a0 hw [] p1 p2  T71.heap n0 Z71 ) hZ (hw _ (List.mem_of_getElem? (i := 16) rfl)) (hw _ (List.mem_of_getElem? (i := 15) rfl)) (by decide) (by decide)) (g := (mkF m 54 #[.val (.int p1), .val (.int p2), .val (.int p3), .val (.int p4), .val (.int p5), .val (.int p1), .val (.int p4), .val (.ref b62), .val (.ref b67), .unset, .unset, .unset, .unset, .unset, .unset] [(.int p2), (.int p1)])) rfl (by rw [hml]; rfl) (argsL := [(.int p1), (.int p2)]) (rest := []) (lenOf pd_rm0_1 rfl) rfl (by show 2 * 0 + _ ≤ _; exact Nat.le_of_eq rfl) (hb hby at_54) (fun _ _ => ⟨rfl, rfl, (by decide : 2 + 0 ≤ _), (by decide : 4 + 0 ≤ _)⟩)
      dsimp only [Pt.U, Pt.locs, Pt.cells, Pt.slots] at X78 l78 y78 z78 st78 hQ78
      subst l78 y78 z78
      obtain ⟨rfl, N78q, e78⟩ := hQ78
      have N78 := Fr.app N71 N78q
      refine own_via st78 ?_
      show own_G p e below _ (T78.setTop (mkF m 57 #[.val (.int p1), .val (.int p2), .val (.int p3), .val (.int p4), .val (.int p5), .val (.int p1), .val (.int p4), .val (.ref b62), .val (.ref b67), .unset, .unset, .unset, .unset, .unset, .unset] [(.long (own_key p1 p2))]))
      refine own_via (fun t k => XS.lstore X78.here hx rfl (hb hby at_57) rfl (l' := #[.val (.int p1), .val (.int p2), .val (.int p3), .val (.int p4), .val (.int p5), .val (.int p1), .val (.int p4), .val (.ref b62), .val (.ref b67), .val (.long (own_key p1 p2)), .second, .unset, .unset, .unset, .unset]) rfl k) ?_
      show own_G p e below _ (T78.setTop (mkF m 59 #[.val (.int p1), .val (.int p2), .val (.int p3), .val (.int p4), .val (.int p5), .val (.int p1), .val (.int p4), .val (.ref b62), .val (.ref b67), .val (.long (own_key p1 p2)), .second, .unset, .unset, .unset, .unset] []))
      refine own_via (fun t k => XS.iload X78.here hx rfl (hb hby at_59) rfl k) ?_
      show own_G p e below _ (T78.setTop (mkF m 61 #[.val (.int p1), .val (.int p2), .val (.int p3), .val (.int p4), .val (.int p5), .val (.int p1), .val (.int p4), .val (.ref b62), .val (.ref b67), .val (.long (own_key p1 p2)), .second, .unset, .unset, .unset, .unset] [(.int p1)]))
      refine own_via (fun t k => XS.iload X78.here hx rfl (hb hby at_61) rfl k) ?_
      show own_G p e below _ (T78.setTop (mkF m 63 #[.val (.int p1), .val (.int p2), .val (.int p3), .val (.int p4), .val (.int p5), .val (.int p1), .val (.int p4), .val (.ref b62), .val (.ref b67), .val (.long (own_key p1 p2)), .second, .unset, .unset, .unset, .unset] [(.int p4), (.int p1)]))
      obtain ⟨_, _, ⟨T79, L79, k79, n79⟩, -, X79, ⟨Lc79, hQ79, l79, y79, z79⟩, st79⟩ := Jvm.LawKit.callS X78 hx (y := (⟨"com/example/meridial/meridial/adql/PositionIsAfterPinLaw", "key", "(II)J"⟩ : MethodName)) hown (mvT hZ (hw _ (List.mem_of_getElem? (i := 13) rfl))) (mvT hZ (hw _ (List.mem_of_getElem? (i := 14) rfl))) (mvT hZ (hw _ (List.mem_of_getElem? (i := 15) rfl))) (mvT hZ (hw _ (List.mem_of_getElem? (i := 16) rfl))) (by decide) (backOf (W := 0) (rm3 l Z a0 hw [] p1 p4  T71.heap n0 Z71 ) hZ (hw _ (List.mem_of_getElem? (i := 16) rfl)) (hw _ (List.mem_of_getElem? (i := 15) rfl)) (by decide) (by decide)) (g := (mkF m 63 #[.val (.int p1), .val (.int p2), .val (.int p3), .val (.int p4), .val (.int p5), .val (.int p1), .val (.int p4), .val (.ref b62), .val (.ref b67), .val (.long (own_key p1 p2)), .second, .unset, .unset, .unset, .unset] [(.int p4), (.int p1)])) rfl (by rw [hml]; rfl) (argsL := [(.int p1), (.int p4)]) (rest := []) (lenOf pd_rm0_1 rfl) rfl (by show 2 * 0 + _ ≤ _; exact Nat.le_of_eq rfl) (hb hby at_63) (fun _ _ => ⟨rfl, e78, (by decide : 2 + 0 ≤ _), (by decide : 4 + 0 ≤ _)⟩)
      dsimp only [Pt.U, Pt.locs, Pt.cells, Pt.slots] at X79 l79 y79 z79 st79 hQ79
      subst l79 y79 z79
      obtain ⟨rfl, N79q, e79⟩ := hQ79
      have N79 := Fr.app N78 N79q
      refine own_via st79 ?_
      show own_G p e below _ (T79.setTop (mkF m 66 #[.val (.int p1), .val (.int p2), .val (.int p3), .val (.int p4), .val (.int p5), .val (.int p1), .val (.int p4), .val (.ref b62), .val (.ref b67), .val (.long (own_key p1 p2)), .second, .unset, .unset, .unset, .unset] [(.long (own_key p1 p4))]))
      refine own_via (fun t k => XS.lstore X79.here hx rfl (hb hby at_66) rfl (l' := #[.val (.int p1), .val (.int p2), .val (.int p3), .val (.int p4), .val (.int p5), .val (.int p1), .val (.int p4), .val (.ref b62), .val (.ref b67), .val (.long (own_key p1 p2)), .second, .val (.long (own_key p1 p4)), .second, .unset, .unset]) rfl k) ?_
      show own_G p e below _ (T79.setTop (mkF m 68 #[.val (.int p1), .val (.int p2), .val (.int p3), .val (.int p4), .val (.int p5), .val (.int p1), .val (.int p4), .val (.ref b62), .val (.ref b67), .val (.long (own_key p1 p2)), .second, .val (.long (own_key p1 p4)), .second, .unset, .unset] []))
      refine own_via (fun t k => XS.aload X79.here hx rfl (hb hby at_68) rfl rfl k) ?_
      show own_G p e below _ (T79.setTop (mkF m 70 #[.val (.int p1), .val (.int p2), .val (.int p3), .val (.int p4), .val (.int p5), .val (.int p1), .val (.int p4), .val (.ref b62), .val (.ref b67), .val (.long (own_key p1 p2)), .second, .val (.long (own_key p1 p4)), .second, .unset, .unset] [(.ref b62)]))
      refine own_via (fun t k => XS.aload X79.here hx rfl (hb hby at_70) rfl rfl k) ?_
      show own_G p e below _ (T79.setTop (mkF m 72 #[.val (.int p1), .val (.int p2), .val (.int p3), .val (.int p4), .val (.int p5), .val (.int p1), .val (.int p4), .val (.ref b62), .val (.ref b67), .val (.long (own_key p1 p2)), .second, .val (.long (own_key p1 p4)), .second, .unset, .unset] [(.ref b67), (.ref b62)]))
      obtain ⟨cq80, kq80, q80a, q80b, q80c⟩ := isOf hZ e79 F72
      obtain ⟨_, _, ⟨T80, L80, k80, n80⟩, -, X80, ⟨Lc80, hQ80, l80, y80, z80⟩, st80⟩ := X79.virtualBack hx (y := (⟨"com/example/meridial/meridial/adql/Position", "isAfter", "(Lcom/example/meridial/meridial/adql/Position;)Z"⟩ : MethodName)) (z := (⟨"com/example/meridial/meridial/adql/Position", "isAfter", "(Lcom/example/meridial/meridial/adql/Position;)Z"⟩ : MethodName)) hown (mvT hZ (hw _ (List.mem_of_getElem? (i := 19) rfl))) (mvT hZ (hw _ (List.mem_of_getElem? (i := 20) rfl))) (notFace_of_selects (args := #[]) (mvT hZ (hw _ (List.mem_of_getElem? (i := 22) rfl)))) (mvT hZ (hw _ (List.mem_of_getElem? (i := 22) rfl))) (mvT hZ (hw _ (List.mem_of_getElem? (i := 21) rfl))) (by decide) (backOf (W := 0) (rm4 l Z a0 hw [] b62 b67 p1 p2 p1 p4 T71.heap n0 Z71 F73 F74 Fl71 Fc71) hZ (hw _ (List.mem_of_getElem? (i := 23) rfl)) (hw _ (List.mem_of_getElem? (i := 2) rfl)) (by decide) (by decide)) q80a q80c (g := (mkF m 72 #[.val (.int p1), .val (.int p2), .val (.int p3), .val (.int p4), .val (.int p5), .val (.int p1), .val (.int p4), .val (.ref b62), .val (.ref b67), .val (.long (own_key p1 p2)), .second, .val (.long (own_key p1 p4)), .second, .unset, .unset] [(.ref b67), (.ref b62)])) rfl (by rw [hml]; rfl) (Steps.refl _) (argsL := [(.ref b67)]) (rest := []) (lenOf pd_rm0_2 rfl) rfl (by show 2 * 0 + _ ≤ _; exact Nat.le_of_eq rfl) (hb hby at_72) (fun _ _ => ⟨rfl, e79, (by decide : 2 + 0 ≤ _), (by decide : 4 + 0 ≤ _)⟩)
      dsimp only [Pt.U, Pt.locs, Pt.cells, Pt.slots] at X80 l80 y80 z80 st80 hQ80
      subst l80 y80 z80
      obtain ⟨rfl, N80q, e80⟩ := hQ80
      have N80 := Fr.app N79 N80q
      refine own_via (fun t k => st80.trans k) ?_
      show own_G p e below _ (T80.setTop (mkF m 75 #[.val (.int p1), .val (.int p2), .val (.int p3), .val (.int p4), .val (.int p5), .val (.int p1), .val (.int p4), .val (.ref b62), .val (.ref b67), .val (.long (own_key p1 p2)), .second, .val (.long (own_key p1 p4)), .second, .unset, .unset] [(.int (own_aft p1 p2 p1 p4))]))
      refine own_via (fun t k => XS.istore X80.here hx rfl (hb hby at_75) rfl (l' := #[.val (.int p1), .val (.int p2), .val (.int p3), .val (.int p4), .val (.int p5), .val (.int p1), .val (.int p4), .val (.ref b62), .val (.ref b67), .val (.long (own_key p1 p2)), .second, .val (.long (own_key p1 p4)), .second, .val (.int (own_aft p1 p2 p1 p4)), .unset]) rfl k) ?_
      show own_G p e below _ (T80.setTop (mkF m 77 #[.val (.int p1), .val (.int p2), .val (.int p3), .val (.int p4), .val (.int p5), .val (.int p1), .val (.int p4), .val (.ref b62), .val (.ref b67), .val (.long (own_key p1 p2)), .second, .val (.long (own_key p1 p4)), .second, .val (.int (own_aft p1 p2 p1 p4)), .unset] []))
      refine own_via (fun t k => XS.aload X80.here hx rfl (hb hby at_77) rfl rfl k) ?_
      show own_G p e below _ (T80.setTop (mkF m 79 #[.val (.int p1), .val (.int p2), .val (.int p3), .val (.int p4), .val (.int p5), .val (.int p1), .val (.int p4), .val (.ref b62), .val (.ref b67), .val (.long (own_key p1 p2)), .second, .val (.long (own_key p1 p4)), .second, .val (.int (own_aft p1 p2 p1 p4)), .unset] [(.ref b67)]))
      refine own_via (fun t k => XS.aload X80.here hx rfl (hb hby at_79) rfl rfl k) ?_
      show own_G p e below _ (T80.setTop (mkF m 81 #[.val (.int p1), .val (.int p2), .val (.int p3), .val (.int p4), .val (.int p5), .val (.int p1), .val (.int p4), .val (.ref b62), .val (.ref b67), .val (.long (own_key p1 p2)), .second, .val (.long (own_key p1 p4)), .second, .val (.int (own_aft p1 p2 p1 p4)), .unset] [(.ref b62), (.ref b67)]))
      obtain ⟨cq81, kq81, q81a, q81b, q81c⟩ := isOf hZ e80 E71q
      obtain ⟨_, _, ⟨T81, L81, k81, n81⟩, -, X81, ⟨Lc81, hQ81, l81, y81, z81⟩, st81⟩ := X80.virtualBack hx (y := (⟨"com/example/meridial/meridial/adql/Position", "isAfter", "(Lcom/example/meridial/meridial/adql/Position;)Z"⟩ : MethodName)) (z := (⟨"com/example/meridial/meridial/adql/Position", "isAfter", "(Lcom/example/meridial/meridial/adql/Position;)Z"⟩ : MethodName)) hown (mvT hZ (hw _ (List.mem_of_getElem? (i := 19) rfl))) (mvT hZ (hw _ (List.mem_of_getElem? (i := 20) rfl))) (notFace_of_selects (args := #[]) (mvT hZ (hw _ (List.mem_of_getElem? (i := 22) rfl)))) (mvT hZ (hw _ (List.mem_of_getElem? (i := 22) rfl))) (mvT hZ (hw _ (List.mem_of_getElem? (i := 21) rfl))) (by decide) (backOf (W := 0) (rm4 l Z a0 hw [] b67 b62 p1 p4 p1 p2 T71.heap n0 Z71 Fl71 Fc71 F73 F74) hZ (hw _ (List.mem_of_getElem? (i := 23) rfl)) (hw _ (List.mem_of_getElem? (i := 2) rfl)) (by decide) (by decide)) q81a q81c (g := (mkF m 81 #[.val (.int p1), .val (.int p2), .val (.int p3), .val (.int p4), .val (.int p5), .val (.int p1), .val (.int p4), .val (.ref b62), .val (.ref b67), .val (.long (own_key p1 p2)), .second, .val (.long (own_key p1 p4)), .second, .val (.int (own_aft p1 p2 p1 p4)), .unset] [(.ref b62), (.ref b67)])) rfl (by rw [hml]; rfl) (Steps.refl _) (argsL := [(.ref b62)]) (rest := []) (lenOf pd_rm0_2 rfl) rfl (by show 2 * 0 + _ ≤ _; exact Nat.le_of_eq rfl) (hb hby at_81) (fun _ _ => ⟨rfl, e80, (by decide : 2 + 0 ≤ _), (by decide : 4 + 0 ≤ _)⟩)
      dsimp only [Pt.U, Pt.locs, Pt.cells, Pt.slots] at X81 l81 y81 z81 st81 hQ81
      subst l81 y81 z81
      obtain ⟨rfl, N81q, e81⟩ := hQ81
      have N81 := Fr.app N80 N81q
      refine own_via (fun t k => st81.trans k) ?_
      show own_G p e below _ (T81.setTop (mkF m 84 #[.val (.int p1), .val (.int p2), .val (.int p3), .val (.int p4), .val (.int p5), .val (.int p1), .val (.int p4), .val (.ref b62), .val (.ref b67), .val (.long (own_key p1 p2)), .second, .val (.long (own_key p1 p4)), .second, .val (.int (own_aft p1 p2 p1 p4)), .unset] [(.int (own_aft p1 p4 p1 p2))]))
      refine own_via (fun t k => XS.istore X81.here hx rfl (hb hby at_84) rfl (l' := #[.val (.int p1), .val (.int p2), .val (.int p3), .val (.int p4), .val (.int p5), .val (.int p1), .val (.int p4), .val (.ref b62), .val (.ref b67), .val (.long (own_key p1 p2)), .second, .val (.long (own_key p1 p4)), .second, .val (.int (own_aft p1 p2 p1 p4)), .val (.int (own_aft p1 p4 p1 p2))]) rfl k) ?_
      show own_G p e below _ (T81.setTop (mkF m 86 #[.val (.int p1), .val (.int p2), .val (.int p3), .val (.int p4), .val (.int p5), .val (.int p1), .val (.int p4), .val (.ref b62), .val (.ref b67), .val (.long (own_key p1 p2)), .second, .val (.long (own_key p1 p4)), .second, .val (.int (own_aft p1 p2 p1 p4)), .val (.int (own_aft p1 p4 p1 p2))] []))
      refine own_via (fun t k => XS.iload X81.here hx rfl (hb hby at_86) rfl k) ?_
      show own_G p e below _ (T81.setTop (mkF m 88 #[.val (.int p1), .val (.int p2), .val (.int p3), .val (.int p4), .val (.int p5), .val (.int p1), .val (.int p4), .val (.ref b62), .val (.ref b67), .val (.long (own_key p1 p2)), .second, .val (.long (own_key p1 p4)), .second, .val (.int (own_aft p1 p2 p1 p4)), .val (.int (own_aft p1 p4 p1 p2))] [(.int (own_aft p1 p2 p1 p4))]))
      refine own_via (fun t k => XS.lload X81.here hx rfl (hb hby at_88) rfl k) ?_
      show own_G p e below _ (T81.setTop (mkF m 90 #[.val (.int p1), .val (.int p2), .val (.int p3), .val (.int p4), .val (.int p5), .val (.int p1), .val (.int p4), .val (.ref b62), .val (.ref b67), .val (.long (own_key p1 p2)), .second, .val (.long (own_key p1 p4)), .second, .val (.int (own_aft p1 p2 p1 p4)), .val (.int (own_aft p1 p4 p1 p2))] [(.long (own_key p1 p2)), (.int (own_aft p1 p2 p1 p4))]))
      refine own_via (fun t k => XS.lload X81.here hx rfl (hb hby at_90) rfl k) ?_
      show own_G p e below _ (T81.setTop (mkF m 92 #[.val (.int p1), .val (.int p2), .val (.int p3), .val (.int p4), .val (.int p5), .val (.int p1), .val (.int p4), .val (.ref b62), .val (.ref b67), .val (.long (own_key p1 p2)), .second, .val (.long (own_key p1 p4)), .second, .val (.int (own_aft p1 p2 p1 p4)), .val (.int (own_aft p1 p4 p1 p2))] [(.long (own_key p1 p4)), (.long (own_key p1 p2)), (.int (own_aft p1 p2 p1 p4))]))
      refine own_via (fun t k => XS.lcmp X81.here hx rfl (hb hby at_92) rfl k) ?_
      show own_G p e below _ (T81.setTop (mkF m 93 #[.val (.int p1), .val (.int p2), .val (.int p3), .val (.int p4), .val (.int p5), .val (.int p1), .val (.int p4), .val (.ref b62), .val (.ref b67), .val (.long (own_key p1 p2)), .second, .val (.long (own_key p1 p4)), .second, .val (.int (own_aft p1 p2 p1 p4)), .val (.int (own_aft p1 p4 p1 p2))] [(.int (lcmpW (own_key p1 p2) (own_key p1 p4))), (.int (own_aft p1 p2 p1 p4))]))
      by_cases c93_82 : (0 : Int32) < (lcmpW (own_key p1 p2) (own_key p1 p4))
      · skip
        refine own_via (fun t k => XS.ifNo X81.here hx rfl (hb hby at_93) rfl ((if0 _ _).trans (tlt c93_82).2.2.2) k) ?_
        show own_G p e below _ (T81.setTop (mkF m 96 #[.val (.int p1), .val (.int p2), .val (.int p3), .val (.int p4), .val (.int p5), .val (.int p1), .val (.int p4), .val (.ref b62), .val (.ref b67), .val (.long (own_key p1 p2)), .second, .val (.long (own_key p1 p4)), .second, .val (.int (own_aft p1 p2 p1 p4)), .val (.int (own_aft p1 p4 p1 p2))] [(.int (own_aft p1 p2 p1 p4))]))
        refine own_via (fun t k => XS.iconst X81.here hx rfl (hb hby at_96) k) ?_
        show own_G p e below _ (T81.setTop (mkF m 97 #[.val (.int p1), .val (.int p2), .val (.int p3), .val (.int p4), .val (.int p5), .val (.int p1), .val (.int p4), .val (.ref b62), .val (.ref b67), .val (.long (own_key p1 p2)), .second, .val (.long (own_key p1 p4)), .second, .val (.int (own_aft p1 p2 p1 p4)), .val (.int (own_aft p1 p4 p1 p2))] [(.int (1 : Int32)), (.int (own_aft p1 p2 p1 p4))]))
        refine own_via (fun t k => XS.goto X81.here hx rfl (pc0 := 97) (pc' := 101) rfl (hb hby at_97) (by decide) (by decide) k) ?_
        show own_G p e below _ (T81.setTop (mkF m 101 #[.val (.int p1), .val (.int p2), .val (.int p3), .val (.int p4), .val (.int p5), .val (.int p1), .val (.int p4), .val (.ref b62), .val (.ref b67), .val (.long (own_key p1 p2)), .second, .val (.long (own_key p1 p4)), .second, .val (.int (own_aft p1 p2 p1 p4)), .val (.int (own_aft p1 p4 p1 p2))] [(.int (1 : Int32)), (.int (own_aft p1 p2 p1 p4))]))
        by_cases c101_83 : (own_aft p1 p2 p1 p4) = (1 : Int32)
        · skip
          refine own_via (fun t k => XS.icmpNo X81.here hx rfl (hb hby at_101) rfl (teq c101_83).2 k) ?_
          show own_G p e below _ (T81.setTop (mkF m 104 #[.val (.int p1), .val (.int p2), .val (.int p3), .val (.int p4), .val (.int p5), .val (.int p1), .val (.int p4), .val (.ref b62), .val (.ref b67), .val (.long (own_key p1 p2)), .second, .val (.long (own_key p1 p4)), .second, .val (.int (own_aft p1 p2 p1 p4)), .val (.int (own_aft p1 p4 p1 p2))] []))
          refine own_via (fun t k => XS.iload X81.here hx rfl (hb hby at_104) rfl k) ?_
          show own_G p e below _ (T81.setTop (mkF m 106 #[.val (.int p1), .val (.int p2), .val (.int p3), .val (.int p4), .val (.int p5), .val (.int p1), .val (.int p4), .val (.ref b62), .val (.ref b67), .val (.long (own_key p1 p2)), .second, .val (.long (own_key p1 p4)), .second, .val (.int (own_aft p1 p2 p1 p4)), .val (.int (own_aft p1 p4 p1 p2))] [(.int (own_aft p1 p4 p1 p2))]))
          refine own_via (fun t k => XS.lload X81.here hx rfl (hb hby at_106) rfl k) ?_
          show own_G p e below _ (T81.setTop (mkF m 108 #[.val (.int p1), .val (.int p2), .val (.int p3), .val (.int p4), .val (.int p5), .val (.int p1), .val (.int p4), .val (.ref b62), .val (.ref b67), .val (.long (own_key p1 p2)), .second, .val (.long (own_key p1 p4)), .second, .val (.int (own_aft p1 p2 p1 p4)), .val (.int (own_aft p1 p4 p1 p2))] [(.long (own_key p1 p4)), (.int (own_aft p1 p4 p1 p2))]))
          refine own_via (fun t k => XS.lload X81.here hx rfl (hb hby at_108) rfl k) ?_
          show own_G p e below _ (T81.setTop (mkF m 110 #[.val (.int p1), .val (.int p2), .val (.int p3), .val (.int p4), .val (.int p5), .val (.int p1), .val (.int p4), .val (.ref b62), .val (.ref b67), .val (.long (own_key p1 p2)), .second, .val (.long (own_key p1 p4)), .second, .val (.int (own_aft p1 p2 p1 p4)), .val (.int (own_aft p1 p4 p1 p2))] [(.long (own_key p1 p2)), (.long (own_key p1 p4)), (.int (own_aft p1 p4 p1 p2))]))
          refine own_via (fun t k => XS.lcmp X81.here hx rfl (hb hby at_110) rfl k) ?_
          show own_G p e below _ (T81.setTop (mkF m 111 #[.val (.int p1), .val (.int p2), .val (.int p3), .val (.int p4), .val (.int p5), .val (.int p1), .val (.int p4), .val (.ref b62), .val (.ref b67), .val (.long (own_key p1 p2)), .second, .val (.long (own_key p1 p4)), .second, .val (.int (own_aft p1 p2 p1 p4)), .val (.int (own_aft p1 p4 p1 p2))] [(.int (lcmpW (own_key p1 p4) (own_key p1 p2))), (.int (own_aft p1 p4 p1 p2))]))
          by_cases c111_84 : (0 : Int32) < (lcmpW (own_key p1 p4) (own_key p1 p2))
          · skip
            refine own_via (fun t k => XS.ifNo X81.here hx rfl (hb hby at_111) rfl ((if0 _ _).trans (tlt c111_84).2.2.2) k) ?_
            show own_G p e below _ (T81.setTop (mkF m 114 #[.val (.int p1), .val (.int p2), .val (.int p3), .val (.int p4), .val (.int p5), .val (.int p1), .val (.int p4), .val (.ref b62), .val (.ref b67), .val (.long (own_key p1 p2)), .second, .val (.long (own_key p1 p4)), .second, .val (.int (own_aft p1 p2 p1 p4)), .val (.int (own_aft p1 p4 p1 p2))] [(.int (own_aft p1 p4 p1 p2))]))
            refine own_via (fun t k => XS.iconst X81.here hx rfl (hb hby at_114) k) ?_
            show own_G p e below _ (T81.setTop (mkF m 115 #[.val (.int p1), .val (.int p2), .val (.int p3), .val (.int p4), .val (.int p5), .val (.int p1), .val (.int p4), .val (.ref b62), .val (.ref b67), .val (.long (own_key p1 p2)), .second, .val (.long (own_key p1 p4)), .second, .val (.int (own_aft p1 p2 p1 p4)), .val (.int (own_aft p1 p4 p1 p2))] [(.int (1 : Int32)), (.int (own_aft p1 p4 p1 p2))]))
            refine own_via (fun t k => XS.goto X81.here hx rfl (pc0 := 115) (pc' := 119) rfl (hb hby at_115) (by decide) (by decide) k) ?_
            show own_G p e below _ (T81.setTop (mkF m 119 #[.val (.int p1), .val (.int p2), .val (.int p3), .val (.int p4), .val (.int p5), .val (.int p1), .val (.int p4), .val (.ref b62), .val (.ref b67), .val (.long (own_key p1 p2)), .second, .val (.long (own_key p1 p4)), .second, .val (.int (own_aft p1 p2 p1 p4)), .val (.int (own_aft p1 p4 p1 p2))] [(.int (1 : Int32)), (.int (own_aft p1 p4 p1 p2))]))
            by_cases c119_85 : (own_aft p1 p4 p1 p2) = (1 : Int32)
            · skip
              refine own_via (fun t k => XS.icmpNo X81.here hx rfl (hb hby at_119) rfl (teq c119_85).2 k) ?_
              show own_G p e below _ (T81.setTop (mkF m 122 #[.val (.int p1), .val (.int p2), .val (.int p3), .val (.int p4), .val (.int p5), .val (.int p1), .val (.int p4), .val (.ref b62), .val (.ref b67), .val (.long (own_key p1 p2)), .second, .val (.long (own_key p1 p4)), .second, .val (.int (own_aft p1 p2 p1 p4)), .val (.int (own_aft p1 p4 p1 p2))] []))
              refine own_via (fun t k => XS.iconst X81.here hx rfl (hb hby at_122) k) ?_
              show own_G p e below _ (T81.setTop (mkF m 123 #[.val (.int p1), .val (.int p2), .val (.int p3), .val (.int p4), .val (.int p5), .val (.int p1), .val (.int p4), .val (.ref b62), .val (.ref b67), .val (.long (own_key p1 p2)), .second, .val (.long (own_key p1 p4)), .second, .val (.int (own_aft p1 p2 p1 p4)), .val (.int (own_aft p1 p4 p1 p2))] [(.int (1 : Int32))]))
              refine own_via (fun t k => XS.goto X81.here hx rfl (pc0 := 123) (pc' := 127) rfl (hb hby at_123) (by decide) (by decide) k) ?_
              show own_G p e below _ (T81.setTop (mkF m 127 #[.val (.int p1), .val (.int p2), .val (.int p3), .val (.int p4), .val (.int p5), .val (.int p1), .val (.int p4), .val (.ref b62), .val (.ref b67), .val (.long (own_key p1 p2)), .second, .val (.long (own_key p1 p4)), .second, .val (.int (own_aft p1 p2 p1 p4)), .val (.int (own_aft p1 p4 p1 p2))] [(.int (1 : Int32))]))
              obtain ⟨fs, hr, hrun, hended, hW, hsame⟩ := X81.leave (v := some (.int (1 : Int32))) (fun h => by rw [Bd.returns] at h; cases h)
              refine ⟨_, _, retN X81 hx (t := .boolean) Bd.returns (by simp) (hb hby at_127) hr, hrun, hended, _, _, rfl, ?_, ⟨_, rfl⟩, hW, hsame.mono (by decide) (by decide)⟩
              show rm0_Q Z p1 p2 p3 p4 p5 h0 n0 _ T81.heap _
              rw [e81]
              exact ⟨rfl, N81⟩
            · exfalso
              exact c119_85 ((own_cmp _ _ _ _).mp c111_84)
          · skip
            refine own_via (fun t k => XS.ifYes X81.here hx rfl (pc0 := 111) (pc' := 118) rfl (hb hby at_111) rfl ((if0 _ _).trans (flt c111_84).2.2.2) (by decide) (by decide) k) ?_
            show own_G p e below _ (T81.setTop (mkF m 118 #[.val (.int p1), .val (.int p2), .val (.int p3), .val (.int p4), .val (.int p5), .val (.int p1), .val (.int p4), .val (.ref b62), .val (.ref b67), .val (.long (own_key p1 p2)), .second, .val (.long (own_key p1 p4)), .second, .val (.int (own_aft p1 p2 p1 p4)), .val (.int (own_aft p1 p4 p1 p2))] [(.int (own_aft p1 p4 p1 p2))]))
            refine own_via (fun t k => XS.iconst X81.here hx rfl (hb hby at_118) k) ?_
            show own_G p e below _ (T81.setTop (mkF m 119 #[.val (.int p1), .val (.int p2), .val (.int p3), .val (.int p4), .val (.int p5), .val (.int p1), .val (.int p4), .val (.ref b62), .val (.ref b67), .val (.long (own_key p1 p2)), .second, .val (.long (own_key p1 p4)), .second, .val (.int (own_aft p1 p2 p1 p4)), .val (.int (own_aft p1 p4 p1 p2))] [(.int (0 : Int32)), (.int (own_aft p1 p4 p1 p2))]))
            by_cases c119_86 : (own_aft p1 p4 p1 p2) = (0 : Int32)
            · skip
              refine own_via (fun t k => XS.icmpNo X81.here hx rfl (hb hby at_119) rfl (teq c119_86).2 k) ?_
              show own_G p e below _ (T81.setTop (mkF m 122 #[.val (.int p1), .val (.int p2), .val (.int p3), .val (.int p4), .val (.int p5), .val (.int p1), .val (.int p4), .val (.ref b62), .val (.ref b67), .val (.long (own_key p1 p2)), .second, .val (.long (own_key p1 p4)), .second, .val (.int (own_aft p1 p2 p1 p4)), .val (.int (own_aft p1 p4 p1 p2))] []))
              refine own_via (fun t k => XS.iconst X81.here hx rfl (hb hby at_122) k) ?_
              show own_G p e below _ (T81.setTop (mkF m 123 #[.val (.int p1), .val (.int p2), .val (.int p3), .val (.int p4), .val (.int p5), .val (.int p1), .val (.int p4), .val (.ref b62), .val (.ref b67), .val (.long (own_key p1 p2)), .second, .val (.long (own_key p1 p4)), .second, .val (.int (own_aft p1 p2 p1 p4)), .val (.int (own_aft p1 p4 p1 p2))] [(.int (1 : Int32))]))
              refine own_via (fun t k => XS.goto X81.here hx rfl (pc0 := 123) (pc' := 127) rfl (hb hby at_123) (by decide) (by decide) k) ?_
              show own_G p e below _ (T81.setTop (mkF m 127 #[.val (.int p1), .val (.int p2), .val (.int p3), .val (.int p4), .val (.int p5), .val (.int p1), .val (.int p4), .val (.ref b62), .val (.ref b67), .val (.long (own_key p1 p2)), .second, .val (.long (own_key p1 p4)), .second, .val (.int (own_aft p1 p2 p1 p4)), .val (.int (own_aft p1 p4 p1 p2))] [(.int (1 : Int32))]))
              obtain ⟨fs, hr, hrun, hended, hW, hsame⟩ := X81.leave (v := some (.int (1 : Int32))) (fun h => by rw [Bd.returns] at h; cases h)
              refine ⟨_, _, retN X81 hx (t := .boolean) Bd.returns (by simp) (hb hby at_127) hr, hrun, hended, _, _, rfl, ?_, ⟨_, rfl⟩, hW, hsame.mono (by decide) (by decide)⟩
              show rm0_Q Z p1 p2 p3 p4 p5 h0 n0 _ T81.heap _
              rw [e81]
              exact ⟨rfl, N81⟩
            · exfalso
              exact c119_86 (own_aft01 _ _ _ _ fun k => c111_84 ((own_cmp _ _ _ _).mpr k))
        · exfalso
          exact c101_83 ((own_cmp _ _ _ _).mp c93_82)
      · skip
        refine own_via (fun t k => XS.ifYes X81.here hx rfl (pc0 := 93) (pc' := 100) rfl (hb hby at_93) rfl ((if0 _ _).trans (flt c93_82).2.2.2) (by decide) (by decide) k) ?_
        show own_G p e below _ (T81.setTop (mkF m 100 #[.val (.int p1), .val (.int p2), .val (.int p3), .val (.int p4), .val (.int p5), .val (.int p1), .val (.int p4), .val (.ref b62), .val (.ref b67), .val (.long (own_key p1 p2)), .second, .val (.long (own_key p1 p4)), .second, .val (.int (own_aft p1 p2 p1 p4)), .val (.int (own_aft p1 p4 p1 p2))] [(.int (own_aft p1 p2 p1 p4))]))
        refine own_via (fun t k => XS.iconst X81.here hx rfl (hb hby at_100) k) ?_
        show own_G p e below _ (T81.setTop (mkF m 101 #[.val (.int p1), .val (.int p2), .val (.int p3), .val (.int p4), .val (.int p5), .val (.int p1), .val (.int p4), .val (.ref b62), .val (.ref b67), .val (.long (own_key p1 p2)), .second, .val (.long (own_key p1 p4)), .second, .val (.int (own_aft p1 p2 p1 p4)), .val (.int (own_aft p1 p4 p1 p2))] [(.int (0 : Int32)), (.int (own_aft p1 p2 p1 p4))]))
        by_cases c101_87 : (own_aft p1 p2 p1 p4) = (0 : Int32)
        · skip
          refine own_via (fun t k => XS.icmpNo X81.here hx rfl (hb hby at_101) rfl (teq c101_87).2 k) ?_
          show own_G p e below _ (T81.setTop (mkF m 104 #[.val (.int p1), .val (.int p2), .val (.int p3), .val (.int p4), .val (.int p5), .val (.int p1), .val (.int p4), .val (.ref b62), .val (.ref b67), .val (.long (own_key p1 p2)), .second, .val (.long (own_key p1 p4)), .second, .val (.int (own_aft p1 p2 p1 p4)), .val (.int (own_aft p1 p4 p1 p2))] []))
          refine own_via (fun t k => XS.iload X81.here hx rfl (hb hby at_104) rfl k) ?_
          show own_G p e below _ (T81.setTop (mkF m 106 #[.val (.int p1), .val (.int p2), .val (.int p3), .val (.int p4), .val (.int p5), .val (.int p1), .val (.int p4), .val (.ref b62), .val (.ref b67), .val (.long (own_key p1 p2)), .second, .val (.long (own_key p1 p4)), .second, .val (.int (own_aft p1 p2 p1 p4)), .val (.int (own_aft p1 p4 p1 p2))] [(.int (own_aft p1 p4 p1 p2))]))
          refine own_via (fun t k => XS.lload X81.here hx rfl (hb hby at_106) rfl k) ?_
          show own_G p e below _ (T81.setTop (mkF m 108 #[.val (.int p1), .val (.int p2), .val (.int p3), .val (.int p4), .val (.int p5), .val (.int p1), .val (.int p4), .val (.ref b62), .val (.ref b67), .val (.long (own_key p1 p2)), .second, .val (.long (own_key p1 p4)), .second, .val (.int (own_aft p1 p2 p1 p4)), .val (.int (own_aft p1 p4 p1 p2))] [(.long (own_key p1 p4)), (.int (own_aft p1 p4 p1 p2))]))
          refine own_via (fun t k => XS.lload X81.here hx rfl (hb hby at_108) rfl k) ?_
          show own_G p e below _ (T81.setTop (mkF m 110 #[.val (.int p1), .val (.int p2), .val (.int p3), .val (.int p4), .val (.int p5), .val (.int p1), .val (.int p4), .val (.ref b62), .val (.ref b67), .val (.long (own_key p1 p2)), .second, .val (.long (own_key p1 p4)), .second, .val (.int (own_aft p1 p2 p1 p4)), .val (.int (own_aft p1 p4 p1 p2))] [(.long (own_key p1 p2)), (.long (own_key p1 p4)), (.int (own_aft p1 p4 p1 p2))]))
          refine own_via (fun t k => XS.lcmp X81.here hx rfl (hb hby at_110) rfl k) ?_
          show own_G p e below _ (T81.setTop (mkF m 111 #[.val (.int p1), .val (.int p2), .val (.int p3), .val (.int p4), .val (.int p5), .val (.int p1), .val (.int p4), .val (.ref b62), .val (.ref b67), .val (.long (own_key p1 p2)), .second, .val (.long (own_key p1 p4)), .second, .val (.int (own_aft p1 p2 p1 p4)), .val (.int (own_aft p1 p4 p1 p2))] [(.int (lcmpW (own_key p1 p4) (own_key p1 p2))), (.int (own_aft p1 p4 p1 p2))]))
          by_cases c111_88 : (0 : Int32) < (lcmpW (own_key p1 p4) (own_key p1 p2))
          · skip
            refine own_via (fun t k => XS.ifNo X81.here hx rfl (hb hby at_111) rfl ((if0 _ _).trans (tlt c111_88).2.2.2) k) ?_
            show own_G p e below _ (T81.setTop (mkF m 114 #[.val (.int p1), .val (.int p2), .val (.int p3), .val (.int p4), .val (.int p5), .val (.int p1), .val (.int p4), .val (.ref b62), .val (.ref b67), .val (.long (own_key p1 p2)), .second, .val (.long (own_key p1 p4)), .second, .val (.int (own_aft p1 p2 p1 p4)), .val (.int (own_aft p1 p4 p1 p2))] [(.int (own_aft p1 p4 p1 p2))]))
            refine own_via (fun t k => XS.iconst X81.here hx rfl (hb hby at_114) k) ?_
            show own_G p e below _ (T81.setTop (mkF m 115 #[.val (.int p1), .val (.int p2), .val (.int p3), .val (.int p4), .val (.int p5), .val (.int p1), .val (.int p4), .val (.ref b62), .val (.ref b67), .val (.long (own_key p1 p2)), .second, .val (.long (own_key p1 p4)), .second, .val (.int (own_aft p1 p2 p1 p4)), .val (.int (own_aft p1 p4 p1 p2))] [(.int (1 : Int32)), (.int (own_aft p1 p4 p1 p2))]))
            refine own_via (fun t k => XS.goto X81.here hx rfl (pc0 := 115) (pc' := 119) rfl (hb hby at_115) (by decide) (by decide) k) ?_
            show own_G p e below _ (T81.setTop (mkF m 119 #[.val (.int p1), .val (.int p2), .val (.int p3), .val (.int p4), .val (.int p5), .val (.int p1), .val (.int p4), .val (.ref b62), .val (.ref b67), .val (.long (own_key p1 p2)), .second, .val (.long (own_key p1 p4)), .second, .val (.int (own_aft p1 p2 p1 p4)), .val (.int (own_aft p1 p4 p1 p2))] [(.int (1 : Int32)), (.int (own_aft p1 p4 p1 p2))]))
            by_cases c119_89 : (own_aft p1 p4 p1 p2) = (1 : Int32)
            · skip
              refine own_via (fun t k => XS.icmpNo X81.here hx rfl (hb hby at_119) rfl (teq c119_89).2 k) ?_
              show own_G p e below _ (T81.setTop (mkF m 122 #[.val (.int p1), .val (.int p2), .val (.int p3), .val (.int p4), .val (.int p5), .val (.int p1), .val (.int p4), .val (.ref b62), .val (.ref b67), .val (.long (own_key p1 p2)), .second, .val (.long (own_key p1 p4)), .second, .val (.int (own_aft p1 p2 p1 p4)), .val (.int (own_aft p1 p4 p1 p2))] []))
              refine own_via (fun t k => XS.iconst X81.here hx rfl (hb hby at_122) k) ?_
              show own_G p e below _ (T81.setTop (mkF m 123 #[.val (.int p1), .val (.int p2), .val (.int p3), .val (.int p4), .val (.int p5), .val (.int p1), .val (.int p4), .val (.ref b62), .val (.ref b67), .val (.long (own_key p1 p2)), .second, .val (.long (own_key p1 p4)), .second, .val (.int (own_aft p1 p2 p1 p4)), .val (.int (own_aft p1 p4 p1 p2))] [(.int (1 : Int32))]))
              refine own_via (fun t k => XS.goto X81.here hx rfl (pc0 := 123) (pc' := 127) rfl (hb hby at_123) (by decide) (by decide) k) ?_
              show own_G p e below _ (T81.setTop (mkF m 127 #[.val (.int p1), .val (.int p2), .val (.int p3), .val (.int p4), .val (.int p5), .val (.int p1), .val (.int p4), .val (.ref b62), .val (.ref b67), .val (.long (own_key p1 p2)), .second, .val (.long (own_key p1 p4)), .second, .val (.int (own_aft p1 p2 p1 p4)), .val (.int (own_aft p1 p4 p1 p2))] [(.int (1 : Int32))]))
              obtain ⟨fs, hr, hrun, hended, hW, hsame⟩ := X81.leave (v := some (.int (1 : Int32))) (fun h => by rw [Bd.returns] at h; cases h)
              refine ⟨_, _, retN X81 hx (t := .boolean) Bd.returns (by simp) (hb hby at_127) hr, hrun, hended, _, _, rfl, ?_, ⟨_, rfl⟩, hW, hsame.mono (by decide) (by decide)⟩
              show rm0_Q Z p1 p2 p3 p4 p5 h0 n0 _ T81.heap _
              rw [e81]
              exact ⟨rfl, N81⟩
            · exfalso
              exact c119_89 ((own_cmp _ _ _ _).mp c111_88)
          · skip
            refine own_via (fun t k => XS.ifYes X81.here hx rfl (pc0 := 111) (pc' := 118) rfl (hb hby at_111) rfl ((if0 _ _).trans (flt c111_88).2.2.2) (by decide) (by decide) k) ?_
            show own_G p e below _ (T81.setTop (mkF m 118 #[.val (.int p1), .val (.int p2), .val (.int p3), .val (.int p4), .val (.int p5), .val (.int p1), .val (.int p4), .val (.ref b62), .val (.ref b67), .val (.long (own_key p1 p2)), .second, .val (.long (own_key p1 p4)), .second, .val (.int (own_aft p1 p2 p1 p4)), .val (.int (own_aft p1 p4 p1 p2))] [(.int (own_aft p1 p4 p1 p2))]))
            refine own_via (fun t k => XS.iconst X81.here hx rfl (hb hby at_118) k) ?_
            show own_G p e below _ (T81.setTop (mkF m 119 #[.val (.int p1), .val (.int p2), .val (.int p3), .val (.int p4), .val (.int p5), .val (.int p1), .val (.int p4), .val (.ref b62), .val (.ref b67), .val (.long (own_key p1 p2)), .second, .val (.long (own_key p1 p4)), .second, .val (.int (own_aft p1 p2 p1 p4)), .val (.int (own_aft p1 p4 p1 p2))] [(.int (0 : Int32)), (.int (own_aft p1 p4 p1 p2))]))
            by_cases c119_90 : (own_aft p1 p4 p1 p2) = (0 : Int32)
            · skip
              refine own_via (fun t k => XS.icmpNo X81.here hx rfl (hb hby at_119) rfl (teq c119_90).2 k) ?_
              show own_G p e below _ (T81.setTop (mkF m 122 #[.val (.int p1), .val (.int p2), .val (.int p3), .val (.int p4), .val (.int p5), .val (.int p1), .val (.int p4), .val (.ref b62), .val (.ref b67), .val (.long (own_key p1 p2)), .second, .val (.long (own_key p1 p4)), .second, .val (.int (own_aft p1 p2 p1 p4)), .val (.int (own_aft p1 p4 p1 p2))] []))
              refine own_via (fun t k => XS.iconst X81.here hx rfl (hb hby at_122) k) ?_
              show own_G p e below _ (T81.setTop (mkF m 123 #[.val (.int p1), .val (.int p2), .val (.int p3), .val (.int p4), .val (.int p5), .val (.int p1), .val (.int p4), .val (.ref b62), .val (.ref b67), .val (.long (own_key p1 p2)), .second, .val (.long (own_key p1 p4)), .second, .val (.int (own_aft p1 p2 p1 p4)), .val (.int (own_aft p1 p4 p1 p2))] [(.int (1 : Int32))]))
              refine own_via (fun t k => XS.goto X81.here hx rfl (pc0 := 123) (pc' := 127) rfl (hb hby at_123) (by decide) (by decide) k) ?_
              show own_G p e below _ (T81.setTop (mkF m 127 #[.val (.int p1), .val (.int p2), .val (.int p3), .val (.int p4), .val (.int p5), .val (.int p1), .val (.int p4), .val (.ref b62), .val (.ref b67), .val (.long (own_key p1 p2)), .second, .val (.long (own_key p1 p4)), .second, .val (.int (own_aft p1 p2 p1 p4)), .val (.int (own_aft p1 p4 p1 p2))] [(.int (1 : Int32))]))
              obtain ⟨fs, hr, hrun, hended, hW, hsame⟩ := X81.leave (v := some (.int (1 : Int32))) (fun h => by rw [Bd.returns] at h; cases h)
              refine ⟨_, _, retN X81 hx (t := .boolean) Bd.returns (by simp) (hb hby at_127) hr, hrun, hended, _, _, rfl, ?_, ⟨_, rfl⟩, hW, hsame.mono (by decide) (by decide)⟩
              show rm0_Q Z p1 p2 p3 p4 p5 h0 n0 _ T81.heap _
              rw [e81]
              exact ⟨rfl, N81⟩
            · exfalso
              exact c119_90 (own_aft01 _ _ _ _ fun k => c111_88 ((own_cmp _ _ _ _).mpr k))
        · exfalso
          exact c101_87 (own_aft01 _ _ _ _ fun k => c93_82 ((own_cmp _ _ _ _).mpr k))
    · skip
      refine own_via (fun t k => XS.ifNo X0.here hx rfl (hb hby at_18) rfl ((if0 _ _).trans (feq c18_61).1) k) ?_
      show own_G p e below _ (s₁.setTop (mkF m 21 #[.val (.int p1), .val (.int p2), .val (.int p3), .val (.int p4), .val (.int p5), .val (.int p1), .unset, .unset, .unset, .unset, .unset, .unset, .unset, .unset, .unset] []))
      refine own_via (fun t k => XS.iloadN X0.here hx rfl (hb hby at_21) rfl k) ?_
      show own_G p e below _ (s₁.setTop (mkF m 22 #[.val (.int p1), .val (.int p2), .val (.int p3), .val (.int p4), .val (.int p5), .val (.int p1), .unset, .unset, .unset, .unset, .unset, .unset, .unset, .unset, .unset] [(.int p2)]))
      refine own_via (fun t k => XS.goto X0.here hx rfl (pc0 := 22) (pc' := 26) rfl (hb hby at_22) (by decide) (by decide) k) ?_
      show own_G p e below _ (s₁.setTop (mkF m 26 #[.val (.int p1), .val (.int p2), .val (.int p3), .val (.int p4), .val (.int p5), .val (.int p1), .unset, .unset, .unset, .unset, .unset, .unset, .unset, .unset, .unset] [(.int p2)]))
      refine own_via (fun t k => XS.istore X0.here hx rfl (hb hby at_26) rfl (l' := #[.val (.int p1), .val (.int p2), .val (.int p3), .val (.int p4), .val (.int p5), .val (.int p1), .val (.int p2), .unset, .unset, .unset, .unset, .unset, .unset, .unset, .unset]) rfl k) ?_
      show own_G p e below _ (s₁.setTop (mkF m 28 #[.val (.int p1), .val (.int p2), .val (.int p3), .val (.int p4), .val (.int p5), .val (.int p1), .val (.int p2), .unset, .unset, .unset, .unset, .unset, .unset, .unset, .unset] []))
      obtain ⟨T91, h91, X91, e91, E91, A91, D91, -, st91⟩ := newO X0 hx hZ hown (hw _ (List.mem_of_getElem? (i := 0) rfl)) (hw _ (List.mem_of_getElem? (i := 1) rfl)) (hw _ (List.mem_of_getElem? (i := 2) rfl)) e0 (g := (mkF m 28 #[.val (.int p1), .val (.int p2), .val (.int p3), .val (.int p4), .val (.int p5), .val (.int p1), .val (.int p2), .unset, .unset, .unset, .unset, .unset, .unset, .unset, .unset] [])) rfl (hb hby at_28) (by decide) (by decide)
      obtain ⟨b91, g91⟩ : ∃ z, z = h0.size := ⟨_, rfl⟩
      rw [← g91] at A91 D91 st91
      have gx_b91 : n0 ≤ b91 := Nat.le_trans Z0 (Nat.le_of_eq g91.symm)
      have Z91 : n0 ≤ h91.size := Nat.le_trans Z0 E91.1
      have F91_line : Fld Z h91 b91 "com/example/meridial/meridial/adql/Position" "line" "I" (.int (0 : Int32)) := D91 (Or.inr (hw _ (List.mem_of_getElem? (i := 10) rfl))) (ty := .int) (by decide)
      have F91_column : Fld Z h91 b91 "com/example/meridial/meridial/adql/Position" "column" "I" (.int (0 : Int32)) := D91 (Or.inr (hw _ (List.mem_of_getElem? (i := 12) rfl))) (ty := .int) (by decide)
      refine own_via st91 ?_
      show own_G p e below _ (T91.setTop (mkF m 31 #[.val (.int p1), .val (.int p2), .val (.int p3), .val (.int p4), .val (.int p5), .val (.int p1), .val (.int p2), .unset, .unset, .unset, .unset, .unset, .unset, .unset, .unset] [(.ref b91)]))
      refine own_via (fun t k => XS.dup X91.here hx rfl (hb hby at_31) rfl rfl k) ?_
      show own_G p e below _ (T91.setTop (mkF m 32 #[.val (.int p1), .val (.int p2), .val (.int p3), .val (.int p4), .val (.int p5), .val (.int p1), .val (.int p2), .unset, .unset, .unset, .unset, .unset, .unset, .unset, .unset] [(.ref b91), (.ref b91)]))
      refine own_via (fun t k => XS.iloadN X91.here hx rfl (hb hby at_32) rfl k) ?_
      show own_G p e below _ (T91.setTop (mkF m 33 #[.val (.int p1), .val (.int p2), .val (.int p3), .val (.int p4), .val (.int p5), .val (.int p1), .val (.int p2), .unset, .unset, .unset, .unset, .unset, .unset, .unset, .unset] [(.int p1), (.ref b91), (.ref b91)]))
      refine own_via (fun t k => XS.iloadN X91.here hx rfl (hb hby at_33) rfl k) ?_
      show own_G p e below _ (T91.setTop (mkF m 34 #[.val (.int p1), .val (.int p2), .val (.int p3), .val (.int p4), .val (.int p5), .val (.int p1), .val (.int p2), .unset, .unset, .unset, .unset, .unset, .unset, .unset, .unset] [(.int p2), (.int p1), (.ref b91), (.ref b91)]))
      obtain ⟨_, _, ⟨T92, L92, k92, n92⟩, -, X92, ⟨Lc92, hQ92, l92, y92, z92⟩, st92⟩ := X91.specialBack hx (y := (⟨"com/example/meridial/meridial/adql/Position", "<init>", "(II)V"⟩ : MethodName)) rfl hown (mvT hZ (hw _ (List.mem_of_getElem? (i := 3) rfl))) (mvT hZ (hw _ (List.mem_of_getElem? (i := 4) rfl))) (mvT hZ (hw _ (List.mem_of_getElem? (i := 5) rfl))) (by decide) (backOf (W := 1) (rm1 l Z a0 hw [] b91 p1 p2 h91 n0 Z91 A91 F91_line F91_column gx_b91) hZ (hw _ (List.mem_of_getElem? (i := 5) rfl)) (hw _ (List.mem_of_getElem? (i := 2) rfl)) (by decide) (by decide)) (g := (mkF m 34 #[.val (.int p1), .val (.int p2), .val (.int p3), .val (.int p4), .val (.int p5), .val (.int p1), .val (.int p2), .unset, .unset, .unset, .unset, .unset, .unset, .unset, .unset] [(.int p2), (.int p1), (.ref b91), (.ref b91)])) rfl (by rw [hml]; rfl) (Steps.refl _) (a := b91) (argsL := [(.int p1), (.int p2)]) (rest := [(.ref b91)]) (lenOf pd_rm0_0 rfl) rfl (by show 2 * 0 + _ ≤ _; exact Nat.le_of_eq rfl) (hb hby at_34) (fun _ _ => ⟨rfl, e91, (by decide : 1 + 0 ≤ _), (by decide : 2 + 0 ≤ _)⟩)
      dsimp only [Pt.U, Pt.locs, Pt.cells, Pt.slots] at X92 l92 y92 z92 st92 hQ92
      subst l92 y92 z92
      obtain ⟨rfl, N92q, K92, E92q, Fl92, Fc92⟩ := hQ92
      have N92 := Fr.app N0 N92q
      have F93 := A91.keep K92
      have Z92 : n0 ≤ T92.heap.size := Nat.le_trans Z91 K92.1
      refine own_via (fun t k => st92.trans k) ?_
      show own_G p e below _ (T92.setTop (mkF m 37 #[.val (.int p1), .val (.int p2), .val (.int p3), .val (.int p4), .val (.int p5), .val (.int p1), .val (.int p2), .unset, .unset, .unset, .unset, .unset, .unset, .unset, .unset] [(.ref b91)]))
      refine own_via (fun t k => XS.astore X92.here hx rfl (hb hby at_37) rfl rfl (l' := #[.val (.int p1), .val (.int p2), .val (.int p3), .val (.int p4), .val (.int p5), .val (.int p1), .val (.int p2), .val (.ref b91), .unset, .unset, .unset, .unset, .unset, .unset, .unset]) rfl k) ?_
      show own_G p e below _ (T92.setTop (mkF m 39 #[.val (.int p1), .val (.int p2), .val (.int p3), .val (.int p4), .val (.int p5), .val (.int p1), .val (.int p2), .val (.ref b91), .unset, .unset, .unset, .unset, .unset, .unset, .unset] []))
      obtain ⟨T96, h96, X96, e96, E96, A96, D96, -, st96⟩ := newO X92 hx hZ hown (hw _ (List.mem_of_getElem? (i := 0) rfl)) (hw _ (List.mem_of_getElem? (i := 1) rfl)) (hw _ (List.mem_of_getElem? (i := 2) rfl)) rfl (g := (mkF m 39 #[.val (.int p1), .val (.int p2), .val (.int p3), .val (.int p4), .val (.int p5), .val (.int p1), .val (.int p2), .val (.ref b91), .unset, .unset, .unset, .unset, .unset, .unset, .unset] [])) rfl (hb hby at_39) (by decide) (by decide)
      obtain ⟨b96, g96⟩ : ∃ z, z = T92.heap.size := ⟨_, rfl⟩
      rw [← g96] at A96 D96 st96
      have gx_b96 : n0 ≤ b96 := Nat.le_trans Z92 (Nat.le_of_eq g96.symm)
      have Z96 : n0 ≤ h96.size := Nat.le_trans Z92 E96.1
      have ne_b91_b96 : b91 ≠ b96 := Nat.ne_of_lt (Nat.lt_of_lt_of_le E92q.lt (Nat.le_of_eq g96.symm))
      have F97 := E92q.ext E96
      have F98 := Fl92.ext E96
      have F99 := Fc92.ext E96
      have F96_line : Fld Z h96 b96 "com/example/meridial/meridial/adql/Position" "line" "I" (.int (0 : Int32)) := D96 (Or.inr (hw _ (List.mem_of_getElem? (i := 10) rfl))) (ty := .int) (by decide)
      have F96_column : Fld Z h96 b96 "com/example/meridial/meridial/adql/Position" "column" "I" (.int (0 : Int32)) := D96 (Or.inr (hw _ (List.mem_of_getElem? (i := 12) rfl))) (ty := .int) (by decide)
      refine own_via st96 ?_
      show own_G p e below _ (T96.setTop (mkF m 42 #[.val (.int p1), .val (.int p2), .val (.int p3), .val (.int p4), .val (.int p5), .val (.int p1), .val (.int p2), .val (.ref b91), .unset, .unset, .unset, .unset, .unset, .unset, .unset] [(.ref b96)]))
      refine own_via (fun t k => XS.dup X96.here hx rfl (hb hby at_42) rfl rfl k) ?_
      show own_G p e below _ (T96.setTop (mkF m 43 #[.val (.int p1), .val (.int p2), .val (.int p3), .val (.int p4), .val (.int p5), .val (.int p1), .val (.int p2), .val (.ref b91), .unset, .unset, .unset, .unset, .unset, .unset, .unset] [(.ref b96), (.ref b96)]))
      refine own_via (fun t k => XS.iload X96.here hx rfl (hb hby at_43) rfl k) ?_
      show own_G p e below _ (T96.setTop (mkF m 45 #[.val (.int p1), .val (.int p2), .val (.int p3), .val (.int p4), .val (.int p5), .val (.int p1), .val (.int p2), .val (.ref b91), .unset, .unset, .unset, .unset, .unset, .unset, .unset] [(.int p1), (.ref b96), (.ref b96)]))
      refine own_via (fun t k => XS.iload X96.here hx rfl (hb hby at_45) rfl k) ?_
      show own_G p e below _ (T96.setTop (mkF m 47 #[.val (.int p1), .val (.int p2), .val (.int p3), .val (.int p4), .val (.int p5), .val (.int p1), .val (.int p2), .val (.ref b91), .unset, .unset, .unset, .unset, .unset, .unset, .unset] [(.int p2), (.int p1), (.ref b96), (.ref b96)]))
      obtain ⟨_, _, ⟨T100, L100, k100, n100⟩, -, X100, ⟨Lc100, hQ100, l100, y100, z100⟩, st100⟩ := X96.specialBack hx (y := (⟨"com/example/meridial/meridial/adql/Position", "<init>", "(II)V"⟩ : MethodName)) rfl hown (mvT hZ (hw _ (List.mem_of_getElem? (i := 3) rfl))) (mvT hZ (hw _ (List.mem_of_getElem? (i := 4) rfl))) (mvT hZ (hw _ (List.mem_of_getElem? (i := 5) rfl))) (by decide) (backOf (W := 1) (rm1 l Z a0 hw [] b96 p1 p2 h96 n0 Z96 A96 F96_line F96_column gx_b96) hZ (hw _ (List.mem_of_getElem? (i := 5) rfl)) (hw _ (List.mem_of_getElem? (i := 2) rfl)) (by decide) (by decide)) (g := (mkF m 47 #[.val (.int p1), .val (.int p2), .val (.int p3), .val (.int p4), .val (.int p5), .val (.int p1), .val (.int p2), .val (.ref b91), .unset, .unset, .unset, .unset, .unset, .unset, .unset] [(.int p2), (.int p1), (.ref b96), (.ref b96)])) rfl (by rw [hml]; rfl) (Steps.refl _) (a := b96) (argsL := [(.int p1), (.int p2)]) (rest := [(.ref b96)]) (lenOf pd_rm0_0 rfl) rfl (by show 2 * 0 + _ ≤ _; exact Nat.le_of_eq rfl) (hb hby at_47) (fun _ _ => ⟨rfl, e96, (by decide : 2 + 0 ≤ _), (by decide : 4 + 0 ≤ _)⟩)
      dsimp only [Pt.U, Pt.locs, Pt.cells, Pt.slots] at X100 l100 y100 z100 st100 hQ100
      subst l100 y100 z100
      obtain ⟨rfl, N100q, K100, E100q, Fl100, Fc100⟩ := hQ100
      have N100 := Fr.app N92 N100q
      have F101 := F97.keep K100
      have F102 := F98.keep K100 (ninS ne_b91_b96 nin0)
      have F103 := F99.keep K100 (ninS ne_b91_b96 nin0)
      have F104 := A96.keep K100
      have Z100 : n0 ≤ T100.heap.size := Nat.le_trans Z96 K100.1
      refine own_via (fun t k => st100.trans k) ?_
      show own_G p e below _ (T100.setTop (mkF m 50 #[.val (.int p1), .val (.int p2), .val (.int p3), .val (.int p4), .val (.int p5), .val (.int p1), .val (.int p2), .val (.ref b91), .unset, .unset, .unset, .unset, .unset, .unset, .unset] [(.ref b96)]))
      refine own_via (fun t k => XS.astore X100.here hx rfl (hb hby at_50) rfl rfl (l' := #[.val (.int p1), .val (.int p2), .val (.int p3), .val (.int p4), .val (.int p5), .val (.int p1), .val (.int p2), .val (.ref b91), .val (.ref b96), .unset, .unset, .unset, .unset, .unset, .unset]) rfl k) ?_
      show own_G p e below _ (T100.setTop (mkF m 52 #[.val (.int p1), .val (.int p2), .val (.int p3), .val (.int p4), .val (.int p5), .val (.int p1), .val (.int p2), .val (.ref b91), .val (.ref b96), .unset, .unset, .unset, .unset, .unset, .unset] []))
      refine own_via (fun t k => XS.iloadN X100.here hx rfl (hb hby at_52) rfl k) ?_
      show own_G p e below _ (T100.setTop (mkF m 53 #[.val (.int p1), .val (.int p2), .val (.int p3), .val (.int p4), .val (.int p5), .val (.int p1), .val (.int p2), .val (.ref b91), .val (.ref b96), .unset, .unset, .unset, .unset, .unset, .unset] [(.int p1)]))
      refine own_via (fun t k => XS.iloadN X100.here hx rfl (hb hby at_53) rfl k) ?_
      show own_G p e below _ (T100.setTop (mkF m 54 #[.val (.int p1), .val (.int p2), .val (.int p3), .val (.int p4), .val (.int p5), .val (.int p1), .val (.int p2), .val (.ref b91), .val (.ref b96), .unset, .unset, .unset, .unset, .unset, .unset] [(.int p2), (.int p1)]))
      obtain ⟨_, _, ⟨T107, L107, k107, n107⟩, -, X107, ⟨Lc107, hQ107, l107, y107, z107⟩, st107⟩ := Jvm.LawKit.callS X100 hx (y := (⟨"com/example/meridial/meridial/adql/PositionIsAfterPinLaw", "key", "(II)J"⟩ : MethodName)) hown (mvT hZ (hw _ (List.mem_of_getElem? (i := 13) rfl))) (mvT hZ (hw _ (List.mem_of_getElem? (i := 14) rfl))) (mvT hZ (hw _ (List.mem_of_getElem? (i := 15) rfl))) (mvT hZ (hw _ (List.mem_of_getElem? (i := 16) rfl))) (by decide) (backOf (W := 0) (rm3 l Z a0 hw [] p1 p2  T100.heap n0 Z100 ) hZ (hw _ (List.mem_of_getElem? (i := 16) rfl)) (hw _ (List.mem_of_getElem? (i := 15) rfl)) (by decide) (by decide)) (g := (mkF m 54 #[.val (.int p1), .val (.int p2), .val (.int p3), .val (.int p4), .val (.int p5), .val (.int p1), .val (.int p2), .val (.ref b91), .val (.ref b96), .unset, .unset, .unset, .unset, .unset, .unset] [(.int p2), (.int p1)])) rfl (by rw [hml]; rfl) (argsL := [(.int p1), (.int p2)]) (rest := []) (lenOf pd_rm0_1 rfl) rfl (by show 2 * 0 + _ ≤ _; exact Nat.le_of_eq rfl) (hb hby at_54) (fun _ _ => ⟨rfl, rfl, (by decide : 2 + 0 ≤ _), (by decide : 4 + 0 ≤ _)⟩)
      dsimp only [Pt.U, Pt.locs, Pt.cells, Pt.slots] at X107 l107 y107 z107 st107 hQ107
      subst l107 y107 z107
      obtain ⟨rfl, N107q, e107⟩ := hQ107
      have N107 := Fr.app N100 N107q
      refine own_via st107 ?_
      show own_G p e below _ (T107.setTop (mkF m 57 #[.val (.int p1), .val (.int p2), .val (.int p3), .val (.int p4), .val (.int p5), .val (.int p1), .val (.int p2), .val (.ref b91), .val (.ref b96), .unset, .unset, .unset, .unset, .unset, .unset] [(.long (own_key p1 p2))]))
      refine own_via (fun t k => XS.lstore X107.here hx rfl (hb hby at_57) rfl (l' := #[.val (.int p1), .val (.int p2), .val (.int p3), .val (.int p4), .val (.int p5), .val (.int p1), .val (.int p2), .val (.ref b91), .val (.ref b96), .val (.long (own_key p1 p2)), .second, .unset, .unset, .unset, .unset]) rfl k) ?_
      show own_G p e below _ (T107.setTop (mkF m 59 #[.val (.int p1), .val (.int p2), .val (.int p3), .val (.int p4), .val (.int p5), .val (.int p1), .val (.int p2), .val (.ref b91), .val (.ref b96), .val (.long (own_key p1 p2)), .second, .unset, .unset, .unset, .unset] []))
      refine own_via (fun t k => XS.iload X107.here hx rfl (hb hby at_59) rfl k) ?_
      show own_G p e below _ (T107.setTop (mkF m 61 #[.val (.int p1), .val (.int p2), .val (.int p3), .val (.int p4), .val (.int p5), .val (.int p1), .val (.int p2), .val (.ref b91), .val (.ref b96), .val (.long (own_key p1 p2)), .second, .unset, .unset, .unset, .unset] [(.int p1)]))
      refine own_via (fun t k => XS.iload X107.here hx rfl (hb hby at_61) rfl k) ?_
      show own_G p e below _ (T107.setTop (mkF m 63 #[.val (.int p1), .val (.int p2), .val (.int p3), .val (.int p4), .val (.int p5), .val (.int p1), .val (.int p2), .val (.ref b91), .val (.ref b96), .val (.long (own_key p1 p2)), .second, .unset, .unset, .unset, .unset] [(.int p2), (.int p1)]))
      obtain ⟨_, _, ⟨T108, L108, k108, n108⟩, -, X108, ⟨Lc108, hQ108, l108, y108, z108⟩, st108⟩ := Jvm.LawKit.callS X107 hx (y := (⟨"com/example/meridial/meridial/adql/PositionIsAfterPinLaw", "key", "(II)J"⟩ : MethodName)) hown (mvT hZ (hw _ (List.mem_of_getElem? (i := 13) rfl))) (mvT hZ (hw _ (List.mem_of_getElem? (i := 14) rfl))) (mvT hZ (hw _ (List.mem_of_getElem? (i := 15) rfl))) (mvT hZ (hw _ (List.mem_of_getElem? (i := 16) rfl))) (by decide) (backOf (W := 0) (rm3 l Z a0 hw [] p1 p2  T100.heap n0 Z100 ) hZ (hw _ (List.mem_of_getElem? (i := 16) rfl)) (hw _ (List.mem_of_getElem? (i := 15) rfl)) (by decide) (by decide)) (g := (mkF m 63 #[.val (.int p1), .val (.int p2), .val (.int p3), .val (.int p4), .val (.int p5), .val (.int p1), .val (.int p2), .val (.ref b91), .val (.ref b96), .val (.long (own_key p1 p2)), .second, .unset, .unset, .unset, .unset] [(.int p2), (.int p1)])) rfl (by rw [hml]; rfl) (argsL := [(.int p1), (.int p2)]) (rest := []) (lenOf pd_rm0_1 rfl) rfl (by show 2 * 0 + _ ≤ _; exact Nat.le_of_eq rfl) (hb hby at_63) (fun _ _ => ⟨rfl, e107, (by decide : 2 + 0 ≤ _), (by decide : 4 + 0 ≤ _)⟩)
      dsimp only [Pt.U, Pt.locs, Pt.cells, Pt.slots] at X108 l108 y108 z108 st108 hQ108
      subst l108 y108 z108
      obtain ⟨rfl, N108q, e108⟩ := hQ108
      have N108 := Fr.app N107 N108q
      refine own_via st108 ?_
      show own_G p e below _ (T108.setTop (mkF m 66 #[.val (.int p1), .val (.int p2), .val (.int p3), .val (.int p4), .val (.int p5), .val (.int p1), .val (.int p2), .val (.ref b91), .val (.ref b96), .val (.long (own_key p1 p2)), .second, .unset, .unset, .unset, .unset] [(.long (own_key p1 p2))]))
      refine own_via (fun t k => XS.lstore X108.here hx rfl (hb hby at_66) rfl (l' := #[.val (.int p1), .val (.int p2), .val (.int p3), .val (.int p4), .val (.int p5), .val (.int p1), .val (.int p2), .val (.ref b91), .val (.ref b96), .val (.long (own_key p1 p2)), .second, .val (.long (own_key p1 p2)), .second, .unset, .unset]) rfl k) ?_
      show own_G p e below _ (T108.setTop (mkF m 68 #[.val (.int p1), .val (.int p2), .val (.int p3), .val (.int p4), .val (.int p5), .val (.int p1), .val (.int p2), .val (.ref b91), .val (.ref b96), .val (.long (own_key p1 p2)), .second, .val (.long (own_key p1 p2)), .second, .unset, .unset] []))
      refine own_via (fun t k => XS.aload X108.here hx rfl (hb hby at_68) rfl rfl k) ?_
      show own_G p e below _ (T108.setTop (mkF m 70 #[.val (.int p1), .val (.int p2), .val (.int p3), .val (.int p4), .val (.int p5), .val (.int p1), .val (.int p2), .val (.ref b91), .val (.ref b96), .val (.long (own_key p1 p2)), .second, .val (.long (own_key p1 p2)), .second, .unset, .unset] [(.ref b91)]))
      refine own_via (fun t k => XS.aload X108.here hx rfl (hb hby at_70) rfl rfl k) ?_
      show own_G p e below _ (T108.setTop (mkF m 72 #[.val (.int p1), .val (.int p2), .val (.int p3), .val (.int p4), .val (.int p5), .val (.int p1), .val (.int p2), .val (.ref b91), .val (.ref b96), .val (.long (own_key p1 p2)), .second, .val (.long (own_key p1 p2)), .second, .unset, .unset] [(.ref b96), (.ref b91)]))
      obtain ⟨cq109, kq109, q109a, q109b, q109c⟩ := isOf hZ e108 F101
      obtain ⟨_, _, ⟨T109, L109, k109, n109⟩, -, X109, ⟨Lc109, hQ109, l109, y109, z109⟩, st109⟩ := X108.virtualBack hx (y := (⟨"com/example/meridial/meridial/adql/Position", "isAfter", "(Lcom/example/meridial/meridial/adql/Position;)Z"⟩ : MethodName)) (z := (⟨"com/example/meridial/meridial/adql/Position", "isAfter", "(Lcom/example/meridial/meridial/adql/Position;)Z"⟩ : MethodName)) hown (mvT hZ (hw _ (List.mem_of_getElem? (i := 19) rfl))) (mvT hZ (hw _ (List.mem_of_getElem? (i := 20) rfl))) (notFace_of_selects (args := #[]) (mvT hZ (hw _ (List.mem_of_getElem? (i := 22) rfl)))) (mvT hZ (hw _ (List.mem_of_getElem? (i := 22) rfl))) (mvT hZ (hw _ (List.mem_of_getElem? (i := 21) rfl))) (by decide) (backOf (W := 0) (rm4 l Z a0 hw [] b91 b96 p1 p2 p1 p2 T100.heap n0 Z100 F102 F103 Fl100 Fc100) hZ (hw _ (List.mem_of_getElem? (i := 23) rfl)) (hw _ (List.mem_of_getElem? (i := 2) rfl)) (by decide) (by decide)) q109a q109c (g := (mkF m 72 #[.val (.int p1), .val (.int p2), .val (.int p3), .val (.int p4), .val (.int p5), .val (.int p1), .val (.int p2), .val (.ref b91), .val (.ref b96), .val (.long (own_key p1 p2)), .second, .val (.long (own_key p1 p2)), .second, .unset, .unset] [(.ref b96), (.ref b91)])) rfl (by rw [hml]; rfl) (Steps.refl _) (argsL := [(.ref b96)]) (rest := []) (lenOf pd_rm0_2 rfl) rfl (by show 2 * 0 + _ ≤ _; exact Nat.le_of_eq rfl) (hb hby at_72) (fun _ _ => ⟨rfl, e108, (by decide : 2 + 0 ≤ _), (by decide : 4 + 0 ≤ _)⟩)
      dsimp only [Pt.U, Pt.locs, Pt.cells, Pt.slots] at X109 l109 y109 z109 st109 hQ109
      subst l109 y109 z109
      obtain ⟨rfl, N109q, e109⟩ := hQ109
      have N109 := Fr.app N108 N109q
      refine own_via (fun t k => st109.trans k) ?_
      show own_G p e below _ (T109.setTop (mkF m 75 #[.val (.int p1), .val (.int p2), .val (.int p3), .val (.int p4), .val (.int p5), .val (.int p1), .val (.int p2), .val (.ref b91), .val (.ref b96), .val (.long (own_key p1 p2)), .second, .val (.long (own_key p1 p2)), .second, .unset, .unset] [(.int (own_aft p1 p2 p1 p2))]))
      refine own_via (fun t k => XS.istore X109.here hx rfl (hb hby at_75) rfl (l' := #[.val (.int p1), .val (.int p2), .val (.int p3), .val (.int p4), .val (.int p5), .val (.int p1), .val (.int p2), .val (.ref b91), .val (.ref b96), .val (.long (own_key p1 p2)), .second, .val (.long (own_key p1 p2)), .second, .val (.int (own_aft p1 p2 p1 p2)), .unset]) rfl k) ?_
      show own_G p e below _ (T109.setTop (mkF m 77 #[.val (.int p1), .val (.int p2), .val (.int p3), .val (.int p4), .val (.int p5), .val (.int p1), .val (.int p2), .val (.ref b91), .val (.ref b96), .val (.long (own_key p1 p2)), .second, .val (.long (own_key p1 p2)), .second, .val (.int (own_aft p1 p2 p1 p2)), .unset] []))
      refine own_via (fun t k => XS.aload X109.here hx rfl (hb hby at_77) rfl rfl k) ?_
      show own_G p e below _ (T109.setTop (mkF m 79 #[.val (.int p1), .val (.int p2), .val (.int p3), .val (.int p4), .val (.int p5), .val (.int p1), .val (.int p2), .val (.ref b91), .val (.ref b96), .val (.long (own_key p1 p2)), .second, .val (.long (own_key p1 p2)), .second, .val (.int (own_aft p1 p2 p1 p2)), .unset] [(.ref b96)]))
      refine own_via (fun t k => XS.aload X109.here hx rfl (hb hby at_79) rfl rfl k) ?_
      show own_G p e below _ (T109.setTop (mkF m 81 #[.val (.int p1), .val (.int p2), .val (.int p3), .val (.int p4), .val (.int p5), .val (.int p1), .val (.int p2), .val (.ref b91), .val (.ref b96), .val (.long (own_key p1 p2)), .second, .val (.long (own_key p1 p2)), .second, .val (.int (own_aft p1 p2 p1 p2)), .unset] [(.ref b91), (.ref b96)]))
      obtain ⟨cq110, kq110, q110a, q110b, q110c⟩ := isOf hZ e109 E100q
      obtain ⟨_, _, ⟨T110, L110, k110, n110⟩, -, X110, ⟨Lc110, hQ110, l110, y110, z110⟩, st110⟩ := X109.virtualBack hx (y := (⟨"com/example/meridial/meridial/adql/Position", "isAfter", "(Lcom/example/meridial/meridial/adql/Position;)Z"⟩ : MethodName)) (z := (⟨"com/example/meridial/meridial/adql/Position", "isAfter", "(Lcom/example/meridial/meridial/adql/Position;)Z"⟩ : MethodName)) hown (mvT hZ (hw _ (List.mem_of_getElem? (i := 19) rfl))) (mvT hZ (hw _ (List.mem_of_getElem? (i := 20) rfl))) (notFace_of_selects (args := #[]) (mvT hZ (hw _ (List.mem_of_getElem? (i := 22) rfl)))) (mvT hZ (hw _ (List.mem_of_getElem? (i := 22) rfl))) (mvT hZ (hw _ (List.mem_of_getElem? (i := 21) rfl))) (by decide) (backOf (W := 0) (rm4 l Z a0 hw [] b96 b91 p1 p2 p1 p2 T100.heap n0 Z100 Fl100 Fc100 F102 F103) hZ (hw _ (List.mem_of_getElem? (i := 23) rfl)) (hw _ (List.mem_of_getElem? (i := 2) rfl)) (by decide) (by decide)) q110a q110c (g := (mkF m 81 #[.val (.int p1), .val (.int p2), .val (.int p3), .val (.int p4), .val (.int p5), .val (.int p1), .val (.int p2), .val (.ref b91), .val (.ref b96), .val (.long (own_key p1 p2)), .second, .val (.long (own_key p1 p2)), .second, .val (.int (own_aft p1 p2 p1 p2)), .unset] [(.ref b91), (.ref b96)])) rfl (by rw [hml]; rfl) (Steps.refl _) (argsL := [(.ref b91)]) (rest := []) (lenOf pd_rm0_2 rfl) rfl (by show 2 * 0 + _ ≤ _; exact Nat.le_of_eq rfl) (hb hby at_81) (fun _ _ => ⟨rfl, e109, (by decide : 2 + 0 ≤ _), (by decide : 4 + 0 ≤ _)⟩)
      dsimp only [Pt.U, Pt.locs, Pt.cells, Pt.slots] at X110 l110 y110 z110 st110 hQ110
      subst l110 y110 z110
      obtain ⟨rfl, N110q, e110⟩ := hQ110
      have N110 := Fr.app N109 N110q
      refine own_via (fun t k => st110.trans k) ?_
      show own_G p e below _ (T110.setTop (mkF m 84 #[.val (.int p1), .val (.int p2), .val (.int p3), .val (.int p4), .val (.int p5), .val (.int p1), .val (.int p2), .val (.ref b91), .val (.ref b96), .val (.long (own_key p1 p2)), .second, .val (.long (own_key p1 p2)), .second, .val (.int (own_aft p1 p2 p1 p2)), .unset] [(.int (own_aft p1 p2 p1 p2))]))
      refine own_via (fun t k => XS.istore X110.here hx rfl (hb hby at_84) rfl (l' := #[.val (.int p1), .val (.int p2), .val (.int p3), .val (.int p4), .val (.int p5), .val (.int p1), .val (.int p2), .val (.ref b91), .val (.ref b96), .val (.long (own_key p1 p2)), .second, .val (.long (own_key p1 p2)), .second, .val (.int (own_aft p1 p2 p1 p2)), .val (.int (own_aft p1 p2 p1 p2))]) rfl k) ?_
      show own_G p e below _ (T110.setTop (mkF m 86 #[.val (.int p1), .val (.int p2), .val (.int p3), .val (.int p4), .val (.int p5), .val (.int p1), .val (.int p2), .val (.ref b91), .val (.ref b96), .val (.long (own_key p1 p2)), .second, .val (.long (own_key p1 p2)), .second, .val (.int (own_aft p1 p2 p1 p2)), .val (.int (own_aft p1 p2 p1 p2))] []))
      refine own_via (fun t k => XS.iload X110.here hx rfl (hb hby at_86) rfl k) ?_
      show own_G p e below _ (T110.setTop (mkF m 88 #[.val (.int p1), .val (.int p2), .val (.int p3), .val (.int p4), .val (.int p5), .val (.int p1), .val (.int p2), .val (.ref b91), .val (.ref b96), .val (.long (own_key p1 p2)), .second, .val (.long (own_key p1 p2)), .second, .val (.int (own_aft p1 p2 p1 p2)), .val (.int (own_aft p1 p2 p1 p2))] [(.int (own_aft p1 p2 p1 p2))]))
      refine own_via (fun t k => XS.lload X110.here hx rfl (hb hby at_88) rfl k) ?_
      show own_G p e below _ (T110.setTop (mkF m 90 #[.val (.int p1), .val (.int p2), .val (.int p3), .val (.int p4), .val (.int p5), .val (.int p1), .val (.int p2), .val (.ref b91), .val (.ref b96), .val (.long (own_key p1 p2)), .second, .val (.long (own_key p1 p2)), .second, .val (.int (own_aft p1 p2 p1 p2)), .val (.int (own_aft p1 p2 p1 p2))] [(.long (own_key p1 p2)), (.int (own_aft p1 p2 p1 p2))]))
      refine own_via (fun t k => XS.lload X110.here hx rfl (hb hby at_90) rfl k) ?_
      show own_G p e below _ (T110.setTop (mkF m 92 #[.val (.int p1), .val (.int p2), .val (.int p3), .val (.int p4), .val (.int p5), .val (.int p1), .val (.int p2), .val (.ref b91), .val (.ref b96), .val (.long (own_key p1 p2)), .second, .val (.long (own_key p1 p2)), .second, .val (.int (own_aft p1 p2 p1 p2)), .val (.int (own_aft p1 p2 p1 p2))] [(.long (own_key p1 p2)), (.long (own_key p1 p2)), (.int (own_aft p1 p2 p1 p2))]))
      refine own_via (fun t k => XS.lcmp X110.here hx rfl (hb hby at_92) rfl k) ?_
      show own_G p e below _ (T110.setTop (mkF m 93 #[.val (.int p1), .val (.int p2), .val (.int p3), .val (.int p4), .val (.int p5), .val (.int p1), .val (.int p2), .val (.ref b91), .val (.ref b96), .val (.long (own_key p1 p2)), .second, .val (.long (own_key p1 p2)), .second, .val (.int (own_aft p1 p2 p1 p2)), .val (.int (own_aft p1 p2 p1 p2))] [(.int (lcmpW (own_key p1 p2) (own_key p1 p2))), (.int (own_aft p1 p2 p1 p2))]))
      by_cases c93_111 : (0 : Int32) < (lcmpW (own_key p1 p2) (own_key p1 p2))
      · skip
        refine own_via (fun t k => XS.ifNo X110.here hx rfl (hb hby at_93) rfl ((if0 _ _).trans (tlt c93_111).2.2.2) k) ?_
        show own_G p e below _ (T110.setTop (mkF m 96 #[.val (.int p1), .val (.int p2), .val (.int p3), .val (.int p4), .val (.int p5), .val (.int p1), .val (.int p2), .val (.ref b91), .val (.ref b96), .val (.long (own_key p1 p2)), .second, .val (.long (own_key p1 p2)), .second, .val (.int (own_aft p1 p2 p1 p2)), .val (.int (own_aft p1 p2 p1 p2))] [(.int (own_aft p1 p2 p1 p2))]))
        refine own_via (fun t k => XS.iconst X110.here hx rfl (hb hby at_96) k) ?_
        show own_G p e below _ (T110.setTop (mkF m 97 #[.val (.int p1), .val (.int p2), .val (.int p3), .val (.int p4), .val (.int p5), .val (.int p1), .val (.int p2), .val (.ref b91), .val (.ref b96), .val (.long (own_key p1 p2)), .second, .val (.long (own_key p1 p2)), .second, .val (.int (own_aft p1 p2 p1 p2)), .val (.int (own_aft p1 p2 p1 p2))] [(.int (1 : Int32)), (.int (own_aft p1 p2 p1 p2))]))
        refine own_via (fun t k => XS.goto X110.here hx rfl (pc0 := 97) (pc' := 101) rfl (hb hby at_97) (by decide) (by decide) k) ?_
        show own_G p e below _ (T110.setTop (mkF m 101 #[.val (.int p1), .val (.int p2), .val (.int p3), .val (.int p4), .val (.int p5), .val (.int p1), .val (.int p2), .val (.ref b91), .val (.ref b96), .val (.long (own_key p1 p2)), .second, .val (.long (own_key p1 p2)), .second, .val (.int (own_aft p1 p2 p1 p2)), .val (.int (own_aft p1 p2 p1 p2))] [(.int (1 : Int32)), (.int (own_aft p1 p2 p1 p2))]))
        by_cases c101_112 : (own_aft p1 p2 p1 p2) = (1 : Int32)
        · skip
          refine own_via (fun t k => XS.icmpNo X110.here hx rfl (hb hby at_101) rfl (teq c101_112).2 k) ?_
          show own_G p e below _ (T110.setTop (mkF m 104 #[.val (.int p1), .val (.int p2), .val (.int p3), .val (.int p4), .val (.int p5), .val (.int p1), .val (.int p2), .val (.ref b91), .val (.ref b96), .val (.long (own_key p1 p2)), .second, .val (.long (own_key p1 p2)), .second, .val (.int (own_aft p1 p2 p1 p2)), .val (.int (own_aft p1 p2 p1 p2))] []))
          refine own_via (fun t k => XS.iload X110.here hx rfl (hb hby at_104) rfl k) ?_
          show own_G p e below _ (T110.setTop (mkF m 106 #[.val (.int p1), .val (.int p2), .val (.int p3), .val (.int p4), .val (.int p5), .val (.int p1), .val (.int p2), .val (.ref b91), .val (.ref b96), .val (.long (own_key p1 p2)), .second, .val (.long (own_key p1 p2)), .second, .val (.int (own_aft p1 p2 p1 p2)), .val (.int (own_aft p1 p2 p1 p2))] [(.int (own_aft p1 p2 p1 p2))]))
          refine own_via (fun t k => XS.lload X110.here hx rfl (hb hby at_106) rfl k) ?_
          show own_G p e below _ (T110.setTop (mkF m 108 #[.val (.int p1), .val (.int p2), .val (.int p3), .val (.int p4), .val (.int p5), .val (.int p1), .val (.int p2), .val (.ref b91), .val (.ref b96), .val (.long (own_key p1 p2)), .second, .val (.long (own_key p1 p2)), .second, .val (.int (own_aft p1 p2 p1 p2)), .val (.int (own_aft p1 p2 p1 p2))] [(.long (own_key p1 p2)), (.int (own_aft p1 p2 p1 p2))]))
          refine own_via (fun t k => XS.lload X110.here hx rfl (hb hby at_108) rfl k) ?_
          show own_G p e below _ (T110.setTop (mkF m 110 #[.val (.int p1), .val (.int p2), .val (.int p3), .val (.int p4), .val (.int p5), .val (.int p1), .val (.int p2), .val (.ref b91), .val (.ref b96), .val (.long (own_key p1 p2)), .second, .val (.long (own_key p1 p2)), .second, .val (.int (own_aft p1 p2 p1 p2)), .val (.int (own_aft p1 p2 p1 p2))] [(.long (own_key p1 p2)), (.long (own_key p1 p2)), (.int (own_aft p1 p2 p1 p2))]))
          refine own_via (fun t k => XS.lcmp X110.here hx rfl (hb hby at_110) rfl k) ?_
          show own_G p e below _ (T110.setTop (mkF m 111 #[.val (.int p1), .val (.int p2), .val (.int p3), .val (.int p4), .val (.int p5), .val (.int p1), .val (.int p2), .val (.ref b91), .val (.ref b96), .val (.long (own_key p1 p2)), .second, .val (.long (own_key p1 p2)), .second, .val (.int (own_aft p1 p2 p1 p2)), .val (.int (own_aft p1 p2 p1 p2))] [(.int (lcmpW (own_key p1 p2) (own_key p1 p2))), (.int (own_aft p1 p2 p1 p2))]))
          by_cases c111_113 : (0 : Int32) < (lcmpW (own_key p1 p2) (own_key p1 p2))
          · skip
            refine own_via (fun t k => XS.ifNo X110.here hx rfl (hb hby at_111) rfl ((if0 _ _).trans (tlt c111_113).2.2.2) k) ?_
            show own_G p e below _ (T110.setTop (mkF m 114 #[.val (.int p1), .val (.int p2), .val (.int p3), .val (.int p4), .val (.int p5), .val (.int p1), .val (.int p2), .val (.ref b91), .val (.ref b96), .val (.long (own_key p1 p2)), .second, .val (.long (own_key p1 p2)), .second, .val (.int (own_aft p1 p2 p1 p2)), .val (.int (own_aft p1 p2 p1 p2))] [(.int (own_aft p1 p2 p1 p2))]))
            refine own_via (fun t k => XS.iconst X110.here hx rfl (hb hby at_114) k) ?_
            show own_G p e below _ (T110.setTop (mkF m 115 #[.val (.int p1), .val (.int p2), .val (.int p3), .val (.int p4), .val (.int p5), .val (.int p1), .val (.int p2), .val (.ref b91), .val (.ref b96), .val (.long (own_key p1 p2)), .second, .val (.long (own_key p1 p2)), .second, .val (.int (own_aft p1 p2 p1 p2)), .val (.int (own_aft p1 p2 p1 p2))] [(.int (1 : Int32)), (.int (own_aft p1 p2 p1 p2))]))
            refine own_via (fun t k => XS.goto X110.here hx rfl (pc0 := 115) (pc' := 119) rfl (hb hby at_115) (by decide) (by decide) k) ?_
            show own_G p e below _ (T110.setTop (mkF m 119 #[.val (.int p1), .val (.int p2), .val (.int p3), .val (.int p4), .val (.int p5), .val (.int p1), .val (.int p2), .val (.ref b91), .val (.ref b96), .val (.long (own_key p1 p2)), .second, .val (.long (own_key p1 p2)), .second, .val (.int (own_aft p1 p2 p1 p2)), .val (.int (own_aft p1 p2 p1 p2))] [(.int (1 : Int32)), (.int (own_aft p1 p2 p1 p2))]))
            by_cases c119_114 : (own_aft p1 p2 p1 p2) = (1 : Int32)
            · skip
              refine own_via (fun t k => XS.icmpNo X110.here hx rfl (hb hby at_119) rfl (teq c119_114).2 k) ?_
              show own_G p e below _ (T110.setTop (mkF m 122 #[.val (.int p1), .val (.int p2), .val (.int p3), .val (.int p4), .val (.int p5), .val (.int p1), .val (.int p2), .val (.ref b91), .val (.ref b96), .val (.long (own_key p1 p2)), .second, .val (.long (own_key p1 p2)), .second, .val (.int (own_aft p1 p2 p1 p2)), .val (.int (own_aft p1 p2 p1 p2))] []))
              refine own_via (fun t k => XS.iconst X110.here hx rfl (hb hby at_122) k) ?_
              show own_G p e below _ (T110.setTop (mkF m 123 #[.val (.int p1), .val (.int p2), .val (.int p3), .val (.int p4), .val (.int p5), .val (.int p1), .val (.int p2), .val (.ref b91), .val (.ref b96), .val (.long (own_key p1 p2)), .second, .val (.long (own_key p1 p2)), .second, .val (.int (own_aft p1 p2 p1 p2)), .val (.int (own_aft p1 p2 p1 p2))] [(.int (1 : Int32))]))
              refine own_via (fun t k => XS.goto X110.here hx rfl (pc0 := 123) (pc' := 127) rfl (hb hby at_123) (by decide) (by decide) k) ?_
              show own_G p e below _ (T110.setTop (mkF m 127 #[.val (.int p1), .val (.int p2), .val (.int p3), .val (.int p4), .val (.int p5), .val (.int p1), .val (.int p2), .val (.ref b91), .val (.ref b96), .val (.long (own_key p1 p2)), .second, .val (.long (own_key p1 p2)), .second, .val (.int (own_aft p1 p2 p1 p2)), .val (.int (own_aft p1 p2 p1 p2))] [(.int (1 : Int32))]))
              obtain ⟨fs, hr, hrun, hended, hW, hsame⟩ := X110.leave (v := some (.int (1 : Int32))) (fun h => by rw [Bd.returns] at h; cases h)
              refine ⟨_, _, retN X110 hx (t := .boolean) Bd.returns (by simp) (hb hby at_127) hr, hrun, hended, _, _, rfl, ?_, ⟨_, rfl⟩, hW, hsame.mono (by decide) (by decide)⟩
              show rm0_Q Z p1 p2 p3 p4 p5 h0 n0 _ T110.heap _
              rw [e110]
              exact ⟨rfl, N110⟩
            · exfalso
              exact c119_114 ((own_cmp _ _ _ _).mp c111_113)
          · skip
            refine own_via (fun t k => XS.ifYes X110.here hx rfl (pc0 := 111) (pc' := 118) rfl (hb hby at_111) rfl ((if0 _ _).trans (flt c111_113).2.2.2) (by decide) (by decide) k) ?_
            show own_G p e below _ (T110.setTop (mkF m 118 #[.val (.int p1), .val (.int p2), .val (.int p3), .val (.int p4), .val (.int p5), .val (.int p1), .val (.int p2), .val (.ref b91), .val (.ref b96), .val (.long (own_key p1 p2)), .second, .val (.long (own_key p1 p2)), .second, .val (.int (own_aft p1 p2 p1 p2)), .val (.int (own_aft p1 p2 p1 p2))] [(.int (own_aft p1 p2 p1 p2))]))
            refine own_via (fun t k => XS.iconst X110.here hx rfl (hb hby at_118) k) ?_
            show own_G p e below _ (T110.setTop (mkF m 119 #[.val (.int p1), .val (.int p2), .val (.int p3), .val (.int p4), .val (.int p5), .val (.int p1), .val (.int p2), .val (.ref b91), .val (.ref b96), .val (.long (own_key p1 p2)), .second, .val (.long (own_key p1 p2)), .second, .val (.int (own_aft p1 p2 p1 p2)), .val (.int (own_aft p1 p2 p1 p2))] [(.int (0 : Int32)), (.int (own_aft p1 p2 p1 p2))]))
            by_cases c119_115 : (own_aft p1 p2 p1 p2) = (0 : Int32)
            · skip
              refine own_via (fun t k => XS.icmpNo X110.here hx rfl (hb hby at_119) rfl (teq c119_115).2 k) ?_
              show own_G p e below _ (T110.setTop (mkF m 122 #[.val (.int p1), .val (.int p2), .val (.int p3), .val (.int p4), .val (.int p5), .val (.int p1), .val (.int p2), .val (.ref b91), .val (.ref b96), .val (.long (own_key p1 p2)), .second, .val (.long (own_key p1 p2)), .second, .val (.int (own_aft p1 p2 p1 p2)), .val (.int (own_aft p1 p2 p1 p2))] []))
              refine own_via (fun t k => XS.iconst X110.here hx rfl (hb hby at_122) k) ?_
              show own_G p e below _ (T110.setTop (mkF m 123 #[.val (.int p1), .val (.int p2), .val (.int p3), .val (.int p4), .val (.int p5), .val (.int p1), .val (.int p2), .val (.ref b91), .val (.ref b96), .val (.long (own_key p1 p2)), .second, .val (.long (own_key p1 p2)), .second, .val (.int (own_aft p1 p2 p1 p2)), .val (.int (own_aft p1 p2 p1 p2))] [(.int (1 : Int32))]))
              refine own_via (fun t k => XS.goto X110.here hx rfl (pc0 := 123) (pc' := 127) rfl (hb hby at_123) (by decide) (by decide) k) ?_
              show own_G p e below _ (T110.setTop (mkF m 127 #[.val (.int p1), .val (.int p2), .val (.int p3), .val (.int p4), .val (.int p5), .val (.int p1), .val (.int p2), .val (.ref b91), .val (.ref b96), .val (.long (own_key p1 p2)), .second, .val (.long (own_key p1 p2)), .second, .val (.int (own_aft p1 p2 p1 p2)), .val (.int (own_aft p1 p2 p1 p2))] [(.int (1 : Int32))]))
              obtain ⟨fs, hr, hrun, hended, hW, hsame⟩ := X110.leave (v := some (.int (1 : Int32))) (fun h => by rw [Bd.returns] at h; cases h)
              refine ⟨_, _, retN X110 hx (t := .boolean) Bd.returns (by simp) (hb hby at_127) hr, hrun, hended, _, _, rfl, ?_, ⟨_, rfl⟩, hW, hsame.mono (by decide) (by decide)⟩
              show rm0_Q Z p1 p2 p3 p4 p5 h0 n0 _ T110.heap _
              rw [e110]
              exact ⟨rfl, N110⟩
            · exfalso
              exact c119_115 (own_aft01 _ _ _ _ fun k => c111_113 ((own_cmp _ _ _ _).mpr k))
        · exfalso
          exact c101_112 ((own_cmp _ _ _ _).mp c93_111)
      · skip
        refine own_via (fun t k => XS.ifYes X110.here hx rfl (pc0 := 93) (pc' := 100) rfl (hb hby at_93) rfl ((if0 _ _).trans (flt c93_111).2.2.2) (by decide) (by decide) k) ?_
        show own_G p e below _ (T110.setTop (mkF m 100 #[.val (.int p1), .val (.int p2), .val (.int p3), .val (.int p4), .val (.int p5), .val (.int p1), .val (.int p2), .val (.ref b91), .val (.ref b96), .val (.long (own_key p1 p2)), .second, .val (.long (own_key p1 p2)), .second, .val (.int (own_aft p1 p2 p1 p2)), .val (.int (own_aft p1 p2 p1 p2))] [(.int (own_aft p1 p2 p1 p2))]))
        refine own_via (fun t k => XS.iconst X110.here hx rfl (hb hby at_100) k) ?_
        show own_G p e below _ (T110.setTop (mkF m 101 #[.val (.int p1), .val (.int p2), .val (.int p3), .val (.int p4), .val (.int p5), .val (.int p1), .val (.int p2), .val (.ref b91), .val (.ref b96), .val (.long (own_key p1 p2)), .second, .val (.long (own_key p1 p2)), .second, .val (.int (own_aft p1 p2 p1 p2)), .val (.int (own_aft p1 p2 p1 p2))] [(.int (0 : Int32)), (.int (own_aft p1 p2 p1 p2))]))
        by_cases c101_116 : (own_aft p1 p2 p1 p2) = (0 : Int32)
        · skip
          refine own_via (fun t k => XS.icmpNo X110.here hx rfl (hb hby at_101) rfl (teq c101_116).2 k) ?_
          show own_G p e below _ (T110.setTop (mkF m 104 #[.val (.int p1), .val (.int p2), .val (.int p3), .val (.int p4), .val (.int p5), .val (.int p1), .val (.int p2), .val (.ref b91), .val (.ref b96), .val (.long (own_key p1 p2)), .second, .val (.long (own_key p1 p2)), .second, .val (.int (own_aft p1 p2 p1 p2)), .val (.int (own_aft p1 p2 p1 p2))] []))
          refine own_via (fun t k => XS.iload X110.here hx rfl (hb hby at_104) rfl k) ?_
          show own_G p e below _ (T110.setTop (mkF m 106 #[.val (.int p1), .val (.int p2), .val (.int p3), .val (.int p4), .val (.int p5), .val (.int p1), .val (.int p2), .val (.ref b91), .val (.ref b96), .val (.long (own_key p1 p2)), .second, .val (.long (own_key p1 p2)), .second, .val (.int (own_aft p1 p2 p1 p2)), .val (.int (own_aft p1 p2 p1 p2))] [(.int (own_aft p1 p2 p1 p2))]))
          refine own_via (fun t k => XS.lload X110.here hx rfl (hb hby at_106) rfl k) ?_
          show own_G p e below _ (T110.setTop (mkF m 108 #[.val (.int p1), .val (.int p2), .val (.int p3), .val (.int p4), .val (.int p5), .val (.int p1), .val (.int p2), .val (.ref b91), .val (.ref b96), .val (.long (own_key p1 p2)), .second, .val (.long (own_key p1 p2)), .second, .val (.int (own_aft p1 p2 p1 p2)), .val (.int (own_aft p1 p2 p1 p2))] [(.long (own_key p1 p2)), (.int (own_aft p1 p2 p1 p2))]))
          refine own_via (fun t k => XS.lload X110.here hx rfl (hb hby at_108) rfl k) ?_
          show own_G p e below _ (T110.setTop (mkF m 110 #[.val (.int p1), .val (.int p2), .val (.int p3), .val (.int p4), .val (.int p5), .val (.int p1), .val (.int p2), .val (.ref b91), .val (.ref b96), .val (.long (own_key p1 p2)), .second, .val (.long (own_key p1 p2)), .second, .val (.int (own_aft p1 p2 p1 p2)), .val (.int (own_aft p1 p2 p1 p2))] [(.long (own_key p1 p2)), (.long (own_key p1 p2)), (.int (own_aft p1 p2 p1 p2))]))
          refine own_via (fun t k => XS.lcmp X110.here hx rfl (hb hby at_110) rfl k) ?_
          show own_G p e below _ (T110.setTop (mkF m 111 #[.val (.int p1), .val (.int p2), .val (.int p3), .val (.int p4), .val (.int p5), .val (.int p1), .val (.int p2), .val (.ref b91), .val (.ref b96), .val (.long (own_key p1 p2)), .second, .val (.long (own_key p1 p2)), .second, .val (.int (own_aft p1 p2 p1 p2)), .val (.int (own_aft p1 p2 p1 p2))] [(.int (lcmpW (own_key p1 p2) (own_key p1 p2))), (.int (own_aft p1 p2 p1 p2))]))
          by_cases c111_117 : (0 : Int32) < (lcmpW (own_key p1 p2) (own_key p1 p2))
          · skip
            refine own_via (fun t k => XS.ifNo X110.here hx rfl (hb hby at_111) rfl ((if0 _ _).trans (tlt c111_117).2.2.2) k) ?_
            show own_G p e below _ (T110.setTop (mkF m 114 #[.val (.int p1), .val (.int p2), .val (.int p3), .val (.int p4), .val (.int p5), .val (.int p1), .val (.int p2), .val (.ref b91), .val (.ref b96), .val (.long (own_key p1 p2)), .second, .val (.long (own_key p1 p2)), .second, .val (.int (own_aft p1 p2 p1 p2)), .val (.int (own_aft p1 p2 p1 p2))] [(.int (own_aft p1 p2 p1 p2))]))
            refine own_via (fun t k => XS.iconst X110.here hx rfl (hb hby at_114) k) ?_
            show own_G p e below _ (T110.setTop (mkF m 115 #[.val (.int p1), .val (.int p2), .val (.int p3), .val (.int p4), .val (.int p5), .val (.int p1), .val (.int p2), .val (.ref b91), .val (.ref b96), .val (.long (own_key p1 p2)), .second, .val (.long (own_key p1 p2)), .second, .val (.int (own_aft p1 p2 p1 p2)), .val (.int (own_aft p1 p2 p1 p2))] [(.int (1 : Int32)), (.int (own_aft p1 p2 p1 p2))]))
            refine own_via (fun t k => XS.goto X110.here hx rfl (pc0 := 115) (pc' := 119) rfl (hb hby at_115) (by decide) (by decide) k) ?_
            show own_G p e below _ (T110.setTop (mkF m 119 #[.val (.int p1), .val (.int p2), .val (.int p3), .val (.int p4), .val (.int p5), .val (.int p1), .val (.int p2), .val (.ref b91), .val (.ref b96), .val (.long (own_key p1 p2)), .second, .val (.long (own_key p1 p2)), .second, .val (.int (own_aft p1 p2 p1 p2)), .val (.int (own_aft p1 p2 p1 p2))] [(.int (1 : Int32)), (.int (own_aft p1 p2 p1 p2))]))
            by_cases c119_118 : (own_aft p1 p2 p1 p2) = (1 : Int32)
            · skip
              refine own_via (fun t k => XS.icmpNo X110.here hx rfl (hb hby at_119) rfl (teq c119_118).2 k) ?_
              show own_G p e below _ (T110.setTop (mkF m 122 #[.val (.int p1), .val (.int p2), .val (.int p3), .val (.int p4), .val (.int p5), .val (.int p1), .val (.int p2), .val (.ref b91), .val (.ref b96), .val (.long (own_key p1 p2)), .second, .val (.long (own_key p1 p2)), .second, .val (.int (own_aft p1 p2 p1 p2)), .val (.int (own_aft p1 p2 p1 p2))] []))
              refine own_via (fun t k => XS.iconst X110.here hx rfl (hb hby at_122) k) ?_
              show own_G p e below _ (T110.setTop (mkF m 123 #[.val (.int p1), .val (.int p2), .val (.int p3), .val (.int p4), .val (.int p5), .val (.int p1), .val (.int p2), .val (.ref b91), .val (.ref b96), .val (.long (own_key p1 p2)), .second, .val (.long (own_key p1 p2)), .second, .val (.int (own_aft p1 p2 p1 p2)), .val (.int (own_aft p1 p2 p1 p2))] [(.int (1 : Int32))]))
              refine own_via (fun t k => XS.goto X110.here hx rfl (pc0 := 123) (pc' := 127) rfl (hb hby at_123) (by decide) (by decide) k) ?_
              show own_G p e below _ (T110.setTop (mkF m 127 #[.val (.int p1), .val (.int p2), .val (.int p3), .val (.int p4), .val (.int p5), .val (.int p1), .val (.int p2), .val (.ref b91), .val (.ref b96), .val (.long (own_key p1 p2)), .second, .val (.long (own_key p1 p2)), .second, .val (.int (own_aft p1 p2 p1 p2)), .val (.int (own_aft p1 p2 p1 p2))] [(.int (1 : Int32))]))
              obtain ⟨fs, hr, hrun, hended, hW, hsame⟩ := X110.leave (v := some (.int (1 : Int32))) (fun h => by rw [Bd.returns] at h; cases h)
              refine ⟨_, _, retN X110 hx (t := .boolean) Bd.returns (by simp) (hb hby at_127) hr, hrun, hended, _, _, rfl, ?_, ⟨_, rfl⟩, hW, hsame.mono (by decide) (by decide)⟩
              show rm0_Q Z p1 p2 p3 p4 p5 h0 n0 _ T110.heap _
              rw [e110]
              exact ⟨rfl, N110⟩
            · exfalso
              exact c119_118 ((own_cmp _ _ _ _).mp c111_117)
          · skip
            refine own_via (fun t k => XS.ifYes X110.here hx rfl (pc0 := 111) (pc' := 118) rfl (hb hby at_111) rfl ((if0 _ _).trans (flt c111_117).2.2.2) (by decide) (by decide) k) ?_
            show own_G p e below _ (T110.setTop (mkF m 118 #[.val (.int p1), .val (.int p2), .val (.int p3), .val (.int p4), .val (.int p5), .val (.int p1), .val (.int p2), .val (.ref b91), .val (.ref b96), .val (.long (own_key p1 p2)), .second, .val (.long (own_key p1 p2)), .second, .val (.int (own_aft p1 p2 p1 p2)), .val (.int (own_aft p1 p2 p1 p2))] [(.int (own_aft p1 p2 p1 p2))]))
            refine own_via (fun t k => XS.iconst X110.here hx rfl (hb hby at_118) k) ?_
            show own_G p e below _ (T110.setTop (mkF m 119 #[.val (.int p1), .val (.int p2), .val (.int p3), .val (.int p4), .val (.int p5), .val (.int p1), .val (.int p2), .val (.ref b91), .val (.ref b96), .val (.long (own_key p1 p2)), .second, .val (.long (own_key p1 p2)), .second, .val (.int (own_aft p1 p2 p1 p2)), .val (.int (own_aft p1 p2 p1 p2))] [(.int (0 : Int32)), (.int (own_aft p1 p2 p1 p2))]))
            by_cases c119_119 : (own_aft p1 p2 p1 p2) = (0 : Int32)
            · skip
              refine own_via (fun t k => XS.icmpNo X110.here hx rfl (hb hby at_119) rfl (teq c119_119).2 k) ?_
              show own_G p e below _ (T110.setTop (mkF m 122 #[.val (.int p1), .val (.int p2), .val (.int p3), .val (.int p4), .val (.int p5), .val (.int p1), .val (.int p2), .val (.ref b91), .val (.ref b96), .val (.long (own_key p1 p2)), .second, .val (.long (own_key p1 p2)), .second, .val (.int (own_aft p1 p2 p1 p2)), .val (.int (own_aft p1 p2 p1 p2))] []))
              refine own_via (fun t k => XS.iconst X110.here hx rfl (hb hby at_122) k) ?_
              show own_G p e below _ (T110.setTop (mkF m 123 #[.val (.int p1), .val (.int p2), .val (.int p3), .val (.int p4), .val (.int p5), .val (.int p1), .val (.int p2), .val (.ref b91), .val (.ref b96), .val (.long (own_key p1 p2)), .second, .val (.long (own_key p1 p2)), .second, .val (.int (own_aft p1 p2 p1 p2)), .val (.int (own_aft p1 p2 p1 p2))] [(.int (1 : Int32))]))
              refine own_via (fun t k => XS.goto X110.here hx rfl (pc0 := 123) (pc' := 127) rfl (hb hby at_123) (by decide) (by decide) k) ?_
              show own_G p e below _ (T110.setTop (mkF m 127 #[.val (.int p1), .val (.int p2), .val (.int p3), .val (.int p4), .val (.int p5), .val (.int p1), .val (.int p2), .val (.ref b91), .val (.ref b96), .val (.long (own_key p1 p2)), .second, .val (.long (own_key p1 p2)), .second, .val (.int (own_aft p1 p2 p1 p2)), .val (.int (own_aft p1 p2 p1 p2))] [(.int (1 : Int32))]))
              obtain ⟨fs, hr, hrun, hended, hW, hsame⟩ := X110.leave (v := some (.int (1 : Int32))) (fun h => by rw [Bd.returns] at h; cases h)
              refine ⟨_, _, retN X110 hx (t := .boolean) Bd.returns (by simp) (hb hby at_127) hr, hrun, hended, _, _, rfl, ?_, ⟨_, rfl⟩, hW, hsame.mono (by decide) (by decide)⟩
              show rm0_Q Z p1 p2 p3 p4 p5 h0 n0 _ T110.heap _
              rw [e110]
              exact ⟨rfl, N110⟩
            · exfalso
              exact c119_119 (own_aft01 _ _ _ _ fun k => c111_117 ((own_cmp _ _ _ _).mpr k))
        · exfalso
          exact c101_116 (own_aft01 _ _ _ _ fun k => c93_111 ((own_cmp _ _ _ _).mpr k))

set_option maxRecDepth 65536 in
set_option maxHeartbeats 40000000 in
theorem comes_1 {Post : Tables → Env → Array Value → State → Outcome → State → Prop} (hpost : ∀ tb e args s v u, (limb_1_1.after args s (.returned v) u = true ∧ limb_1_2.after args s (.returned v) u = true ∧ True) → FrameEnd s (.returned v) u (Jvm.fieldLocs frame_1_writes args s ++ Jvm.arrayLocs frame_1_arrays args s ++ Jvm.staticLocs frame_1_statics s) 16 128 → Post tb e args s (.returned v) u) :
    ArmFor flags0 classFile x code maxLocals ret World_1 tables_1 room_1 Calls_1 rest_1 Pre_1 Post := by
  intro l hfl _ _ p e ha hc hk s m args below hf hA hF happ hP
  obtain ⟨hcalls, hrest, hpre⟩ := hP
  obtain ⟨-, -, -, hnamed, -, -, -, hat⟩ := (Spec.applies_iff hf).mp happ
  obtain ⟨hg, hn⟩ := and_e (Cond.before_iff.mp (show (Jvm.Cond.and given_1 narrow_1).before args s = true from hpre))
  obtain ⟨gg1, gg2⟩ := and_e hg
  obtain ⟨gg3, gg4⟩ := and_e gg2
  obtain ⟨gg5, gg6⟩ := and_e gg4
  obtain ⟨gg7, gg8⟩ := and_e gg6
  obtain ⟨gg9, gg10⟩ := and_e gg8
  obtain ⟨w0, w1, w2, w3, w4, rfl⟩ : ∃ w0 w1 w2 w3 w4 : Value, args = #[w0, w1, w2, w3, w4] := by
    have hs : args.size = 5 := by simpa [Cond.value, given_1] using gg1
    obtain ⟨L⟩ := args
    match L, hs with
    | [w0, w1, w2, w3, w4], _ => exact ⟨w0, w1, w2, w3, w4, rfl⟩
  have hw := fun d (hd : d ∈ tables_1) => atoms_spec (ws := Jvm.Cond.code x code maxLocals ret :: tables_1) hat d (List.mem_cons_of_mem _ hd)
  obtain ⟨i0, ei0⟩ := is_v gg3
  obtain rfl : w0 = (.int i0) := Option.some.inj ei0
  obtain ⟨i1, ei1⟩ := is_v gg5
  obtain rfl : w1 = (.int i1) := Option.some.inj ei1
  obtain ⟨i2, ei2⟩ := is_v gg7
  obtain rfl : w2 = (.int i2) := Option.some.inj ei2
  obtain ⟨i3, ei3⟩ := is_v gg9
  obtain rfl : w3 = (.int i3) := Option.some.inj ei3
  obtain ⟨i4, ei4⟩ := is_v gg10
  obtain rfl : w4 = (.int i4) := Option.some.inj ei4
  obtain ⟨n, o, h1, h2, h3, _, L, rfl, ⟨rfl, N⟩, hq⟩ := rm0 l s _ hw tables_1 i0 i1 i2 i3 i4 s.heap s.heap.size (Nat.le_refl _) p e ha hc hk s m _ below hf ((Spec.applies_iff_loose hf).mp happ).1 ⟨rfl, State.Warmed39.refl s, rfl⟩ trivial
  refine ⟨n, _, h1, h2, h3, hpost _ _ _ _ _ _ ⟨Cond.after_iff.mpr rfl, Cond.after_iff.mpr (eq_i res_at (Term.int_eval (1)) rfl), trivial⟩ ⟨hq.1, hq.2.1, (hq.2.2.sift fun y hy => Or.inr (N y hy)).mono (by decide) (by decide)⟩⟩
theorem main_1_1 : Claimed_1_1 := comes_1 fun _ _ _ _ _ _ h hF => ⟨h.1, hF⟩
theorem main_1_2 : Claimed_1_2 := comes_1 fun _ _ _ _ _ _ h hF => ⟨h.2.1, hF⟩

end Jvm.Pilot.@@N@@
namespace Jvm.Pilot.@@N@@
open Jvm Jvm.ClassFile Sem Op Lib Jvm.Free Jvm.Stand Jvm.Pilot.@@N@@.Jvm.D
/-! MADE BY PROGRAM (witnessworld.py) out of the Statement's table words and the real class files: 9 classes; the members and pool entries that the words name. The judged class is class 1, her method 2. -/
namespace start1
open Jvm.ClassFile
def u (s : String) : CpInfo := .utf8 (stringToUtf16 s)
/-- a pool by its gaps: so many unusable entries, then the entry; so many at the end -/
def gap : Nat → List CpInfo → List CpInfo
  | 0, r => r
  | n + 1, r => .unusable :: gap n r
def poolList (es : List (Nat × CpInfo)) (last : Nat) : List CpInfo := es.foldr (fun e r => gap e.1 (e.2 :: r)) (gap last [])
def pool (es : List (Nat × CpInfo)) (last : Nat) : Array CpInfo := ⟨poolList es last⟩
def fileOf (pool : Array CpInfo) (this : Nat) (attrs : Array Attribute := #[]) (ms : Array MethodInfo := #[]) (fl : Nat := 33) (sup : Nat := 0) (ifs : Array Nat := #[]) (fds : Array FieldInfo := #[]) : ClassFile where
  minorVersion := 0
  majorVersion := 65
  constantPool := pool
  accessFlags := fl
  thisClass := this
  superClass := sup
  interfaces := ifs
  fields := fds
  methods := ms
  attributes := attrs
def plain (name : String) (sup : Option ClassId) : Class where
  name := name
  kind := .ordinary
  loader := none
  accessFlags := 33
  super := sup
  interfaces := #[]
  cf := none
  fields := #[]
  methods := #[]
  instanceTypes := #[]
  staticTypes := #[]
  resolved := #[]
  callSites := []
  init := .initialized
  statics := none
  mirror := none

def pool0 : Array CpInfo := pool [(5, u "<init>"), (0, u "()V"), (1, .class_ 10), (1, u "java/lang/Object")] 113

def k0c0 : Code := { maxStack := 0, maxLocals := 1, code := object_method_1_code, exceptionTable := #[], attributes := #[] }
def k0m0 : Method := { name := "<init>", desc := "()V", sig := { parameters := [], returnType := none }, accessFlags := 1, code := some k0c0 }
/-- java/lang/Object -/
def k0 : Class := { plain "java/lang/Object" none with
  accessFlags := 33
  interfaces := #[]
  cf := some (fileOf pool0 8 #[] #[{ accessFlags := 1, nameIndex := 5, descriptorIndex := 6, attributes := #[] }] 33 0 #[] #[])
  fields := #[]
  methods := #[k0m0]
  instanceTypes := #[]
  staticTypes := #[]
  resolved := Array.replicate 124 none
  statics := none }

def pool1 : Array CpInfo := pool [(2, .class_ 4), (1, u "java/lang/Object"), (0, u "<init>"), (0, u "()V"), (0, .integer 2147483648), (0, .long 4294967295), (1, .class_ 11), (0, u "com/example/meridial/meridial/adql/Position"), (0, .methodref 10 13), (0, .nameAndType 5 14), (0, u "(II)V"), (0, .methodref 16 17), (0, .class_ 18), (0, .nameAndType 19 20), (0, u "com/example/meridial/meridial/adql/PositionIsAfterPinLaw"), (0, u "key"), (0, u "(II)J"), (0, .methodref 10 22), (0, .nameAndType 23 24), (0, u "isAfter"), (0, u "(Lcom/example/meridial/meridial/adql/Position;)Z"), (2, u "law"), (0, u "(IIIII)Z")] 3

def k1m0 : Method := { name := "<init>", desc := "()V", sig := { parameters := [], returnType := none }, accessFlags := 1, code := none }
def k1c1 : Code := { maxStack := 6, maxLocals := 2, code := method_2_code, exceptionTable := #[], attributes := #[] }
def k1m1 : Method := { name := "key", desc := "(II)J", sig := { parameters := [.int, .int], returnType := some .long }, accessFlags := 10, code := some k1c1 }
def k1c2 : Code := { maxStack := 5, maxLocals := 15, code := code, exceptionTable := #[], attributes := #[] }
def k1m2 : Method := { name := "law", desc := "(IIIII)Z", sig := { parameters := [.int, .int, .int, .int, .int], returnType := some .boolean }, accessFlags := 9, code := some k1c2 }
/-- com/example/meridial/meridial/adql/PositionIsAfterPinLaw -/
def k1 : Class := { plain "com/example/meridial/meridial/adql/PositionIsAfterPinLaw" (some 0) with
  accessFlags := 49
  interfaces := #[]
  cf := some (fileOf pool1 16 #[] #[{ accessFlags := 1, nameIndex := 5, descriptorIndex := 6, attributes := #[] }, { accessFlags := 10, nameIndex := 19, descriptorIndex := 20, attributes := #[] }, { accessFlags := 9, nameIndex := 27, descriptorIndex := 28, attributes := #[] }] 49 2 #[] #[])
  fields := #[]
  methods := #[k1m0, k1m1, k1m2]
  instanceTypes := #[]
  staticTypes := #[]
  resolved := Array.replicate 32 none
  statics := none }

def pool2 : Array CpInfo := pool [(1, .methodref 2 3), (0, .class_ 4), (0, .nameAndType 5 6), (0, u "java/lang/Object"), (0, u "<init>"), (0, u "()V"), (0, .fieldref 8 9), (0, .class_ 10), (0, .nameAndType 11 12), (0, u "com/example/meridial/meridial/adql/Position"), (0, u "line"), (0, u "I"), (0, .fieldref 8 14), (0, .nameAndType 15 12), (0, u "column"), (4, u "(II)V"), (3, u "isAfter"), (0, u "(Lcom/example/meridial/meridial/adql/Position;)Z")] 20

def k2c0 : Code := { maxStack := 2, maxLocals := 3, code := prog_37_method_1_code, exceptionTable := #[], attributes := #[] }
def k2m0 : Method := { name := "<init>", desc := "(II)V", sig := { parameters := [.int, .int], returnType := none }, accessFlags := 0, code := some k2c0 }
def k2c1 : Code := { maxStack := 2, maxLocals := 2, code := prog_37_method_4_code, exceptionTable := #[], attributes := #[] }
def k2m1 : Method := { name := "isAfter", desc := "(Lcom/example/meridial/meridial/adql/Position;)Z", sig := { parameters := [(.object "com/example/meridial/meridial/adql/Position")], returnType := some .boolean }, accessFlags := 0, code := some k2c1 }
/-- com/example/meridial/meridial/adql/Position -/
def k2 : Class := { plain "com/example/meridial/meridial/adql/Position" (some 0) with
  accessFlags := 49
  interfaces := #[]
  cf := some (fileOf pool2 8 #[] #[{ accessFlags := 0, nameIndex := 5, descriptorIndex := 20, attributes := #[] }, { accessFlags := 0, nameIndex := 24, descriptorIndex := 25, attributes := #[] }] 49 2 #[] #[{ accessFlags := 18, nameIndex := 11, descriptorIndex := 12, attributes := #[] }, { accessFlags := 18, nameIndex := 15, descriptorIndex := 12, attributes := #[] }])
  fields := #[{ name := "line", type := .int, accessFlags := 18, slot := 0, constantValue := 0 }, { name := "column", type := .int, accessFlags := 18, slot := 1, constantValue := 0 }]
  methods := #[k2m0, k2m1]
  instanceTypes := #[.int, .int]
  staticTypes := #[]
  resolved := Array.replicate 46 none
  statics := none }

def pool3 : Array CpInfo := pool [(1, u "java/lang/Cloneable"), (0, .class_ 1), (0, u "java/lang/Object"), (0, .class_ 3)] 3

/-- java/lang/Cloneable -/
def k3 : Class := { plain "java/lang/Cloneable" (some 0) with
  accessFlags := 1537
  interfaces := #[]
  cf := some (fileOf pool3 2 #[] #[] 1537 4 #[] #[])
  fields := #[]
  methods := #[]
  instanceTypes := #[]
  staticTypes := #[]
  resolved := Array.replicate 8 none
  statics := none }

def pool4 : Array CpInfo := pool [(1, u "java/io/Serializable"), (0, .class_ 1), (0, u "java/lang/Object"), (0, .class_ 3)] 3

/-- java/io/Serializable -/
def k4 : Class := { plain "java/io/Serializable" (some 0) with
  accessFlags := 1537
  interfaces := #[]
  cf := some (fileOf pool4 2 #[] #[] 1537 4 #[] #[])
  fields := #[]
  methods := #[]
  instanceTypes := #[]
  staticTypes := #[]
  resolved := Array.replicate 8 none
  statics := none }

/-- the primitive byte -/
def k5 : Class := { plain "byte" none with kind := .primitive 'B', accessFlags := 0x411 }
/-- [B -/
def k6 : Class := { plain "[B" (some 0) with kind := .array 5 .byte, interfaces := #[3, 4], accessFlags := 1041 }

/-- the primitive int -/
def k7 : Class := { plain "int" none with kind := .primitive 'I', accessFlags := 0x411 }
/-- [I -/
def k8 : Class := { plain "[I" (some 0) with kind := .array 7 .int, interfaces := #[3, 4], accessFlags := 1041 }

def heap : Heap := #[]
def classes : Array Class := #[k0, k1, k2, k3, k4, k5, k6, k7, k8]
def interned : List (Array UInt16 × Addr) := []
def slotsUsed : Nat := 0
def theMethod : MethodId := ⟨1, 2⟩
def args0 : Array Value := #[.int 1, .int 2, .int 3, .int 4, .int 0]
def aboutOver (below : List Frame) : State where
  vm := { classes := classes, interned := interned.toArray }
  heap := heap
  slotsUsed := slotsUsed
  threads := #[{ frames := .invoking theMethod args0 :: below }]
def below0 : List Frame := [.native { method := ⟨0, 0⟩, args := #[] }]
def about1 : State := aboutOver below0
def p0 : Program := .bare "" "" ""
def e0 : Env := launch0.env 0 0 0
theorem w_frames : about1.frames = Frame.invoking theMethod args0 :: below0 := rfl
set_option maxRecDepth 65536 in
theorem w_args : argsFit about1.vm theMethod args0 = true := by decide +kernel
set_option maxRecDepth 65536 in
theorem w_heap : heapFits about1 = true := by decide +kernel
set_option maxRecDepth 65536 in
theorem w_runnable : about1.curStatus? = some .runnable := by decide +kernel
set_option maxRecDepth 65536 in
theorem w_alone : about1.alone = true := by decide +kernel
set_option maxRecDepth 65536 in
theorem w_named : about1.methodNamed? x = some theMethod := by decide +kernel
set_option maxRecDepth 65536 in
theorem w_hears : about1.hears theMethod below0 = true := by decide +kernel
set_option maxRecDepth 65536 in
theorem w_ripe : about1.ripe theMethod args0 below0 = true := by decide +kernel
theorem w_running : about1.status = .running := rfl
set_option maxRecDepth 65536 in
theorem w_room : about1.hasRoom e0.platform room_1 = true :=
  launch0.hasRoom_least _ room_1 (by decide +kernel) (by decide +kernel) (by decide +kernel) (by decide +kernel) (by decide +kernel) (by decide +kernel)
theorem allAtoms_all (ts : List Jvm.Cond) (a : Array Jvm.Value) (st : Jvm.State) : (allAtoms ts).before a st = ts.all (fun c => c.before a st) := by
  induction ts with
  | nil => rfl
  | cons c t ih =>
    show (Jvm.Cond.and c (allAtoms t)).before a st = _
    rw [Jvm.Cond.before_and, ih, List.all_cons]
def words1 : List Jvm.Cond := Jvm.Cond.code x code maxLocals ret :: tables_1
/-- a 'code' word, met by the world's own term for the bytes: nothing is compared byte by byte -/
theorem code_word {y : MethodName} {bytes : ByteArray} {mx : Nat} {rt : Option FieldType} {a : Array Value} {s : State} {m : MethodId} {meth : Method} {c : Code} (h1 : s.methodNamed? y = some m) (h2 : s.vm.method? m = some meth) (h3 : meth.code = some c) (h4 : c.code = bytes)
    (h5 : (c.maxLocals == mx && c.exceptionTable.isEmpty && decide (c.maxStack ≤ mostOperands) && decide (meth.sig.returnType = rt) && !meth.locks && decide (parseMethodDescriptor y.desc = some meth.sig)) = true) : (Jvm.Cond.code y bytes mx rt).before a s = true := by
  simp only [Bool.and_eq_true, beq_iff_eq, Bool.not_eq_true', decide_eq_true_eq] at h5
  obtain ⟨⟨⟨⟨⟨g1, g2⟩, g3⟩, g4⟩, g5⟩, g6⟩ := h5
  simp [Cond.before, Cond.holds, Cond.value, h1, h2, h3, h4, g1, g2, g3, g4, g5, g6]
def isCode : Jvm.Cond → Bool
  | .code _ _ _ _ => true
  | _ => false
theorem all_split {L : List Jvm.Cond} {P : Jvm.Cond → Bool} (h1 : L.all (fun c => isCode c || P c) = true) (h2 : ∀ c ∈ L.filter isCode, P c = true) : L.all P = true := by
  refine List.all_eq_true.mpr fun c hc => ?_
  have h := List.all_eq_true.mp h1 c hc
  rcases Bool.eq_false_or_eq_true (isCode c) with hi | hi
  · exact h2 c (List.mem_filter.mpr ⟨hc, hi⟩)
  · simpa [hi] using h
set_option maxRecDepth 65536 in
theorem w_c0 : (Jvm.Cond.code x code maxLocals ret).before args0 about1 = true := code_word (m := ⟨1, 2⟩) (meth := k1m2) (c := k1c2) (by decide +kernel) rfl rfl rfl (by decide +kernel)
set_option maxRecDepth 65536 in
theorem w_c1 : (Jvm.Cond.code ({ cls := "com/example/meridial/meridial/adql/Position", name := "<init>", desc := "(II)V" } : Jvm.MethodName) prog_37_method_1_code (3 : Nat) (Option.none : Option Jvm.ClassFile.FieldType)).before args0 about1 = true := code_word (m := ⟨2, 0⟩) (meth := k2m0) (c := k2c0) (by decide +kernel) rfl rfl rfl (by decide +kernel)
set_option maxRecDepth 65536 in
theorem w_c2 : (Jvm.Cond.code ({ cls := "java/lang/Object", name := "<init>", desc := "()V" } : Jvm.MethodName) object_method_1_code (1 : Nat) (Option.none : Option Jvm.ClassFile.FieldType)).before args0 about1 = true := code_word (m := ⟨0, 0⟩) (meth := k0m0) (c := k0c0) (by decide +kernel) rfl rfl rfl (by decide +kernel)
set_option maxRecDepth 65536 in
theorem w_c3 : (Jvm.Cond.code ({ cls := "com/example/meridial/meridial/adql/PositionIsAfterPinLaw", name := "key", desc := "(II)J" } : Jvm.MethodName) method_2_code (2 : Nat) (Option.some Jvm.ClassFile.FieldType.long)).before args0 about1 = true := code_word (m := ⟨1, 1⟩) (meth := k1m1) (c := k1c1) (by decide +kernel) rfl rfl rfl (by decide +kernel)
set_option maxRecDepth 65536 in
theorem w_c4 : (Jvm.Cond.code ({ cls := "com/example/meridial/meridial/adql/Position", name := "isAfter", desc := "(Lcom/example/meridial/meridial/adql/Position;)Z" } : Jvm.MethodName) prog_37_method_4_code (2 : Nat) (Option.some Jvm.ClassFile.FieldType.boolean)).before args0 about1 = true := code_word (m := ⟨2, 1⟩) (meth := k2m1) (c := k2c1) (by decide +kernel) rfl rfl rfl (by decide +kernel)
def codes1 : List Jvm.Cond := [Jvm.Cond.code x code maxLocals ret, Jvm.Cond.code ({ cls := "com/example/meridial/meridial/adql/Position", name := "<init>", desc := "(II)V" } : Jvm.MethodName) prog_37_method_1_code (3 : Nat) (Option.none : Option Jvm.ClassFile.FieldType), Jvm.Cond.code ({ cls := "java/lang/Object", name := "<init>", desc := "()V" } : Jvm.MethodName) object_method_1_code (1 : Nat) (Option.none : Option Jvm.ClassFile.FieldType), Jvm.Cond.code ({ cls := "com/example/meridial/meridial/adql/PositionIsAfterPinLaw", name := "key", desc := "(II)J" } : Jvm.MethodName) method_2_code (2 : Nat) (Option.some Jvm.ClassFile.FieldType.long), Jvm.Cond.code ({ cls := "com/example/meridial/meridial/adql/Position", name := "isAfter", desc := "(Lcom/example/meridial/meridial/adql/Position;)Z" } : Jvm.MethodName) prog_37_method_4_code (2 : Nat) (Option.some Jvm.ClassFile.FieldType.boolean)]
set_option maxRecDepth 65536 in
theorem codes_eq : words1.filter isCode = codes1 := rfl
theorem w_codes : ∀ c ∈ words1.filter isCode, c.before args0 about1 = true := by
  rw [codes_eq]
  intro c hc
  simp only [codes1, List.mem_cons, List.not_mem_nil, or_false] at hc
  rcases hc with rfl | rfl | rfl | rfl | rfl
  · exact w_c0
  · exact w_c1
  · exact w_c2
  · exact w_c3
  · exact w_c4
set_option maxRecDepth 65536 in
theorem w_t1 : (words1.take 24).all (fun c => isCode c || c.before args0 about1) = true := by decide +kernel
set_option maxRecDepth 65536 in
theorem w_t2 : (words1.drop 24).all (fun c => isCode c || c.before args0 about1) = true := by decide +kernel
theorem w_tables : (allAtoms (Jvm.Cond.code x code maxLocals ret :: tables_1)).before args0 about1 = true := by
  rw [allAtoms_all]
  show words1.all (fun c => c.before args0 about1) = true
  refine all_split ?_ w_codes
  rw [← List.take_append_drop 24 words1, List.all_append, w_t1, w_t2]
  rfl
set_option maxRecDepth 65536 in
theorem w_case : (Jvm.Cond.and given_1 narrow_1).before args0 about1 = true := by decide +kernel
theorem w_applies : (headSpec (Jvm.Cond.code x code maxLocals ret :: tables_1) room_1).applies x e0.platform about1 = true :=
  (Spec.applies_iff w_frames).mpr ⟨w_running, w_runnable, w_alone, w_named, w_hears, w_ripe, w_room, w_tables⟩
theorem atStart : AtStart classFile x code maxLocals ret World_1 tables_1 room_1 Calls_1 rest_1 Pre_1 launch0 p0 e0 about1 theMethod args0 below0 :=
  ⟨lists_1, trivial, launch0.admits_env _ _ _, launch0.least_env, fairChoices_fair.cas, fairChoices_fair.clock, w_frames, w_args, w_heap, w_applies, trivial, trivial, w_case⟩
end start1
theorem witness_1 : WitnessClaimed_1 := ⟨start1.p0, start1.e0, start1.about1, start1.theMethod, start1.args0, start1.below0, start1.atStart⟩
end Jvm.Pilot.@@N@@
