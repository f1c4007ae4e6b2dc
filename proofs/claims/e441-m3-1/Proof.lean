import JvmDerived
import JvmDerived.Pilot.@@N@@Statement
import JvmDerived.Pilot.@@N@@Code
set_option linter.unusedVariables false
set_option linter.unusedSimpArgs false
@@BLOCK:NumsL.lean.txt@@
namespace Jvm.Pilot.@@N@@
open Jvm Jvm.ClassFile Sem Op Lib Jvm.Free Jvm.Stand Jvm.LawKit Jvm.RoadKit Bundle Jvm.Pilot.@@N@@.Jvm.D

def own_G (p : Program) (e : Env) (below : List Frame) (B : State → Outcome → Prop) (U : State) : Prop := ∃ t o, Steps p.tables e below U t ∧ t.status = .running ∧ Ended t below o ∧ B t o
theorem own_via {p : Program} {e : Env} {below : List Frame} {B : State → Outcome → Prop} {U U' : State} (h : ∀ t, Steps p.tables e below U' t → Steps p.tables e below U t) (k : own_G p e below B U') : own_G p e below B U := by
  obtain ⟨t, o, a, r⟩ := k
  exact ⟨t, o, h t a, r⟩
theorem own_start {p : Program} {e : Env} {below : List Frame} {B : State → Outcome → Prop} {U : State} (k : own_G p e below B U) : ∃ t o, Steps p.tables e below U t ∧ t.status = .running ∧ Ended t below o ∧ B t o := k

theorem own_b53 (a : Int32) : B53 a.toInt64 := by
  unfold B53; rw [Int32.toInt_toInt64]
  have := a.toInt_lt; have := a.le_toInt
  omega
theorem own_dc (a b : Int32) (o : CmpOp) : cmpValue (FP.dcmp (FP.i2d a) (FP.i2d b)) o = lcmpV a.toInt64 b.toInt64 := by rw [i2d_w, i2d_w, dcmpV_w (own_b53 a) (own_b53 b) o, lcW]
theorem own_i64lt {a b : Int32} : a.toInt64 < b.toInt64 ↔ a < b := by rw [Int64.lt_iff_toInt_lt, Int32.lt_iff_toInt_lt, Int32.toInt_toInt64, Int32.toInt_toInt64]
theorem own_dc_eq {a b : Int32} (h : a = b) (o : CmpOp) : cmpValue (FP.dcmp (FP.i2d a) (FP.i2d b)) o = (0 : Int32) := by rw [own_dc, lc_eq, h]
theorem own_dc_gt {a b : Int32} (h : b < a) (o : CmpOp) : cmpValue (FP.dcmp (FP.i2d a) (FP.i2d b)) o = (1 : Int32) := by
  rw [own_dc]; unfold lcmpV; rw [if_pos (own_i64lt.mpr h)]
theorem own_dc_lt {a b : Int32} (h : a < b) (o : CmpOp) : cmpValue (FP.dcmp (FP.i2d a) (FP.i2d b)) o = (-1 : Int32) := by
  rw [own_dc]; unfold lcmpV
  have q := own_i64lt.mpr h
  have q1 : ¬ (a.toInt64 > b.toInt64) := fun z => Int64.lt_irrefl (Int64.lt_trans q z)
  have q2 : ¬ (a.toInt64 = b.toInt64) := fun z => Int64.lt_irrefl (z ▸ q)
  rw [if_neg q1]; simp [q2]
theorem own_mod3 (p : Int32) : (p &&& (2147483647 : Int32)) % (3 : Int32) = 0 ∨ (p &&& (2147483647 : Int32)) % (3 : Int32) = 1 ∨ (p &&& (2147483647 : Int32)) % (3 : Int32) = 2 := by
  have e : (p &&& 2147483647).toInt = p.toInt % 2 ^ 31 := Jvm.Kit.i32_mask p 2147483647 (k := 31) (by decide) (by decide)
  have r := Jvm.Kit.i32_rem_nonneg (x := p &&& 2147483647) (y := 3) (by rw [e]; omega)
  generalize (p &&& 2147483647) % 3 = y at *
  have q : ∀ k : Int32, (y = k) ↔ (y.toInt = k.toInt) := fun k => Int32.toInt_inj.symm
  simp only [q]
  rw [show (0 : Int32).toInt = 0 from by decide, show (1 : Int32).toInt = 1 from by decide, show (2 : Int32).toInt = 2 from by decide]
  rw [show (3 : Int32).toInt = 3 from by decide] at r
  omega
theorem own_tri (a b : Int32) : a < b ∨ a = b ∨ b < a := by
  rw [Int32.lt_iff_toInt_lt, Int32.lt_iff_toInt_lt, ← Int32.toInt_inj]; omega
def own_max (a b : Int32) : Int32 := if a < b then b else a

theorem d1_0 : decode prog_7_method_7_code 0 = .ok (.dload_n 2, 1) := by decide +kernel
theorem d1_1 : decode prog_7_method_7_code 1 = .ok (.aload_n 0, 1) := by decide +kernel
theorem d1_2 : decode prog_7_method_7_code 2 = .ok (.iload_n 1, 1) := by decide +kernel
theorem d1_3 : decode prog_7_method_7_code 3 = .ok (.daload, 1) := by decide +kernel
theorem d1_4 : decode prog_7_method_7_code 4 = .ok (.dcmp .g, 1) := by decide +kernel
theorem d1_5 : decode prog_7_method_7_code 5 = .ok (.ifCond .ge 7, 3) := by decide +kernel
theorem d1_8 : decode prog_7_method_7_code 8 = .ok (.iconst 1, 1) := by decide +kernel
theorem d1_9 : decode prog_7_method_7_code 9 = .ok (.goto 4, 3) := by decide +kernel
theorem d1_12 : decode prog_7_method_7_code 12 = .ok (.iconst 0, 1) := by decide +kernel
theorem d1_13 : decode prog_7_method_7_code 13 = .ok (.istore 4, 2) := by decide +kernel
theorem d1_15 : decode prog_7_method_7_code 15 = .ok (.iload 4, 2) := by decide +kernel
theorem d1_17 : decode prog_7_method_7_code 17 = .ok (.ifCond .eq 7, 3) := by decide +kernel
theorem d1_20 : decode prog_7_method_7_code 20 = .ok (.aload_n 0, 1) := by decide +kernel
theorem d1_21 : decode prog_7_method_7_code 21 = .ok (.iload_n 1, 1) := by decide +kernel
theorem d1_22 : decode prog_7_method_7_code 22 = .ok (.dload_n 2, 1) := by decide +kernel
theorem d1_23 : decode prog_7_method_7_code 23 = .ok (.dastore, 1) := by decide +kernel
theorem d1_24 : decode prog_7_method_7_code 24 = .ok (.iload 4, 2) := by decide +kernel
theorem d1_26 : decode prog_7_method_7_code 26 = .ok (.ireturn, 1) := by decide +kernel
theorem rm1_0lt_pn : plainName "com/example/odds2/odds2/engine/Bounds" = true := by first | (simp [plainName, overriddenIn]; done) | decide +kernel
theorem rm1_0lt_ef (m : MethodId) (z0 : Addr) (z1 : Int32) (z2 : UInt64) : entryFrame m #[(.ref z0), (.int z1), (.double z2)] 5 = mkF m 0 #[.val (.ref z0), .val (.int z1), .val (.double z2), .second, .unset] [] := by first | (simp [entryFrame, mkF, argsToLocals, Value.category]; done) | rfl
def rm1_0lt_Q (Z : State) (a1 : Addr) (x0 : Int32) (x1 : Int32) (x2 : Int32) (b : Int32) (kc : ClassId) (h0 : Heap) (n0 : Nat) (v : Option Value) (h : Heap) (L : List Loc) : Prop := v = some (.int (1 : Int32)) ∧ Fr n0 L ∧ Keep h0 h [a1] ∧ Arv Z h a1 kc .double (3 : Int32) [(.double (FP.i2d b)), (.double (FP.i2d x1)), (.double (FP.i2d x2))] (.double (0 : UInt64))
set_option maxRecDepth 65536 in
set_option maxHeartbeats 40000000 in
theorem rm1_0lt (l : Launch) (Z : State) (a0 : Array Value) (hw : ∀ d ∈ tables_1, d.before a0 Z = true) (ws : List Jvm.Cond) (a1 : Addr) (x0 : Int32) (x1 : Int32) (x2 : Int32) (b : Int32) (kc : ClassId) (h0 : Heap) (n0 : Nat) (Z0 : n0 ≤ h0.size) (V0 : Arv Z h0 a1 kc .double (3 : Int32) [(.double (FP.i2d x0)), (.double (FP.i2d x1)), (.double (FP.i2d x2))] (.double (0 : UInt64))) (gx_a1 : n0 ≤ a1) (hob : b < x0) :
    MetFree l (⟨"com/example/odds2/odds2/engine/Bounds", "tightenUpper", "([DID)Z"⟩ : MethodName) (head1 (Jvm.Cond.code (⟨"com/example/odds2/odds2/engine/Bounds", "tightenUpper", "([DID)Z"⟩ : MethodName) prog_7_method_7_code 5 (some .boolean) :: ws) ({ frames := 0, cells := 0, slots := 0, locals := 0 } : Room)) (fun a U => a = #[(.ref a1), (.int (0 : Int32)), (.double (FP.i2d b))] ∧ Z.Warmed39 U.vm ∧ U.heap = h0) (fun _ _ _ _ _ => True) (fun _ U o U' => ∃ v L, o = .returned v ∧ rm1_0lt_Q Z a1 x0 x1 x2 b kc h0 n0 v U'.heap L ∧ FrameEnd U o U' L ({ frames := 0, cells := 0, slots := 0, locals := 0 } : Room).cells ({ frames := 0, cells := 0, slots := 0, locals := 0 } : Room).slots) := by
  refine MetFree.of_bodySF (plainFor_of_name rm1_0lt_pn) hisR ?_
  intro p e s m args below meth c s₁ Bd hml0 hP hK
  obtain ⟨rfl, hZ, hh⟩ := hP
  have hx := Bd.exec
  have hby := Bd.bytes
  have hml : c.maxLocals = 5 := hml0
  have hown : s.vm.findClass "com/example/odds2/odds2/engine/Bounds" = some m.cls := findClass_of_methodNamed Bd.named
  have hnm := (name_of_methodNamed Bd.named Bd.method).1
  have X0 : Stand p l e ({ frames := 0, cells := 0, slots := 0, locals := 0 } : Room) s m #[(.ref a1), (.int (0 : Int32)), (.double (FP.i2d b))] below meth c s₁ [] 0 0 := Stand.of_body Bd
  have e0 : s₁.heap = h0 := by rw [← hh, Bd.state]; rfl
  have N0 := Fr.nil n0
  refine own_via (fun t k => castTop (rm1_0lt_ef m a1 (0 : Int32) (FP.i2d b)) k) ?_
  have K0 := Keep.refl h0 [a1]
  show own_G p e below _ (s₁.setTop (mkF m 0 #[.val (.ref a1), .val (.int (0 : Int32)), .val (.double (FP.i2d b)), .second, .unset] []))
  refine own_via (fun t k => XS.dloadN X0.here hx rfl (hb hby d1_0) rfl k) ?_
  show own_G p e below _ (s₁.setTop (mkF m 1 #[.val (.ref a1), .val (.int (0 : Int32)), .val (.double (FP.i2d b)), .second, .unset] [(.double (FP.i2d b))]))
  refine own_via (fun t k => XS.aloadN X0.here hx rfl (hb hby d1_1) rfl rfl k) ?_
  show own_G p e below _ (s₁.setTop (mkF m 2 #[.val (.ref a1), .val (.int (0 : Int32)), .val (.double (FP.i2d b)), .second, .unset] [(.ref a1), (.double (FP.i2d b))]))
  refine own_via (fun t k => XS.iloadN X0.here hx rfl (hb hby d1_2) rfl k) ?_
  show own_G p e below _ (s₁.setTop (mkF m 3 #[.val (.ref a1), .val (.int (0 : Int32)), .val (.double (FP.i2d b)), .second, .unset] [(.int (0 : Int32)), (.ref a1), (.double (FP.i2d b))]))
  obtain ⟨cl1, Ar1, q1, S1, Ng1, Hs1, G1⟩ := id V0
  have hin1 : ¬ ((0 : Int32) < 0 ∨ cl1.slots.size ≤ ((0 : Int32)).toNatClampNeg) := inb_of S1 ⟨by decide, by decide⟩
  have hat1 : cl1.slots[((0 : Int32)).toNatClampNeg]? = some (.double (FP.i2d x0)) := Hs1.at hin1 rfl
  refine own_via (fun t k => X0.daload hx (j := (0 : Int32)) (v := (.double (FP.i2d x0))) (by rw [e0]; exact Ar1.1) (State.isArrayOf_alike hZ.alike Ar1.2.1) Ar1.2.2 hin1 hat1 (g := (mkF m 3 #[.val (.ref a1), .val (.int (0 : Int32)), .val (.double (FP.i2d b)), .second, .unset] [(.int (0 : Int32)), (.ref a1), (.double (FP.i2d b))])) rfl rfl (hb hby d1_3) _ k) ?_
  show own_G p e below _ (s₁.setTop (mkF m 4 #[.val (.ref a1), .val (.int (0 : Int32)), .val (.double (FP.i2d b)), .second, .unset] [(.double (FP.i2d x0)), (.double (FP.i2d b))]))
  refine own_via (fun t k => XS.dcmpS X0.here hx rfl (hb hby d1_4) rfl (own_dc_lt hob _) k) ?_
  show own_G p e below _ (s₁.setTop (mkF m 5 #[.val (.ref a1), .val (.int (0 : Int32)), .val (.double (FP.i2d b)), .second, .unset] [(.int (-1 : Int32))]))
  refine own_via (fun t k => XS.ifNo X0.here hx rfl (hb hby d1_5) rfl ((if0 _ _).trans (tlt (by decide : (-1 : Int32) < (0 : Int32))).2.1) k) ?_
  show own_G p e below _ (s₁.setTop (mkF m 8 #[.val (.ref a1), .val (.int (0 : Int32)), .val (.double (FP.i2d b)), .second, .unset] []))
  refine own_via (fun t k => XS.iconst X0.here hx rfl (hb hby d1_8) k) ?_
  show own_G p e below _ (s₁.setTop (mkF m 9 #[.val (.ref a1), .val (.int (0 : Int32)), .val (.double (FP.i2d b)), .second, .unset] [(.int (1 : Int32))]))
  refine own_via (fun t k => XS.goto X0.here hx rfl (pc0 := 9) (pc' := 13) rfl (hb hby d1_9) (by decide) (by decide) k) ?_
  show own_G p e below _ (s₁.setTop (mkF m 13 #[.val (.ref a1), .val (.int (0 : Int32)), .val (.double (FP.i2d b)), .second, .unset] [(.int (1 : Int32))]))
  refine own_via (fun t k => XS.istore X0.here hx rfl (hb hby d1_13) rfl (l' := #[.val (.ref a1), .val (.int (0 : Int32)), .val (.double (FP.i2d b)), .second, .val (.int (1 : Int32))]) rfl k) ?_
  show own_G p e below _ (s₁.setTop (mkF m 15 #[.val (.ref a1), .val (.int (0 : Int32)), .val (.double (FP.i2d b)), .second, .val (.int (1 : Int32))] []))
  refine own_via (fun t k => XS.iload X0.here hx rfl (hb hby d1_15) rfl k) ?_
  show own_G p e below _ (s₁.setTop (mkF m 17 #[.val (.ref a1), .val (.int (0 : Int32)), .val (.double (FP.i2d b)), .second, .val (.int (1 : Int32))] [(.int (1 : Int32))]))
  refine own_via (fun t k => XS.ifNo X0.here hx rfl (hb hby d1_17) rfl ((if0 _ _).trans (feq (by decide : ¬ ((1 : Int32) = (0 : Int32)))).1) k) ?_
  show own_G p e below _ (s₁.setTop (mkF m 20 #[.val (.ref a1), .val (.int (0 : Int32)), .val (.double (FP.i2d b)), .second, .val (.int (1 : Int32))] []))
  refine own_via (fun t k => XS.aloadN X0.here hx rfl (hb hby d1_20) rfl rfl k) ?_
  show own_G p e below _ (s₁.setTop (mkF m 21 #[.val (.ref a1), .val (.int (0 : Int32)), .val (.double (FP.i2d b)), .second, .val (.int (1 : Int32))] [(.ref a1)]))
  refine own_via (fun t k => XS.iloadN X0.here hx rfl (hb hby d1_21) rfl k) ?_
  show own_G p e below _ (s₁.setTop (mkF m 22 #[.val (.ref a1), .val (.int (0 : Int32)), .val (.double (FP.i2d b)), .second, .val (.int (1 : Int32))] [(.int (0 : Int32)), (.ref a1)]))
  refine own_via (fun t k => XS.dloadN X0.here hx rfl (hb hby d1_22) rfl k) ?_
  show own_G p e below _ (s₁.setTop (mkF m 23 #[.val (.ref a1), .val (.int (0 : Int32)), .val (.double (FP.i2d b)), .second, .val (.int (1 : Int32))] [(.double (FP.i2d b)), (.int (0 : Int32)), (.ref a1)]))
  obtain ⟨cl4, Ar4, q4, S4, Ng4, Hs4, G4⟩ := id V0
  have hin4 : ¬ ((0 : Int32) < 0 ∨ cl4.slots.size ≤ ((0 : Int32)).toNatClampNeg) := inb_of S4 ⟨by decide, by decide⟩
  obtain ⟨T4, h4, X4, e4, W4, st4⟩ := stD X0 hx hZ e0 Ar4 (j := (0 : Int32)) hin4 (g := (mkF m 23 #[.val (.ref a1), .val (.int (0 : Int32)), .val (.double (FP.i2d b)), .second, .val (.int (1 : Int32))] [(.double (FP.i2d b)), (.int (0 : Int32)), (.ref a1)])) rfl rfl (hb hby d1_23)
  have V4 : Arv Z h4 a1 kc .double (3 : Int32) [(.double (FP.i2d b)), (.double (FP.i2d x1)), (.double (FP.i2d x2))] (.double (0 : UInt64)) := Arv.set Ar4 q4 S4 Ng4 Hs4 G4 rfl W4 0 rfl (Nat.le_of_ble_eq_true rfl)
  have N4 := Fr.snoc X4 N0 gx_a1
  have Z4 : n0 ≤ h4.size := Nat.le_trans Z0 (Nat.le_of_eq W4.size.symm)
  have K4 := K0.wr W4 (Or.inl (List.mem_of_getElem? (i := 0) rfl))
  refine own_via st4 ?_
  show own_G p e below _ (T4.setTop (mkF m 24 #[.val (.ref a1), .val (.int (0 : Int32)), .val (.double (FP.i2d b)), .second, .val (.int (1 : Int32))] []))
  refine own_via (fun t k => XS.iload X4.here hx rfl (hb hby d1_24) rfl k) ?_
  show own_G p e below _ (T4.setTop (mkF m 26 #[.val (.ref a1), .val (.int (0 : Int32)), .val (.double (FP.i2d b)), .second, .val (.int (1 : Int32))] [(.int (1 : Int32))]))
  obtain ⟨fs, hr, hrun, hended, hW, hsame⟩ := X4.leave (v := some (.int (1 : Int32))) (fun h => by rw [Bd.returns] at h; cases h)
  refine ⟨_, _, retN X4 hx (t := .boolean) Bd.returns (by simp) (hb hby d1_26) hr, hrun, hended, _, _, rfl, ?_, ⟨_, rfl⟩, hW, hsame.mono (by decide) (by decide)⟩
  show rm1_0lt_Q Z a1 x0 x1 x2 b kc h0 n0 _ T4.heap _
  rw [e4]
  exact ⟨rfl, N4, K4, V4⟩

theorem rm1_0eq_pn : plainName "com/example/odds2/odds2/engine/Bounds" = true := by first | (simp [plainName, overriddenIn]; done) | decide +kernel
theorem rm1_0eq_ef (m : MethodId) (z0 : Addr) (z1 : Int32) (z2 : UInt64) : entryFrame m #[(.ref z0), (.int z1), (.double z2)] 5 = mkF m 0 #[.val (.ref z0), .val (.int z1), .val (.double z2), .second, .unset] [] := by first | (simp [entryFrame, mkF, argsToLocals, Value.category]; done) | rfl
def rm1_0eq_Q (Z : State) (a1 : Addr) (x0 : Int32) (x1 : Int32) (x2 : Int32) (b : Int32) (kc : ClassId) (h0 : Heap) (n0 : Nat) (v : Option Value) (h : Heap) (L : List Loc) : Prop := v = some (.int (0 : Int32)) ∧ Fr n0 L ∧ Keep h0 h [a1] ∧ Arv Z h a1 kc .double (3 : Int32) [(.double (FP.i2d x0)), (.double (FP.i2d x1)), (.double (FP.i2d x2))] (.double (0 : UInt64))
set_option maxRecDepth 65536 in
set_option maxHeartbeats 40000000 in
theorem rm1_0eq (l : Launch) (Z : State) (a0 : Array Value) (hw : ∀ d ∈ tables_1, d.before a0 Z = true) (ws : List Jvm.Cond) (a1 : Addr) (x0 : Int32) (x1 : Int32) (x2 : Int32) (b : Int32) (kc : ClassId) (h0 : Heap) (n0 : Nat) (Z0 : n0 ≤ h0.size) (V0 : Arv Z h0 a1 kc .double (3 : Int32) [(.double (FP.i2d x0)), (.double (FP.i2d x1)), (.double (FP.i2d x2))] (.double (0 : UInt64))) (gx_a1 : n0 ≤ a1) (hob : b = x0) :
    MetFree l (⟨"com/example/odds2/odds2/engine/Bounds", "tightenUpper", "([DID)Z"⟩ : MethodName) (head1 (Jvm.Cond.code (⟨"com/example/odds2/odds2/engine/Bounds", "tightenUpper", "([DID)Z"⟩ : MethodName) prog_7_method_7_code 5 (some .boolean) :: ws) ({ frames := 0, cells := 0, slots := 0, locals := 0 } : Room)) (fun a U => a = #[(.ref a1), (.int (0 : Int32)), (.double (FP.i2d b))] ∧ Z.Warmed39 U.vm ∧ U.heap = h0) (fun _ _ _ _ _ => True) (fun _ U o U' => ∃ v L, o = .returned v ∧ rm1_0eq_Q Z a1 x0 x1 x2 b kc h0 n0 v U'.heap L ∧ FrameEnd U o U' L ({ frames := 0, cells := 0, slots := 0, locals := 0 } : Room).cells ({ frames := 0, cells := 0, slots := 0, locals := 0 } : Room).slots) := by
  refine MetFree.of_bodySF (plainFor_of_name rm1_0eq_pn) hisR ?_
  intro p e s m args below meth c s₁ Bd hml0 hP hK
  obtain ⟨rfl, hZ, hh⟩ := hP
  have hx := Bd.exec
  have hby := Bd.bytes
  have hml : c.maxLocals = 5 := hml0
  have hown : s.vm.findClass "com/example/odds2/odds2/engine/Bounds" = some m.cls := findClass_of_methodNamed Bd.named
  have hnm := (name_of_methodNamed Bd.named Bd.method).1
  have X0 : Stand p l e ({ frames := 0, cells := 0, slots := 0, locals := 0 } : Room) s m #[(.ref a1), (.int (0 : Int32)), (.double (FP.i2d b))] below meth c s₁ [] 0 0 := Stand.of_body Bd
  have e0 : s₁.heap = h0 := by rw [← hh, Bd.state]; rfl
  have N0 := Fr.nil n0
  refine own_via (fun t k => castTop (rm1_0eq_ef m a1 (0 : Int32) (FP.i2d b)) k) ?_
  have K0 := Keep.refl h0 [a1]
  show own_G p e below _ (s₁.setTop (mkF m 0 #[.val (.ref a1), .val (.int (0 : Int32)), .val (.double (FP.i2d b)), .second, .unset] []))
  refine own_via (fun t k => XS.dloadN X0.here hx rfl (hb hby d1_0) rfl k) ?_
  show own_G p e below _ (s₁.setTop (mkF m 1 #[.val (.ref a1), .val (.int (0 : Int32)), .val (.double (FP.i2d b)), .second, .unset] [(.double (FP.i2d b))]))
  refine own_via (fun t k => XS.aloadN X0.here hx rfl (hb hby d1_1) rfl rfl k) ?_
  show own_G p e below _ (s₁.setTop (mkF m 2 #[.val (.ref a1), .val (.int (0 : Int32)), .val (.double (FP.i2d b)), .second, .unset] [(.ref a1), (.double (FP.i2d b))]))
  refine own_via (fun t k => XS.iloadN X0.here hx rfl (hb hby d1_2) rfl k) ?_
  show own_G p e below _ (s₁.setTop (mkF m 3 #[.val (.ref a1), .val (.int (0 : Int32)), .val (.double (FP.i2d b)), .second, .unset] [(.int (0 : Int32)), (.ref a1), (.double (FP.i2d b))]))
  obtain ⟨cl1, Ar1, q1, S1, Ng1, Hs1, G1⟩ := id V0
  have hin1 : ¬ ((0 : Int32) < 0 ∨ cl1.slots.size ≤ ((0 : Int32)).toNatClampNeg) := inb_of S1 ⟨by decide, by decide⟩
  have hat1 : cl1.slots[((0 : Int32)).toNatClampNeg]? = some (.double (FP.i2d x0)) := Hs1.at hin1 rfl
  refine own_via (fun t k => X0.daload hx (j := (0 : Int32)) (v := (.double (FP.i2d x0))) (by rw [e0]; exact Ar1.1) (State.isArrayOf_alike hZ.alike Ar1.2.1) Ar1.2.2 hin1 hat1 (g := (mkF m 3 #[.val (.ref a1), .val (.int (0 : Int32)), .val (.double (FP.i2d b)), .second, .unset] [(.int (0 : Int32)), (.ref a1), (.double (FP.i2d b))])) rfl rfl (hb hby d1_3) _ k) ?_
  show own_G p e below _ (s₁.setTop (mkF m 4 #[.val (.ref a1), .val (.int (0 : Int32)), .val (.double (FP.i2d b)), .second, .unset] [(.double (FP.i2d x0)), (.double (FP.i2d b))]))
  refine own_via (fun t k => XS.dcmpS X0.here hx rfl (hb hby d1_4) rfl (own_dc_eq hob _) k) ?_
  show own_G p e below _ (s₁.setTop (mkF m 5 #[.val (.ref a1), .val (.int (0 : Int32)), .val (.double (FP.i2d b)), .second, .unset] [(.int (0 : Int32))]))
  refine own_via (fun t k => XS.ifYes X0.here hx rfl (pc0 := 5) (pc' := 12) rfl (hb hby d1_5) rfl ((if0 _ _).trans (flt (by decide : ¬ ((0 : Int32) < (0 : Int32)))).2.1) (by decide) (by decide) k) ?_
  show own_G p e below _ (s₁.setTop (mkF m 12 #[.val (.ref a1), .val (.int (0 : Int32)), .val (.double (FP.i2d b)), .second, .unset] []))
  refine own_via (fun t k => XS.iconst X0.here hx rfl (hb hby d1_12) k) ?_
  show own_G p e below _ (s₁.setTop (mkF m 13 #[.val (.ref a1), .val (.int (0 : Int32)), .val (.double (FP.i2d b)), .second, .unset] [(.int (0 : Int32))]))
  refine own_via (fun t k => XS.istore X0.here hx rfl (hb hby d1_13) rfl (l' := #[.val (.ref a1), .val (.int (0 : Int32)), .val (.double (FP.i2d b)), .second, .val (.int (0 : Int32))]) rfl k) ?_
  show own_G p e below _ (s₁.setTop (mkF m 15 #[.val (.ref a1), .val (.int (0 : Int32)), .val (.double (FP.i2d b)), .second, .val (.int (0 : Int32))] []))
  refine own_via (fun t k => XS.iload X0.here hx rfl (hb hby d1_15) rfl k) ?_
  show own_G p e below _ (s₁.setTop (mkF m 17 #[.val (.ref a1), .val (.int (0 : Int32)), .val (.double (FP.i2d b)), .second, .val (.int (0 : Int32))] [(.int (0 : Int32))]))
  refine own_via (fun t k => XS.ifYes X0.here hx rfl (pc0 := 17) (pc' := 24) rfl (hb hby d1_17) rfl ((if0 _ _).trans (teq (by decide : (0 : Int32) = (0 : Int32))).1) (by decide) (by decide) k) ?_
  show own_G p e below _ (s₁.setTop (mkF m 24 #[.val (.ref a1), .val (.int (0 : Int32)), .val (.double (FP.i2d b)), .second, .val (.int (0 : Int32))] []))
  refine own_via (fun t k => XS.iload X0.here hx rfl (hb hby d1_24) rfl k) ?_
  show own_G p e below _ (s₁.setTop (mkF m 26 #[.val (.ref a1), .val (.int (0 : Int32)), .val (.double (FP.i2d b)), .second, .val (.int (0 : Int32))] [(.int (0 : Int32))]))
  obtain ⟨fs, hr, hrun, hended, hW, hsame⟩ := X0.leave (v := some (.int (0 : Int32))) (fun h => by rw [Bd.returns] at h; cases h)
  refine ⟨_, _, retN X0 hx (t := .boolean) Bd.returns (by simp) (hb hby d1_26) hr, hrun, hended, _, _, rfl, ?_, ⟨_, rfl⟩, hW, hsame.mono (by decide) (by decide)⟩
  show rm1_0eq_Q Z a1 x0 x1 x2 b kc h0 n0 _ s₁.heap _
  rw [e0]
  exact ⟨rfl, N0, K0, V0⟩

theorem rm1_0gt_pn : plainName "com/example/odds2/odds2/engine/Bounds" = true := by first | (simp [plainName, overriddenIn]; done) | decide +kernel
theorem rm1_0gt_ef (m : MethodId) (z0 : Addr) (z1 : Int32) (z2 : UInt64) : entryFrame m #[(.ref z0), (.int z1), (.double z2)] 5 = mkF m 0 #[.val (.ref z0), .val (.int z1), .val (.double z2), .second, .unset] [] := by first | (simp [entryFrame, mkF, argsToLocals, Value.category]; done) | rfl
def rm1_0gt_Q (Z : State) (a1 : Addr) (x0 : Int32) (x1 : Int32) (x2 : Int32) (b : Int32) (kc : ClassId) (h0 : Heap) (n0 : Nat) (v : Option Value) (h : Heap) (L : List Loc) : Prop := v = some (.int (0 : Int32)) ∧ Fr n0 L ∧ Keep h0 h [a1] ∧ Arv Z h a1 kc .double (3 : Int32) [(.double (FP.i2d x0)), (.double (FP.i2d x1)), (.double (FP.i2d x2))] (.double (0 : UInt64))
set_option maxRecDepth 65536 in
set_option maxHeartbeats 40000000 in
theorem rm1_0gt (l : Launch) (Z : State) (a0 : Array Value) (hw : ∀ d ∈ tables_1, d.before a0 Z = true) (ws : List Jvm.Cond) (a1 : Addr) (x0 : Int32) (x1 : Int32) (x2 : Int32) (b : Int32) (kc : ClassId) (h0 : Heap) (n0 : Nat) (Z0 : n0 ≤ h0.size) (V0 : Arv Z h0 a1 kc .double (3 : Int32) [(.double (FP.i2d x0)), (.double (FP.i2d x1)), (.double (FP.i2d x2))] (.double (0 : UInt64))) (gx_a1 : n0 ≤ a1) (hob : x0 < b) :
    MetFree l (⟨"com/example/odds2/odds2/engine/Bounds", "tightenUpper", "([DID)Z"⟩ : MethodName) (head1 (Jvm.Cond.code (⟨"com/example/odds2/odds2/engine/Bounds", "tightenUpper", "([DID)Z"⟩ : MethodName) prog_7_method_7_code 5 (some .boolean) :: ws) ({ frames := 0, cells := 0, slots := 0, locals := 0 } : Room)) (fun a U => a = #[(.ref a1), (.int (0 : Int32)), (.double (FP.i2d b))] ∧ Z.Warmed39 U.vm ∧ U.heap = h0) (fun _ _ _ _ _ => True) (fun _ U o U' => ∃ v L, o = .returned v ∧ rm1_0gt_Q Z a1 x0 x1 x2 b kc h0 n0 v U'.heap L ∧ FrameEnd U o U' L ({ frames := 0, cells := 0, slots := 0, locals := 0 } : Room).cells ({ frames := 0, cells := 0, slots := 0, locals := 0 } : Room).slots) := by
  refine MetFree.of_bodySF (plainFor_of_name rm1_0gt_pn) hisR ?_
  intro p e s m args below meth c s₁ Bd hml0 hP hK
  obtain ⟨rfl, hZ, hh⟩ := hP
  have hx := Bd.exec
  have hby := Bd.bytes
  have hml : c.maxLocals = 5 := hml0
  have hown : s.vm.findClass "com/example/odds2/odds2/engine/Bounds" = some m.cls := findClass_of_methodNamed Bd.named
  have hnm := (name_of_methodNamed Bd.named Bd.method).1
  have X0 : Stand p l e ({ frames := 0, cells := 0, slots := 0, locals := 0 } : Room) s m #[(.ref a1), (.int (0 : Int32)), (.double (FP.i2d b))] below meth c s₁ [] 0 0 := Stand.of_body Bd
  have e0 : s₁.heap = h0 := by rw [← hh, Bd.state]; rfl
  have N0 := Fr.nil n0
  refine own_via (fun t k => castTop (rm1_0gt_ef m a1 (0 : Int32) (FP.i2d b)) k) ?_
  have K0 := Keep.refl h0 [a1]
  show own_G p e below _ (s₁.setTop (mkF m 0 #[.val (.ref a1), .val (.int (0 : Int32)), .val (.double (FP.i2d b)), .second, .unset] []))
  refine own_via (fun t k => XS.dloadN X0.here hx rfl (hb hby d1_0) rfl k) ?_
  show own_G p e below _ (s₁.setTop (mkF m 1 #[.val (.ref a1), .val (.int (0 : Int32)), .val (.double (FP.i2d b)), .second, .unset] [(.double (FP.i2d b))]))
  refine own_via (fun t k => XS.aloadN X0.here hx rfl (hb hby d1_1) rfl rfl k) ?_
  show own_G p e below _ (s₁.setTop (mkF m 2 #[.val (.ref a1), .val (.int (0 : Int32)), .val (.double (FP.i2d b)), .second, .unset] [(.ref a1), (.double (FP.i2d b))]))
  refine own_via (fun t k => XS.iloadN X0.here hx rfl (hb hby d1_2) rfl k) ?_
  show own_G p e below _ (s₁.setTop (mkF m 3 #[.val (.ref a1), .val (.int (0 : Int32)), .val (.double (FP.i2d b)), .second, .unset] [(.int (0 : Int32)), (.ref a1), (.double (FP.i2d b))]))
  obtain ⟨cl1, Ar1, q1, S1, Ng1, Hs1, G1⟩ := id V0
  have hin1 : ¬ ((0 : Int32) < 0 ∨ cl1.slots.size ≤ ((0 : Int32)).toNatClampNeg) := inb_of S1 ⟨by decide, by decide⟩
  have hat1 : cl1.slots[((0 : Int32)).toNatClampNeg]? = some (.double (FP.i2d x0)) := Hs1.at hin1 rfl
  refine own_via (fun t k => X0.daload hx (j := (0 : Int32)) (v := (.double (FP.i2d x0))) (by rw [e0]; exact Ar1.1) (State.isArrayOf_alike hZ.alike Ar1.2.1) Ar1.2.2 hin1 hat1 (g := (mkF m 3 #[.val (.ref a1), .val (.int (0 : Int32)), .val (.double (FP.i2d b)), .second, .unset] [(.int (0 : Int32)), (.ref a1), (.double (FP.i2d b))])) rfl rfl (hb hby d1_3) _ k) ?_
  show own_G p e below _ (s₁.setTop (mkF m 4 #[.val (.ref a1), .val (.int (0 : Int32)), .val (.double (FP.i2d b)), .second, .unset] [(.double (FP.i2d x0)), (.double (FP.i2d b))]))
  refine own_via (fun t k => XS.dcmpS X0.here hx rfl (hb hby d1_4) rfl (own_dc_gt hob _) k) ?_
  show own_G p e below _ (s₁.setTop (mkF m 5 #[.val (.ref a1), .val (.int (0 : Int32)), .val (.double (FP.i2d b)), .second, .unset] [(.int (1 : Int32))]))
  refine own_via (fun t k => XS.ifYes X0.here hx rfl (pc0 := 5) (pc' := 12) rfl (hb hby d1_5) rfl ((if0 _ _).trans (flt (by decide : ¬ ((1 : Int32) < (0 : Int32)))).2.1) (by decide) (by decide) k) ?_
  show own_G p e below _ (s₁.setTop (mkF m 12 #[.val (.ref a1), .val (.int (0 : Int32)), .val (.double (FP.i2d b)), .second, .unset] []))
  refine own_via (fun t k => XS.iconst X0.here hx rfl (hb hby d1_12) k) ?_
  show own_G p e below _ (s₁.setTop (mkF m 13 #[.val (.ref a1), .val (.int (0 : Int32)), .val (.double (FP.i2d b)), .second, .unset] [(.int (0 : Int32))]))
  refine own_via (fun t k => XS.istore X0.here hx rfl (hb hby d1_13) rfl (l' := #[.val (.ref a1), .val (.int (0 : Int32)), .val (.double (FP.i2d b)), .second, .val (.int (0 : Int32))]) rfl k) ?_
  show own_G p e below _ (s₁.setTop (mkF m 15 #[.val (.ref a1), .val (.int (0 : Int32)), .val (.double (FP.i2d b)), .second, .val (.int (0 : Int32))] []))
  refine own_via (fun t k => XS.iload X0.here hx rfl (hb hby d1_15) rfl k) ?_
  show own_G p e below _ (s₁.setTop (mkF m 17 #[.val (.ref a1), .val (.int (0 : Int32)), .val (.double (FP.i2d b)), .second, .val (.int (0 : Int32))] [(.int (0 : Int32))]))
  refine own_via (fun t k => XS.ifYes X0.here hx rfl (pc0 := 17) (pc' := 24) rfl (hb hby d1_17) rfl ((if0 _ _).trans (teq (by decide : (0 : Int32) = (0 : Int32))).1) (by decide) (by decide) k) ?_
  show own_G p e below _ (s₁.setTop (mkF m 24 #[.val (.ref a1), .val (.int (0 : Int32)), .val (.double (FP.i2d b)), .second, .val (.int (0 : Int32))] []))
  refine own_via (fun t k => XS.iload X0.here hx rfl (hb hby d1_24) rfl k) ?_
  show own_G p e below _ (s₁.setTop (mkF m 26 #[.val (.ref a1), .val (.int (0 : Int32)), .val (.double (FP.i2d b)), .second, .val (.int (0 : Int32))] [(.int (0 : Int32))]))
  obtain ⟨fs, hr, hrun, hended, hW, hsame⟩ := X0.leave (v := some (.int (0 : Int32))) (fun h => by rw [Bd.returns] at h; cases h)
  refine ⟨_, _, retN X0 hx (t := .boolean) Bd.returns (by simp) (hb hby d1_26) hr, hrun, hended, _, _, rfl, ?_, ⟨_, rfl⟩, hW, hsame.mono (by decide) (by decide)⟩
  show rm1_0gt_Q Z a1 x0 x1 x2 b kc h0 n0 _ s₁.heap _
  rw [e0]
  exact ⟨rfl, N0, K0, V0⟩

theorem rm1_1lt_pn : plainName "com/example/odds2/odds2/engine/Bounds" = true := by first | (simp [plainName, overriddenIn]; done) | decide +kernel
theorem rm1_1lt_ef (m : MethodId) (z0 : Addr) (z1 : Int32) (z2 : UInt64) : entryFrame m #[(.ref z0), (.int z1), (.double z2)] 5 = mkF m 0 #[.val (.ref z0), .val (.int z1), .val (.double z2), .second, .unset] [] := by first | (simp [entryFrame, mkF, argsToLocals, Value.category]; done) | rfl
def rm1_1lt_Q (Z : State) (a1 : Addr) (x0 : Int32) (x1 : Int32) (x2 : Int32) (b : Int32) (kc : ClassId) (h0 : Heap) (n0 : Nat) (v : Option Value) (h : Heap) (L : List Loc) : Prop := v = some (.int (1 : Int32)) ∧ Fr n0 L ∧ Keep h0 h [a1] ∧ Arv Z h a1 kc .double (3 : Int32) [(.double (FP.i2d x0)), (.double (FP.i2d b)), (.double (FP.i2d x2))] (.double (0 : UInt64))
set_option maxRecDepth 65536 in
set_option maxHeartbeats 40000000 in
theorem rm1_1lt (l : Launch) (Z : State) (a0 : Array Value) (hw : ∀ d ∈ tables_1, d.before a0 Z = true) (ws : List Jvm.Cond) (a1 : Addr) (x0 : Int32) (x1 : Int32) (x2 : Int32) (b : Int32) (kc : ClassId) (h0 : Heap) (n0 : Nat) (Z0 : n0 ≤ h0.size) (V0 : Arv Z h0 a1 kc .double (3 : Int32) [(.double (FP.i2d x0)), (.double (FP.i2d x1)), (.double (FP.i2d x2))] (.double (0 : UInt64))) (gx_a1 : n0 ≤ a1) (hob : b < x1) :
    MetFree l (⟨"com/example/odds2/odds2/engine/Bounds", "tightenUpper", "([DID)Z"⟩ : MethodName) (head1 (Jvm.Cond.code (⟨"com/example/odds2/odds2/engine/Bounds", "tightenUpper", "([DID)Z"⟩ : MethodName) prog_7_method_7_code 5 (some .boolean) :: ws) ({ frames := 0, cells := 0, slots := 0, locals := 0 } : Room)) (fun a U => a = #[(.ref a1), (.int (1 : Int32)), (.double (FP.i2d b))] ∧ Z.Warmed39 U.vm ∧ U.heap = h0) (fun _ _ _ _ _ => True) (fun _ U o U' => ∃ v L, o = .returned v ∧ rm1_1lt_Q Z a1 x0 x1 x2 b kc h0 n0 v U'.heap L ∧ FrameEnd U o U' L ({ frames := 0, cells := 0, slots := 0, locals := 0 } : Room).cells ({ frames := 0, cells := 0, slots := 0, locals := 0 } : Room).slots) := by
  refine MetFree.of_bodySF (plainFor_of_name rm1_1lt_pn) hisR ?_
  intro p e s m args below meth c s₁ Bd hml0 hP hK
  obtain ⟨rfl, hZ, hh⟩ := hP
  have hx := Bd.exec
  have hby := Bd.bytes
  have hml : c.maxLocals = 5 := hml0
  have hown : s.vm.findClass "com/example/odds2/odds2/engine/Bounds" = some m.cls := findClass_of_methodNamed Bd.named
  have hnm := (name_of_methodNamed Bd.named Bd.method).1
  have X0 : Stand p l e ({ frames := 0, cells := 0, slots := 0, locals := 0 } : Room) s m #[(.ref a1), (.int (1 : Int32)), (.double (FP.i2d b))] below meth c s₁ [] 0 0 := Stand.of_body Bd
  have e0 : s₁.heap = h0 := by rw [← hh, Bd.state]; rfl
  have N0 := Fr.nil n0
  refine own_via (fun t k => castTop (rm1_1lt_ef m a1 (1 : Int32) (FP.i2d b)) k) ?_
  have K0 := Keep.refl h0 [a1]
  show own_G p e below _ (s₁.setTop (mkF m 0 #[.val (.ref a1), .val (.int (1 : Int32)), .val (.double (FP.i2d b)), .second, .unset] []))
  refine own_via (fun t k => XS.dloadN X0.here hx rfl (hb hby d1_0) rfl k) ?_
  show own_G p e below _ (s₁.setTop (mkF m 1 #[.val (.ref a1), .val (.int (1 : Int32)), .val (.double (FP.i2d b)), .second, .unset] [(.double (FP.i2d b))]))
  refine own_via (fun t k => XS.aloadN X0.here hx rfl (hb hby d1_1) rfl rfl k) ?_
  show own_G p e below _ (s₁.setTop (mkF m 2 #[.val (.ref a1), .val (.int (1 : Int32)), .val (.double (FP.i2d b)), .second, .unset] [(.ref a1), (.double (FP.i2d b))]))
  refine own_via (fun t k => XS.iloadN X0.here hx rfl (hb hby d1_2) rfl k) ?_
  show own_G p e below _ (s₁.setTop (mkF m 3 #[.val (.ref a1), .val (.int (1 : Int32)), .val (.double (FP.i2d b)), .second, .unset] [(.int (1 : Int32)), (.ref a1), (.double (FP.i2d b))]))
  obtain ⟨cl1, Ar1, q1, S1, Ng1, Hs1, G1⟩ := id V0
  have hin1 : ¬ ((1 : Int32) < 0 ∨ cl1.slots.size ≤ ((1 : Int32)).toNatClampNeg) := inb_of S1 ⟨by decide, by decide⟩
  have hat1 : cl1.slots[((1 : Int32)).toNatClampNeg]? = some (.double (FP.i2d x1)) := Hs1.at hin1 rfl
  refine own_via (fun t k => X0.daload hx (j := (1 : Int32)) (v := (.double (FP.i2d x1))) (by rw [e0]; exact Ar1.1) (State.isArrayOf_alike hZ.alike Ar1.2.1) Ar1.2.2 hin1 hat1 (g := (mkF m 3 #[.val (.ref a1), .val (.int (1 : Int32)), .val (.double (FP.i2d b)), .second, .unset] [(.int (1 : Int32)), (.ref a1), (.double (FP.i2d b))])) rfl rfl (hb hby d1_3) _ k) ?_
  show own_G p e below _ (s₁.setTop (mkF m 4 #[.val (.ref a1), .val (.int (1 : Int32)), .val (.double (FP.i2d b)), .second, .unset] [(.double (FP.i2d x1)), (.double (FP.i2d b))]))
  refine own_via (fun t k => XS.dcmpS X0.here hx rfl (hb hby d1_4) rfl (own_dc_lt hob _) k) ?_
  show own_G p e below _ (s₁.setTop (mkF m 5 #[.val (.ref a1), .val (.int (1 : Int32)), .val (.double (FP.i2d b)), .second, .unset] [(.int (-1 : Int32))]))
  refine own_via (fun t k => XS.ifNo X0.here hx rfl (hb hby d1_5) rfl ((if0 _ _).trans (tlt (by decide : (-1 : Int32) < (0 : Int32))).2.1) k) ?_
  show own_G p e below _ (s₁.setTop (mkF m 8 #[.val (.ref a1), .val (.int (1 : Int32)), .val (.double (FP.i2d b)), .second, .unset] []))
  refine own_via (fun t k => XS.iconst X0.here hx rfl (hb hby d1_8) k) ?_
  show own_G p e below _ (s₁.setTop (mkF m 9 #[.val (.ref a1), .val (.int (1 : Int32)), .val (.double (FP.i2d b)), .second, .unset] [(.int (1 : Int32))]))
  refine own_via (fun t k => XS.goto X0.here hx rfl (pc0 := 9) (pc' := 13) rfl (hb hby d1_9) (by decide) (by decide) k) ?_
  show own_G p e below _ (s₁.setTop (mkF m 13 #[.val (.ref a1), .val (.int (1 : Int32)), .val (.double (FP.i2d b)), .second, .unset] [(.int (1 : Int32))]))
  refine own_via (fun t k => XS.istore X0.here hx rfl (hb hby d1_13) rfl (l' := #[.val (.ref a1), .val (.int (1 : Int32)), .val (.double (FP.i2d b)), .second, .val (.int (1 : Int32))]) rfl k) ?_
  show own_G p e below _ (s₁.setTop (mkF m 15 #[.val (.ref a1), .val (.int (1 : Int32)), .val (.double (FP.i2d b)), .second, .val (.int (1 : Int32))] []))
  refine own_via (fun t k => XS.iload X0.here hx rfl (hb hby d1_15) rfl k) ?_
  show own_G p e below _ (s₁.setTop (mkF m 17 #[.val (.ref a1), .val (.int (1 : Int32)), .val (.double (FP.i2d b)), .second, .val (.int (1 : Int32))] [(.int (1 : Int32))]))
  refine own_via (fun t k => XS.ifNo X0.here hx rfl (hb hby d1_17) rfl ((if0 _ _).trans (feq (by decide : ¬ ((1 : Int32) = (0 : Int32)))).1) k) ?_
  show own_G p e below _ (s₁.setTop (mkF m 20 #[.val (.ref a1), .val (.int (1 : Int32)), .val (.double (FP.i2d b)), .second, .val (.int (1 : Int32))] []))
  refine own_via (fun t k => XS.aloadN X0.here hx rfl (hb hby d1_20) rfl rfl k) ?_
  show own_G p e below _ (s₁.setTop (mkF m 21 #[.val (.ref a1), .val (.int (1 : Int32)), .val (.double (FP.i2d b)), .second, .val (.int (1 : Int32))] [(.ref a1)]))
  refine own_via (fun t k => XS.iloadN X0.here hx rfl (hb hby d1_21) rfl k) ?_
  show own_G p e below _ (s₁.setTop (mkF m 22 #[.val (.ref a1), .val (.int (1 : Int32)), .val (.double (FP.i2d b)), .second, .val (.int (1 : Int32))] [(.int (1 : Int32)), (.ref a1)]))
  refine own_via (fun t k => XS.dloadN X0.here hx rfl (hb hby d1_22) rfl k) ?_
  show own_G p e below _ (s₁.setTop (mkF m 23 #[.val (.ref a1), .val (.int (1 : Int32)), .val (.double (FP.i2d b)), .second, .val (.int (1 : Int32))] [(.double (FP.i2d b)), (.int (1 : Int32)), (.ref a1)]))
  obtain ⟨cl4, Ar4, q4, S4, Ng4, Hs4, G4⟩ := id V0
  have hin4 : ¬ ((1 : Int32) < 0 ∨ cl4.slots.size ≤ ((1 : Int32)).toNatClampNeg) := inb_of S4 ⟨by decide, by decide⟩
  obtain ⟨T4, h4, X4, e4, W4, st4⟩ := stD X0 hx hZ e0 Ar4 (j := (1 : Int32)) hin4 (g := (mkF m 23 #[.val (.ref a1), .val (.int (1 : Int32)), .val (.double (FP.i2d b)), .second, .val (.int (1 : Int32))] [(.double (FP.i2d b)), (.int (1 : Int32)), (.ref a1)])) rfl rfl (hb hby d1_23)
  have V4 : Arv Z h4 a1 kc .double (3 : Int32) [(.double (FP.i2d x0)), (.double (FP.i2d b)), (.double (FP.i2d x2))] (.double (0 : UInt64)) := Arv.set Ar4 q4 S4 Ng4 Hs4 G4 rfl W4 1 rfl (Nat.le_of_ble_eq_true rfl)
  have N4 := Fr.snoc X4 N0 gx_a1
  have Z4 : n0 ≤ h4.size := Nat.le_trans Z0 (Nat.le_of_eq W4.size.symm)
  have K4 := K0.wr W4 (Or.inl (List.mem_of_getElem? (i := 0) rfl))
  refine own_via st4 ?_
  show own_G p e below _ (T4.setTop (mkF m 24 #[.val (.ref a1), .val (.int (1 : Int32)), .val (.double (FP.i2d b)), .second, .val (.int (1 : Int32))] []))
  refine own_via (fun t k => XS.iload X4.here hx rfl (hb hby d1_24) rfl k) ?_
  show own_G p e below _ (T4.setTop (mkF m 26 #[.val (.ref a1), .val (.int (1 : Int32)), .val (.double (FP.i2d b)), .second, .val (.int (1 : Int32))] [(.int (1 : Int32))]))
  obtain ⟨fs, hr, hrun, hended, hW, hsame⟩ := X4.leave (v := some (.int (1 : Int32))) (fun h => by rw [Bd.returns] at h; cases h)
  refine ⟨_, _, retN X4 hx (t := .boolean) Bd.returns (by simp) (hb hby d1_26) hr, hrun, hended, _, _, rfl, ?_, ⟨_, rfl⟩, hW, hsame.mono (by decide) (by decide)⟩
  show rm1_1lt_Q Z a1 x0 x1 x2 b kc h0 n0 _ T4.heap _
  rw [e4]
  exact ⟨rfl, N4, K4, V4⟩

theorem rm1_1eq_pn : plainName "com/example/odds2/odds2/engine/Bounds" = true := by first | (simp [plainName, overriddenIn]; done) | decide +kernel
theorem rm1_1eq_ef (m : MethodId) (z0 : Addr) (z1 : Int32) (z2 : UInt64) : entryFrame m #[(.ref z0), (.int z1), (.double z2)] 5 = mkF m 0 #[.val (.ref z0), .val (.int z1), .val (.double z2), .second, .unset] [] := by first | (simp [entryFrame, mkF, argsToLocals, Value.category]; done) | rfl
def rm1_1eq_Q (Z : State) (a1 : Addr) (x0 : Int32) (x1 : Int32) (x2 : Int32) (b : Int32) (kc : ClassId) (h0 : Heap) (n0 : Nat) (v : Option Value) (h : Heap) (L : List Loc) : Prop := v = some (.int (0 : Int32)) ∧ Fr n0 L ∧ Keep h0 h [a1] ∧ Arv Z h a1 kc .double (3 : Int32) [(.double (FP.i2d x0)), (.double (FP.i2d x1)), (.double (FP.i2d x2))] (.double (0 : UInt64))
set_option maxRecDepth 65536 in
set_option maxHeartbeats 40000000 in
theorem rm1_1eq (l : Launch) (Z : State) (a0 : Array Value) (hw : ∀ d ∈ tables_1, d.before a0 Z = true) (ws : List Jvm.Cond) (a1 : Addr) (x0 : Int32) (x1 : Int32) (x2 : Int32) (b : Int32) (kc : ClassId) (h0 : Heap) (n0 : Nat) (Z0 : n0 ≤ h0.size) (V0 : Arv Z h0 a1 kc .double (3 : Int32) [(.double (FP.i2d x0)), (.double (FP.i2d x1)), (.double (FP.i2d x2))] (.double (0 : UInt64))) (gx_a1 : n0 ≤ a1) (hob : b = x1) :
    MetFree l (⟨"com/example/odds2/odds2/engine/Bounds", "tightenUpper", "([DID)Z"⟩ : MethodName) (head1 (Jvm.Cond.code (⟨"com/example/odds2/odds2/engine/Bounds", "tightenUpper", "([DID)Z"⟩ : MethodName) prog_7_method_7_code 5 (some .boolean) :: ws) ({ frames := 0, cells := 0, slots := 0, locals := 0 } : Room)) (fun a U => a = #[(.ref a1), (.int (1 : Int32)), (.double (FP.i2d b))] ∧ Z.Warmed39 U.vm ∧ U.heap = h0) (fun _ _ _ _ _ => True) (fun _ U o U' => ∃ v L, o = .returned v ∧ rm1_1eq_Q Z a1 x0 x1 x2 b kc h0 n0 v U'.heap L ∧ FrameEnd U o U' L ({ frames := 0, cells := 0, slots := 0, locals := 0 } : Room).cells ({ frames := 0, cells := 0, slots := 0, locals := 0 } : Room).slots) := by
  refine MetFree.of_bodySF (plainFor_of_name rm1_1eq_pn) hisR ?_
  intro p e s m args below meth c s₁ Bd hml0 hP hK
  obtain ⟨rfl, hZ, hh⟩ := hP
  have hx := Bd.exec
  have hby := Bd.bytes
  have hml : c.maxLocals = 5 := hml0
  have hown : s.vm.findClass "com/example/odds2/odds2/engine/Bounds" = some m.cls := findClass_of_methodNamed Bd.named
  have hnm := (name_of_methodNamed Bd.named Bd.method).1
  have X0 : Stand p l e ({ frames := 0, cells := 0, slots := 0, locals := 0 } : Room) s m #[(.ref a1), (.int (1 : Int32)), (.double (FP.i2d b))] below meth c s₁ [] 0 0 := Stand.of_body Bd
  have e0 : s₁.heap = h0 := by rw [← hh, Bd.state]; rfl
  have N0 := Fr.nil n0
  refine own_via (fun t k => castTop (rm1_1eq_ef m a1 (1 : Int32) (FP.i2d b)) k) ?_
  have K0 := Keep.refl h0 [a1]
  show own_G p e below _ (s₁.setTop (mkF m 0 #[.val (.ref a1), .val (.int (1 : Int32)), .val (.double (FP.i2d b)), .second, .unset] []))
  refine own_via (fun t k => XS.dloadN X0.here hx rfl (hb hby d1_0) rfl k) ?_
  show own_G p e below _ (s₁.setTop (mkF m 1 #[.val (.ref a1), .val (.int (1 : Int32)), .val (.double (FP.i2d b)), .second, .unset] [(.double (FP.i2d b))]))
  refine own_via (fun t k => XS.aloadN X0.here hx rfl (hb hby d1_1) rfl rfl k) ?_
  show own_G p e below _ (s₁.setTop (mkF m 2 #[.val (.ref a1), .val (.int (1 : Int32)), .val (.double (FP.i2d b)), .second, .unset] [(.ref a1), (.double (FP.i2d b))]))
  refine own_via (fun t k => XS.iloadN X0.here hx rfl (hb hby d1_2) rfl k) ?_
  show own_G p e below _ (s₁.setTop (mkF m 3 #[.val (.ref a1), .val (.int (1 : Int32)), .val (.double (FP.i2d b)), .second, .unset] [(.int (1 : Int32)), (.ref a1), (.double (FP.i2d b))]))
  obtain ⟨cl1, Ar1, q1, S1, Ng1, Hs1, G1⟩ := id V0
  have hin1 : ¬ ((1 : Int32) < 0 ∨ cl1.slots.size ≤ ((1 : Int32)).toNatClampNeg) := inb_of S1 ⟨by decide, by decide⟩
  have hat1 : cl1.slots[((1 : Int32)).toNatClampNeg]? = some (.double (FP.i2d x1)) := Hs1.at hin1 rfl
  refine own_via (fun t k => X0.daload hx (j := (1 : Int32)) (v := (.double (FP.i2d x1))) (by rw [e0]; exact Ar1.1) (State.isArrayOf_alike hZ.alike Ar1.2.1) Ar1.2.2 hin1 hat1 (g := (mkF m 3 #[.val (.ref a1), .val (.int (1 : Int32)), .val (.double (FP.i2d b)), .second, .unset] [(.int (1 : Int32)), (.ref a1), (.double (FP.i2d b))])) rfl rfl (hb hby d1_3) _ k) ?_
  show own_G p e below _ (s₁.setTop (mkF m 4 #[.val (.ref a1), .val (.int (1 : Int32)), .val (.double (FP.i2d b)), .second, .unset] [(.double (FP.i2d x1)), (.double (FP.i2d b))]))
  refine own_via (fun t k => XS.dcmpS X0.here hx rfl (hb hby d1_4) rfl (own_dc_eq hob _) k) ?_
  show own_G p e below _ (s₁.setTop (mkF m 5 #[.val (.ref a1), .val (.int (1 : Int32)), .val (.double (FP.i2d b)), .second, .unset] [(.int (0 : Int32))]))
  refine own_via (fun t k => XS.ifYes X0.here hx rfl (pc0 := 5) (pc' := 12) rfl (hb hby d1_5) rfl ((if0 _ _).trans (flt (by decide : ¬ ((0 : Int32) < (0 : Int32)))).2.1) (by decide) (by decide) k) ?_
  show own_G p e below _ (s₁.setTop (mkF m 12 #[.val (.ref a1), .val (.int (1 : Int32)), .val (.double (FP.i2d b)), .second, .unset] []))
  refine own_via (fun t k => XS.iconst X0.here hx rfl (hb hby d1_12) k) ?_
  show own_G p e below _ (s₁.setTop (mkF m 13 #[.val (.ref a1), .val (.int (1 : Int32)), .val (.double (FP.i2d b)), .second, .unset] [(.int (0 : Int32))]))
  refine own_via (fun t k => XS.istore X0.here hx rfl (hb hby d1_13) rfl (l' := #[.val (.ref a1), .val (.int (1 : Int32)), .val (.double (FP.i2d b)), .second, .val (.int (0 : Int32))]) rfl k) ?_
  show own_G p e below _ (s₁.setTop (mkF m 15 #[.val (.ref a1), .val (.int (1 : Int32)), .val (.double (FP.i2d b)), .second, .val (.int (0 : Int32))] []))
  refine own_via (fun t k => XS.iload X0.here hx rfl (hb hby d1_15) rfl k) ?_
  show own_G p e below _ (s₁.setTop (mkF m 17 #[.val (.ref a1), .val (.int (1 : Int32)), .val (.double (FP.i2d b)), .second, .val (.int (0 : Int32))] [(.int (0 : Int32))]))
  refine own_via (fun t k => XS.ifYes X0.here hx rfl (pc0 := 17) (pc' := 24) rfl (hb hby d1_17) rfl ((if0 _ _).trans (teq (by decide : (0 : Int32) = (0 : Int32))).1) (by decide) (by decide) k) ?_
  show own_G p e below _ (s₁.setTop (mkF m 24 #[.val (.ref a1), .val (.int (1 : Int32)), .val (.double (FP.i2d b)), .second, .val (.int (0 : Int32))] []))
  refine own_via (fun t k => XS.iload X0.here hx rfl (hb hby d1_24) rfl k) ?_
  show own_G p e below _ (s₁.setTop (mkF m 26 #[.val (.ref a1), .val (.int (1 : Int32)), .val (.double (FP.i2d b)), .second, .val (.int (0 : Int32))] [(.int (0 : Int32))]))
  obtain ⟨fs, hr, hrun, hended, hW, hsame⟩ := X0.leave (v := some (.int (0 : Int32))) (fun h => by rw [Bd.returns] at h; cases h)
  refine ⟨_, _, retN X0 hx (t := .boolean) Bd.returns (by simp) (hb hby d1_26) hr, hrun, hended, _, _, rfl, ?_, ⟨_, rfl⟩, hW, hsame.mono (by decide) (by decide)⟩
  show rm1_1eq_Q Z a1 x0 x1 x2 b kc h0 n0 _ s₁.heap _
  rw [e0]
  exact ⟨rfl, N0, K0, V0⟩

theorem rm1_1gt_pn : plainName "com/example/odds2/odds2/engine/Bounds" = true := by first | (simp [plainName, overriddenIn]; done) | decide +kernel
theorem rm1_1gt_ef (m : MethodId) (z0 : Addr) (z1 : Int32) (z2 : UInt64) : entryFrame m #[(.ref z0), (.int z1), (.double z2)] 5 = mkF m 0 #[.val (.ref z0), .val (.int z1), .val (.double z2), .second, .unset] [] := by first | (simp [entryFrame, mkF, argsToLocals, Value.category]; done) | rfl
def rm1_1gt_Q (Z : State) (a1 : Addr) (x0 : Int32) (x1 : Int32) (x2 : Int32) (b : Int32) (kc : ClassId) (h0 : Heap) (n0 : Nat) (v : Option Value) (h : Heap) (L : List Loc) : Prop := v = some (.int (0 : Int32)) ∧ Fr n0 L ∧ Keep h0 h [a1] ∧ Arv Z h a1 kc .double (3 : Int32) [(.double (FP.i2d x0)), (.double (FP.i2d x1)), (.double (FP.i2d x2))] (.double (0 : UInt64))
set_option maxRecDepth 65536 in
set_option maxHeartbeats 40000000 in
theorem rm1_1gt (l : Launch) (Z : State) (a0 : Array Value) (hw : ∀ d ∈ tables_1, d.before a0 Z = true) (ws : List Jvm.Cond) (a1 : Addr) (x0 : Int32) (x1 : Int32) (x2 : Int32) (b : Int32) (kc : ClassId) (h0 : Heap) (n0 : Nat) (Z0 : n0 ≤ h0.size) (V0 : Arv Z h0 a1 kc .double (3 : Int32) [(.double (FP.i2d x0)), (.double (FP.i2d x1)), (.double (FP.i2d x2))] (.double (0 : UInt64))) (gx_a1 : n0 ≤ a1) (hob : x1 < b) :
    MetFree l (⟨"com/example/odds2/odds2/engine/Bounds", "tightenUpper", "([DID)Z"⟩ : MethodName) (head1 (Jvm.Cond.code (⟨"com/example/odds2/odds2/engine/Bounds", "tightenUpper", "([DID)Z"⟩ : MethodName) prog_7_method_7_code 5 (some .boolean) :: ws) ({ frames := 0, cells := 0, slots := 0, locals := 0 } : Room)) (fun a U => a = #[(.ref a1), (.int (1 : Int32)), (.double (FP.i2d b))] ∧ Z.Warmed39 U.vm ∧ U.heap = h0) (fun _ _ _ _ _ => True) (fun _ U o U' => ∃ v L, o = .returned v ∧ rm1_1gt_Q Z a1 x0 x1 x2 b kc h0 n0 v U'.heap L ∧ FrameEnd U o U' L ({ frames := 0, cells := 0, slots := 0, locals := 0 } : Room).cells ({ frames := 0, cells := 0, slots := 0, locals := 0 } : Room).slots) := by
  refine MetFree.of_bodySF (plainFor_of_name rm1_1gt_pn) hisR ?_
  intro p e s m args below meth c s₁ Bd hml0 hP hK
  obtain ⟨rfl, hZ, hh⟩ := hP
  have hx := Bd.exec
  have hby := Bd.bytes
  have hml : c.maxLocals = 5 := hml0
  have hown : s.vm.findClass "com/example/odds2/odds2/engine/Bounds" = some m.cls := findClass_of_methodNamed Bd.named
  have hnm := (name_of_methodNamed Bd.named Bd.method).1
  have X0 : Stand p l e ({ frames := 0, cells := 0, slots := 0, locals := 0 } : Room) s m #[(.ref a1), (.int (1 : Int32)), (.double (FP.i2d b))] below meth c s₁ [] 0 0 := Stand.of_body Bd
  have e0 : s₁.heap = h0 := by rw [← hh, Bd.state]; rfl
  have N0 := Fr.nil n0
  refine own_via (fun t k => castTop (rm1_1gt_ef m a1 (1 : Int32) (FP.i2d b)) k) ?_
  have K0 := Keep.refl h0 [a1]
  show own_G p e below _ (s₁.setTop (mkF m 0 #[.val (.ref a1), .val (.int (1 : Int32)), .val (.double (FP.i2d b)), .second, .unset] []))
  refine own_via (fun t k => XS.dloadN X0.here hx rfl (hb hby d1_0) rfl k) ?_
  show own_G p e below _ (s₁.setTop (mkF m 1 #[.val (.ref a1), .val (.int (1 : Int32)), .val (.double (FP.i2d b)), .second, .unset] [(.double (FP.i2d b))]))
  refine own_via (fun t k => XS.aloadN X0.here hx rfl (hb hby d1_1) rfl rfl k) ?_
  show own_G p e below _ (s₁.setTop (mkF m 2 #[.val (.ref a1), .val (.int (1 : Int32)), .val (.double (FP.i2d b)), .second, .unset] [(.ref a1), (.double (FP.i2d b))]))
  refine own_via (fun t k => XS.iloadN X0.here hx rfl (hb hby d1_2) rfl k) ?_
  show own_G p e below _ (s₁.setTop (mkF m 3 #[.val (.ref a1), .val (.int (1 : Int32)), .val (.double (FP.i2d b)), .second, .unset] [(.int (1 : Int32)), (.ref a1), (.double (FP.i2d b))]))
  obtain ⟨cl1, Ar1, q1, S1, Ng1, Hs1, G1⟩ := id V0
  have hin1 : ¬ ((1 : Int32) < 0 ∨ cl1.slots.size ≤ ((1 : Int32)).toNatClampNeg) := inb_of S1 ⟨by decide, by decide⟩
  have hat1 : cl1.slots[((1 : Int32)).toNatClampNeg]? = some (.double (FP.i2d x1)) := Hs1.at hin1 rfl
  refine own_via (fun t k => X0.daload hx (j := (1 : Int32)) (v := (.double (FP.i2d x1))) (by rw [e0]; exact Ar1.1) (State.isArrayOf_alike hZ.alike Ar1.2.1) Ar1.2.2 hin1 hat1 (g := (mkF m 3 #[.val (.ref a1), .val (.int (1 : Int32)), .val (.double (FP.i2d b)), .second, .unset] [(.int (1 : Int32)), (.ref a1), (.double (FP.i2d b))])) rfl rfl (hb hby d1_3) _ k) ?_
  show own_G p e below _ (s₁.setTop (mkF m 4 #[.val (.ref a1), .val (.int (1 : Int32)), .val (.double (FP.i2d b)), .second, .unset] [(.double (FP.i2d x1)), (.double (FP.i2d b))]))
  refine own_via (fun t k => XS.dcmpS X0.here hx rfl (hb hby d1_4) rfl (own_dc_gt hob _) k) ?_
  show own_G p e below _ (s₁.setTop (mkF m 5 #[.val (.ref a1), .val (.int (1 : Int32)), .val (.double (FP.i2d b)), .second, .unset] [(.int (1 : Int32))]))
  refine own_via (fun t k => XS.ifYes X0.here hx rfl (pc0 := 5) (pc' := 12) rfl (hb hby d1_5) rfl ((if0 _ _).trans (flt (by decide : ¬ ((1 : Int32) < (0 : Int32)))).2.1) (by decide) (by decide) k) ?_
  show own_G p e below _ (s₁.setTop (mkF m 12 #[.val (.ref a1), .val (.int (1 : Int32)), .val (.double (FP.i2d b)), .second, .unset] []))
  refine own_via (fun t k => XS.iconst X0.here hx rfl (hb hby d1_12) k) ?_
  show own_G p e below _ (s₁.setTop (mkF m 13 #[.val (.ref a1), .val (.int (1 : Int32)), .val (.double (FP.i2d b)), .second, .unset] [(.int (0 : Int32))]))
  refine own_via (fun t k => XS.istore X0.here hx rfl (hb hby d1_13) rfl (l' := #[.val (.ref a1), .val (.int (1 : Int32)), .val (.double (FP.i2d b)), .second, .val (.int (0 : Int32))]) rfl k) ?_
  show own_G p e below _ (s₁.setTop (mkF m 15 #[.val (.ref a1), .val (.int (1 : Int32)), .val (.double (FP.i2d b)), .second, .val (.int (0 : Int32))] []))
  refine own_via (fun t k => XS.iload X0.here hx rfl (hb hby d1_15) rfl k) ?_
  show own_G p e below _ (s₁.setTop (mkF m 17 #[.val (.ref a1), .val (.int (1 : Int32)), .val (.double (FP.i2d b)), .second, .val (.int (0 : Int32))] [(.int (0 : Int32))]))
  refine own_via (fun t k => XS.ifYes X0.here hx rfl (pc0 := 17) (pc' := 24) rfl (hb hby d1_17) rfl ((if0 _ _).trans (teq (by decide : (0 : Int32) = (0 : Int32))).1) (by decide) (by decide) k) ?_
  show own_G p e below _ (s₁.setTop (mkF m 24 #[.val (.ref a1), .val (.int (1 : Int32)), .val (.double (FP.i2d b)), .second, .val (.int (0 : Int32))] []))
  refine own_via (fun t k => XS.iload X0.here hx rfl (hb hby d1_24) rfl k) ?_
  show own_G p e below _ (s₁.setTop (mkF m 26 #[.val (.ref a1), .val (.int (1 : Int32)), .val (.double (FP.i2d b)), .second, .val (.int (0 : Int32))] [(.int (0 : Int32))]))
  obtain ⟨fs, hr, hrun, hended, hW, hsame⟩ := X0.leave (v := some (.int (0 : Int32))) (fun h => by rw [Bd.returns] at h; cases h)
  refine ⟨_, _, retN X0 hx (t := .boolean) Bd.returns (by simp) (hb hby d1_26) hr, hrun, hended, _, _, rfl, ?_, ⟨_, rfl⟩, hW, hsame.mono (by decide) (by decide)⟩
  show rm1_1gt_Q Z a1 x0 x1 x2 b kc h0 n0 _ s₁.heap _
  rw [e0]
  exact ⟨rfl, N0, K0, V0⟩

theorem rm1_2lt_pn : plainName "com/example/odds2/odds2/engine/Bounds" = true := by first | (simp [plainName, overriddenIn]; done) | decide +kernel
theorem rm1_2lt_ef (m : MethodId) (z0 : Addr) (z1 : Int32) (z2 : UInt64) : entryFrame m #[(.ref z0), (.int z1), (.double z2)] 5 = mkF m 0 #[.val (.ref z0), .val (.int z1), .val (.double z2), .second, .unset] [] := by first | (simp [entryFrame, mkF, argsToLocals, Value.category]; done) | rfl
def rm1_2lt_Q (Z : State) (a1 : Addr) (x0 : Int32) (x1 : Int32) (x2 : Int32) (b : Int32) (kc : ClassId) (h0 : Heap) (n0 : Nat) (v : Option Value) (h : Heap) (L : List Loc) : Prop := v = some (.int (1 : Int32)) ∧ Fr n0 L ∧ Keep h0 h [a1] ∧ Arv Z h a1 kc .double (3 : Int32) [(.double (FP.i2d x0)), (.double (FP.i2d x1)), (.double (FP.i2d b))] (.double (0 : UInt64))
set_option maxRecDepth 65536 in
set_option maxHeartbeats 40000000 in
theorem rm1_2lt (l : Launch) (Z : State) (a0 : Array Value) (hw : ∀ d ∈ tables_1, d.before a0 Z = true) (ws : List Jvm.Cond) (a1 : Addr) (x0 : Int32) (x1 : Int32) (x2 : Int32) (b : Int32) (kc : ClassId) (h0 : Heap) (n0 : Nat) (Z0 : n0 ≤ h0.size) (V0 : Arv Z h0 a1 kc .double (3 : Int32) [(.double (FP.i2d x0)), (.double (FP.i2d x1)), (.double (FP.i2d x2))] (.double (0 : UInt64))) (gx_a1 : n0 ≤ a1) (hob : b < x2) :
    MetFree l (⟨"com/example/odds2/odds2/engine/Bounds", "tightenUpper", "([DID)Z"⟩ : MethodName) (head1 (Jvm.Cond.code (⟨"com/example/odds2/odds2/engine/Bounds", "tightenUpper", "([DID)Z"⟩ : MethodName) prog_7_method_7_code 5 (some .boolean) :: ws) ({ frames := 0, cells := 0, slots := 0, locals := 0 } : Room)) (fun a U => a = #[(.ref a1), (.int (2 : Int32)), (.double (FP.i2d b))] ∧ Z.Warmed39 U.vm ∧ U.heap = h0) (fun _ _ _ _ _ => True) (fun _ U o U' => ∃ v L, o = .returned v ∧ rm1_2lt_Q Z a1 x0 x1 x2 b kc h0 n0 v U'.heap L ∧ FrameEnd U o U' L ({ frames := 0, cells := 0, slots := 0, locals := 0 } : Room).cells ({ frames := 0, cells := 0, slots := 0, locals := 0 } : Room).slots) := by
  refine MetFree.of_bodySF (plainFor_of_name rm1_2lt_pn) hisR ?_
  intro p e s m args below meth c s₁ Bd hml0 hP hK
  obtain ⟨rfl, hZ, hh⟩ := hP
  have hx := Bd.exec
  have hby := Bd.bytes
  have hml : c.maxLocals = 5 := hml0
  have hown : s.vm.findClass "com/example/odds2/odds2/engine/Bounds" = some m.cls := findClass_of_methodNamed Bd.named
  have hnm := (name_of_methodNamed Bd.named Bd.method).1
  have X0 : Stand p l e ({ frames := 0, cells := 0, slots := 0, locals := 0 } : Room) s m #[(.ref a1), (.int (2 : Int32)), (.double (FP.i2d b))] below meth c s₁ [] 0 0 := Stand.of_body Bd
  have e0 : s₁.heap = h0 := by rw [← hh, Bd.state]; rfl
  have N0 := Fr.nil n0
  refine own_via (fun t k => castTop (rm1_2lt_ef m a1 (2 : Int32) (FP.i2d b)) k) ?_
  have K0 := Keep.refl h0 [a1]
  show own_G p e below _ (s₁.setTop (mkF m 0 #[.val (.ref a1), .val (.int (2 : Int32)), .val (.double (FP.i2d b)), .second, .unset] []))
  refine own_via (fun t k => XS.dloadN X0.here hx rfl (hb hby d1_0) rfl k) ?_
  show own_G p e below _ (s₁.setTop (mkF m 1 #[.val (.ref a1), .val (.int (2 : Int32)), .val (.double (FP.i2d b)), .second, .unset] [(.double (FP.i2d b))]))
  refine own_via (fun t k => XS.aloadN X0.here hx rfl (hb hby d1_1) rfl rfl k) ?_
  show own_G p e below _ (s₁.setTop (mkF m 2 #[.val (.ref a1), .val (.int (2 : Int32)), .val (.double (FP.i2d b)), .second, .unset] [(.ref a1), (.double (FP.i2d b))]))
  refine own_via (fun t k => XS.iloadN X0.here hx rfl (hb hby d1_2) rfl k) ?_
  show own_G p e below _ (s₁.setTop (mkF m 3 #[.val (.ref a1), .val (.int (2 : Int32)), .val (.double (FP.i2d b)), .second, .unset] [(.int (2 : Int32)), (.ref a1), (.double (FP.i2d b))]))
  obtain ⟨cl1, Ar1, q1, S1, Ng1, Hs1, G1⟩ := id V0
  have hin1 : ¬ ((2 : Int32) < 0 ∨ cl1.slots.size ≤ ((2 : Int32)).toNatClampNeg) := inb_of S1 ⟨by decide, by decide⟩
  have hat1 : cl1.slots[((2 : Int32)).toNatClampNeg]? = some (.double (FP.i2d x2)) := Hs1.at hin1 rfl
  refine own_via (fun t k => X0.daload hx (j := (2 : Int32)) (v := (.double (FP.i2d x2))) (by rw [e0]; exact Ar1.1) (State.isArrayOf_alike hZ.alike Ar1.2.1) Ar1.2.2 hin1 hat1 (g := (mkF m 3 #[.val (.ref a1), .val (.int (2 : Int32)), .val (.double (FP.i2d b)), .second, .unset] [(.int (2 : Int32)), (.ref a1), (.double (FP.i2d b))])) rfl rfl (hb hby d1_3) _ k) ?_
  show own_G p e below _ (s₁.setTop (mkF m 4 #[.val (.ref a1), .val (.int (2 : Int32)), .val (.double (FP.i2d b)), .second, .unset] [(.double (FP.i2d x2)), (.double (FP.i2d b))]))
  refine own_via (fun t k => XS.dcmpS X0.here hx rfl (hb hby d1_4) rfl (own_dc_lt hob _) k) ?_
  show own_G p e below _ (s₁.setTop (mkF m 5 #[.val (.ref a1), .val (.int (2 : Int32)), .val (.double (FP.i2d b)), .second, .unset] [(.int (-1 : Int32))]))
  refine own_via (fun t k => XS.ifNo X0.here hx rfl (hb hby d1_5) rfl ((if0 _ _).trans (tlt (by decide : (-1 : Int32) < (0 : Int32))).2.1) k) ?_
  show own_G p e below _ (s₁.setTop (mkF m 8 #[.val (.ref a1), .val (.int (2 : Int32)), .val (.double (FP.i2d b)), .second, .unset] []))
  refine own_via (fun t k => XS.iconst X0.here hx rfl (hb hby d1_8) k) ?_
  show own_G p e below _ (s₁.setTop (mkF m 9 #[.val (.ref a1), .val (.int (2 : Int32)), .val (.double (FP.i2d b)), .second, .unset] [(.int (1 : Int32))]))
  refine own_via (fun t k => XS.goto X0.here hx rfl (pc0 := 9) (pc' := 13) rfl (hb hby d1_9) (by decide) (by decide) k) ?_
  show own_G p e below _ (s₁.setTop (mkF m 13 #[.val (.ref a1), .val (.int (2 : Int32)), .val (.double (FP.i2d b)), .second, .unset] [(.int (1 : Int32))]))
  refine own_via (fun t k => XS.istore X0.here hx rfl (hb hby d1_13) rfl (l' := #[.val (.ref a1), .val (.int (2 : Int32)), .val (.double (FP.i2d b)), .second, .val (.int (1 : Int32))]) rfl k) ?_
  show own_G p e below _ (s₁.setTop (mkF m 15 #[.val (.ref a1), .val (.int (2 : Int32)), .val (.double (FP.i2d b)), .second, .val (.int (1 : Int32))] []))
  refine own_via (fun t k => XS.iload X0.here hx rfl (hb hby d1_15) rfl k) ?_
  show own_G p e below _ (s₁.setTop (mkF m 17 #[.val (.ref a1), .val (.int (2 : Int32)), .val (.double (FP.i2d b)), .second, .val (.int (1 : Int32))] [(.int (1 : Int32))]))
  refine own_via (fun t k => XS.ifNo X0.here hx rfl (hb hby d1_17) rfl ((if0 _ _).trans (feq (by decide : ¬ ((1 : Int32) = (0 : Int32)))).1) k) ?_
  show own_G p e below _ (s₁.setTop (mkF m 20 #[.val (.ref a1), .val (.int (2 : Int32)), .val (.double (FP.i2d b)), .second, .val (.int (1 : Int32))] []))
  refine own_via (fun t k => XS.aloadN X0.here hx rfl (hb hby d1_20) rfl rfl k) ?_
  show own_G p e below _ (s₁.setTop (mkF m 21 #[.val (.ref a1), .val (.int (2 : Int32)), .val (.double (FP.i2d b)), .second, .val (.int (1 : Int32))] [(.ref a1)]))
  refine own_via (fun t k => XS.iloadN X0.here hx rfl (hb hby d1_21) rfl k) ?_
  show own_G p e below _ (s₁.setTop (mkF m 22 #[.val (.ref a1), .val (.int (2 : Int32)), .val (.double (FP.i2d b)), .second, .val (.int (1 : Int32))] [(.int (2 : Int32)), (.ref a1)]))
  refine own_via (fun t k => XS.dloadN X0.here hx rfl (hb hby d1_22) rfl k) ?_
  show own_G p e below _ (s₁.setTop (mkF m 23 #[.val (.ref a1), .val (.int (2 : Int32)), .val (.double (FP.i2d b)), .second, .val (.int (1 : Int32))] [(.double (FP.i2d b)), (.int (2 : Int32)), (.ref a1)]))
  obtain ⟨cl4, Ar4, q4, S4, Ng4, Hs4, G4⟩ := id V0
  have hin4 : ¬ ((2 : Int32) < 0 ∨ cl4.slots.size ≤ ((2 : Int32)).toNatClampNeg) := inb_of S4 ⟨by decide, by decide⟩
  obtain ⟨T4, h4, X4, e4, W4, st4⟩ := stD X0 hx hZ e0 Ar4 (j := (2 : Int32)) hin4 (g := (mkF m 23 #[.val (.ref a1), .val (.int (2 : Int32)), .val (.double (FP.i2d b)), .second, .val (.int (1 : Int32))] [(.double (FP.i2d b)), (.int (2 : Int32)), (.ref a1)])) rfl rfl (hb hby d1_23)
  have V4 : Arv Z h4 a1 kc .double (3 : Int32) [(.double (FP.i2d x0)), (.double (FP.i2d x1)), (.double (FP.i2d b))] (.double (0 : UInt64)) := Arv.set Ar4 q4 S4 Ng4 Hs4 G4 rfl W4 2 rfl (Nat.le_of_ble_eq_true rfl)
  have N4 := Fr.snoc X4 N0 gx_a1
  have Z4 : n0 ≤ h4.size := Nat.le_trans Z0 (Nat.le_of_eq W4.size.symm)
  have K4 := K0.wr W4 (Or.inl (List.mem_of_getElem? (i := 0) rfl))
  refine own_via st4 ?_
  show own_G p e below _ (T4.setTop (mkF m 24 #[.val (.ref a1), .val (.int (2 : Int32)), .val (.double (FP.i2d b)), .second, .val (.int (1 : Int32))] []))
  refine own_via (fun t k => XS.iload X4.here hx rfl (hb hby d1_24) rfl k) ?_
  show own_G p e below _ (T4.setTop (mkF m 26 #[.val (.ref a1), .val (.int (2 : Int32)), .val (.double (FP.i2d b)), .second, .val (.int (1 : Int32))] [(.int (1 : Int32))]))
  obtain ⟨fs, hr, hrun, hended, hW, hsame⟩ := X4.leave (v := some (.int (1 : Int32))) (fun h => by rw [Bd.returns] at h; cases h)
  refine ⟨_, _, retN X4 hx (t := .boolean) Bd.returns (by simp) (hb hby d1_26) hr, hrun, hended, _, _, rfl, ?_, ⟨_, rfl⟩, hW, hsame.mono (by decide) (by decide)⟩
  show rm1_2lt_Q Z a1 x0 x1 x2 b kc h0 n0 _ T4.heap _
  rw [e4]
  exact ⟨rfl, N4, K4, V4⟩

theorem rm1_2eq_pn : plainName "com/example/odds2/odds2/engine/Bounds" = true := by first | (simp [plainName, overriddenIn]; done) | decide +kernel
theorem rm1_2eq_ef (m : MethodId) (z0 : Addr) (z1 : Int32) (z2 : UInt64) : entryFrame m #[(.ref z0), (.int z1), (.double z2)] 5 = mkF m 0 #[.val (.ref z0), .val (.int z1), .val (.double z2), .second, .unset] [] := by first | (simp [entryFrame, mkF, argsToLocals, Value.category]; done) | rfl
def rm1_2eq_Q (Z : State) (a1 : Addr) (x0 : Int32) (x1 : Int32) (x2 : Int32) (b : Int32) (kc : ClassId) (h0 : Heap) (n0 : Nat) (v : Option Value) (h : Heap) (L : List Loc) : Prop := v = some (.int (0 : Int32)) ∧ Fr n0 L ∧ Keep h0 h [a1] ∧ Arv Z h a1 kc .double (3 : Int32) [(.double (FP.i2d x0)), (.double (FP.i2d x1)), (.double (FP.i2d x2))] (.double (0 : UInt64))
set_option maxRecDepth 65536 in
set_option maxHeartbeats 40000000 in
theorem rm1_2eq (l : Launch) (Z : State) (a0 : Array Value) (hw : ∀ d ∈ tables_1, d.before a0 Z = true) (ws : List Jvm.Cond) (a1 : Addr) (x0 : Int32) (x1 : Int32) (x2 : Int32) (b : Int32) (kc : ClassId) (h0 : Heap) (n0 : Nat) (Z0 : n0 ≤ h0.size) (V0 : Arv Z h0 a1 kc .double (3 : Int32) [(.double (FP.i2d x0)), (.double (FP.i2d x1)), (.double (FP.i2d x2))] (.double (0 : UInt64))) (gx_a1 : n0 ≤ a1) (hob : b = x2) :
    MetFree l (⟨"com/example/odds2/odds2/engine/Bounds", "tightenUpper", "([DID)Z"⟩ : MethodName) (head1 (Jvm.Cond.code (⟨"com/example/odds2/odds2/engine/Bounds", "tightenUpper", "([DID)Z"⟩ : MethodName) prog_7_method_7_code 5 (some .boolean) :: ws) ({ frames := 0, cells := 0, slots := 0, locals := 0 } : Room)) (fun a U => a = #[(.ref a1), (.int (2 : Int32)), (.double (FP.i2d b))] ∧ Z.Warmed39 U.vm ∧ U.heap = h0) (fun _ _ _ _ _ => True) (fun _ U o U' => ∃ v L, o = .returned v ∧ rm1_2eq_Q Z a1 x0 x1 x2 b kc h0 n0 v U'.heap L ∧ FrameEnd U o U' L ({ frames := 0, cells := 0, slots := 0, locals := 0 } : Room).cells ({ frames := 0, cells := 0, slots := 0, locals := 0 } : Room).slots) := by
  refine MetFree.of_bodySF (plainFor_of_name rm1_2eq_pn) hisR ?_
  intro p e s m args below meth c s₁ Bd hml0 hP hK
  obtain ⟨rfl, hZ, hh⟩ := hP
  have hx := Bd.exec
  have hby := Bd.bytes
  have hml : c.maxLocals = 5 := hml0
  have hown : s.vm.findClass "com/example/odds2/odds2/engine/Bounds" = some m.cls := findClass_of_methodNamed Bd.named
  have hnm := (name_of_methodNamed Bd.named Bd.method).1
  have X0 : Stand p l e ({ frames := 0, cells := 0, slots := 0, locals := 0 } : Room) s m #[(.ref a1), (.int (2 : Int32)), (.double (FP.i2d b))] below meth c s₁ [] 0 0 := Stand.of_body Bd
  have e0 : s₁.heap = h0 := by rw [← hh, Bd.state]; rfl
  have N0 := Fr.nil n0
  refine own_via (fun t k => castTop (rm1_2eq_ef m a1 (2 : Int32) (FP.i2d b)) k) ?_
  have K0 := Keep.refl h0 [a1]
  show own_G p e below _ (s₁.setTop (mkF m 0 #[.val (.ref a1), .val (.int (2 : Int32)), .val (.double (FP.i2d b)), .second, .unset] []))
  refine own_via (fun t k => XS.dloadN X0.here hx rfl (hb hby d1_0) rfl k) ?_
  show own_G p e below _ (s₁.setTop (mkF m 1 #[.val (.ref a1), .val (.int (2 : Int32)), .val (.double (FP.i2d b)), .second, .unset] [(.double (FP.i2d b))]))
  refine own_via (fun t k => XS.aloadN X0.here hx rfl (hb hby d1_1) rfl rfl k) ?_
  show own_G p e below _ (s₁.setTop (mkF m 2 #[.val (.ref a1), .val (.int (2 : Int32)), .val (.double (FP.i2d b)), .second, .unset] [(.ref a1), (.double (FP.i2d b))]))
  refine own_via (fun t k => XS.iloadN X0.here hx rfl (hb hby d1_2) rfl k) ?_
  show own_G p e below _ (s₁.setTop (mkF m 3 #[.val (.ref a1), .val (.int (2 : Int32)), .val (.double (FP.i2d b)), .second, .unset] [(.int (2 : Int32)), (.ref a1), (.double (FP.i2d b))]))
  obtain ⟨cl1, Ar1, q1, S1, Ng1, Hs1, G1⟩ := id V0
  have hin1 : ¬ ((2 : Int32) < 0 ∨ cl1.slots.size ≤ ((2 : Int32)).toNatClampNeg) := inb_of S1 ⟨by decide, by decide⟩
  have hat1 : cl1.slots[((2 : Int32)).toNatClampNeg]? = some (.double (FP.i2d x2)) := Hs1.at hin1 rfl
  refine own_via (fun t k => X0.daload hx (j := (2 : Int32)) (v := (.double (FP.i2d x2))) (by rw [e0]; exact Ar1.1) (State.isArrayOf_alike hZ.alike Ar1.2.1) Ar1.2.2 hin1 hat1 (g := (mkF m 3 #[.val (.ref a1), .val (.int (2 : Int32)), .val (.double (FP.i2d b)), .second, .unset] [(.int (2 : Int32)), (.ref a1), (.double (FP.i2d b))])) rfl rfl (hb hby d1_3) _ k) ?_
  show own_G p e below _ (s₁.setTop (mkF m 4 #[.val (.ref a1), .val (.int (2 : Int32)), .val (.double (FP.i2d b)), .second, .unset] [(.double (FP.i2d x2)), (.double (FP.i2d b))]))
  refine own_via (fun t k => XS.dcmpS X0.here hx rfl (hb hby d1_4) rfl (own_dc_eq hob _) k) ?_
  show own_G p e below _ (s₁.setTop (mkF m 5 #[.val (.ref a1), .val (.int (2 : Int32)), .val (.double (FP.i2d b)), .second, .unset] [(.int (0 : Int32))]))
  refine own_via (fun t k => XS.ifYes X0.here hx rfl (pc0 := 5) (pc' := 12) rfl (hb hby d1_5) rfl ((if0 _ _).trans (flt (by decide : ¬ ((0 : Int32) < (0 : Int32)))).2.1) (by decide) (by decide) k) ?_
  show own_G p e below _ (s₁.setTop (mkF m 12 #[.val (.ref a1), .val (.int (2 : Int32)), .val (.double (FP.i2d b)), .second, .unset] []))
  refine own_via (fun t k => XS.iconst X0.here hx rfl (hb hby d1_12) k) ?_
  show own_G p e below _ (s₁.setTop (mkF m 13 #[.val (.ref a1), .val (.int (2 : Int32)), .val (.double (FP.i2d b)), .second, .unset] [(.int (0 : Int32))]))
  refine own_via (fun t k => XS.istore X0.here hx rfl (hb hby d1_13) rfl (l' := #[.val (.ref a1), .val (.int (2 : Int32)), .val (.double (FP.i2d b)), .second, .val (.int (0 : Int32))]) rfl k) ?_
  show own_G p e below _ (s₁.setTop (mkF m 15 #[.val (.ref a1), .val (.int (2 : Int32)), .val (.double (FP.i2d b)), .second, .val (.int (0 : Int32))] []))
  refine own_via (fun t k => XS.iload X0.here hx rfl (hb hby d1_15) rfl k) ?_
  show own_G p e below _ (s₁.setTop (mkF m 17 #[.val (.ref a1), .val (.int (2 : Int32)), .val (.double (FP.i2d b)), .second, .val (.int (0 : Int32))] [(.int (0 : Int32))]))
  refine own_via (fun t k => XS.ifYes X0.here hx rfl (pc0 := 17) (pc' := 24) rfl (hb hby d1_17) rfl ((if0 _ _).trans (teq (by decide : (0 : Int32) = (0 : Int32))).1) (by decide) (by decide) k) ?_
  show own_G p e below _ (s₁.setTop (mkF m 24 #[.val (.ref a1), .val (.int (2 : Int32)), .val (.double (FP.i2d b)), .second, .val (.int (0 : Int32))] []))
  refine own_via (fun t k => XS.iload X0.here hx rfl (hb hby d1_24) rfl k) ?_
  show own_G p e below _ (s₁.setTop (mkF m 26 #[.val (.ref a1), .val (.int (2 : Int32)), .val (.double (FP.i2d b)), .second, .val (.int (0 : Int32))] [(.int (0 : Int32))]))
  obtain ⟨fs, hr, hrun, hended, hW, hsame⟩ := X0.leave (v := some (.int (0 : Int32))) (fun h => by rw [Bd.returns] at h; cases h)
  refine ⟨_, _, retN X0 hx (t := .boolean) Bd.returns (by simp) (hb hby d1_26) hr, hrun, hended, _, _, rfl, ?_, ⟨_, rfl⟩, hW, hsame.mono (by decide) (by decide)⟩
  show rm1_2eq_Q Z a1 x0 x1 x2 b kc h0 n0 _ s₁.heap _
  rw [e0]
  exact ⟨rfl, N0, K0, V0⟩

theorem rm1_2gt_pn : plainName "com/example/odds2/odds2/engine/Bounds" = true := by first | (simp [plainName, overriddenIn]; done) | decide +kernel
theorem rm1_2gt_ef (m : MethodId) (z0 : Addr) (z1 : Int32) (z2 : UInt64) : entryFrame m #[(.ref z0), (.int z1), (.double z2)] 5 = mkF m 0 #[.val (.ref z0), .val (.int z1), .val (.double z2), .second, .unset] [] := by first | (simp [entryFrame, mkF, argsToLocals, Value.category]; done) | rfl
def rm1_2gt_Q (Z : State) (a1 : Addr) (x0 : Int32) (x1 : Int32) (x2 : Int32) (b : Int32) (kc : ClassId) (h0 : Heap) (n0 : Nat) (v : Option Value) (h : Heap) (L : List Loc) : Prop := v = some (.int (0 : Int32)) ∧ Fr n0 L ∧ Keep h0 h [a1] ∧ Arv Z h a1 kc .double (3 : Int32) [(.double (FP.i2d x0)), (.double (FP.i2d x1)), (.double (FP.i2d x2))] (.double (0 : UInt64))
set_option maxRecDepth 65536 in
set_option maxHeartbeats 40000000 in
theorem rm1_2gt (l : Launch) (Z : State) (a0 : Array Value) (hw : ∀ d ∈ tables_1, d.before a0 Z = true) (ws : List Jvm.Cond) (a1 : Addr) (x0 : Int32) (x1 : Int32) (x2 : Int32) (b : Int32) (kc : ClassId) (h0 : Heap) (n0 : Nat) (Z0 : n0 ≤ h0.size) (V0 : Arv Z h0 a1 kc .double (3 : Int32) [(.double (FP.i2d x0)), (.double (FP.i2d x1)), (.double (FP.i2d x2))] (.double (0 : UInt64))) (gx_a1 : n0 ≤ a1) (hob : x2 < b) :
    MetFree l (⟨"com/example/odds2/odds2/engine/Bounds", "tightenUpper", "([DID)Z"⟩ : MethodName) (head1 (Jvm.Cond.code (⟨"com/example/odds2/odds2/engine/Bounds", "tightenUpper", "([DID)Z"⟩ : MethodName) prog_7_method_7_code 5 (some .boolean) :: ws) ({ frames := 0, cells := 0, slots := 0, locals := 0 } : Room)) (fun a U => a = #[(.ref a1), (.int (2 : Int32)), (.double (FP.i2d b))] ∧ Z.Warmed39 U.vm ∧ U.heap = h0) (fun _ _ _ _ _ => True) (fun _ U o U' => ∃ v L, o = .returned v ∧ rm1_2gt_Q Z a1 x0 x1 x2 b kc h0 n0 v U'.heap L ∧ FrameEnd U o U' L ({ frames := 0, cells := 0, slots := 0, locals := 0 } : Room).cells ({ frames := 0, cells := 0, slots := 0, locals := 0 } : Room).slots) := by
  refine MetFree.of_bodySF (plainFor_of_name rm1_2gt_pn) hisR ?_
  intro p e s m args below meth c s₁ Bd hml0 hP hK
  obtain ⟨rfl, hZ, hh⟩ := hP
  have hx := Bd.exec
  have hby := Bd.bytes
  have hml : c.maxLocals = 5 := hml0
  have hown : s.vm.findClass "com/example/odds2/odds2/engine/Bounds" = some m.cls := findClass_of_methodNamed Bd.named
  have hnm := (name_of_methodNamed Bd.named Bd.method).1
  have X0 : Stand p l e ({ frames := 0, cells := 0, slots := 0, locals := 0 } : Room) s m #[(.ref a1), (.int (2 : Int32)), (.double (FP.i2d b))] below meth c s₁ [] 0 0 := Stand.of_body Bd
  have e0 : s₁.heap = h0 := by rw [← hh, Bd.state]; rfl
  have N0 := Fr.nil n0
  refine own_via (fun t k => castTop (rm1_2gt_ef m a1 (2 : Int32) (FP.i2d b)) k) ?_
  have K0 := Keep.refl h0 [a1]
  show own_G p e below _ (s₁.setTop (mkF m 0 #[.val (.ref a1), .val (.int (2 : Int32)), .val (.double (FP.i2d b)), .second, .unset] []))
  refine own_via (fun t k => XS.dloadN X0.here hx rfl (hb hby d1_0) rfl k) ?_
  show own_G p e below _ (s₁.setTop (mkF m 1 #[.val (.ref a1), .val (.int (2 : Int32)), .val (.double (FP.i2d b)), .second, .unset] [(.double (FP.i2d b))]))
  refine own_via (fun t k => XS.aloadN X0.here hx rfl (hb hby d1_1) rfl rfl k) ?_
  show own_G p e below _ (s₁.setTop (mkF m 2 #[.val (.ref a1), .val (.int (2 : Int32)), .val (.double (FP.i2d b)), .second, .unset] [(.ref a1), (.double (FP.i2d b))]))
  refine own_via (fun t k => XS.iloadN X0.here hx rfl (hb hby d1_2) rfl k) ?_
  show own_G p e below _ (s₁.setTop (mkF m 3 #[.val (.ref a1), .val (.int (2 : Int32)), .val (.double (FP.i2d b)), .second, .unset] [(.int (2 : Int32)), (.ref a1), (.double (FP.i2d b))]))
  obtain ⟨cl1, Ar1, q1, S1, Ng1, Hs1, G1⟩ := id V0
  have hin1 : ¬ ((2 : Int32) < 0 ∨ cl1.slots.size ≤ ((2 : Int32)).toNatClampNeg) := inb_of S1 ⟨by decide, by decide⟩
  have hat1 : cl1.slots[((2 : Int32)).toNatClampNeg]? = some (.double (FP.i2d x2)) := Hs1.at hin1 rfl
  refine own_via (fun t k => X0.daload hx (j := (2 : Int32)) (v := (.double (FP.i2d x2))) (by rw [e0]; exact Ar1.1) (State.isArrayOf_alike hZ.alike Ar1.2.1) Ar1.2.2 hin1 hat1 (g := (mkF m 3 #[.val (.ref a1), .val (.int (2 : Int32)), .val (.double (FP.i2d b)), .second, .unset] [(.int (2 : Int32)), (.ref a1), (.double (FP.i2d b))])) rfl rfl (hb hby d1_3) _ k) ?_
  show own_G p e below _ (s₁.setTop (mkF m 4 #[.val (.ref a1), .val (.int (2 : Int32)), .val (.double (FP.i2d b)), .second, .unset] [(.double (FP.i2d x2)), (.double (FP.i2d b))]))
  refine own_via (fun t k => XS.dcmpS X0.here hx rfl (hb hby d1_4) rfl (own_dc_gt hob _) k) ?_
  show own_G p e below _ (s₁.setTop (mkF m 5 #[.val (.ref a1), .val (.int (2 : Int32)), .val (.double (FP.i2d b)), .second, .unset] [(.int (1 : Int32))]))
  refine own_via (fun t k => XS.ifYes X0.here hx rfl (pc0 := 5) (pc' := 12) rfl (hb hby d1_5) rfl ((if0 _ _).trans (flt (by decide : ¬ ((1 : Int32) < (0 : Int32)))).2.1) (by decide) (by decide) k) ?_
  show own_G p e below _ (s₁.setTop (mkF m 12 #[.val (.ref a1), .val (.int (2 : Int32)), .val (.double (FP.i2d b)), .second, .unset] []))
  refine own_via (fun t k => XS.iconst X0.here hx rfl (hb hby d1_12) k) ?_
  show own_G p e below _ (s₁.setTop (mkF m 13 #[.val (.ref a1), .val (.int (2 : Int32)), .val (.double (FP.i2d b)), .second, .unset] [(.int (0 : Int32))]))
  refine own_via (fun t k => XS.istore X0.here hx rfl (hb hby d1_13) rfl (l' := #[.val (.ref a1), .val (.int (2 : Int32)), .val (.double (FP.i2d b)), .second, .val (.int (0 : Int32))]) rfl k) ?_
  show own_G p e below _ (s₁.setTop (mkF m 15 #[.val (.ref a1), .val (.int (2 : Int32)), .val (.double (FP.i2d b)), .second, .val (.int (0 : Int32))] []))
  refine own_via (fun t k => XS.iload X0.here hx rfl (hb hby d1_15) rfl k) ?_
  show own_G p e below _ (s₁.setTop (mkF m 17 #[.val (.ref a1), .val (.int (2 : Int32)), .val (.double (FP.i2d b)), .second, .val (.int (0 : Int32))] [(.int (0 : Int32))]))
  refine own_via (fun t k => XS.ifYes X0.here hx rfl (pc0 := 17) (pc' := 24) rfl (hb hby d1_17) rfl ((if0 _ _).trans (teq (by decide : (0 : Int32) = (0 : Int32))).1) (by decide) (by decide) k) ?_
  show own_G p e below _ (s₁.setTop (mkF m 24 #[.val (.ref a1), .val (.int (2 : Int32)), .val (.double (FP.i2d b)), .second, .val (.int (0 : Int32))] []))
  refine own_via (fun t k => XS.iload X0.here hx rfl (hb hby d1_24) rfl k) ?_
  show own_G p e below _ (s₁.setTop (mkF m 26 #[.val (.ref a1), .val (.int (2 : Int32)), .val (.double (FP.i2d b)), .second, .val (.int (0 : Int32))] [(.int (0 : Int32))]))
  obtain ⟨fs, hr, hrun, hended, hW, hsame⟩ := X0.leave (v := some (.int (0 : Int32))) (fun h => by rw [Bd.returns] at h; cases h)
  refine ⟨_, _, retN X0 hx (t := .boolean) Bd.returns (by simp) (hb hby d1_26) hr, hrun, hended, _, _, rfl, ?_, ⟨_, rfl⟩, hW, hsame.mono (by decide) (by decide)⟩
  show rm1_2gt_Q Z a1 x0 x1 x2 b kc h0 n0 _ s₁.heap _
  rw [e0]
  exact ⟨rfl, N0, K0, V0⟩

theorem rm0_pn : plainName "com/example/odds2/odds2/engine/BoundsTightenUpperPinLaw" = true := by first | (simp [plainName, overriddenIn]; done) | decide +kernel
theorem pd_rm0_0 : parseMethodDescriptor "([DID)Z" = some ⟨[(.array .double), .int, .double], some .boolean⟩ := by decide +kernel
theorem rm0_ef (m : MethodId) (z0 : Int32) (z1 : Int32) (z2 : Int32) (z3 : Int32) : entryFrame m #[(.int z0), (.int z1), (.int z2), (.int z3)] maxLocals = mkF m 0 #[.val (.int z0), .val (.int z1), .val (.int z2), .val (.int z3), .unset, .unset, .unset, .unset, .unset, .unset, .unset, .unset, .unset, .unset, .unset, .unset, .unset, .unset] [] := by first | (simp [entryFrame, mkF, argsToLocals, Value.category, maxLocals]; done) | rfl
def rm0_Q (Z : State) (p1 : Int32) (p2 : Int32) (p3 : Int32) (p4 : Int32)  (h0 : Heap) (n0 : Nat) (v : Option Value) (h : Heap) (L : List Loc) : Prop := v = some (.int 1) ∧ Fr n0 L
set_option maxRecDepth 65536 in
set_option maxHeartbeats 40000000 in
theorem rm0 (l : Launch) (Z : State) (a0 : Array Value) (hw : ∀ d ∈ tables_1, d.before a0 Z = true) (ws : List Jvm.Cond) (p1 : Int32) (p2 : Int32) (p3 : Int32) (p4 : Int32)  (h0 : Heap) (n0 : Nat) (Z0 : n0 ≤ h0.size)  :
    MetFree l x (head1 (Jvm.Cond.code x code maxLocals ret :: ws) room_1) (fun a U => a = #[(.int p1), (.int p2), (.int p3), (.int p4)] ∧ Z.Warmed39 U.vm ∧ U.heap = h0) (fun _ _ _ _ _ => True) (fun _ U o U' => ∃ v L, o = .returned v ∧ rm0_Q Z p1 p2 p3 p4 h0 n0 v U'.heap L ∧ FrameEnd U o U' L room_1.cells room_1.slots) := by
  refine MetFree.of_bodySF (plainFor_of_name rm0_pn) hisR ?_
  intro p e s m args below meth c s₁ Bd hml0 hP hK
  obtain ⟨rfl, hZ, hh⟩ := hP
  have hx := Bd.exec
  have hby := Bd.bytes
  have hml : c.maxLocals = 18 := hml0
  have hown : s.vm.findClass "com/example/odds2/odds2/engine/BoundsTightenUpperPinLaw" = some m.cls := findClass_of_methodNamed Bd.named
  have hnm := (name_of_methodNamed Bd.named Bd.method).1
  have X0 : Stand p l e room_1 s m #[(.int p1), (.int p2), (.int p3), (.int p4)] below meth c s₁ [] 0 0 := Stand.of_body Bd
  have e0 : s₁.heap = h0 := by rw [← hh, Bd.state]; rfl
  have N0 := Fr.nil n0
  refine own_via (fun t k => castTop (rm0_ef m p1 p2 p3 p4) k) ?_
  show own_G p e below _ (s₁.setTop (mkF m 0 #[.val (.int p1), .val (.int p2), .val (.int p3), .val (.int p4), .unset, .unset, .unset, .unset, .unset, .unset, .unset, .unset, .unset, .unset, .unset, .unset, .unset, .unset] []))
  refine own_via (fun t k => XS.iloadN X0.here hx rfl (hb hby at_0) rfl k) ?_
  show own_G p e below _ (s₁.setTop (mkF m 1 #[.val (.int p1), .val (.int p2), .val (.int p3), .val (.int p4), .unset, .unset, .unset, .unset, .unset, .unset, .unset, .unset, .unset, .unset, .unset, .unset, .unset, .unset] [(.int p3)]))
  refine own_via (fun t k => X0.ldcInt hx hown (mvT hZ (hw _ (List.mem_of_getElem? (i := 0) rfl))) (g := (mkF m 1 #[.val (.int p1), .val (.int p2), .val (.int p3), .val (.int p4), .unset, .unset, .unset, .unset, .unset, .unset, .unset, .unset, .unset, .unset, .unset, .unset, .unset, .unset] [(.int p3)])) rfl (hb hby at_1) _ k) ?_
  show own_G p e below _ (s₁.setTop (mkF m 3 #[.val (.int p1), .val (.int p2), .val (.int p3), .val (.int p4), .unset, .unset, .unset, .unset, .unset, .unset, .unset, .unset, .unset, .unset, .unset, .unset, .unset, .unset] [(.int (2147483647 : Int32)), (.int p3)]))
  refine own_via (fun t k => XS.iand X0.here hx rfl (hb hby at_3) rfl k) ?_
  show own_G p e below _ (s₁.setTop (mkF m 4 #[.val (.int p1), .val (.int p2), .val (.int p3), .val (.int p4), .unset, .unset, .unset, .unset, .unset, .unset, .unset, .unset, .unset, .unset, .unset, .unset, .unset, .unset] [(.int (p3 &&& (2147483647 : Int32)))]))
  refine own_via (fun t k => XS.iconst X0.here hx rfl (hb hby at_4) k) ?_
  show own_G p e below _ (s₁.setTop (mkF m 5 #[.val (.int p1), .val (.int p2), .val (.int p3), .val (.int p4), .unset, .unset, .unset, .unset, .unset, .unset, .unset, .unset, .unset, .unset, .unset, .unset, .unset, .unset] [(.int (3 : Int32)), (.int (p3 &&& (2147483647 : Int32)))]))
  refine own_via (fun t k => iremM X0 hx rfl (hb hby at_5) rfl (by decide) k) ?_
  show own_G p e below _ (s₁.setTop (mkF m 6 #[.val (.int p1), .val (.int p2), .val (.int p3), .val (.int p4), .unset, .unset, .unset, .unset, .unset, .unset, .unset, .unset, .unset, .unset, .unset, .unset, .unset, .unset] [(.int ((p3 &&& (2147483647 : Int32)) % (3 : Int32)))]))
  rcases own_mod3 p3 with hk | hk | hk
  · rcases own_tri p2 p1 with hob | hob | hob
    · rw [hk]
      show own_G p e below _ (s₁.setTop (mkF m 6 #[.val (.int p1), .val (.int p2), .val (.int p3), .val (.int p4), .unset, .unset, .unset, .unset, .unset, .unset, .unset, .unset, .unset, .unset, .unset, .unset, .unset, .unset] [(.int (0 : Int32))]))
      refine own_via (fun t k => XS.istore X0.here hx rfl (hb hby at_6) rfl (l' := #[.val (.int p1), .val (.int p2), .val (.int p3), .val (.int p4), .val (.int (0 : Int32)), .unset, .unset, .unset, .unset, .unset, .unset, .unset, .unset, .unset, .unset, .unset, .unset, .unset]) rfl k) ?_
      show own_G p e below _ (s₁.setTop (mkF m 8 #[.val (.int p1), .val (.int p2), .val (.int p3), .val (.int p4), .val (.int (0 : Int32)), .unset, .unset, .unset, .unset, .unset, .unset, .unset, .unset, .unset, .unset, .unset, .unset, .unset] []))
      refine own_via (fun t k => XS.iloadN X0.here hx rfl (hb hby at_8) rfl k) ?_
      show own_G p e below _ (s₁.setTop (mkF m 9 #[.val (.int p1), .val (.int p2), .val (.int p3), .val (.int p4), .val (.int (0 : Int32)), .unset, .unset, .unset, .unset, .unset, .unset, .unset, .unset, .unset, .unset, .unset, .unset, .unset] [(.int p1)]))
      refine own_via (fun t k => XS.i2dS X0.here hx rfl (hb hby at_9) rfl rfl k) ?_
      show own_G p e below _ (s₁.setTop (mkF m 10 #[.val (.int p1), .val (.int p2), .val (.int p3), .val (.int p4), .val (.int (0 : Int32)), .unset, .unset, .unset, .unset, .unset, .unset, .unset, .unset, .unset, .unset, .unset, .unset, .unset] [(.double (FP.i2d p1))]))
      refine own_via (fun t k => XS.dstore X0.here hx rfl (hb hby at_10) rfl (l' := #[.val (.int p1), .val (.int p2), .val (.int p3), .val (.int p4), .val (.int (0 : Int32)), .val (.double (FP.i2d p1)), .second, .unset, .unset, .unset, .unset, .unset, .unset, .unset, .unset, .unset, .unset, .unset]) rfl k) ?_
      show own_G p e below _ (s₁.setTop (mkF m 12 #[.val (.int p1), .val (.int p2), .val (.int p3), .val (.int p4), .val (.int (0 : Int32)), .val (.double (FP.i2d p1)), .second, .unset, .unset, .unset, .unset, .unset, .unset, .unset, .unset, .unset, .unset, .unset] []))
      refine own_via (fun t k => XS.iloadN X0.here hx rfl (hb hby at_12) rfl k) ?_
      show own_G p e below _ (s₁.setTop (mkF m 13 #[.val (.int p1), .val (.int p2), .val (.int p3), .val (.int p4), .val (.int (0 : Int32)), .val (.double (FP.i2d p1)), .second, .unset, .unset, .unset, .unset, .unset, .unset, .unset, .unset, .unset, .unset, .unset] [(.int p2)]))
      refine own_via (fun t k => XS.i2dS X0.here hx rfl (hb hby at_13) rfl rfl k) ?_
      show own_G p e below _ (s₁.setTop (mkF m 14 #[.val (.int p1), .val (.int p2), .val (.int p3), .val (.int p4), .val (.int (0 : Int32)), .val (.double (FP.i2d p1)), .second, .unset, .unset, .unset, .unset, .unset, .unset, .unset, .unset, .unset, .unset, .unset] [(.double (FP.i2d p2))]))
      refine own_via (fun t k => XS.dstore X0.here hx rfl (hb hby at_14) rfl (l' := #[.val (.int p1), .val (.int p2), .val (.int p3), .val (.int p4), .val (.int (0 : Int32)), .val (.double (FP.i2d p1)), .second, .val (.double (FP.i2d p2)), .second, .unset, .unset, .unset, .unset, .unset, .unset, .unset, .unset, .unset]) rfl k) ?_
      show own_G p e below _ (s₁.setTop (mkF m 16 #[.val (.int p1), .val (.int p2), .val (.int p3), .val (.int p4), .val (.int (0 : Int32)), .val (.double (FP.i2d p1)), .second, .val (.double (FP.i2d p2)), .second, .unset, .unset, .unset, .unset, .unset, .unset, .unset, .unset, .unset] []))
      refine own_via (fun t k => XS.iloadN X0.here hx rfl (hb hby at_16) rfl k) ?_
      show own_G p e below _ (s₁.setTop (mkF m 17 #[.val (.int p1), .val (.int p2), .val (.int p3), .val (.int p4), .val (.int (0 : Int32)), .val (.double (FP.i2d p1)), .second, .val (.double (FP.i2d p2)), .second, .unset, .unset, .unset, .unset, .unset, .unset, .unset, .unset, .unset] [(.int p4)]))
      refine own_via (fun t k => XS.i2dS X0.here hx rfl (hb hby at_17) rfl rfl k) ?_
      show own_G p e below _ (s₁.setTop (mkF m 18 #[.val (.int p1), .val (.int p2), .val (.int p3), .val (.int p4), .val (.int (0 : Int32)), .val (.double (FP.i2d p1)), .second, .val (.double (FP.i2d p2)), .second, .unset, .unset, .unset, .unset, .unset, .unset, .unset, .unset, .unset] [(.double (FP.i2d p4))]))
      refine own_via (fun t k => XS.dstore X0.here hx rfl (hb hby at_18) rfl (l' := #[.val (.int p1), .val (.int p2), .val (.int p3), .val (.int p4), .val (.int (0 : Int32)), .val (.double (FP.i2d p1)), .second, .val (.double (FP.i2d p2)), .second, .val (.double (FP.i2d p4)), .second, .unset, .unset, .unset, .unset, .unset, .unset, .unset]) rfl k) ?_
      show own_G p e below _ (s₁.setTop (mkF m 20 #[.val (.int p1), .val (.int p2), .val (.int p3), .val (.int p4), .val (.int (0 : Int32)), .val (.double (FP.i2d p1)), .second, .val (.double (FP.i2d p2)), .second, .val (.double (FP.i2d p4)), .second, .unset, .unset, .unset, .unset, .unset, .unset, .unset] []))
      refine own_via (fun t k => XS.iconst X0.here hx rfl (hb hby at_20) k) ?_
      show own_G p e below _ (s₁.setTop (mkF m 21 #[.val (.int p1), .val (.int p2), .val (.int p3), .val (.int p4), .val (.int (0 : Int32)), .val (.double (FP.i2d p1)), .second, .val (.double (FP.i2d p2)), .second, .val (.double (FP.i2d p4)), .second, .unset, .unset, .unset, .unset, .unset, .unset, .unset] [(.int (3 : Int32))]))
      obtain ⟨T1, h1, k1, X1, e1, E1, A1, st1⟩ := newP X0 hx hZ (hw _ (List.mem_of_getElem? (i := 1) rfl)) e0 (g := (mkF m 21 #[.val (.int p1), .val (.int p2), .val (.int p3), .val (.int p4), .val (.int (0 : Int32)), .val (.double (FP.i2d p1)), .second, .val (.double (FP.i2d p2)), .second, .val (.double (FP.i2d p4)), .second, .unset, .unset, .unset, .unset, .unset, .unset, .unset] [(.int (3 : Int32))])) rfl (hb hby at_21) rfl (by decide) (cap := 3) (by decide) (by decide) (by decide) (by decide)
      obtain ⟨b1, g1⟩ : ∃ z, z = h0.size := ⟨_, rfl⟩
      rw [← g1] at A1 st1
      have gx_b1 : n0 ≤ b1 := Nat.le_trans Z0 (Nat.le_of_eq g1.symm)
      have Z1 : n0 ≤ h1.size := Nat.le_trans Z0 E1.1
      have V1 : Arv Z h1 b1 k1 .double (3 : Int32) [(.double (0 : UInt64)), (.double (0 : UInt64)), (.double (0 : UInt64))] (.double (0 : UInt64)) := (Arv.new A1 (by decide)).pad (pad_rep [] (.double (0 : UInt64)) 3)
      refine own_via st1 ?_
      show own_G p e below _ (T1.setTop (mkF m 23 #[.val (.int p1), .val (.int p2), .val (.int p3), .val (.int p4), .val (.int (0 : Int32)), .val (.double (FP.i2d p1)), .second, .val (.double (FP.i2d p2)), .second, .val (.double (FP.i2d p4)), .second, .unset, .unset, .unset, .unset, .unset, .unset, .unset] [(.ref b1)]))
      refine own_via (fun t k => XS.astore X1.here hx rfl (hb hby at_23) rfl rfl (l' := #[.val (.int p1), .val (.int p2), .val (.int p3), .val (.int p4), .val (.int (0 : Int32)), .val (.double (FP.i2d p1)), .second, .val (.double (FP.i2d p2)), .second, .val (.double (FP.i2d p4)), .second, .val (.ref b1), .unset, .unset, .unset, .unset, .unset, .unset]) rfl k) ?_
      show own_G p e below _ (T1.setTop (mkF m 25 #[.val (.int p1), .val (.int p2), .val (.int p3), .val (.int p4), .val (.int (0 : Int32)), .val (.double (FP.i2d p1)), .second, .val (.double (FP.i2d p2)), .second, .val (.double (FP.i2d p4)), .second, .val (.ref b1), .unset, .unset, .unset, .unset, .unset, .unset] []))
      refine own_via (fun t k => XS.aload X1.here hx rfl (hb hby at_25) rfl rfl k) ?_
      show own_G p e below _ (T1.setTop (mkF m 27 #[.val (.int p1), .val (.int p2), .val (.int p3), .val (.int p4), .val (.int (0 : Int32)), .val (.double (FP.i2d p1)), .second, .val (.double (FP.i2d p2)), .second, .val (.double (FP.i2d p4)), .second, .val (.ref b1), .unset, .unset, .unset, .unset, .unset, .unset] [(.ref b1)]))
      refine own_via (fun t k => XS.iconst X1.here hx rfl (hb hby at_27) k) ?_
      show own_G p e below _ (T1.setTop (mkF m 28 #[.val (.int p1), .val (.int p2), .val (.int p3), .val (.int p4), .val (.int (0 : Int32)), .val (.double (FP.i2d p1)), .second, .val (.double (FP.i2d p2)), .second, .val (.double (FP.i2d p4)), .second, .val (.ref b1), .unset, .unset, .unset, .unset, .unset, .unset] [(.int (0 : Int32)), (.ref b1)]))
      refine own_via (fun t k => XS.dload X1.here hx rfl (hb hby at_28) rfl k) ?_
      show own_G p e below _ (T1.setTop (mkF m 30 #[.val (.int p1), .val (.int p2), .val (.int p3), .val (.int p4), .val (.int (0 : Int32)), .val (.double (FP.i2d p1)), .second, .val (.double (FP.i2d p2)), .second, .val (.double (FP.i2d p4)), .second, .val (.ref b1), .unset, .unset, .unset, .unset, .unset, .unset] [(.double (FP.i2d p4)), (.int (0 : Int32)), (.ref b1)]))
      obtain ⟨cl2, Ar2, q2, S2, Ng2, Hs2, G2⟩ := id V1
      have hin2 : ¬ ((0 : Int32) < 0 ∨ cl2.slots.size ≤ ((0 : Int32)).toNatClampNeg) := inb_of S2 ⟨by decide, by decide⟩
      obtain ⟨T2, h2, X2, e2, W2, st2⟩ := stD X1 hx hZ e1 Ar2 (j := (0 : Int32)) hin2 (g := (mkF m 30 #[.val (.int p1), .val (.int p2), .val (.int p3), .val (.int p4), .val (.int (0 : Int32)), .val (.double (FP.i2d p1)), .second, .val (.double (FP.i2d p2)), .second, .val (.double (FP.i2d p4)), .second, .val (.ref b1), .unset, .unset, .unset, .unset, .unset, .unset] [(.double (FP.i2d p4)), (.int (0 : Int32)), (.ref b1)])) rfl rfl (hb hby at_30)
      have V2 : Arv Z h2 b1 k1 .double (3 : Int32) [(.double (FP.i2d p4)), (.double (0 : UInt64)), (.double (0 : UInt64))] (.double (0 : UInt64)) := Arv.set Ar2 q2 S2 Ng2 Hs2 G2 rfl W2 0 rfl (Nat.le_of_ble_eq_true rfl)
      have N2 := Fr.snoc X2 N0 gx_b1
      have Z2 : n0 ≤ h2.size := Nat.le_trans Z1 (Nat.le_of_eq W2.size.symm)
      refine own_via st2 ?_
      show own_G p e below _ (T2.setTop (mkF m 31 #[.val (.int p1), .val (.int p2), .val (.int p3), .val (.int p4), .val (.int (0 : Int32)), .val (.double (FP.i2d p1)), .second, .val (.double (FP.i2d p2)), .second, .val (.double (FP.i2d p4)), .second, .val (.ref b1), .unset, .unset, .unset, .unset, .unset, .unset] []))
      refine own_via (fun t k => XS.aload X2.here hx rfl (hb hby at_31) rfl rfl k) ?_
      show own_G p e below _ (T2.setTop (mkF m 33 #[.val (.int p1), .val (.int p2), .val (.int p3), .val (.int p4), .val (.int (0 : Int32)), .val (.double (FP.i2d p1)), .second, .val (.double (FP.i2d p2)), .second, .val (.double (FP.i2d p4)), .second, .val (.ref b1), .unset, .unset, .unset, .unset, .unset, .unset] [(.ref b1)]))
      refine own_via (fun t k => XS.iconst X2.here hx rfl (hb hby at_33) k) ?_
      show own_G p e below _ (T2.setTop (mkF m 34 #[.val (.int p1), .val (.int p2), .val (.int p3), .val (.int p4), .val (.int (0 : Int32)), .val (.double (FP.i2d p1)), .second, .val (.double (FP.i2d p2)), .second, .val (.double (FP.i2d p4)), .second, .val (.ref b1), .unset, .unset, .unset, .unset, .unset, .unset] [(.int (1 : Int32)), (.ref b1)]))
      refine own_via (fun t k => XS.dload X2.here hx rfl (hb hby at_34) rfl k) ?_
      show own_G p e below _ (T2.setTop (mkF m 36 #[.val (.int p1), .val (.int p2), .val (.int p3), .val (.int p4), .val (.int (0 : Int32)), .val (.double (FP.i2d p1)), .second, .val (.double (FP.i2d p2)), .second, .val (.double (FP.i2d p4)), .second, .val (.ref b1), .unset, .unset, .unset, .unset, .unset, .unset] [(.double (FP.i2d p4)), (.int (1 : Int32)), (.ref b1)]))
      obtain ⟨cl3, Ar3, q3, S3, Ng3, Hs3, G3⟩ := id V2
      have hin3 : ¬ ((1 : Int32) < 0 ∨ cl3.slots.size ≤ ((1 : Int32)).toNatClampNeg) := inb_of S3 ⟨by decide, by decide⟩
      obtain ⟨T3, h3, X3, e3, W3, st3⟩ := stD X2 hx hZ e2 Ar3 (j := (1 : Int32)) hin3 (g := (mkF m 36 #[.val (.int p1), .val (.int p2), .val (.int p3), .val (.int p4), .val (.int (0 : Int32)), .val (.double (FP.i2d p1)), .second, .val (.double (FP.i2d p2)), .second, .val (.double (FP.i2d p4)), .second, .val (.ref b1), .unset, .unset, .unset, .unset, .unset, .unset] [(.double (FP.i2d p4)), (.int (1 : Int32)), (.ref b1)])) rfl rfl (hb hby at_36)
      have V3 : Arv Z h3 b1 k1 .double (3 : Int32) [(.double (FP.i2d p4)), (.double (FP.i2d p4)), (.double (0 : UInt64))] (.double (0 : UInt64)) := Arv.set Ar3 q3 S3 Ng3 Hs3 G3 rfl W3 1 rfl (Nat.le_of_ble_eq_true rfl)
      have N3 := Fr.snoc X3 N2 gx_b1
      have Z3 : n0 ≤ h3.size := Nat.le_trans Z2 (Nat.le_of_eq W3.size.symm)
      refine own_via st3 ?_
      show own_G p e below _ (T3.setTop (mkF m 37 #[.val (.int p1), .val (.int p2), .val (.int p3), .val (.int p4), .val (.int (0 : Int32)), .val (.double (FP.i2d p1)), .second, .val (.double (FP.i2d p2)), .second, .val (.double (FP.i2d p4)), .second, .val (.ref b1), .unset, .unset, .unset, .unset, .unset, .unset] []))
      refine own_via (fun t k => XS.aload X3.here hx rfl (hb hby at_37) rfl rfl k) ?_
      show own_G p e below _ (T3.setTop (mkF m 39 #[.val (.int p1), .val (.int p2), .val (.int p3), .val (.int p4), .val (.int (0 : Int32)), .val (.double (FP.i2d p1)), .second, .val (.double (FP.i2d p2)), .second, .val (.double (FP.i2d p4)), .second, .val (.ref b1), .unset, .unset, .unset, .unset, .unset, .unset] [(.ref b1)]))
      refine own_via (fun t k => XS.iconst X3.here hx rfl (hb hby at_39) k) ?_
      show own_G p e below _ (T3.setTop (mkF m 40 #[.val (.int p1), .val (.int p2), .val (.int p3), .val (.int p4), .val (.int (0 : Int32)), .val (.double (FP.i2d p1)), .second, .val (.double (FP.i2d p2)), .second, .val (.double (FP.i2d p4)), .second, .val (.ref b1), .unset, .unset, .unset, .unset, .unset, .unset] [(.int (2 : Int32)), (.ref b1)]))
      refine own_via (fun t k => XS.dload X3.here hx rfl (hb hby at_40) rfl k) ?_
      show own_G p e below _ (T3.setTop (mkF m 42 #[.val (.int p1), .val (.int p2), .val (.int p3), .val (.int p4), .val (.int (0 : Int32)), .val (.double (FP.i2d p1)), .second, .val (.double (FP.i2d p2)), .second, .val (.double (FP.i2d p4)), .second, .val (.ref b1), .unset, .unset, .unset, .unset, .unset, .unset] [(.double (FP.i2d p4)), (.int (2 : Int32)), (.ref b1)]))
      obtain ⟨cl4, Ar4, q4, S4, Ng4, Hs4, G4⟩ := id V3
      have hin4 : ¬ ((2 : Int32) < 0 ∨ cl4.slots.size ≤ ((2 : Int32)).toNatClampNeg) := inb_of S4 ⟨by decide, by decide⟩
      obtain ⟨T4, h4, X4, e4, W4, st4⟩ := stD X3 hx hZ e3 Ar4 (j := (2 : Int32)) hin4 (g := (mkF m 42 #[.val (.int p1), .val (.int p2), .val (.int p3), .val (.int p4), .val (.int (0 : Int32)), .val (.double (FP.i2d p1)), .second, .val (.double (FP.i2d p2)), .second, .val (.double (FP.i2d p4)), .second, .val (.ref b1), .unset, .unset, .unset, .unset, .unset, .unset] [(.double (FP.i2d p4)), (.int (2 : Int32)), (.ref b1)])) rfl rfl (hb hby at_42)
      have V4 : Arv Z h4 b1 k1 .double (3 : Int32) [(.double (FP.i2d p4)), (.double (FP.i2d p4)), (.double (FP.i2d p4))] (.double (0 : UInt64)) := Arv.set Ar4 q4 S4 Ng4 Hs4 G4 rfl W4 2 rfl (Nat.le_of_ble_eq_true rfl)
      have N4 := Fr.snoc X4 N3 gx_b1
      have Z4 : n0 ≤ h4.size := Nat.le_trans Z3 (Nat.le_of_eq W4.size.symm)
      refine own_via st4 ?_
      show own_G p e below _ (T4.setTop (mkF m 43 #[.val (.int p1), .val (.int p2), .val (.int p3), .val (.int p4), .val (.int (0 : Int32)), .val (.double (FP.i2d p1)), .second, .val (.double (FP.i2d p2)), .second, .val (.double (FP.i2d p4)), .second, .val (.ref b1), .unset, .unset, .unset, .unset, .unset, .unset] []))
      refine own_via (fun t k => XS.aload X4.here hx rfl (hb hby at_43) rfl rfl k) ?_
      show own_G p e below _ (T4.setTop (mkF m 45 #[.val (.int p1), .val (.int p2), .val (.int p3), .val (.int p4), .val (.int (0 : Int32)), .val (.double (FP.i2d p1)), .second, .val (.double (FP.i2d p2)), .second, .val (.double (FP.i2d p4)), .second, .val (.ref b1), .unset, .unset, .unset, .unset, .unset, .unset] [(.ref b1)]))
      refine own_via (fun t k => XS.iload X4.here hx rfl (hb hby at_45) rfl k) ?_
      show own_G p e below _ (T4.setTop (mkF m 47 #[.val (.int p1), .val (.int p2), .val (.int p3), .val (.int p4), .val (.int (0 : Int32)), .val (.double (FP.i2d p1)), .second, .val (.double (FP.i2d p2)), .second, .val (.double (FP.i2d p4)), .second, .val (.ref b1), .unset, .unset, .unset, .unset, .unset, .unset] [(.int (0 : Int32)), (.ref b1)]))
      refine own_via (fun t k => XS.dload X4.here hx rfl (hb hby at_47) rfl k) ?_
      show own_G p e below _ (T4.setTop (mkF m 49 #[.val (.int p1), .val (.int p2), .val (.int p3), .val (.int p4), .val (.int (0 : Int32)), .val (.double (FP.i2d p1)), .second, .val (.double (FP.i2d p2)), .second, .val (.double (FP.i2d p4)), .second, .val (.ref b1), .unset, .unset, .unset, .unset, .unset, .unset] [(.double (FP.i2d p1)), (.int (0 : Int32)), (.ref b1)]))
      obtain ⟨cl5, Ar5, q5, S5, Ng5, Hs5, G5⟩ := id V4
      have hin5 : ¬ ((0 : Int32) < 0 ∨ cl5.slots.size ≤ ((0 : Int32)).toNatClampNeg) := inb_of S5 ⟨by decide, by decide⟩
      obtain ⟨T5, h5, X5, e5, W5, st5⟩ := stD X4 hx hZ e4 Ar5 (j := (0 : Int32)) hin5 (g := (mkF m 49 #[.val (.int p1), .val (.int p2), .val (.int p3), .val (.int p4), .val (.int (0 : Int32)), .val (.double (FP.i2d p1)), .second, .val (.double (FP.i2d p2)), .second, .val (.double (FP.i2d p4)), .second, .val (.ref b1), .unset, .unset, .unset, .unset, .unset, .unset] [(.double (FP.i2d p1)), (.int (0 : Int32)), (.ref b1)])) rfl rfl (hb hby at_49)
      have V5 : Arv Z h5 b1 k1 .double (3 : Int32) [(.double (FP.i2d p1)), (.double (FP.i2d p4)), (.double (FP.i2d p4))] (.double (0 : UInt64)) := Arv.set Ar5 q5 S5 Ng5 Hs5 G5 rfl W5 0 rfl (Nat.le_of_ble_eq_true rfl)
      have N5 := Fr.snoc X5 N4 gx_b1
      have Z5 : n0 ≤ h5.size := Nat.le_trans Z4 (Nat.le_of_eq W5.size.symm)
      refine own_via st5 ?_
      show own_G p e below _ (T5.setTop (mkF m 50 #[.val (.int p1), .val (.int p2), .val (.int p3), .val (.int p4), .val (.int (0 : Int32)), .val (.double (FP.i2d p1)), .second, .val (.double (FP.i2d p2)), .second, .val (.double (FP.i2d p4)), .second, .val (.ref b1), .unset, .unset, .unset, .unset, .unset, .unset] []))
      refine own_via (fun t k => XS.aload X5.here hx rfl (hb hby at_50) rfl rfl k) ?_
      show own_G p e below _ (T5.setTop (mkF m 52 #[.val (.int p1), .val (.int p2), .val (.int p3), .val (.int p4), .val (.int (0 : Int32)), .val (.double (FP.i2d p1)), .second, .val (.double (FP.i2d p2)), .second, .val (.double (FP.i2d p4)), .second, .val (.ref b1), .unset, .unset, .unset, .unset, .unset, .unset] [(.ref b1)]))
      refine own_via (fun t k => XS.iload X5.here hx rfl (hb hby at_52) rfl k) ?_
      show own_G p e below _ (T5.setTop (mkF m 54 #[.val (.int p1), .val (.int p2), .val (.int p3), .val (.int p4), .val (.int (0 : Int32)), .val (.double (FP.i2d p1)), .second, .val (.double (FP.i2d p2)), .second, .val (.double (FP.i2d p4)), .second, .val (.ref b1), .unset, .unset, .unset, .unset, .unset, .unset] [(.int (0 : Int32)), (.ref b1)]))
      refine own_via (fun t k => XS.dload X5.here hx rfl (hb hby at_54) rfl k) ?_
      show own_G p e below _ (T5.setTop (mkF m 56 #[.val (.int p1), .val (.int p2), .val (.int p3), .val (.int p4), .val (.int (0 : Int32)), .val (.double (FP.i2d p1)), .second, .val (.double (FP.i2d p2)), .second, .val (.double (FP.i2d p4)), .second, .val (.ref b1), .unset, .unset, .unset, .unset, .unset, .unset] [(.double (FP.i2d p2)), (.int (0 : Int32)), (.ref b1)]))
      obtain ⟨_, _, ⟨T6, L6, k6, n6⟩, -, X6, ⟨Lc6, hQ6, l6, y6, z6⟩, st6⟩ := Jvm.LawKit.callS X5 hx (y := (⟨"com/example/odds2/odds2/engine/Bounds", "tightenUpper", "([DID)Z"⟩ : MethodName)) hown (mvT hZ (hw _ (List.mem_of_getElem? (i := 2) rfl))) (mvT hZ (hw _ (List.mem_of_getElem? (i := 3) rfl))) (mvT hZ (hw _ (List.mem_of_getElem? (i := 4) rfl))) (mvT hZ (hw _ (List.mem_of_getElem? (i := 5) rfl))) (by decide) (backOf (W := 0) (rm1_0lt l Z a0 hw [] b1 p1 p4 p4 p2 k1 h5 n0 Z5 V5 gx_b1 hob) hZ (hw _ (List.mem_of_getElem? (i := 5) rfl)) (hw _ (List.mem_of_getElem? (i := 4) rfl)) (by decide) (by decide)) (g := (mkF m 56 #[.val (.int p1), .val (.int p2), .val (.int p3), .val (.int p4), .val (.int (0 : Int32)), .val (.double (FP.i2d p1)), .second, .val (.double (FP.i2d p2)), .second, .val (.double (FP.i2d p4)), .second, .val (.ref b1), .unset, .unset, .unset, .unset, .unset, .unset] [(.double (FP.i2d p2)), (.int (0 : Int32)), (.ref b1)])) rfl (by rw [hml]; rfl) (argsL := [(.ref b1), (.int (0 : Int32)), (.double (FP.i2d p2))]) (rest := []) (lenOf pd_rm0_0 rfl) rfl (by show 2 * 0 + _ ≤ _; exact Nat.le_of_eq rfl) (hb hby at_56) (fun _ _ => ⟨rfl, e5, (by decide : 1 + 0 ≤ _), (by decide : 3 + 0 ≤ _)⟩)
      dsimp only [Pt.U, Pt.locs, Pt.cells, Pt.slots] at X6 l6 y6 z6 st6 hQ6
      subst l6 y6 z6
      obtain ⟨rfl, N6q, K6, V6⟩ := hQ6
      have N6 := Fr.app N5 N6q
      have Z6 : n0 ≤ T6.heap.size := Nat.le_trans Z5 K6.1
      refine own_via st6 ?_
      show own_G p e below _ (T6.setTop (mkF m 59 #[.val (.int p1), .val (.int p2), .val (.int p3), .val (.int p4), .val (.int (0 : Int32)), .val (.double (FP.i2d p1)), .second, .val (.double (FP.i2d p2)), .second, .val (.double (FP.i2d p4)), .second, .val (.ref b1), .unset, .unset, .unset, .unset, .unset, .unset] [(.int (1 : Int32))]))
      refine own_via (fun t k => XS.istore X6.here hx rfl (hb hby at_59) rfl (l' := #[.val (.int p1), .val (.int p2), .val (.int p3), .val (.int p4), .val (.int (0 : Int32)), .val (.double (FP.i2d p1)), .second, .val (.double (FP.i2d p2)), .second, .val (.double (FP.i2d p4)), .second, .val (.ref b1), .val (.int (1 : Int32)), .unset, .unset, .unset, .unset, .unset]) rfl k) ?_
      show own_G p e below _ (T6.setTop (mkF m 61 #[.val (.int p1), .val (.int p2), .val (.int p3), .val (.int p4), .val (.int (0 : Int32)), .val (.double (FP.i2d p1)), .second, .val (.double (FP.i2d p2)), .second, .val (.double (FP.i2d p4)), .second, .val (.ref b1), .val (.int (1 : Int32)), .unset, .unset, .unset, .unset, .unset] []))
      refine own_via (fun t k => XS.aload X6.here hx rfl (hb hby at_61) rfl rfl k) ?_
      show own_G p e below _ (T6.setTop (mkF m 63 #[.val (.int p1), .val (.int p2), .val (.int p3), .val (.int p4), .val (.int (0 : Int32)), .val (.double (FP.i2d p1)), .second, .val (.double (FP.i2d p2)), .second, .val (.double (FP.i2d p4)), .second, .val (.ref b1), .val (.int (1 : Int32)), .unset, .unset, .unset, .unset, .unset] [(.ref b1)]))
      refine own_via (fun t k => XS.iload X6.here hx rfl (hb hby at_63) rfl k) ?_
      show own_G p e below _ (T6.setTop (mkF m 65 #[.val (.int p1), .val (.int p2), .val (.int p3), .val (.int p4), .val (.int (0 : Int32)), .val (.double (FP.i2d p1)), .second, .val (.double (FP.i2d p2)), .second, .val (.double (FP.i2d p4)), .second, .val (.ref b1), .val (.int (1 : Int32)), .unset, .unset, .unset, .unset, .unset] [(.int (0 : Int32)), (.ref b1)]))
      obtain ⟨cl8, Ar8, q8, S8, Ng8, Hs8, G8⟩ := id V6
      have hin8 : ¬ ((0 : Int32) < 0 ∨ cl8.slots.size ≤ ((0 : Int32)).toNatClampNeg) := inb_of S8 ⟨by decide, by decide⟩
      have hat8 : cl8.slots[((0 : Int32)).toNatClampNeg]? = some (.double (FP.i2d p2)) := Hs8.at hin8 rfl
      refine own_via (fun t k => X6.daload hx (j := (0 : Int32)) (v := (.double (FP.i2d p2))) Ar8.1 (State.isArrayOf_alike hZ.alike Ar8.2.1) Ar8.2.2 hin8 hat8 (g := (mkF m 65 #[.val (.int p1), .val (.int p2), .val (.int p3), .val (.int p4), .val (.int (0 : Int32)), .val (.double (FP.i2d p1)), .second, .val (.double (FP.i2d p2)), .second, .val (.double (FP.i2d p4)), .second, .val (.ref b1), .val (.int (1 : Int32)), .unset, .unset, .unset, .unset, .unset] [(.int (0 : Int32)), (.ref b1)])) rfl rfl (hb hby at_65) _ k) ?_
      show own_G p e below _ (T6.setTop (mkF m 66 #[.val (.int p1), .val (.int p2), .val (.int p3), .val (.int p4), .val (.int (0 : Int32)), .val (.double (FP.i2d p1)), .second, .val (.double (FP.i2d p2)), .second, .val (.double (FP.i2d p4)), .second, .val (.ref b1), .val (.int (1 : Int32)), .unset, .unset, .unset, .unset, .unset] [(.double (FP.i2d p2))]))
      refine own_via (fun t k => XS.dstore X6.here hx rfl (hb hby at_66) rfl (l' := #[.val (.int p1), .val (.int p2), .val (.int p3), .val (.int p4), .val (.int (0 : Int32)), .val (.double (FP.i2d p1)), .second, .val (.double (FP.i2d p2)), .second, .val (.double (FP.i2d p4)), .second, .val (.ref b1), .val (.int (1 : Int32)), .val (.double (FP.i2d p2)), .second, .unset, .unset, .unset]) rfl k) ?_
      show own_G p e below _ (T6.setTop (mkF m 68 #[.val (.int p1), .val (.int p2), .val (.int p3), .val (.int p4), .val (.int (0 : Int32)), .val (.double (FP.i2d p1)), .second, .val (.double (FP.i2d p2)), .second, .val (.double (FP.i2d p4)), .second, .val (.ref b1), .val (.int (1 : Int32)), .val (.double (FP.i2d p2)), .second, .unset, .unset, .unset] []))
      refine own_via (fun t k => XS.dload X6.here hx rfl (hb hby at_68) rfl k) ?_
      show own_G p e below _ (T6.setTop (mkF m 70 #[.val (.int p1), .val (.int p2), .val (.int p3), .val (.int p4), .val (.int (0 : Int32)), .val (.double (FP.i2d p1)), .second, .val (.double (FP.i2d p2)), .second, .val (.double (FP.i2d p4)), .second, .val (.ref b1), .val (.int (1 : Int32)), .val (.double (FP.i2d p2)), .second, .unset, .unset, .unset] [(.double (FP.i2d p1))]))
      refine own_via (fun t k => XS.dload X6.here hx rfl (hb hby at_70) rfl k) ?_
      show own_G p e below _ (T6.setTop (mkF m 72 #[.val (.int p1), .val (.int p2), .val (.int p3), .val (.int p4), .val (.int (0 : Int32)), .val (.double (FP.i2d p1)), .second, .val (.double (FP.i2d p2)), .second, .val (.double (FP.i2d p4)), .second, .val (.ref b1), .val (.int (1 : Int32)), .val (.double (FP.i2d p2)), .second, .unset, .unset, .unset] [(.double (FP.i2d p2)), (.double (FP.i2d p1))]))
      refine own_via (fun t k => XS.dcmpS X6.here hx rfl (hb hby at_72) rfl (own_dc_gt hob _) k) ?_
      show own_G p e below _ (T6.setTop (mkF m 73 #[.val (.int p1), .val (.int p2), .val (.int p3), .val (.int p4), .val (.int (0 : Int32)), .val (.double (FP.i2d p1)), .second, .val (.double (FP.i2d p2)), .second, .val (.double (FP.i2d p4)), .second, .val (.ref b1), .val (.int (1 : Int32)), .val (.double (FP.i2d p2)), .second, .unset, .unset, .unset] [(.int (1 : Int32))]))
      refine own_via (fun t k => XS.ifNo X6.here hx rfl (hb hby at_73) rfl ((if0 _ _).trans (flt (by decide : ¬ ((1 : Int32) < (0 : Int32)))).1) k) ?_
      show own_G p e below _ (T6.setTop (mkF m 76 #[.val (.int p1), .val (.int p2), .val (.int p3), .val (.int p4), .val (.int (0 : Int32)), .val (.double (FP.i2d p1)), .second, .val (.double (FP.i2d p2)), .second, .val (.double (FP.i2d p4)), .second, .val (.ref b1), .val (.int (1 : Int32)), .val (.double (FP.i2d p2)), .second, .unset, .unset, .unset] []))
      refine own_via (fun t k => XS.dload X6.here hx rfl (hb hby at_76) rfl k) ?_
      show own_G p e below _ (T6.setTop (mkF m 78 #[.val (.int p1), .val (.int p2), .val (.int p3), .val (.int p4), .val (.int (0 : Int32)), .val (.double (FP.i2d p1)), .second, .val (.double (FP.i2d p2)), .second, .val (.double (FP.i2d p4)), .second, .val (.ref b1), .val (.int (1 : Int32)), .val (.double (FP.i2d p2)), .second, .unset, .unset, .unset] [(.double (FP.i2d p2))]))
      refine own_via (fun t k => XS.dload X6.here hx rfl (hb hby at_78) rfl k) ?_
      show own_G p e below _ (T6.setTop (mkF m 80 #[.val (.int p1), .val (.int p2), .val (.int p3), .val (.int p4), .val (.int (0 : Int32)), .val (.double (FP.i2d p1)), .second, .val (.double (FP.i2d p2)), .second, .val (.double (FP.i2d p4)), .second, .val (.ref b1), .val (.int (1 : Int32)), .val (.double (FP.i2d p2)), .second, .unset, .unset, .unset] [(.double (FP.i2d p2)), (.double (FP.i2d p2))]))
      refine own_via (fun t k => XS.dcmpS X6.here hx rfl (hb hby at_80) rfl (own_dc_eq rfl _) k) ?_
      show own_G p e below _ (T6.setTop (mkF m 81 #[.val (.int p1), .val (.int p2), .val (.int p3), .val (.int p4), .val (.int (0 : Int32)), .val (.double (FP.i2d p1)), .second, .val (.double (FP.i2d p2)), .second, .val (.double (FP.i2d p4)), .second, .val (.ref b1), .val (.int (1 : Int32)), .val (.double (FP.i2d p2)), .second, .unset, .unset, .unset] [(.int (0 : Int32))]))
      refine own_via (fun t k => XS.ifNo X6.here hx rfl (hb hby at_81) rfl ((if0 _ _).trans (flt (by decide : ¬ ((0 : Int32) < (0 : Int32)))).1) k) ?_
      show own_G p e below _ (T6.setTop (mkF m 84 #[.val (.int p1), .val (.int p2), .val (.int p3), .val (.int p4), .val (.int (0 : Int32)), .val (.double (FP.i2d p1)), .second, .val (.double (FP.i2d p2)), .second, .val (.double (FP.i2d p4)), .second, .val (.ref b1), .val (.int (1 : Int32)), .val (.double (FP.i2d p2)), .second, .unset, .unset, .unset] []))
      refine own_via (fun t k => XS.dload X6.here hx rfl (hb hby at_84) rfl k) ?_
      show own_G p e below _ (T6.setTop (mkF m 86 #[.val (.int p1), .val (.int p2), .val (.int p3), .val (.int p4), .val (.int (0 : Int32)), .val (.double (FP.i2d p1)), .second, .val (.double (FP.i2d p2)), .second, .val (.double (FP.i2d p4)), .second, .val (.ref b1), .val (.int (1 : Int32)), .val (.double (FP.i2d p2)), .second, .unset, .unset, .unset] [(.double (FP.i2d p2))]))
      refine own_via (fun t k => XS.dload X6.here hx rfl (hb hby at_86) rfl k) ?_
      show own_G p e below _ (T6.setTop (mkF m 88 #[.val (.int p1), .val (.int p2), .val (.int p3), .val (.int p4), .val (.int (0 : Int32)), .val (.double (FP.i2d p1)), .second, .val (.double (FP.i2d p2)), .second, .val (.double (FP.i2d p4)), .second, .val (.ref b1), .val (.int (1 : Int32)), .val (.double (FP.i2d p2)), .second, .unset, .unset, .unset] [(.double (FP.i2d p1)), (.double (FP.i2d p2))]))
      refine own_via (fun t k => XS.dcmpS X6.here hx rfl (hb hby at_88) rfl (own_dc_lt hob _) k) ?_
      show own_G p e below _ (T6.setTop (mkF m 89 #[.val (.int p1), .val (.int p2), .val (.int p3), .val (.int p4), .val (.int (0 : Int32)), .val (.double (FP.i2d p1)), .second, .val (.double (FP.i2d p2)), .second, .val (.double (FP.i2d p4)), .second, .val (.ref b1), .val (.int (1 : Int32)), .val (.double (FP.i2d p2)), .second, .unset, .unset, .unset] [(.int (-1 : Int32))]))
      refine own_via (fun t k => XS.ifNo X6.here hx rfl (hb hby at_89) rfl ((if0 _ _).trans (feq (by decide : ¬ ((-1 : Int32) = (0 : Int32)))).1) k) ?_
      show own_G p e below _ (T6.setTop (mkF m 92 #[.val (.int p1), .val (.int p2), .val (.int p3), .val (.int p4), .val (.int (0 : Int32)), .val (.double (FP.i2d p1)), .second, .val (.double (FP.i2d p2)), .second, .val (.double (FP.i2d p4)), .second, .val (.ref b1), .val (.int (1 : Int32)), .val (.double (FP.i2d p2)), .second, .unset, .unset, .unset] []))
      refine own_via (fun t k => XS.dload X6.here hx rfl (hb hby at_92) rfl k) ?_
      show own_G p e below _ (T6.setTop (mkF m 94 #[.val (.int p1), .val (.int p2), .val (.int p3), .val (.int p4), .val (.int (0 : Int32)), .val (.double (FP.i2d p1)), .second, .val (.double (FP.i2d p2)), .second, .val (.double (FP.i2d p4)), .second, .val (.ref b1), .val (.int (1 : Int32)), .val (.double (FP.i2d p2)), .second, .unset, .unset, .unset] [(.double (FP.i2d p2))]))
      refine own_via (fun t k => XS.dload X6.here hx rfl (hb hby at_94) rfl k) ?_
      show own_G p e below _ (T6.setTop (mkF m 96 #[.val (.int p1), .val (.int p2), .val (.int p3), .val (.int p4), .val (.int (0 : Int32)), .val (.double (FP.i2d p1)), .second, .val (.double (FP.i2d p2)), .second, .val (.double (FP.i2d p4)), .second, .val (.ref b1), .val (.int (1 : Int32)), .val (.double (FP.i2d p2)), .second, .unset, .unset, .unset] [(.double (FP.i2d p2)), (.double (FP.i2d p2))]))
      refine own_via (fun t k => XS.dcmpS X6.here hx rfl (hb hby at_96) rfl (own_dc_eq rfl _) k) ?_
      show own_G p e below _ (T6.setTop (mkF m 97 #[.val (.int p1), .val (.int p2), .val (.int p3), .val (.int p4), .val (.int (0 : Int32)), .val (.double (FP.i2d p1)), .second, .val (.double (FP.i2d p2)), .second, .val (.double (FP.i2d p4)), .second, .val (.ref b1), .val (.int (1 : Int32)), .val (.double (FP.i2d p2)), .second, .unset, .unset, .unset] [(.int (0 : Int32))]))
      refine own_via (fun t k => XS.ifNo X6.here hx rfl (hb hby at_97) rfl ((if0 _ _).trans (teq (by decide : (0 : Int32) = (0 : Int32))).2) k) ?_
      show own_G p e below _ (T6.setTop (mkF m 100 #[.val (.int p1), .val (.int p2), .val (.int p3), .val (.int p4), .val (.int (0 : Int32)), .val (.double (FP.i2d p1)), .second, .val (.double (FP.i2d p2)), .second, .val (.double (FP.i2d p4)), .second, .val (.ref b1), .val (.int (1 : Int32)), .val (.double (FP.i2d p2)), .second, .unset, .unset, .unset] []))
      refine own_via (fun t k => XS.iconst X6.here hx rfl (hb hby at_100) k) ?_
      show own_G p e below _ (T6.setTop (mkF m 101 #[.val (.int p1), .val (.int p2), .val (.int p3), .val (.int p4), .val (.int (0 : Int32)), .val (.double (FP.i2d p1)), .second, .val (.double (FP.i2d p2)), .second, .val (.double (FP.i2d p4)), .second, .val (.ref b1), .val (.int (1 : Int32)), .val (.double (FP.i2d p2)), .second, .unset, .unset, .unset] [(.int (1 : Int32))]))
      refine own_via (fun t k => XS.goto X6.here hx rfl (pc0 := 101) (pc' := 105) rfl (hb hby at_101) (by decide) (by decide) k) ?_
      show own_G p e below _ (T6.setTop (mkF m 105 #[.val (.int p1), .val (.int p2), .val (.int p3), .val (.int p4), .val (.int (0 : Int32)), .val (.double (FP.i2d p1)), .second, .val (.double (FP.i2d p2)), .second, .val (.double (FP.i2d p4)), .second, .val (.ref b1), .val (.int (1 : Int32)), .val (.double (FP.i2d p2)), .second, .unset, .unset, .unset] [(.int (1 : Int32))]))
      refine own_via (fun t k => XS.istore X6.here hx rfl (hb hby at_105) rfl (l' := #[.val (.int p1), .val (.int p2), .val (.int p3), .val (.int p4), .val (.int (0 : Int32)), .val (.double (FP.i2d p1)), .second, .val (.double (FP.i2d p2)), .second, .val (.double (FP.i2d p4)), .second, .val (.ref b1), .val (.int (1 : Int32)), .val (.double (FP.i2d p2)), .second, .val (.int (1 : Int32)), .unset, .unset]) rfl k) ?_
      show own_G p e below _ (T6.setTop (mkF m 107 #[.val (.int p1), .val (.int p2), .val (.int p3), .val (.int p4), .val (.int (0 : Int32)), .val (.double (FP.i2d p1)), .second, .val (.double (FP.i2d p2)), .second, .val (.double (FP.i2d p4)), .second, .val (.ref b1), .val (.int (1 : Int32)), .val (.double (FP.i2d p2)), .second, .val (.int (1 : Int32)), .unset, .unset] []))
      refine own_via (fun t k => XS.iload X6.here hx rfl (hb hby at_107) rfl k) ?_
      show own_G p e below _ (T6.setTop (mkF m 109 #[.val (.int p1), .val (.int p2), .val (.int p3), .val (.int p4), .val (.int (0 : Int32)), .val (.double (FP.i2d p1)), .second, .val (.double (FP.i2d p2)), .second, .val (.double (FP.i2d p4)), .second, .val (.ref b1), .val (.int (1 : Int32)), .val (.double (FP.i2d p2)), .second, .val (.int (1 : Int32)), .unset, .unset] [(.int (1 : Int32))]))
      refine own_via (fun t k => XS.dload X6.here hx rfl (hb hby at_109) rfl k) ?_
      show own_G p e below _ (T6.setTop (mkF m 111 #[.val (.int p1), .val (.int p2), .val (.int p3), .val (.int p4), .val (.int (0 : Int32)), .val (.double (FP.i2d p1)), .second, .val (.double (FP.i2d p2)), .second, .val (.double (FP.i2d p4)), .second, .val (.ref b1), .val (.int (1 : Int32)), .val (.double (FP.i2d p2)), .second, .val (.int (1 : Int32)), .unset, .unset] [(.double (FP.i2d p2)), (.int (1 : Int32))]))
      refine own_via (fun t k => XS.dload X6.here hx rfl (hb hby at_111) rfl k) ?_
      show own_G p e below _ (T6.setTop (mkF m 113 #[.val (.int p1), .val (.int p2), .val (.int p3), .val (.int p4), .val (.int (0 : Int32)), .val (.double (FP.i2d p1)), .second, .val (.double (FP.i2d p2)), .second, .val (.double (FP.i2d p4)), .second, .val (.ref b1), .val (.int (1 : Int32)), .val (.double (FP.i2d p2)), .second, .val (.int (1 : Int32)), .unset, .unset] [(.double (FP.i2d p1)), (.double (FP.i2d p2)), (.int (1 : Int32))]))
      refine own_via (fun t k => XS.dcmpS X6.here hx rfl (hb hby at_113) rfl (own_dc_lt hob _) k) ?_
      show own_G p e below _ (T6.setTop (mkF m 114 #[.val (.int p1), .val (.int p2), .val (.int p3), .val (.int p4), .val (.int (0 : Int32)), .val (.double (FP.i2d p1)), .second, .val (.double (FP.i2d p2)), .second, .val (.double (FP.i2d p4)), .second, .val (.ref b1), .val (.int (1 : Int32)), .val (.double (FP.i2d p2)), .second, .val (.int (1 : Int32)), .unset, .unset] [(.int (-1 : Int32)), (.int (1 : Int32))]))
      refine own_via (fun t k => XS.ifNo X6.here hx rfl (hb hby at_114) rfl ((if0 _ _).trans (tlt (by decide : (-1 : Int32) < (0 : Int32))).2.1) k) ?_
      show own_G p e below _ (T6.setTop (mkF m 117 #[.val (.int p1), .val (.int p2), .val (.int p3), .val (.int p4), .val (.int (0 : Int32)), .val (.double (FP.i2d p1)), .second, .val (.double (FP.i2d p2)), .second, .val (.double (FP.i2d p4)), .second, .val (.ref b1), .val (.int (1 : Int32)), .val (.double (FP.i2d p2)), .second, .val (.int (1 : Int32)), .unset, .unset] [(.int (1 : Int32))]))
      refine own_via (fun t k => XS.iconst X6.here hx rfl (hb hby at_117) k) ?_
      show own_G p e below _ (T6.setTop (mkF m 118 #[.val (.int p1), .val (.int p2), .val (.int p3), .val (.int p4), .val (.int (0 : Int32)), .val (.double (FP.i2d p1)), .second, .val (.double (FP.i2d p2)), .second, .val (.double (FP.i2d p4)), .second, .val (.ref b1), .val (.int (1 : Int32)), .val (.double (FP.i2d p2)), .second, .val (.int (1 : Int32)), .unset, .unset] [(.int (1 : Int32)), (.int (1 : Int32))]))
      refine own_via (fun t k => XS.goto X6.here hx rfl (pc0 := 118) (pc' := 122) rfl (hb hby at_118) (by decide) (by decide) k) ?_
      show own_G p e below _ (T6.setTop (mkF m 122 #[.val (.int p1), .val (.int p2), .val (.int p3), .val (.int p4), .val (.int (0 : Int32)), .val (.double (FP.i2d p1)), .second, .val (.double (FP.i2d p2)), .second, .val (.double (FP.i2d p4)), .second, .val (.ref b1), .val (.int (1 : Int32)), .val (.double (FP.i2d p2)), .second, .val (.int (1 : Int32)), .unset, .unset] [(.int (1 : Int32)), (.int (1 : Int32))]))
      refine own_via (fun t k => XS.icmpNo X6.here hx rfl (hb hby at_122) rfl (teq (by decide : (1 : Int32) = (1 : Int32))).2 k) ?_
      show own_G p e below _ (T6.setTop (mkF m 125 #[.val (.int p1), .val (.int p2), .val (.int p3), .val (.int p4), .val (.int (0 : Int32)), .val (.double (FP.i2d p1)), .second, .val (.double (FP.i2d p2)), .second, .val (.double (FP.i2d p4)), .second, .val (.ref b1), .val (.int (1 : Int32)), .val (.double (FP.i2d p2)), .second, .val (.int (1 : Int32)), .unset, .unset] []))
      refine own_via (fun t k => XS.iconst X6.here hx rfl (hb hby at_125) k) ?_
      show own_G p e below _ (T6.setTop (mkF m 126 #[.val (.int p1), .val (.int p2), .val (.int p3), .val (.int p4), .val (.int (0 : Int32)), .val (.double (FP.i2d p1)), .second, .val (.double (FP.i2d p2)), .second, .val (.double (FP.i2d p4)), .second, .val (.ref b1), .val (.int (1 : Int32)), .val (.double (FP.i2d p2)), .second, .val (.int (1 : Int32)), .unset, .unset] [(.int (1 : Int32))]))
      refine own_via (fun t k => XS.goto X6.here hx rfl (pc0 := 126) (pc' := 130) rfl (hb hby at_126) (by decide) (by decide) k) ?_
      show own_G p e below _ (T6.setTop (mkF m 130 #[.val (.int p1), .val (.int p2), .val (.int p3), .val (.int p4), .val (.int (0 : Int32)), .val (.double (FP.i2d p1)), .second, .val (.double (FP.i2d p2)), .second, .val (.double (FP.i2d p4)), .second, .val (.ref b1), .val (.int (1 : Int32)), .val (.double (FP.i2d p2)), .second, .val (.int (1 : Int32)), .unset, .unset] [(.int (1 : Int32))]))
      refine own_via (fun t k => XS.istore X6.here hx rfl (hb hby at_130) rfl (l' := #[.val (.int p1), .val (.int p2), .val (.int p3), .val (.int p4), .val (.int (0 : Int32)), .val (.double (FP.i2d p1)), .second, .val (.double (FP.i2d p2)), .second, .val (.double (FP.i2d p4)), .second, .val (.ref b1), .val (.int (1 : Int32)), .val (.double (FP.i2d p2)), .second, .val (.int (1 : Int32)), .val (.int (1 : Int32)), .unset]) rfl k) ?_
      show own_G p e below _ (T6.setTop (mkF m 132 #[.val (.int p1), .val (.int p2), .val (.int p3), .val (.int p4), .val (.int (0 : Int32)), .val (.double (FP.i2d p1)), .second, .val (.double (FP.i2d p2)), .second, .val (.double (FP.i2d p4)), .second, .val (.ref b1), .val (.int (1 : Int32)), .val (.double (FP.i2d p2)), .second, .val (.int (1 : Int32)), .val (.int (1 : Int32)), .unset] []))
      refine own_via (fun t k => XS.iload X6.here hx rfl (hb hby at_132) rfl k) ?_
      show own_G p e below _ (T6.setTop (mkF m 134 #[.val (.int p1), .val (.int p2), .val (.int p3), .val (.int p4), .val (.int (0 : Int32)), .val (.double (FP.i2d p1)), .second, .val (.double (FP.i2d p2)), .second, .val (.double (FP.i2d p4)), .second, .val (.ref b1), .val (.int (1 : Int32)), .val (.double (FP.i2d p2)), .second, .val (.int (1 : Int32)), .val (.int (1 : Int32)), .unset] [(.int (0 : Int32))]))
      refine own_via (fun t k => XS.ifYes X6.here hx rfl (pc0 := 134) (pc' := 147) rfl (hb hby at_134) rfl ((if0 _ _).trans (teq (by decide : (0 : Int32) = (0 : Int32))).1) (by decide) (by decide) k) ?_
      show own_G p e below _ (T6.setTop (mkF m 147 #[.val (.int p1), .val (.int p2), .val (.int p3), .val (.int p4), .val (.int (0 : Int32)), .val (.double (FP.i2d p1)), .second, .val (.double (FP.i2d p2)), .second, .val (.double (FP.i2d p4)), .second, .val (.ref b1), .val (.int (1 : Int32)), .val (.double (FP.i2d p2)), .second, .val (.int (1 : Int32)), .val (.int (1 : Int32)), .unset] []))
      refine own_via (fun t k => XS.iload X6.here hx rfl (hb hby at_147) rfl k) ?_
      show own_G p e below _ (T6.setTop (mkF m 149 #[.val (.int p1), .val (.int p2), .val (.int p3), .val (.int p4), .val (.int (0 : Int32)), .val (.double (FP.i2d p1)), .second, .val (.double (FP.i2d p2)), .second, .val (.double (FP.i2d p4)), .second, .val (.ref b1), .val (.int (1 : Int32)), .val (.double (FP.i2d p2)), .second, .val (.int (1 : Int32)), .val (.int (1 : Int32)), .unset] [(.int (0 : Int32))]))
      refine own_via (fun t k => XS.iconst X6.here hx rfl (hb hby at_149) k) ?_
      show own_G p e below _ (T6.setTop (mkF m 150 #[.val (.int p1), .val (.int p2), .val (.int p3), .val (.int p4), .val (.int (0 : Int32)), .val (.double (FP.i2d p1)), .second, .val (.double (FP.i2d p2)), .second, .val (.double (FP.i2d p4)), .second, .val (.ref b1), .val (.int (1 : Int32)), .val (.double (FP.i2d p2)), .second, .val (.int (1 : Int32)), .val (.int (1 : Int32)), .unset] [(.int (1 : Int32)), (.int (0 : Int32))]))
      refine own_via (fun t k => XS.icmpNo X6.here hx rfl (hb hby at_150) rfl (feq (by decide : ¬ ((0 : Int32) = (1 : Int32)))).1 k) ?_
      show own_G p e below _ (T6.setTop (mkF m 153 #[.val (.int p1), .val (.int p2), .val (.int p3), .val (.int p4), .val (.int (0 : Int32)), .val (.double (FP.i2d p1)), .second, .val (.double (FP.i2d p2)), .second, .val (.double (FP.i2d p4)), .second, .val (.ref b1), .val (.int (1 : Int32)), .val (.double (FP.i2d p2)), .second, .val (.int (1 : Int32)), .val (.int (1 : Int32)), .unset] []))
      refine own_via (fun t k => XS.aload X6.here hx rfl (hb hby at_153) rfl rfl k) ?_
      show own_G p e below _ (T6.setTop (mkF m 155 #[.val (.int p1), .val (.int p2), .val (.int p3), .val (.int p4), .val (.int (0 : Int32)), .val (.double (FP.i2d p1)), .second, .val (.double (FP.i2d p2)), .second, .val (.double (FP.i2d p4)), .second, .val (.ref b1), .val (.int (1 : Int32)), .val (.double (FP.i2d p2)), .second, .val (.int (1 : Int32)), .val (.int (1 : Int32)), .unset] [(.ref b1)]))
      refine own_via (fun t k => XS.iconst X6.here hx rfl (hb hby at_155) k) ?_
      show own_G p e below _ (T6.setTop (mkF m 156 #[.val (.int p1), .val (.int p2), .val (.int p3), .val (.int p4), .val (.int (0 : Int32)), .val (.double (FP.i2d p1)), .second, .val (.double (FP.i2d p2)), .second, .val (.double (FP.i2d p4)), .second, .val (.ref b1), .val (.int (1 : Int32)), .val (.double (FP.i2d p2)), .second, .val (.int (1 : Int32)), .val (.int (1 : Int32)), .unset] [(.int (1 : Int32)), (.ref b1)]))
      obtain ⟨cl17, Ar17, q17, S17, Ng17, Hs17, G17⟩ := id V6
      have hin17 : ¬ ((1 : Int32) < 0 ∨ cl17.slots.size ≤ ((1 : Int32)).toNatClampNeg) := inb_of S17 ⟨by decide, by decide⟩
      have hat17 : cl17.slots[((1 : Int32)).toNatClampNeg]? = some (.double (FP.i2d p4)) := Hs17.at hin17 rfl
      refine own_via (fun t k => X6.daload hx (j := (1 : Int32)) (v := (.double (FP.i2d p4))) Ar17.1 (State.isArrayOf_alike hZ.alike Ar17.2.1) Ar17.2.2 hin17 hat17 (g := (mkF m 156 #[.val (.int p1), .val (.int p2), .val (.int p3), .val (.int p4), .val (.int (0 : Int32)), .val (.double (FP.i2d p1)), .second, .val (.double (FP.i2d p2)), .second, .val (.double (FP.i2d p4)), .second, .val (.ref b1), .val (.int (1 : Int32)), .val (.double (FP.i2d p2)), .second, .val (.int (1 : Int32)), .val (.int (1 : Int32)), .unset] [(.int (1 : Int32)), (.ref b1)])) rfl rfl (hb hby at_156) _ k) ?_
      show own_G p e below _ (T6.setTop (mkF m 157 #[.val (.int p1), .val (.int p2), .val (.int p3), .val (.int p4), .val (.int (0 : Int32)), .val (.double (FP.i2d p1)), .second, .val (.double (FP.i2d p2)), .second, .val (.double (FP.i2d p4)), .second, .val (.ref b1), .val (.int (1 : Int32)), .val (.double (FP.i2d p2)), .second, .val (.int (1 : Int32)), .val (.int (1 : Int32)), .unset] [(.double (FP.i2d p4))]))
      refine own_via (fun t k => XS.dload X6.here hx rfl (hb hby at_157) rfl k) ?_
      show own_G p e below _ (T6.setTop (mkF m 159 #[.val (.int p1), .val (.int p2), .val (.int p3), .val (.int p4), .val (.int (0 : Int32)), .val (.double (FP.i2d p1)), .second, .val (.double (FP.i2d p2)), .second, .val (.double (FP.i2d p4)), .second, .val (.ref b1), .val (.int (1 : Int32)), .val (.double (FP.i2d p2)), .second, .val (.int (1 : Int32)), .val (.int (1 : Int32)), .unset] [(.double (FP.i2d p4)), (.double (FP.i2d p4))]))
      refine own_via (fun t k => XS.dcmpS X6.here hx rfl (hb hby at_159) rfl (own_dc_eq rfl _) k) ?_
      show own_G p e below _ (T6.setTop (mkF m 160 #[.val (.int p1), .val (.int p2), .val (.int p3), .val (.int p4), .val (.int (0 : Int32)), .val (.double (FP.i2d p1)), .second, .val (.double (FP.i2d p2)), .second, .val (.double (FP.i2d p4)), .second, .val (.ref b1), .val (.int (1 : Int32)), .val (.double (FP.i2d p2)), .second, .val (.int (1 : Int32)), .val (.int (1 : Int32)), .unset] [(.int (0 : Int32))]))
      refine own_via (fun t k => XS.ifNo X6.here hx rfl (hb hby at_160) rfl ((if0 _ _).trans (teq (by decide : (0 : Int32) = (0 : Int32))).2) k) ?_
      show own_G p e below _ (T6.setTop (mkF m 163 #[.val (.int p1), .val (.int p2), .val (.int p3), .val (.int p4), .val (.int (0 : Int32)), .val (.double (FP.i2d p1)), .second, .val (.double (FP.i2d p2)), .second, .val (.double (FP.i2d p4)), .second, .val (.ref b1), .val (.int (1 : Int32)), .val (.double (FP.i2d p2)), .second, .val (.int (1 : Int32)), .val (.int (1 : Int32)), .unset] []))
      refine own_via (fun t k => XS.iload X6.here hx rfl (hb hby at_163) rfl k) ?_
      show own_G p e below _ (T6.setTop (mkF m 165 #[.val (.int p1), .val (.int p2), .val (.int p3), .val (.int p4), .val (.int (0 : Int32)), .val (.double (FP.i2d p1)), .second, .val (.double (FP.i2d p2)), .second, .val (.double (FP.i2d p4)), .second, .val (.ref b1), .val (.int (1 : Int32)), .val (.double (FP.i2d p2)), .second, .val (.int (1 : Int32)), .val (.int (1 : Int32)), .unset] [(.int (0 : Int32))]))
      refine own_via (fun t k => XS.iconst X6.here hx rfl (hb hby at_165) k) ?_
      show own_G p e below _ (T6.setTop (mkF m 166 #[.val (.int p1), .val (.int p2), .val (.int p3), .val (.int p4), .val (.int (0 : Int32)), .val (.double (FP.i2d p1)), .second, .val (.double (FP.i2d p2)), .second, .val (.double (FP.i2d p4)), .second, .val (.ref b1), .val (.int (1 : Int32)), .val (.double (FP.i2d p2)), .second, .val (.int (1 : Int32)), .val (.int (1 : Int32)), .unset] [(.int (2 : Int32)), (.int (0 : Int32))]))
      refine own_via (fun t k => XS.icmpNo X6.here hx rfl (hb hby at_166) rfl (feq (by decide : ¬ ((0 : Int32) = (2 : Int32)))).1 k) ?_
      show own_G p e below _ (T6.setTop (mkF m 169 #[.val (.int p1), .val (.int p2), .val (.int p3), .val (.int p4), .val (.int (0 : Int32)), .val (.double (FP.i2d p1)), .second, .val (.double (FP.i2d p2)), .second, .val (.double (FP.i2d p4)), .second, .val (.ref b1), .val (.int (1 : Int32)), .val (.double (FP.i2d p2)), .second, .val (.int (1 : Int32)), .val (.int (1 : Int32)), .unset] []))
      refine own_via (fun t k => XS.aload X6.here hx rfl (hb hby at_169) rfl rfl k) ?_
      show own_G p e below _ (T6.setTop (mkF m 171 #[.val (.int p1), .val (.int p2), .val (.int p3), .val (.int p4), .val (.int (0 : Int32)), .val (.double (FP.i2d p1)), .second, .val (.double (FP.i2d p2)), .second, .val (.double (FP.i2d p4)), .second, .val (.ref b1), .val (.int (1 : Int32)), .val (.double (FP.i2d p2)), .second, .val (.int (1 : Int32)), .val (.int (1 : Int32)), .unset] [(.ref b1)]))
      refine own_via (fun t k => XS.iconst X6.here hx rfl (hb hby at_171) k) ?_
      show own_G p e below _ (T6.setTop (mkF m 172 #[.val (.int p1), .val (.int p2), .val (.int p3), .val (.int p4), .val (.int (0 : Int32)), .val (.double (FP.i2d p1)), .second, .val (.double (FP.i2d p2)), .second, .val (.double (FP.i2d p4)), .second, .val (.ref b1), .val (.int (1 : Int32)), .val (.double (FP.i2d p2)), .second, .val (.int (1 : Int32)), .val (.int (1 : Int32)), .unset] [(.int (2 : Int32)), (.ref b1)]))
      obtain ⟨cl20, Ar20, q20, S20, Ng20, Hs20, G20⟩ := id V6
      have hin20 : ¬ ((2 : Int32) < 0 ∨ cl20.slots.size ≤ ((2 : Int32)).toNatClampNeg) := inb_of S20 ⟨by decide, by decide⟩
      have hat20 : cl20.slots[((2 : Int32)).toNatClampNeg]? = some (.double (FP.i2d p4)) := Hs20.at hin20 rfl
      refine own_via (fun t k => X6.daload hx (j := (2 : Int32)) (v := (.double (FP.i2d p4))) Ar20.1 (State.isArrayOf_alike hZ.alike Ar20.2.1) Ar20.2.2 hin20 hat20 (g := (mkF m 172 #[.val (.int p1), .val (.int p2), .val (.int p3), .val (.int p4), .val (.int (0 : Int32)), .val (.double (FP.i2d p1)), .second, .val (.double (FP.i2d p2)), .second, .val (.double (FP.i2d p4)), .second, .val (.ref b1), .val (.int (1 : Int32)), .val (.double (FP.i2d p2)), .second, .val (.int (1 : Int32)), .val (.int (1 : Int32)), .unset] [(.int (2 : Int32)), (.ref b1)])) rfl rfl (hb hby at_172) _ k) ?_
      show own_G p e below _ (T6.setTop (mkF m 173 #[.val (.int p1), .val (.int p2), .val (.int p3), .val (.int p4), .val (.int (0 : Int32)), .val (.double (FP.i2d p1)), .second, .val (.double (FP.i2d p2)), .second, .val (.double (FP.i2d p4)), .second, .val (.ref b1), .val (.int (1 : Int32)), .val (.double (FP.i2d p2)), .second, .val (.int (1 : Int32)), .val (.int (1 : Int32)), .unset] [(.double (FP.i2d p4))]))
      refine own_via (fun t k => XS.dload X6.here hx rfl (hb hby at_173) rfl k) ?_
      show own_G p e below _ (T6.setTop (mkF m 175 #[.val (.int p1), .val (.int p2), .val (.int p3), .val (.int p4), .val (.int (0 : Int32)), .val (.double (FP.i2d p1)), .second, .val (.double (FP.i2d p2)), .second, .val (.double (FP.i2d p4)), .second, .val (.ref b1), .val (.int (1 : Int32)), .val (.double (FP.i2d p2)), .second, .val (.int (1 : Int32)), .val (.int (1 : Int32)), .unset] [(.double (FP.i2d p4)), (.double (FP.i2d p4))]))
      refine own_via (fun t k => XS.dcmpS X6.here hx rfl (hb hby at_175) rfl (own_dc_eq rfl _) k) ?_
      show own_G p e below _ (T6.setTop (mkF m 176 #[.val (.int p1), .val (.int p2), .val (.int p3), .val (.int p4), .val (.int (0 : Int32)), .val (.double (FP.i2d p1)), .second, .val (.double (FP.i2d p2)), .second, .val (.double (FP.i2d p4)), .second, .val (.ref b1), .val (.int (1 : Int32)), .val (.double (FP.i2d p2)), .second, .val (.int (1 : Int32)), .val (.int (1 : Int32)), .unset] [(.int (0 : Int32))]))
      refine own_via (fun t k => XS.ifNo X6.here hx rfl (hb hby at_176) rfl ((if0 _ _).trans (teq (by decide : (0 : Int32) = (0 : Int32))).2) k) ?_
      show own_G p e below _ (T6.setTop (mkF m 179 #[.val (.int p1), .val (.int p2), .val (.int p3), .val (.int p4), .val (.int (0 : Int32)), .val (.double (FP.i2d p1)), .second, .val (.double (FP.i2d p2)), .second, .val (.double (FP.i2d p4)), .second, .val (.ref b1), .val (.int (1 : Int32)), .val (.double (FP.i2d p2)), .second, .val (.int (1 : Int32)), .val (.int (1 : Int32)), .unset] []))
      refine own_via (fun t k => XS.iconst X6.here hx rfl (hb hby at_179) k) ?_
      show own_G p e below _ (T6.setTop (mkF m 180 #[.val (.int p1), .val (.int p2), .val (.int p3), .val (.int p4), .val (.int (0 : Int32)), .val (.double (FP.i2d p1)), .second, .val (.double (FP.i2d p2)), .second, .val (.double (FP.i2d p4)), .second, .val (.ref b1), .val (.int (1 : Int32)), .val (.double (FP.i2d p2)), .second, .val (.int (1 : Int32)), .val (.int (1 : Int32)), .unset] [(.int (1 : Int32))]))
      refine own_via (fun t k => XS.goto X6.here hx rfl (pc0 := 180) (pc' := 184) rfl (hb hby at_180) (by decide) (by decide) k) ?_
      show own_G p e below _ (T6.setTop (mkF m 184 #[.val (.int p1), .val (.int p2), .val (.int p3), .val (.int p4), .val (.int (0 : Int32)), .val (.double (FP.i2d p1)), .second, .val (.double (FP.i2d p2)), .second, .val (.double (FP.i2d p4)), .second, .val (.ref b1), .val (.int (1 : Int32)), .val (.double (FP.i2d p2)), .second, .val (.int (1 : Int32)), .val (.int (1 : Int32)), .unset] [(.int (1 : Int32))]))
      refine own_via (fun t k => XS.istore X6.here hx rfl (hb hby at_184) rfl (l' := #[.val (.int p1), .val (.int p2), .val (.int p3), .val (.int p4), .val (.int (0 : Int32)), .val (.double (FP.i2d p1)), .second, .val (.double (FP.i2d p2)), .second, .val (.double (FP.i2d p4)), .second, .val (.ref b1), .val (.int (1 : Int32)), .val (.double (FP.i2d p2)), .second, .val (.int (1 : Int32)), .val (.int (1 : Int32)), .val (.int (1 : Int32))]) rfl k) ?_
      show own_G p e below _ (T6.setTop (mkF m 186 #[.val (.int p1), .val (.int p2), .val (.int p3), .val (.int p4), .val (.int (0 : Int32)), .val (.double (FP.i2d p1)), .second, .val (.double (FP.i2d p2)), .second, .val (.double (FP.i2d p4)), .second, .val (.ref b1), .val (.int (1 : Int32)), .val (.double (FP.i2d p2)), .second, .val (.int (1 : Int32)), .val (.int (1 : Int32)), .val (.int (1 : Int32))] []))
      refine own_via (fun t k => XS.iload X6.here hx rfl (hb hby at_186) rfl k) ?_
      show own_G p e below _ (T6.setTop (mkF m 188 #[.val (.int p1), .val (.int p2), .val (.int p3), .val (.int p4), .val (.int (0 : Int32)), .val (.double (FP.i2d p1)), .second, .val (.double (FP.i2d p2)), .second, .val (.double (FP.i2d p4)), .second, .val (.ref b1), .val (.int (1 : Int32)), .val (.double (FP.i2d p2)), .second, .val (.int (1 : Int32)), .val (.int (1 : Int32)), .val (.int (1 : Int32))] [(.int (1 : Int32))]))
      refine own_via (fun t k => XS.ifNo X6.here hx rfl (hb hby at_188) rfl ((if0 _ _).trans (feq (by decide : ¬ ((1 : Int32) = (0 : Int32)))).1) k) ?_
      show own_G p e below _ (T6.setTop (mkF m 191 #[.val (.int p1), .val (.int p2), .val (.int p3), .val (.int p4), .val (.int (0 : Int32)), .val (.double (FP.i2d p1)), .second, .val (.double (FP.i2d p2)), .second, .val (.double (FP.i2d p4)), .second, .val (.ref b1), .val (.int (1 : Int32)), .val (.double (FP.i2d p2)), .second, .val (.int (1 : Int32)), .val (.int (1 : Int32)), .val (.int (1 : Int32))] []))
      refine own_via (fun t k => XS.iload X6.here hx rfl (hb hby at_191) rfl k) ?_
      show own_G p e below _ (T6.setTop (mkF m 193 #[.val (.int p1), .val (.int p2), .val (.int p3), .val (.int p4), .val (.int (0 : Int32)), .val (.double (FP.i2d p1)), .second, .val (.double (FP.i2d p2)), .second, .val (.double (FP.i2d p4)), .second, .val (.ref b1), .val (.int (1 : Int32)), .val (.double (FP.i2d p2)), .second, .val (.int (1 : Int32)), .val (.int (1 : Int32)), .val (.int (1 : Int32))] [(.int (1 : Int32))]))
      refine own_via (fun t k => XS.ifNo X6.here hx rfl (hb hby at_193) rfl ((if0 _ _).trans (feq (by decide : ¬ ((1 : Int32) = (0 : Int32)))).1) k) ?_
      show own_G p e below _ (T6.setTop (mkF m 196 #[.val (.int p1), .val (.int p2), .val (.int p3), .val (.int p4), .val (.int (0 : Int32)), .val (.double (FP.i2d p1)), .second, .val (.double (FP.i2d p2)), .second, .val (.double (FP.i2d p4)), .second, .val (.ref b1), .val (.int (1 : Int32)), .val (.double (FP.i2d p2)), .second, .val (.int (1 : Int32)), .val (.int (1 : Int32)), .val (.int (1 : Int32))] []))
      refine own_via (fun t k => XS.iload X6.here hx rfl (hb hby at_196) rfl k) ?_
      show own_G p e below _ (T6.setTop (mkF m 198 #[.val (.int p1), .val (.int p2), .val (.int p3), .val (.int p4), .val (.int (0 : Int32)), .val (.double (FP.i2d p1)), .second, .val (.double (FP.i2d p2)), .second, .val (.double (FP.i2d p4)), .second, .val (.ref b1), .val (.int (1 : Int32)), .val (.double (FP.i2d p2)), .second, .val (.int (1 : Int32)), .val (.int (1 : Int32)), .val (.int (1 : Int32))] [(.int (1 : Int32))]))
      refine own_via (fun t k => XS.ifNo X6.here hx rfl (hb hby at_198) rfl ((if0 _ _).trans (feq (by decide : ¬ ((1 : Int32) = (0 : Int32)))).1) k) ?_
      show own_G p e below _ (T6.setTop (mkF m 201 #[.val (.int p1), .val (.int p2), .val (.int p3), .val (.int p4), .val (.int (0 : Int32)), .val (.double (FP.i2d p1)), .second, .val (.double (FP.i2d p2)), .second, .val (.double (FP.i2d p4)), .second, .val (.ref b1), .val (.int (1 : Int32)), .val (.double (FP.i2d p2)), .second, .val (.int (1 : Int32)), .val (.int (1 : Int32)), .val (.int (1 : Int32))] []))
      refine own_via (fun t k => XS.iconst X6.here hx rfl (hb hby at_201) k) ?_
      show own_G p e below _ (T6.setTop (mkF m 202 #[.val (.int p1), .val (.int p2), .val (.int p3), .val (.int p4), .val (.int (0 : Int32)), .val (.double (FP.i2d p1)), .second, .val (.double (FP.i2d p2)), .second, .val (.double (FP.i2d p4)), .second, .val (.ref b1), .val (.int (1 : Int32)), .val (.double (FP.i2d p2)), .second, .val (.int (1 : Int32)), .val (.int (1 : Int32)), .val (.int (1 : Int32))] [(.int (1 : Int32))]))
      refine own_via (fun t k => XS.goto X6.here hx rfl (pc0 := 202) (pc' := 206) rfl (hb hby at_202) (by decide) (by decide) k) ?_
      show own_G p e below _ (T6.setTop (mkF m 206 #[.val (.int p1), .val (.int p2), .val (.int p3), .val (.int p4), .val (.int (0 : Int32)), .val (.double (FP.i2d p1)), .second, .val (.double (FP.i2d p2)), .second, .val (.double (FP.i2d p4)), .second, .val (.ref b1), .val (.int (1 : Int32)), .val (.double (FP.i2d p2)), .second, .val (.int (1 : Int32)), .val (.int (1 : Int32)), .val (.int (1 : Int32))] [(.int (1 : Int32))]))
      obtain ⟨fs, hr, hrun, hended, hW, hsame⟩ := X6.leave (v := some (.int (1 : Int32))) (fun h => by rw [Bd.returns] at h; cases h)
      refine ⟨_, _, retN X6 hx (t := .boolean) Bd.returns (by simp) (hb hby at_206) hr, hrun, hended, _, _, rfl, ?_, ⟨_, rfl⟩, hW, hsame.mono (by decide) (by decide)⟩
      show rm0_Q Z p1 p2 p3 p4 h0 n0 _ T6.heap _
      exact ⟨rfl, N6⟩
    · rw [hk]
      show own_G p e below _ (s₁.setTop (mkF m 6 #[.val (.int p1), .val (.int p2), .val (.int p3), .val (.int p4), .unset, .unset, .unset, .unset, .unset, .unset, .unset, .unset, .unset, .unset, .unset, .unset, .unset, .unset] [(.int (0 : Int32))]))
      refine own_via (fun t k => XS.istore X0.here hx rfl (hb hby at_6) rfl (l' := #[.val (.int p1), .val (.int p2), .val (.int p3), .val (.int p4), .val (.int (0 : Int32)), .unset, .unset, .unset, .unset, .unset, .unset, .unset, .unset, .unset, .unset, .unset, .unset, .unset]) rfl k) ?_
      show own_G p e below _ (s₁.setTop (mkF m 8 #[.val (.int p1), .val (.int p2), .val (.int p3), .val (.int p4), .val (.int (0 : Int32)), .unset, .unset, .unset, .unset, .unset, .unset, .unset, .unset, .unset, .unset, .unset, .unset, .unset] []))
      refine own_via (fun t k => XS.iloadN X0.here hx rfl (hb hby at_8) rfl k) ?_
      show own_G p e below _ (s₁.setTop (mkF m 9 #[.val (.int p1), .val (.int p2), .val (.int p3), .val (.int p4), .val (.int (0 : Int32)), .unset, .unset, .unset, .unset, .unset, .unset, .unset, .unset, .unset, .unset, .unset, .unset, .unset] [(.int p1)]))
      refine own_via (fun t k => XS.i2dS X0.here hx rfl (hb hby at_9) rfl rfl k) ?_
      show own_G p e below _ (s₁.setTop (mkF m 10 #[.val (.int p1), .val (.int p2), .val (.int p3), .val (.int p4), .val (.int (0 : Int32)), .unset, .unset, .unset, .unset, .unset, .unset, .unset, .unset, .unset, .unset, .unset, .unset, .unset] [(.double (FP.i2d p1))]))
      refine own_via (fun t k => XS.dstore X0.here hx rfl (hb hby at_10) rfl (l' := #[.val (.int p1), .val (.int p2), .val (.int p3), .val (.int p4), .val (.int (0 : Int32)), .val (.double (FP.i2d p1)), .second, .unset, .unset, .unset, .unset, .unset, .unset, .unset, .unset, .unset, .unset, .unset]) rfl k) ?_
      show own_G p e below _ (s₁.setTop (mkF m 12 #[.val (.int p1), .val (.int p2), .val (.int p3), .val (.int p4), .val (.int (0 : Int32)), .val (.double (FP.i2d p1)), .second, .unset, .unset, .unset, .unset, .unset, .unset, .unset, .unset, .unset, .unset, .unset] []))
      refine own_via (fun t k => XS.iloadN X0.here hx rfl (hb hby at_12) rfl k) ?_
      show own_G p e below _ (s₁.setTop (mkF m 13 #[.val (.int p1), .val (.int p2), .val (.int p3), .val (.int p4), .val (.int (0 : Int32)), .val (.double (FP.i2d p1)), .second, .unset, .unset, .unset, .unset, .unset, .unset, .unset, .unset, .unset, .unset, .unset] [(.int p2)]))
      refine own_via (fun t k => XS.i2dS X0.here hx rfl (hb hby at_13) rfl rfl k) ?_
      show own_G p e below _ (s₁.setTop (mkF m 14 #[.val (.int p1), .val (.int p2), .val (.int p3), .val (.int p4), .val (.int (0 : Int32)), .val (.double (FP.i2d p1)), .second, .unset, .unset, .unset, .unset, .unset, .unset, .unset, .unset, .unset, .unset, .unset] [(.double (FP.i2d p2))]))
      refine own_via (fun t k => XS.dstore X0.here hx rfl (hb hby at_14) rfl (l' := #[.val (.int p1), .val (.int p2), .val (.int p3), .val (.int p4), .val (.int (0 : Int32)), .val (.double (FP.i2d p1)), .second, .val (.double (FP.i2d p2)), .second, .unset, .unset, .unset, .unset, .unset, .unset, .unset, .unset, .unset]) rfl k) ?_
      show own_G p e below _ (s₁.setTop (mkF m 16 #[.val (.int p1), .val (.int p2), .val (.int p3), .val (.int p4), .val (.int (0 : Int32)), .val (.double (FP.i2d p1)), .second, .val (.double (FP.i2d p2)), .second, .unset, .unset, .unset, .unset, .unset, .unset, .unset, .unset, .unset] []))
      refine own_via (fun t k => XS.iloadN X0.here hx rfl (hb hby at_16) rfl k) ?_
      show own_G p e below _ (s₁.setTop (mkF m 17 #[.val (.int p1), .val (.int p2), .val (.int p3), .val (.int p4), .val (.int (0 : Int32)), .val (.double (FP.i2d p1)), .second, .val (.double (FP.i2d p2)), .second, .unset, .unset, .unset, .unset, .unset, .unset, .unset, .unset, .unset] [(.int p4)]))
      refine own_via (fun t k => XS.i2dS X0.here hx rfl (hb hby at_17) rfl rfl k) ?_
      show own_G p e below _ (s₁.setTop (mkF m 18 #[.val (.int p1), .val (.int p2), .val (.int p3), .val (.int p4), .val (.int (0 : Int32)), .val (.double (FP.i2d p1)), .second, .val (.double (FP.i2d p2)), .second, .unset, .unset, .unset, .unset, .unset, .unset, .unset, .unset, .unset] [(.double (FP.i2d p4))]))
      refine own_via (fun t k => XS.dstore X0.here hx rfl (hb hby at_18) rfl (l' := #[.val (.int p1), .val (.int p2), .val (.int p3), .val (.int p4), .val (.int (0 : Int32)), .val (.double (FP.i2d p1)), .second, .val (.double (FP.i2d p2)), .second, .val (.double (FP.i2d p4)), .second, .unset, .unset, .unset, .unset, .unset, .unset, .unset]) rfl k) ?_
      show own_G p e below _ (s₁.setTop (mkF m 20 #[.val (.int p1), .val (.int p2), .val (.int p3), .val (.int p4), .val (.int (0 : Int32)), .val (.double (FP.i2d p1)), .second, .val (.double (FP.i2d p2)), .second, .val (.double (FP.i2d p4)), .second, .unset, .unset, .unset, .unset, .unset, .unset, .unset] []))
      refine own_via (fun t k => XS.iconst X0.here hx rfl (hb hby at_20) k) ?_
      show own_G p e below _ (s₁.setTop (mkF m 21 #[.val (.int p1), .val (.int p2), .val (.int p3), .val (.int p4), .val (.int (0 : Int32)), .val (.double (FP.i2d p1)), .second, .val (.double (FP.i2d p2)), .second, .val (.double (FP.i2d p4)), .second, .unset, .unset, .unset, .unset, .unset, .unset, .unset] [(.int (3 : Int32))]))
      obtain ⟨T25, h25, k25, X25, e25, E25, A25, st25⟩ := newP X0 hx hZ (hw _ (List.mem_of_getElem? (i := 1) rfl)) e0 (g := (mkF m 21 #[.val (.int p1), .val (.int p2), .val (.int p3), .val (.int p4), .val (.int (0 : Int32)), .val (.double (FP.i2d p1)), .second, .val (.double (FP.i2d p2)), .second, .val (.double (FP.i2d p4)), .second, .unset, .unset, .unset, .unset, .unset, .unset, .unset] [(.int (3 : Int32))])) rfl (hb hby at_21) rfl (by decide) (cap := 3) (by decide) (by decide) (by decide) (by decide)
      obtain ⟨b25, g25⟩ : ∃ z, z = h0.size := ⟨_, rfl⟩
      rw [← g25] at A25 st25
      have gx_b25 : n0 ≤ b25 := Nat.le_trans Z0 (Nat.le_of_eq g25.symm)
      have Z25 : n0 ≤ h25.size := Nat.le_trans Z0 E25.1
      have V25 : Arv Z h25 b25 k25 .double (3 : Int32) [(.double (0 : UInt64)), (.double (0 : UInt64)), (.double (0 : UInt64))] (.double (0 : UInt64)) := (Arv.new A25 (by decide)).pad (pad_rep [] (.double (0 : UInt64)) 3)
      refine own_via st25 ?_
      show own_G p e below _ (T25.setTop (mkF m 23 #[.val (.int p1), .val (.int p2), .val (.int p3), .val (.int p4), .val (.int (0 : Int32)), .val (.double (FP.i2d p1)), .second, .val (.double (FP.i2d p2)), .second, .val (.double (FP.i2d p4)), .second, .unset, .unset, .unset, .unset, .unset, .unset, .unset] [(.ref b25)]))
      refine own_via (fun t k => XS.astore X25.here hx rfl (hb hby at_23) rfl rfl (l' := #[.val (.int p1), .val (.int p2), .val (.int p3), .val (.int p4), .val (.int (0 : Int32)), .val (.double (FP.i2d p1)), .second, .val (.double (FP.i2d p2)), .second, .val (.double (FP.i2d p4)), .second, .val (.ref b25), .unset, .unset, .unset, .unset, .unset, .unset]) rfl k) ?_
      show own_G p e below _ (T25.setTop (mkF m 25 #[.val (.int p1), .val (.int p2), .val (.int p3), .val (.int p4), .val (.int (0 : Int32)), .val (.double (FP.i2d p1)), .second, .val (.double (FP.i2d p2)), .second, .val (.double (FP.i2d p4)), .second, .val (.ref b25), .unset, .unset, .unset, .unset, .unset, .unset] []))
      refine own_via (fun t k => XS.aload X25.here hx rfl (hb hby at_25) rfl rfl k) ?_
      show own_G p e below _ (T25.setTop (mkF m 27 #[.val (.int p1), .val (.int p2), .val (.int p3), .val (.int p4), .val (.int (0 : Int32)), .val (.double (FP.i2d p1)), .second, .val (.double (FP.i2d p2)), .second, .val (.double (FP.i2d p4)), .second, .val (.ref b25), .unset, .unset, .unset, .unset, .unset, .unset] [(.ref b25)]))
      refine own_via (fun t k => XS.iconst X25.here hx rfl (hb hby at_27) k) ?_
      show own_G p e below _ (T25.setTop (mkF m 28 #[.val (.int p1), .val (.int p2), .val (.int p3), .val (.int p4), .val (.int (0 : Int32)), .val (.double (FP.i2d p1)), .second, .val (.double (FP.i2d p2)), .second, .val (.double (FP.i2d p4)), .second, .val (.ref b25), .unset, .unset, .unset, .unset, .unset, .unset] [(.int (0 : Int32)), (.ref b25)]))
      refine own_via (fun t k => XS.dload X25.here hx rfl (hb hby at_28) rfl k) ?_
      show own_G p e below _ (T25.setTop (mkF m 30 #[.val (.int p1), .val (.int p2), .val (.int p3), .val (.int p4), .val (.int (0 : Int32)), .val (.double (FP.i2d p1)), .second, .val (.double (FP.i2d p2)), .second, .val (.double (FP.i2d p4)), .second, .val (.ref b25), .unset, .unset, .unset, .unset, .unset, .unset] [(.double (FP.i2d p4)), (.int (0 : Int32)), (.ref b25)]))
      obtain ⟨cl26, Ar26, q26, S26, Ng26, Hs26, G26⟩ := id V25
      have hin26 : ¬ ((0 : Int32) < 0 ∨ cl26.slots.size ≤ ((0 : Int32)).toNatClampNeg) := inb_of S26 ⟨by decide, by decide⟩
      obtain ⟨T26, h26, X26, e26, W26, st26⟩ := stD X25 hx hZ e25 Ar26 (j := (0 : Int32)) hin26 (g := (mkF m 30 #[.val (.int p1), .val (.int p2), .val (.int p3), .val (.int p4), .val (.int (0 : Int32)), .val (.double (FP.i2d p1)), .second, .val (.double (FP.i2d p2)), .second, .val (.double (FP.i2d p4)), .second, .val (.ref b25), .unset, .unset, .unset, .unset, .unset, .unset] [(.double (FP.i2d p4)), (.int (0 : Int32)), (.ref b25)])) rfl rfl (hb hby at_30)
      have V26 : Arv Z h26 b25 k25 .double (3 : Int32) [(.double (FP.i2d p4)), (.double (0 : UInt64)), (.double (0 : UInt64))] (.double (0 : UInt64)) := Arv.set Ar26 q26 S26 Ng26 Hs26 G26 rfl W26 0 rfl (Nat.le_of_ble_eq_true rfl)
      have N26 := Fr.snoc X26 N0 gx_b25
      have Z26 : n0 ≤ h26.size := Nat.le_trans Z25 (Nat.le_of_eq W26.size.symm)
      refine own_via st26 ?_
      show own_G p e below _ (T26.setTop (mkF m 31 #[.val (.int p1), .val (.int p2), .val (.int p3), .val (.int p4), .val (.int (0 : Int32)), .val (.double (FP.i2d p1)), .second, .val (.double (FP.i2d p2)), .second, .val (.double (FP.i2d p4)), .second, .val (.ref b25), .unset, .unset, .unset, .unset, .unset, .unset] []))
      refine own_via (fun t k => XS.aload X26.here hx rfl (hb hby at_31) rfl rfl k) ?_
      show own_G p e below _ (T26.setTop (mkF m 33 #[.val (.int p1), .val (.int p2), .val (.int p3), .val (.int p4), .val (.int (0 : Int32)), .val (.double (FP.i2d p1)), .second, .val (.double (FP.i2d p2)), .second, .val (.double (FP.i2d p4)), .second, .val (.ref b25), .unset, .unset, .unset, .unset, .unset, .unset] [(.ref b25)]))
      refine own_via (fun t k => XS.iconst X26.here hx rfl (hb hby at_33) k) ?_
      show own_G p e below _ (T26.setTop (mkF m 34 #[.val (.int p1), .val (.int p2), .val (.int p3), .val (.int p4), .val (.int (0 : Int32)), .val (.double (FP.i2d p1)), .second, .val (.double (FP.i2d p2)), .second, .val (.double (FP.i2d p4)), .second, .val (.ref b25), .unset, .unset, .unset, .unset, .unset, .unset] [(.int (1 : Int32)), (.ref b25)]))
      refine own_via (fun t k => XS.dload X26.here hx rfl (hb hby at_34) rfl k) ?_
      show own_G p e below _ (T26.setTop (mkF m 36 #[.val (.int p1), .val (.int p2), .val (.int p3), .val (.int p4), .val (.int (0 : Int32)), .val (.double (FP.i2d p1)), .second, .val (.double (FP.i2d p2)), .second, .val (.double (FP.i2d p4)), .second, .val (.ref b25), .unset, .unset, .unset, .unset, .unset, .unset] [(.double (FP.i2d p4)), (.int (1 : Int32)), (.ref b25)]))
      obtain ⟨cl27, Ar27, q27, S27, Ng27, Hs27, G27⟩ := id V26
      have hin27 : ¬ ((1 : Int32) < 0 ∨ cl27.slots.size ≤ ((1 : Int32)).toNatClampNeg) := inb_of S27 ⟨by decide, by decide⟩
      obtain ⟨T27, h27, X27, e27, W27, st27⟩ := stD X26 hx hZ e26 Ar27 (j := (1 : Int32)) hin27 (g := (mkF m 36 #[.val (.int p1), .val (.int p2), .val (.int p3), .val (.int p4), .val (.int (0 : Int32)), .val (.double (FP.i2d p1)), .second, .val (.double (FP.i2d p2)), .second, .val (.double (FP.i2d p4)), .second, .val (.ref b25), .unset, .unset, .unset, .unset, .unset, .unset] [(.double (FP.i2d p4)), (.int (1 : Int32)), (.ref b25)])) rfl rfl (hb hby at_36)
      have V27 : Arv Z h27 b25 k25 .double (3 : Int32) [(.double (FP.i2d p4)), (.double (FP.i2d p4)), (.double (0 : UInt64))] (.double (0 : UInt64)) := Arv.set Ar27 q27 S27 Ng27 Hs27 G27 rfl W27 1 rfl (Nat.le_of_ble_eq_true rfl)
      have N27 := Fr.snoc X27 N26 gx_b25
      have Z27 : n0 ≤ h27.size := Nat.le_trans Z26 (Nat.le_of_eq W27.size.symm)
      refine own_via st27 ?_
      show own_G p e below _ (T27.setTop (mkF m 37 #[.val (.int p1), .val (.int p2), .val (.int p3), .val (.int p4), .val (.int (0 : Int32)), .val (.double (FP.i2d p1)), .second, .val (.double (FP.i2d p2)), .second, .val (.double (FP.i2d p4)), .second, .val (.ref b25), .unset, .unset, .unset, .unset, .unset, .unset] []))
      refine own_via (fun t k => XS.aload X27.here hx rfl (hb hby at_37) rfl rfl k) ?_
      show own_G p e below _ (T27.setTop (mkF m 39 #[.val (.int p1), .val (.int p2), .val (.int p3), .val (.int p4), .val (.int (0 : Int32)), .val (.double (FP.i2d p1)), .second, .val (.double (FP.i2d p2)), .second, .val (.double (FP.i2d p4)), .second, .val (.ref b25), .unset, .unset, .unset, .unset, .unset, .unset] [(.ref b25)]))
      refine own_via (fun t k => XS.iconst X27.here hx rfl (hb hby at_39) k) ?_
      show own_G p e below _ (T27.setTop (mkF m 40 #[.val (.int p1), .val (.int p2), .val (.int p3), .val (.int p4), .val (.int (0 : Int32)), .val (.double (FP.i2d p1)), .second, .val (.double (FP.i2d p2)), .second, .val (.double (FP.i2d p4)), .second, .val (.ref b25), .unset, .unset, .unset, .unset, .unset, .unset] [(.int (2 : Int32)), (.ref b25)]))
      refine own_via (fun t k => XS.dload X27.here hx rfl (hb hby at_40) rfl k) ?_
      show own_G p e below _ (T27.setTop (mkF m 42 #[.val (.int p1), .val (.int p2), .val (.int p3), .val (.int p4), .val (.int (0 : Int32)), .val (.double (FP.i2d p1)), .second, .val (.double (FP.i2d p2)), .second, .val (.double (FP.i2d p4)), .second, .val (.ref b25), .unset, .unset, .unset, .unset, .unset, .unset] [(.double (FP.i2d p4)), (.int (2 : Int32)), (.ref b25)]))
      obtain ⟨cl28, Ar28, q28, S28, Ng28, Hs28, G28⟩ := id V27
      have hin28 : ¬ ((2 : Int32) < 0 ∨ cl28.slots.size ≤ ((2 : Int32)).toNatClampNeg) := inb_of S28 ⟨by decide, by decide⟩
      obtain ⟨T28, h28, X28, e28, W28, st28⟩ := stD X27 hx hZ e27 Ar28 (j := (2 : Int32)) hin28 (g := (mkF m 42 #[.val (.int p1), .val (.int p2), .val (.int p3), .val (.int p4), .val (.int (0 : Int32)), .val (.double (FP.i2d p1)), .second, .val (.double (FP.i2d p2)), .second, .val (.double (FP.i2d p4)), .second, .val (.ref b25), .unset, .unset, .unset, .unset, .unset, .unset] [(.double (FP.i2d p4)), (.int (2 : Int32)), (.ref b25)])) rfl rfl (hb hby at_42)
      have V28 : Arv Z h28 b25 k25 .double (3 : Int32) [(.double (FP.i2d p4)), (.double (FP.i2d p4)), (.double (FP.i2d p4))] (.double (0 : UInt64)) := Arv.set Ar28 q28 S28 Ng28 Hs28 G28 rfl W28 2 rfl (Nat.le_of_ble_eq_true rfl)
      have N28 := Fr.snoc X28 N27 gx_b25
      have Z28 : n0 ≤ h28.size := Nat.le_trans Z27 (Nat.le_of_eq W28.size.symm)
      refine own_via st28 ?_
      show own_G p e below _ (T28.setTop (mkF m 43 #[.val (.int p1), .val (.int p2), .val (.int p3), .val (.int p4), .val (.int (0 : Int32)), .val (.double (FP.i2d p1)), .second, .val (.double (FP.i2d p2)), .second, .val (.double (FP.i2d p4)), .second, .val (.ref b25), .unset, .unset, .unset, .unset, .unset, .unset] []))
      refine own_via (fun t k => XS.aload X28.here hx rfl (hb hby at_43) rfl rfl k) ?_
      show own_G p e below _ (T28.setTop (mkF m 45 #[.val (.int p1), .val (.int p2), .val (.int p3), .val (.int p4), .val (.int (0 : Int32)), .val (.double (FP.i2d p1)), .second, .val (.double (FP.i2d p2)), .second, .val (.double (FP.i2d p4)), .second, .val (.ref b25), .unset, .unset, .unset, .unset, .unset, .unset] [(.ref b25)]))
      refine own_via (fun t k => XS.iload X28.here hx rfl (hb hby at_45) rfl k) ?_
      show own_G p e below _ (T28.setTop (mkF m 47 #[.val (.int p1), .val (.int p2), .val (.int p3), .val (.int p4), .val (.int (0 : Int32)), .val (.double (FP.i2d p1)), .second, .val (.double (FP.i2d p2)), .second, .val (.double (FP.i2d p4)), .second, .val (.ref b25), .unset, .unset, .unset, .unset, .unset, .unset] [(.int (0 : Int32)), (.ref b25)]))
      refine own_via (fun t k => XS.dload X28.here hx rfl (hb hby at_47) rfl k) ?_
      show own_G p e below _ (T28.setTop (mkF m 49 #[.val (.int p1), .val (.int p2), .val (.int p3), .val (.int p4), .val (.int (0 : Int32)), .val (.double (FP.i2d p1)), .second, .val (.double (FP.i2d p2)), .second, .val (.double (FP.i2d p4)), .second, .val (.ref b25), .unset, .unset, .unset, .unset, .unset, .unset] [(.double (FP.i2d p1)), (.int (0 : Int32)), (.ref b25)]))
      obtain ⟨cl29, Ar29, q29, S29, Ng29, Hs29, G29⟩ := id V28
      have hin29 : ¬ ((0 : Int32) < 0 ∨ cl29.slots.size ≤ ((0 : Int32)).toNatClampNeg) := inb_of S29 ⟨by decide, by decide⟩
      obtain ⟨T29, h29, X29, e29, W29, st29⟩ := stD X28 hx hZ e28 Ar29 (j := (0 : Int32)) hin29 (g := (mkF m 49 #[.val (.int p1), .val (.int p2), .val (.int p3), .val (.int p4), .val (.int (0 : Int32)), .val (.double (FP.i2d p1)), .second, .val (.double (FP.i2d p2)), .second, .val (.double (FP.i2d p4)), .second, .val (.ref b25), .unset, .unset, .unset, .unset, .unset, .unset] [(.double (FP.i2d p1)), (.int (0 : Int32)), (.ref b25)])) rfl rfl (hb hby at_49)
      have V29 : Arv Z h29 b25 k25 .double (3 : Int32) [(.double (FP.i2d p1)), (.double (FP.i2d p4)), (.double (FP.i2d p4))] (.double (0 : UInt64)) := Arv.set Ar29 q29 S29 Ng29 Hs29 G29 rfl W29 0 rfl (Nat.le_of_ble_eq_true rfl)
      have N29 := Fr.snoc X29 N28 gx_b25
      have Z29 : n0 ≤ h29.size := Nat.le_trans Z28 (Nat.le_of_eq W29.size.symm)
      refine own_via st29 ?_
      show own_G p e below _ (T29.setTop (mkF m 50 #[.val (.int p1), .val (.int p2), .val (.int p3), .val (.int p4), .val (.int (0 : Int32)), .val (.double (FP.i2d p1)), .second, .val (.double (FP.i2d p2)), .second, .val (.double (FP.i2d p4)), .second, .val (.ref b25), .unset, .unset, .unset, .unset, .unset, .unset] []))
      refine own_via (fun t k => XS.aload X29.here hx rfl (hb hby at_50) rfl rfl k) ?_
      show own_G p e below _ (T29.setTop (mkF m 52 #[.val (.int p1), .val (.int p2), .val (.int p3), .val (.int p4), .val (.int (0 : Int32)), .val (.double (FP.i2d p1)), .second, .val (.double (FP.i2d p2)), .second, .val (.double (FP.i2d p4)), .second, .val (.ref b25), .unset, .unset, .unset, .unset, .unset, .unset] [(.ref b25)]))
      refine own_via (fun t k => XS.iload X29.here hx rfl (hb hby at_52) rfl k) ?_
      show own_G p e below _ (T29.setTop (mkF m 54 #[.val (.int p1), .val (.int p2), .val (.int p3), .val (.int p4), .val (.int (0 : Int32)), .val (.double (FP.i2d p1)), .second, .val (.double (FP.i2d p2)), .second, .val (.double (FP.i2d p4)), .second, .val (.ref b25), .unset, .unset, .unset, .unset, .unset, .unset] [(.int (0 : Int32)), (.ref b25)]))
      refine own_via (fun t k => XS.dload X29.here hx rfl (hb hby at_54) rfl k) ?_
      show own_G p e below _ (T29.setTop (mkF m 56 #[.val (.int p1), .val (.int p2), .val (.int p3), .val (.int p4), .val (.int (0 : Int32)), .val (.double (FP.i2d p1)), .second, .val (.double (FP.i2d p2)), .second, .val (.double (FP.i2d p4)), .second, .val (.ref b25), .unset, .unset, .unset, .unset, .unset, .unset] [(.double (FP.i2d p2)), (.int (0 : Int32)), (.ref b25)]))
      obtain ⟨_, _, ⟨T30, L30, k30, n30⟩, -, X30, ⟨Lc30, hQ30, l30, y30, z30⟩, st30⟩ := Jvm.LawKit.callS X29 hx (y := (⟨"com/example/odds2/odds2/engine/Bounds", "tightenUpper", "([DID)Z"⟩ : MethodName)) hown (mvT hZ (hw _ (List.mem_of_getElem? (i := 2) rfl))) (mvT hZ (hw _ (List.mem_of_getElem? (i := 3) rfl))) (mvT hZ (hw _ (List.mem_of_getElem? (i := 4) rfl))) (mvT hZ (hw _ (List.mem_of_getElem? (i := 5) rfl))) (by decide) (backOf (W := 0) (rm1_0eq l Z a0 hw [] b25 p1 p4 p4 p2 k25 h29 n0 Z29 V29 gx_b25 hob) hZ (hw _ (List.mem_of_getElem? (i := 5) rfl)) (hw _ (List.mem_of_getElem? (i := 4) rfl)) (by decide) (by decide)) (g := (mkF m 56 #[.val (.int p1), .val (.int p2), .val (.int p3), .val (.int p4), .val (.int (0 : Int32)), .val (.double (FP.i2d p1)), .second, .val (.double (FP.i2d p2)), .second, .val (.double (FP.i2d p4)), .second, .val (.ref b25), .unset, .unset, .unset, .unset, .unset, .unset] [(.double (FP.i2d p2)), (.int (0 : Int32)), (.ref b25)])) rfl (by rw [hml]; rfl) (argsL := [(.ref b25), (.int (0 : Int32)), (.double (FP.i2d p2))]) (rest := []) (lenOf pd_rm0_0 rfl) rfl (by show 2 * 0 + _ ≤ _; exact Nat.le_of_eq rfl) (hb hby at_56) (fun _ _ => ⟨rfl, e29, (by decide : 1 + 0 ≤ _), (by decide : 3 + 0 ≤ _)⟩)
      dsimp only [Pt.U, Pt.locs, Pt.cells, Pt.slots] at X30 l30 y30 z30 st30 hQ30
      subst l30 y30 z30
      obtain ⟨rfl, N30q, K30, V30⟩ := hQ30
      have N30 := Fr.app N29 N30q
      have Z30 : n0 ≤ T30.heap.size := Nat.le_trans Z29 K30.1
      refine own_via st30 ?_
      show own_G p e below _ (T30.setTop (mkF m 59 #[.val (.int p1), .val (.int p2), .val (.int p3), .val (.int p4), .val (.int (0 : Int32)), .val (.double (FP.i2d p1)), .second, .val (.double (FP.i2d p2)), .second, .val (.double (FP.i2d p4)), .second, .val (.ref b25), .unset, .unset, .unset, .unset, .unset, .unset] [(.int (0 : Int32))]))
      refine own_via (fun t k => XS.istore X30.here hx rfl (hb hby at_59) rfl (l' := #[.val (.int p1), .val (.int p2), .val (.int p3), .val (.int p4), .val (.int (0 : Int32)), .val (.double (FP.i2d p1)), .second, .val (.double (FP.i2d p2)), .second, .val (.double (FP.i2d p4)), .second, .val (.ref b25), .val (.int (0 : Int32)), .unset, .unset, .unset, .unset, .unset]) rfl k) ?_
      show own_G p e below _ (T30.setTop (mkF m 61 #[.val (.int p1), .val (.int p2), .val (.int p3), .val (.int p4), .val (.int (0 : Int32)), .val (.double (FP.i2d p1)), .second, .val (.double (FP.i2d p2)), .second, .val (.double (FP.i2d p4)), .second, .val (.ref b25), .val (.int (0 : Int32)), .unset, .unset, .unset, .unset, .unset] []))
      refine own_via (fun t k => XS.aload X30.here hx rfl (hb hby at_61) rfl rfl k) ?_
      show own_G p e below _ (T30.setTop (mkF m 63 #[.val (.int p1), .val (.int p2), .val (.int p3), .val (.int p4), .val (.int (0 : Int32)), .val (.double (FP.i2d p1)), .second, .val (.double (FP.i2d p2)), .second, .val (.double (FP.i2d p4)), .second, .val (.ref b25), .val (.int (0 : Int32)), .unset, .unset, .unset, .unset, .unset] [(.ref b25)]))
      refine own_via (fun t k => XS.iload X30.here hx rfl (hb hby at_63) rfl k) ?_
      show own_G p e below _ (T30.setTop (mkF m 65 #[.val (.int p1), .val (.int p2), .val (.int p3), .val (.int p4), .val (.int (0 : Int32)), .val (.double (FP.i2d p1)), .second, .val (.double (FP.i2d p2)), .second, .val (.double (FP.i2d p4)), .second, .val (.ref b25), .val (.int (0 : Int32)), .unset, .unset, .unset, .unset, .unset] [(.int (0 : Int32)), (.ref b25)]))
      obtain ⟨cl32, Ar32, q32, S32, Ng32, Hs32, G32⟩ := id V30
      have hin32 : ¬ ((0 : Int32) < 0 ∨ cl32.slots.size ≤ ((0 : Int32)).toNatClampNeg) := inb_of S32 ⟨by decide, by decide⟩
      have hat32 : cl32.slots[((0 : Int32)).toNatClampNeg]? = some (.double (FP.i2d p1)) := Hs32.at hin32 rfl
      refine own_via (fun t k => X30.daload hx (j := (0 : Int32)) (v := (.double (FP.i2d p1))) Ar32.1 (State.isArrayOf_alike hZ.alike Ar32.2.1) Ar32.2.2 hin32 hat32 (g := (mkF m 65 #[.val (.int p1), .val (.int p2), .val (.int p3), .val (.int p4), .val (.int (0 : Int32)), .val (.double (FP.i2d p1)), .second, .val (.double (FP.i2d p2)), .second, .val (.double (FP.i2d p4)), .second, .val (.ref b25), .val (.int (0 : Int32)), .unset, .unset, .unset, .unset, .unset] [(.int (0 : Int32)), (.ref b25)])) rfl rfl (hb hby at_65) _ k) ?_
      show own_G p e below _ (T30.setTop (mkF m 66 #[.val (.int p1), .val (.int p2), .val (.int p3), .val (.int p4), .val (.int (0 : Int32)), .val (.double (FP.i2d p1)), .second, .val (.double (FP.i2d p2)), .second, .val (.double (FP.i2d p4)), .second, .val (.ref b25), .val (.int (0 : Int32)), .unset, .unset, .unset, .unset, .unset] [(.double (FP.i2d p1))]))
      refine own_via (fun t k => XS.dstore X30.here hx rfl (hb hby at_66) rfl (l' := #[.val (.int p1), .val (.int p2), .val (.int p3), .val (.int p4), .val (.int (0 : Int32)), .val (.double (FP.i2d p1)), .second, .val (.double (FP.i2d p2)), .second, .val (.double (FP.i2d p4)), .second, .val (.ref b25), .val (.int (0 : Int32)), .val (.double (FP.i2d p1)), .second, .unset, .unset, .unset]) rfl k) ?_
      show own_G p e below _ (T30.setTop (mkF m 68 #[.val (.int p1), .val (.int p2), .val (.int p3), .val (.int p4), .val (.int (0 : Int32)), .val (.double (FP.i2d p1)), .second, .val (.double (FP.i2d p2)), .second, .val (.double (FP.i2d p4)), .second, .val (.ref b25), .val (.int (0 : Int32)), .val (.double (FP.i2d p1)), .second, .unset, .unset, .unset] []))
      refine own_via (fun t k => XS.dload X30.here hx rfl (hb hby at_68) rfl k) ?_
      show own_G p e below _ (T30.setTop (mkF m 70 #[.val (.int p1), .val (.int p2), .val (.int p3), .val (.int p4), .val (.int (0 : Int32)), .val (.double (FP.i2d p1)), .second, .val (.double (FP.i2d p2)), .second, .val (.double (FP.i2d p4)), .second, .val (.ref b25), .val (.int (0 : Int32)), .val (.double (FP.i2d p1)), .second, .unset, .unset, .unset] [(.double (FP.i2d p1))]))
      refine own_via (fun t k => XS.dload X30.here hx rfl (hb hby at_70) rfl k) ?_
      show own_G p e below _ (T30.setTop (mkF m 72 #[.val (.int p1), .val (.int p2), .val (.int p3), .val (.int p4), .val (.int (0 : Int32)), .val (.double (FP.i2d p1)), .second, .val (.double (FP.i2d p2)), .second, .val (.double (FP.i2d p4)), .second, .val (.ref b25), .val (.int (0 : Int32)), .val (.double (FP.i2d p1)), .second, .unset, .unset, .unset] [(.double (FP.i2d p1)), (.double (FP.i2d p1))]))
      refine own_via (fun t k => XS.dcmpS X30.here hx rfl (hb hby at_72) rfl (own_dc_eq rfl _) k) ?_
      show own_G p e below _ (T30.setTop (mkF m 73 #[.val (.int p1), .val (.int p2), .val (.int p3), .val (.int p4), .val (.int (0 : Int32)), .val (.double (FP.i2d p1)), .second, .val (.double (FP.i2d p2)), .second, .val (.double (FP.i2d p4)), .second, .val (.ref b25), .val (.int (0 : Int32)), .val (.double (FP.i2d p1)), .second, .unset, .unset, .unset] [(.int (0 : Int32))]))
      refine own_via (fun t k => XS.ifNo X30.here hx rfl (hb hby at_73) rfl ((if0 _ _).trans (flt (by decide : ¬ ((0 : Int32) < (0 : Int32)))).1) k) ?_
      show own_G p e below _ (T30.setTop (mkF m 76 #[.val (.int p1), .val (.int p2), .val (.int p3), .val (.int p4), .val (.int (0 : Int32)), .val (.double (FP.i2d p1)), .second, .val (.double (FP.i2d p2)), .second, .val (.double (FP.i2d p4)), .second, .val (.ref b25), .val (.int (0 : Int32)), .val (.double (FP.i2d p1)), .second, .unset, .unset, .unset] []))
      refine own_via (fun t k => XS.dload X30.here hx rfl (hb hby at_76) rfl k) ?_
      show own_G p e below _ (T30.setTop (mkF m 78 #[.val (.int p1), .val (.int p2), .val (.int p3), .val (.int p4), .val (.int (0 : Int32)), .val (.double (FP.i2d p1)), .second, .val (.double (FP.i2d p2)), .second, .val (.double (FP.i2d p4)), .second, .val (.ref b25), .val (.int (0 : Int32)), .val (.double (FP.i2d p1)), .second, .unset, .unset, .unset] [(.double (FP.i2d p2))]))
      refine own_via (fun t k => XS.dload X30.here hx rfl (hb hby at_78) rfl k) ?_
      show own_G p e below _ (T30.setTop (mkF m 80 #[.val (.int p1), .val (.int p2), .val (.int p3), .val (.int p4), .val (.int (0 : Int32)), .val (.double (FP.i2d p1)), .second, .val (.double (FP.i2d p2)), .second, .val (.double (FP.i2d p4)), .second, .val (.ref b25), .val (.int (0 : Int32)), .val (.double (FP.i2d p1)), .second, .unset, .unset, .unset] [(.double (FP.i2d p1)), (.double (FP.i2d p2))]))
      refine own_via (fun t k => XS.dcmpS X30.here hx rfl (hb hby at_80) rfl (own_dc_eq hob _) k) ?_
      show own_G p e below _ (T30.setTop (mkF m 81 #[.val (.int p1), .val (.int p2), .val (.int p3), .val (.int p4), .val (.int (0 : Int32)), .val (.double (FP.i2d p1)), .second, .val (.double (FP.i2d p2)), .second, .val (.double (FP.i2d p4)), .second, .val (.ref b25), .val (.int (0 : Int32)), .val (.double (FP.i2d p1)), .second, .unset, .unset, .unset] [(.int (0 : Int32))]))
      refine own_via (fun t k => XS.ifNo X30.here hx rfl (hb hby at_81) rfl ((if0 _ _).trans (flt (by decide : ¬ ((0 : Int32) < (0 : Int32)))).1) k) ?_
      show own_G p e below _ (T30.setTop (mkF m 84 #[.val (.int p1), .val (.int p2), .val (.int p3), .val (.int p4), .val (.int (0 : Int32)), .val (.double (FP.i2d p1)), .second, .val (.double (FP.i2d p2)), .second, .val (.double (FP.i2d p4)), .second, .val (.ref b25), .val (.int (0 : Int32)), .val (.double (FP.i2d p1)), .second, .unset, .unset, .unset] []))
      refine own_via (fun t k => XS.dload X30.here hx rfl (hb hby at_84) rfl k) ?_
      show own_G p e below _ (T30.setTop (mkF m 86 #[.val (.int p1), .val (.int p2), .val (.int p3), .val (.int p4), .val (.int (0 : Int32)), .val (.double (FP.i2d p1)), .second, .val (.double (FP.i2d p2)), .second, .val (.double (FP.i2d p4)), .second, .val (.ref b25), .val (.int (0 : Int32)), .val (.double (FP.i2d p1)), .second, .unset, .unset, .unset] [(.double (FP.i2d p1))]))
      refine own_via (fun t k => XS.dload X30.here hx rfl (hb hby at_86) rfl k) ?_
      show own_G p e below _ (T30.setTop (mkF m 88 #[.val (.int p1), .val (.int p2), .val (.int p3), .val (.int p4), .val (.int (0 : Int32)), .val (.double (FP.i2d p1)), .second, .val (.double (FP.i2d p2)), .second, .val (.double (FP.i2d p4)), .second, .val (.ref b25), .val (.int (0 : Int32)), .val (.double (FP.i2d p1)), .second, .unset, .unset, .unset] [(.double (FP.i2d p1)), (.double (FP.i2d p1))]))
      refine own_via (fun t k => XS.dcmpS X30.here hx rfl (hb hby at_88) rfl (own_dc_eq rfl _) k) ?_
      show own_G p e below _ (T30.setTop (mkF m 89 #[.val (.int p1), .val (.int p2), .val (.int p3), .val (.int p4), .val (.int (0 : Int32)), .val (.double (FP.i2d p1)), .second, .val (.double (FP.i2d p2)), .second, .val (.double (FP.i2d p4)), .second, .val (.ref b25), .val (.int (0 : Int32)), .val (.double (FP.i2d p1)), .second, .unset, .unset, .unset] [(.int (0 : Int32))]))
      refine own_via (fun t k => XS.ifYes X30.here hx rfl (pc0 := 89) (pc' := 100) rfl (hb hby at_89) rfl ((if0 _ _).trans (teq (by decide : (0 : Int32) = (0 : Int32))).1) (by decide) (by decide) k) ?_
      show own_G p e below _ (T30.setTop (mkF m 100 #[.val (.int p1), .val (.int p2), .val (.int p3), .val (.int p4), .val (.int (0 : Int32)), .val (.double (FP.i2d p1)), .second, .val (.double (FP.i2d p2)), .second, .val (.double (FP.i2d p4)), .second, .val (.ref b25), .val (.int (0 : Int32)), .val (.double (FP.i2d p1)), .second, .unset, .unset, .unset] []))
      refine own_via (fun t k => XS.iconst X30.here hx rfl (hb hby at_100) k) ?_
      show own_G p e below _ (T30.setTop (mkF m 101 #[.val (.int p1), .val (.int p2), .val (.int p3), .val (.int p4), .val (.int (0 : Int32)), .val (.double (FP.i2d p1)), .second, .val (.double (FP.i2d p2)), .second, .val (.double (FP.i2d p4)), .second, .val (.ref b25), .val (.int (0 : Int32)), .val (.double (FP.i2d p1)), .second, .unset, .unset, .unset] [(.int (1 : Int32))]))
      refine own_via (fun t k => XS.goto X30.here hx rfl (pc0 := 101) (pc' := 105) rfl (hb hby at_101) (by decide) (by decide) k) ?_
      show own_G p e below _ (T30.setTop (mkF m 105 #[.val (.int p1), .val (.int p2), .val (.int p3), .val (.int p4), .val (.int (0 : Int32)), .val (.double (FP.i2d p1)), .second, .val (.double (FP.i2d p2)), .second, .val (.double (FP.i2d p4)), .second, .val (.ref b25), .val (.int (0 : Int32)), .val (.double (FP.i2d p1)), .second, .unset, .unset, .unset] [(.int (1 : Int32))]))
      refine own_via (fun t k => XS.istore X30.here hx rfl (hb hby at_105) rfl (l' := #[.val (.int p1), .val (.int p2), .val (.int p3), .val (.int p4), .val (.int (0 : Int32)), .val (.double (FP.i2d p1)), .second, .val (.double (FP.i2d p2)), .second, .val (.double (FP.i2d p4)), .second, .val (.ref b25), .val (.int (0 : Int32)), .val (.double (FP.i2d p1)), .second, .val (.int (1 : Int32)), .unset, .unset]) rfl k) ?_
      show own_G p e below _ (T30.setTop (mkF m 107 #[.val (.int p1), .val (.int p2), .val (.int p3), .val (.int p4), .val (.int (0 : Int32)), .val (.double (FP.i2d p1)), .second, .val (.double (FP.i2d p2)), .second, .val (.double (FP.i2d p4)), .second, .val (.ref b25), .val (.int (0 : Int32)), .val (.double (FP.i2d p1)), .second, .val (.int (1 : Int32)), .unset, .unset] []))
      refine own_via (fun t k => XS.iload X30.here hx rfl (hb hby at_107) rfl k) ?_
      show own_G p e below _ (T30.setTop (mkF m 109 #[.val (.int p1), .val (.int p2), .val (.int p3), .val (.int p4), .val (.int (0 : Int32)), .val (.double (FP.i2d p1)), .second, .val (.double (FP.i2d p2)), .second, .val (.double (FP.i2d p4)), .second, .val (.ref b25), .val (.int (0 : Int32)), .val (.double (FP.i2d p1)), .second, .val (.int (1 : Int32)), .unset, .unset] [(.int (0 : Int32))]))
      refine own_via (fun t k => XS.dload X30.here hx rfl (hb hby at_109) rfl k) ?_
      show own_G p e below _ (T30.setTop (mkF m 111 #[.val (.int p1), .val (.int p2), .val (.int p3), .val (.int p4), .val (.int (0 : Int32)), .val (.double (FP.i2d p1)), .second, .val (.double (FP.i2d p2)), .second, .val (.double (FP.i2d p4)), .second, .val (.ref b25), .val (.int (0 : Int32)), .val (.double (FP.i2d p1)), .second, .val (.int (1 : Int32)), .unset, .unset] [(.double (FP.i2d p2)), (.int (0 : Int32))]))
      refine own_via (fun t k => XS.dload X30.here hx rfl (hb hby at_111) rfl k) ?_
      show own_G p e below _ (T30.setTop (mkF m 113 #[.val (.int p1), .val (.int p2), .val (.int p3), .val (.int p4), .val (.int (0 : Int32)), .val (.double (FP.i2d p1)), .second, .val (.double (FP.i2d p2)), .second, .val (.double (FP.i2d p4)), .second, .val (.ref b25), .val (.int (0 : Int32)), .val (.double (FP.i2d p1)), .second, .val (.int (1 : Int32)), .unset, .unset] [(.double (FP.i2d p1)), (.double (FP.i2d p2)), (.int (0 : Int32))]))
      refine own_via (fun t k => XS.dcmpS X30.here hx rfl (hb hby at_113) rfl (own_dc_eq hob _) k) ?_
      show own_G p e below _ (T30.setTop (mkF m 114 #[.val (.int p1), .val (.int p2), .val (.int p3), .val (.int p4), .val (.int (0 : Int32)), .val (.double (FP.i2d p1)), .second, .val (.double (FP.i2d p2)), .second, .val (.double (FP.i2d p4)), .second, .val (.ref b25), .val (.int (0 : Int32)), .val (.double (FP.i2d p1)), .second, .val (.int (1 : Int32)), .unset, .unset] [(.int (0 : Int32)), (.int (0 : Int32))]))
      refine own_via (fun t k => XS.ifYes X30.here hx rfl (pc0 := 114) (pc' := 121) rfl (hb hby at_114) rfl ((if0 _ _).trans (flt (by decide : ¬ ((0 : Int32) < (0 : Int32)))).2.1) (by decide) (by decide) k) ?_
      show own_G p e below _ (T30.setTop (mkF m 121 #[.val (.int p1), .val (.int p2), .val (.int p3), .val (.int p4), .val (.int (0 : Int32)), .val (.double (FP.i2d p1)), .second, .val (.double (FP.i2d p2)), .second, .val (.double (FP.i2d p4)), .second, .val (.ref b25), .val (.int (0 : Int32)), .val (.double (FP.i2d p1)), .second, .val (.int (1 : Int32)), .unset, .unset] [(.int (0 : Int32))]))
      refine own_via (fun t k => XS.iconst X30.here hx rfl (hb hby at_121) k) ?_
      show own_G p e below _ (T30.setTop (mkF m 122 #[.val (.int p1), .val (.int p2), .val (.int p3), .val (.int p4), .val (.int (0 : Int32)), .val (.double (FP.i2d p1)), .second, .val (.double (FP.i2d p2)), .second, .val (.double (FP.i2d p4)), .second, .val (.ref b25), .val (.int (0 : Int32)), .val (.double (FP.i2d p1)), .second, .val (.int (1 : Int32)), .unset, .unset] [(.int (0 : Int32)), (.int (0 : Int32))]))
      refine own_via (fun t k => XS.icmpNo X30.here hx rfl (hb hby at_122) rfl (teq (by decide : (0 : Int32) = (0 : Int32))).2 k) ?_
      show own_G p e below _ (T30.setTop (mkF m 125 #[.val (.int p1), .val (.int p2), .val (.int p3), .val (.int p4), .val (.int (0 : Int32)), .val (.double (FP.i2d p1)), .second, .val (.double (FP.i2d p2)), .second, .val (.double (FP.i2d p4)), .second, .val (.ref b25), .val (.int (0 : Int32)), .val (.double (FP.i2d p1)), .second, .val (.int (1 : Int32)), .unset, .unset] []))
      refine own_via (fun t k => XS.iconst X30.here hx rfl (hb hby at_125) k) ?_
      show own_G p e below _ (T30.setTop (mkF m 126 #[.val (.int p1), .val (.int p2), .val (.int p3), .val (.int p4), .val (.int (0 : Int32)), .val (.double (FP.i2d p1)), .second, .val (.double (FP.i2d p2)), .second, .val (.double (FP.i2d p4)), .second, .val (.ref b25), .val (.int (0 : Int32)), .val (.double (FP.i2d p1)), .second, .val (.int (1 : Int32)), .unset, .unset] [(.int (1 : Int32))]))
      refine own_via (fun t k => XS.goto X30.here hx rfl (pc0 := 126) (pc' := 130) rfl (hb hby at_126) (by decide) (by decide) k) ?_
      show own_G p e below _ (T30.setTop (mkF m 130 #[.val (.int p1), .val (.int p2), .val (.int p3), .val (.int p4), .val (.int (0 : Int32)), .val (.double (FP.i2d p1)), .second, .val (.double (FP.i2d p2)), .second, .val (.double (FP.i2d p4)), .second, .val (.ref b25), .val (.int (0 : Int32)), .val (.double (FP.i2d p1)), .second, .val (.int (1 : Int32)), .unset, .unset] [(.int (1 : Int32))]))
      refine own_via (fun t k => XS.istore X30.here hx rfl (hb hby at_130) rfl (l' := #[.val (.int p1), .val (.int p2), .val (.int p3), .val (.int p4), .val (.int (0 : Int32)), .val (.double (FP.i2d p1)), .second, .val (.double (FP.i2d p2)), .second, .val (.double (FP.i2d p4)), .second, .val (.ref b25), .val (.int (0 : Int32)), .val (.double (FP.i2d p1)), .second, .val (.int (1 : Int32)), .val (.int (1 : Int32)), .unset]) rfl k) ?_
      show own_G p e below _ (T30.setTop (mkF m 132 #[.val (.int p1), .val (.int p2), .val (.int p3), .val (.int p4), .val (.int (0 : Int32)), .val (.double (FP.i2d p1)), .second, .val (.double (FP.i2d p2)), .second, .val (.double (FP.i2d p4)), .second, .val (.ref b25), .val (.int (0 : Int32)), .val (.double (FP.i2d p1)), .second, .val (.int (1 : Int32)), .val (.int (1 : Int32)), .unset] []))
      refine own_via (fun t k => XS.iload X30.here hx rfl (hb hby at_132) rfl k) ?_
      show own_G p e below _ (T30.setTop (mkF m 134 #[.val (.int p1), .val (.int p2), .val (.int p3), .val (.int p4), .val (.int (0 : Int32)), .val (.double (FP.i2d p1)), .second, .val (.double (FP.i2d p2)), .second, .val (.double (FP.i2d p4)), .second, .val (.ref b25), .val (.int (0 : Int32)), .val (.double (FP.i2d p1)), .second, .val (.int (1 : Int32)), .val (.int (1 : Int32)), .unset] [(.int (0 : Int32))]))
      refine own_via (fun t k => XS.ifYes X30.here hx rfl (pc0 := 134) (pc' := 147) rfl (hb hby at_134) rfl ((if0 _ _).trans (teq (by decide : (0 : Int32) = (0 : Int32))).1) (by decide) (by decide) k) ?_
      show own_G p e below _ (T30.setTop (mkF m 147 #[.val (.int p1), .val (.int p2), .val (.int p3), .val (.int p4), .val (.int (0 : Int32)), .val (.double (FP.i2d p1)), .second, .val (.double (FP.i2d p2)), .second, .val (.double (FP.i2d p4)), .second, .val (.ref b25), .val (.int (0 : Int32)), .val (.double (FP.i2d p1)), .second, .val (.int (1 : Int32)), .val (.int (1 : Int32)), .unset] []))
      refine own_via (fun t k => XS.iload X30.here hx rfl (hb hby at_147) rfl k) ?_
      show own_G p e below _ (T30.setTop (mkF m 149 #[.val (.int p1), .val (.int p2), .val (.int p3), .val (.int p4), .val (.int (0 : Int32)), .val (.double (FP.i2d p1)), .second, .val (.double (FP.i2d p2)), .second, .val (.double (FP.i2d p4)), .second, .val (.ref b25), .val (.int (0 : Int32)), .val (.double (FP.i2d p1)), .second, .val (.int (1 : Int32)), .val (.int (1 : Int32)), .unset] [(.int (0 : Int32))]))
      refine own_via (fun t k => XS.iconst X30.here hx rfl (hb hby at_149) k) ?_
      show own_G p e below _ (T30.setTop (mkF m 150 #[.val (.int p1), .val (.int p2), .val (.int p3), .val (.int p4), .val (.int (0 : Int32)), .val (.double (FP.i2d p1)), .second, .val (.double (FP.i2d p2)), .second, .val (.double (FP.i2d p4)), .second, .val (.ref b25), .val (.int (0 : Int32)), .val (.double (FP.i2d p1)), .second, .val (.int (1 : Int32)), .val (.int (1 : Int32)), .unset] [(.int (1 : Int32)), (.int (0 : Int32))]))
      refine own_via (fun t k => XS.icmpNo X30.here hx rfl (hb hby at_150) rfl (feq (by decide : ¬ ((0 : Int32) = (1 : Int32)))).1 k) ?_
      show own_G p e below _ (T30.setTop (mkF m 153 #[.val (.int p1), .val (.int p2), .val (.int p3), .val (.int p4), .val (.int (0 : Int32)), .val (.double (FP.i2d p1)), .second, .val (.double (FP.i2d p2)), .second, .val (.double (FP.i2d p4)), .second, .val (.ref b25), .val (.int (0 : Int32)), .val (.double (FP.i2d p1)), .second, .val (.int (1 : Int32)), .val (.int (1 : Int32)), .unset] []))
      refine own_via (fun t k => XS.aload X30.here hx rfl (hb hby at_153) rfl rfl k) ?_
      show own_G p e below _ (T30.setTop (mkF m 155 #[.val (.int p1), .val (.int p2), .val (.int p3), .val (.int p4), .val (.int (0 : Int32)), .val (.double (FP.i2d p1)), .second, .val (.double (FP.i2d p2)), .second, .val (.double (FP.i2d p4)), .second, .val (.ref b25), .val (.int (0 : Int32)), .val (.double (FP.i2d p1)), .second, .val (.int (1 : Int32)), .val (.int (1 : Int32)), .unset] [(.ref b25)]))
      refine own_via (fun t k => XS.iconst X30.here hx rfl (hb hby at_155) k) ?_
      show own_G p e below _ (T30.setTop (mkF m 156 #[.val (.int p1), .val (.int p2), .val (.int p3), .val (.int p4), .val (.int (0 : Int32)), .val (.double (FP.i2d p1)), .second, .val (.double (FP.i2d p2)), .second, .val (.double (FP.i2d p4)), .second, .val (.ref b25), .val (.int (0 : Int32)), .val (.double (FP.i2d p1)), .second, .val (.int (1 : Int32)), .val (.int (1 : Int32)), .unset] [(.int (1 : Int32)), (.ref b25)]))
      obtain ⟨cl40, Ar40, q40, S40, Ng40, Hs40, G40⟩ := id V30
      have hin40 : ¬ ((1 : Int32) < 0 ∨ cl40.slots.size ≤ ((1 : Int32)).toNatClampNeg) := inb_of S40 ⟨by decide, by decide⟩
      have hat40 : cl40.slots[((1 : Int32)).toNatClampNeg]? = some (.double (FP.i2d p4)) := Hs40.at hin40 rfl
      refine own_via (fun t k => X30.daload hx (j := (1 : Int32)) (v := (.double (FP.i2d p4))) Ar40.1 (State.isArrayOf_alike hZ.alike Ar40.2.1) Ar40.2.2 hin40 hat40 (g := (mkF m 156 #[.val (.int p1), .val (.int p2), .val (.int p3), .val (.int p4), .val (.int (0 : Int32)), .val (.double (FP.i2d p1)), .second, .val (.double (FP.i2d p2)), .second, .val (.double (FP.i2d p4)), .second, .val (.ref b25), .val (.int (0 : Int32)), .val (.double (FP.i2d p1)), .second, .val (.int (1 : Int32)), .val (.int (1 : Int32)), .unset] [(.int (1 : Int32)), (.ref b25)])) rfl rfl (hb hby at_156) _ k) ?_
      show own_G p e below _ (T30.setTop (mkF m 157 #[.val (.int p1), .val (.int p2), .val (.int p3), .val (.int p4), .val (.int (0 : Int32)), .val (.double (FP.i2d p1)), .second, .val (.double (FP.i2d p2)), .second, .val (.double (FP.i2d p4)), .second, .val (.ref b25), .val (.int (0 : Int32)), .val (.double (FP.i2d p1)), .second, .val (.int (1 : Int32)), .val (.int (1 : Int32)), .unset] [(.double (FP.i2d p4))]))
      refine own_via (fun t k => XS.dload X30.here hx rfl (hb hby at_157) rfl k) ?_
      show own_G p e below _ (T30.setTop (mkF m 159 #[.val (.int p1), .val (.int p2), .val (.int p3), .val (.int p4), .val (.int (0 : Int32)), .val (.double (FP.i2d p1)), .second, .val (.double (FP.i2d p2)), .second, .val (.double (FP.i2d p4)), .second, .val (.ref b25), .val (.int (0 : Int32)), .val (.double (FP.i2d p1)), .second, .val (.int (1 : Int32)), .val (.int (1 : Int32)), .unset] [(.double (FP.i2d p4)), (.double (FP.i2d p4))]))
      refine own_via (fun t k => XS.dcmpS X30.here hx rfl (hb hby at_159) rfl (own_dc_eq rfl _) k) ?_
      show own_G p e below _ (T30.setTop (mkF m 160 #[.val (.int p1), .val (.int p2), .val (.int p3), .val (.int p4), .val (.int (0 : Int32)), .val (.double (FP.i2d p1)), .second, .val (.double (FP.i2d p2)), .second, .val (.double (FP.i2d p4)), .second, .val (.ref b25), .val (.int (0 : Int32)), .val (.double (FP.i2d p1)), .second, .val (.int (1 : Int32)), .val (.int (1 : Int32)), .unset] [(.int (0 : Int32))]))
      refine own_via (fun t k => XS.ifNo X30.here hx rfl (hb hby at_160) rfl ((if0 _ _).trans (teq (by decide : (0 : Int32) = (0 : Int32))).2) k) ?_
      show own_G p e below _ (T30.setTop (mkF m 163 #[.val (.int p1), .val (.int p2), .val (.int p3), .val (.int p4), .val (.int (0 : Int32)), .val (.double (FP.i2d p1)), .second, .val (.double (FP.i2d p2)), .second, .val (.double (FP.i2d p4)), .second, .val (.ref b25), .val (.int (0 : Int32)), .val (.double (FP.i2d p1)), .second, .val (.int (1 : Int32)), .val (.int (1 : Int32)), .unset] []))
      refine own_via (fun t k => XS.iload X30.here hx rfl (hb hby at_163) rfl k) ?_
      show own_G p e below _ (T30.setTop (mkF m 165 #[.val (.int p1), .val (.int p2), .val (.int p3), .val (.int p4), .val (.int (0 : Int32)), .val (.double (FP.i2d p1)), .second, .val (.double (FP.i2d p2)), .second, .val (.double (FP.i2d p4)), .second, .val (.ref b25), .val (.int (0 : Int32)), .val (.double (FP.i2d p1)), .second, .val (.int (1 : Int32)), .val (.int (1 : Int32)), .unset] [(.int (0 : Int32))]))
      refine own_via (fun t k => XS.iconst X30.here hx rfl (hb hby at_165) k) ?_
      show own_G p e below _ (T30.setTop (mkF m 166 #[.val (.int p1), .val (.int p2), .val (.int p3), .val (.int p4), .val (.int (0 : Int32)), .val (.double (FP.i2d p1)), .second, .val (.double (FP.i2d p2)), .second, .val (.double (FP.i2d p4)), .second, .val (.ref b25), .val (.int (0 : Int32)), .val (.double (FP.i2d p1)), .second, .val (.int (1 : Int32)), .val (.int (1 : Int32)), .unset] [(.int (2 : Int32)), (.int (0 : Int32))]))
      refine own_via (fun t k => XS.icmpNo X30.here hx rfl (hb hby at_166) rfl (feq (by decide : ¬ ((0 : Int32) = (2 : Int32)))).1 k) ?_
      show own_G p e below _ (T30.setTop (mkF m 169 #[.val (.int p1), .val (.int p2), .val (.int p3), .val (.int p4), .val (.int (0 : Int32)), .val (.double (FP.i2d p1)), .second, .val (.double (FP.i2d p2)), .second, .val (.double (FP.i2d p4)), .second, .val (.ref b25), .val (.int (0 : Int32)), .val (.double (FP.i2d p1)), .second, .val (.int (1 : Int32)), .val (.int (1 : Int32)), .unset] []))
      refine own_via (fun t k => XS.aload X30.here hx rfl (hb hby at_169) rfl rfl k) ?_
      show own_G p e below _ (T30.setTop (mkF m 171 #[.val (.int p1), .val (.int p2), .val (.int p3), .val (.int p4), .val (.int (0 : Int32)), .val (.double (FP.i2d p1)), .second, .val (.double (FP.i2d p2)), .second, .val (.double (FP.i2d p4)), .second, .val (.ref b25), .val (.int (0 : Int32)), .val (.double (FP.i2d p1)), .second, .val (.int (1 : Int32)), .val (.int (1 : Int32)), .unset] [(.ref b25)]))
      refine own_via (fun t k => XS.iconst X30.here hx rfl (hb hby at_171) k) ?_
      show own_G p e below _ (T30.setTop (mkF m 172 #[.val (.int p1), .val (.int p2), .val (.int p3), .val (.int p4), .val (.int (0 : Int32)), .val (.double (FP.i2d p1)), .second, .val (.double (FP.i2d p2)), .second, .val (.double (FP.i2d p4)), .second, .val (.ref b25), .val (.int (0 : Int32)), .val (.double (FP.i2d p1)), .second, .val (.int (1 : Int32)), .val (.int (1 : Int32)), .unset] [(.int (2 : Int32)), (.ref b25)]))
      obtain ⟨cl43, Ar43, q43, S43, Ng43, Hs43, G43⟩ := id V30
      have hin43 : ¬ ((2 : Int32) < 0 ∨ cl43.slots.size ≤ ((2 : Int32)).toNatClampNeg) := inb_of S43 ⟨by decide, by decide⟩
      have hat43 : cl43.slots[((2 : Int32)).toNatClampNeg]? = some (.double (FP.i2d p4)) := Hs43.at hin43 rfl
      refine own_via (fun t k => X30.daload hx (j := (2 : Int32)) (v := (.double (FP.i2d p4))) Ar43.1 (State.isArrayOf_alike hZ.alike Ar43.2.1) Ar43.2.2 hin43 hat43 (g := (mkF m 172 #[.val (.int p1), .val (.int p2), .val (.int p3), .val (.int p4), .val (.int (0 : Int32)), .val (.double (FP.i2d p1)), .second, .val (.double (FP.i2d p2)), .second, .val (.double (FP.i2d p4)), .second, .val (.ref b25), .val (.int (0 : Int32)), .val (.double (FP.i2d p1)), .second, .val (.int (1 : Int32)), .val (.int (1 : Int32)), .unset] [(.int (2 : Int32)), (.ref b25)])) rfl rfl (hb hby at_172) _ k) ?_
      show own_G p e below _ (T30.setTop (mkF m 173 #[.val (.int p1), .val (.int p2), .val (.int p3), .val (.int p4), .val (.int (0 : Int32)), .val (.double (FP.i2d p1)), .second, .val (.double (FP.i2d p2)), .second, .val (.double (FP.i2d p4)), .second, .val (.ref b25), .val (.int (0 : Int32)), .val (.double (FP.i2d p1)), .second, .val (.int (1 : Int32)), .val (.int (1 : Int32)), .unset] [(.double (FP.i2d p4))]))
      refine own_via (fun t k => XS.dload X30.here hx rfl (hb hby at_173) rfl k) ?_
      show own_G p e below _ (T30.setTop (mkF m 175 #[.val (.int p1), .val (.int p2), .val (.int p3), .val (.int p4), .val (.int (0 : Int32)), .val (.double (FP.i2d p1)), .second, .val (.double (FP.i2d p2)), .second, .val (.double (FP.i2d p4)), .second, .val (.ref b25), .val (.int (0 : Int32)), .val (.double (FP.i2d p1)), .second, .val (.int (1 : Int32)), .val (.int (1 : Int32)), .unset] [(.double (FP.i2d p4)), (.double (FP.i2d p4))]))
      refine own_via (fun t k => XS.dcmpS X30.here hx rfl (hb hby at_175) rfl (own_dc_eq rfl _) k) ?_
      show own_G p e below _ (T30.setTop (mkF m 176 #[.val (.int p1), .val (.int p2), .val (.int p3), .val (.int p4), .val (.int (0 : Int32)), .val (.double (FP.i2d p1)), .second, .val (.double (FP.i2d p2)), .second, .val (.double (FP.i2d p4)), .second, .val (.ref b25), .val (.int (0 : Int32)), .val (.double (FP.i2d p1)), .second, .val (.int (1 : Int32)), .val (.int (1 : Int32)), .unset] [(.int (0 : Int32))]))
      refine own_via (fun t k => XS.ifNo X30.here hx rfl (hb hby at_176) rfl ((if0 _ _).trans (teq (by decide : (0 : Int32) = (0 : Int32))).2) k) ?_
      show own_G p e below _ (T30.setTop (mkF m 179 #[.val (.int p1), .val (.int p2), .val (.int p3), .val (.int p4), .val (.int (0 : Int32)), .val (.double (FP.i2d p1)), .second, .val (.double (FP.i2d p2)), .second, .val (.double (FP.i2d p4)), .second, .val (.ref b25), .val (.int (0 : Int32)), .val (.double (FP.i2d p1)), .second, .val (.int (1 : Int32)), .val (.int (1 : Int32)), .unset] []))
      refine own_via (fun t k => XS.iconst X30.here hx rfl (hb hby at_179) k) ?_
      show own_G p e below _ (T30.setTop (mkF m 180 #[.val (.int p1), .val (.int p2), .val (.int p3), .val (.int p4), .val (.int (0 : Int32)), .val (.double (FP.i2d p1)), .second, .val (.double (FP.i2d p2)), .second, .val (.double (FP.i2d p4)), .second, .val (.ref b25), .val (.int (0 : Int32)), .val (.double (FP.i2d p1)), .second, .val (.int (1 : Int32)), .val (.int (1 : Int32)), .unset] [(.int (1 : Int32))]))
      refine own_via (fun t k => XS.goto X30.here hx rfl (pc0 := 180) (pc' := 184) rfl (hb hby at_180) (by decide) (by decide) k) ?_
      show own_G p e below _ (T30.setTop (mkF m 184 #[.val (.int p1), .val (.int p2), .val (.int p3), .val (.int p4), .val (.int (0 : Int32)), .val (.double (FP.i2d p1)), .second, .val (.double (FP.i2d p2)), .second, .val (.double (FP.i2d p4)), .second, .val (.ref b25), .val (.int (0 : Int32)), .val (.double (FP.i2d p1)), .second, .val (.int (1 : Int32)), .val (.int (1 : Int32)), .unset] [(.int (1 : Int32))]))
      refine own_via (fun t k => XS.istore X30.here hx rfl (hb hby at_184) rfl (l' := #[.val (.int p1), .val (.int p2), .val (.int p3), .val (.int p4), .val (.int (0 : Int32)), .val (.double (FP.i2d p1)), .second, .val (.double (FP.i2d p2)), .second, .val (.double (FP.i2d p4)), .second, .val (.ref b25), .val (.int (0 : Int32)), .val (.double (FP.i2d p1)), .second, .val (.int (1 : Int32)), .val (.int (1 : Int32)), .val (.int (1 : Int32))]) rfl k) ?_
      show own_G p e below _ (T30.setTop (mkF m 186 #[.val (.int p1), .val (.int p2), .val (.int p3), .val (.int p4), .val (.int (0 : Int32)), .val (.double (FP.i2d p1)), .second, .val (.double (FP.i2d p2)), .second, .val (.double (FP.i2d p4)), .second, .val (.ref b25), .val (.int (0 : Int32)), .val (.double (FP.i2d p1)), .second, .val (.int (1 : Int32)), .val (.int (1 : Int32)), .val (.int (1 : Int32))] []))
      refine own_via (fun t k => XS.iload X30.here hx rfl (hb hby at_186) rfl k) ?_
      show own_G p e below _ (T30.setTop (mkF m 188 #[.val (.int p1), .val (.int p2), .val (.int p3), .val (.int p4), .val (.int (0 : Int32)), .val (.double (FP.i2d p1)), .second, .val (.double (FP.i2d p2)), .second, .val (.double (FP.i2d p4)), .second, .val (.ref b25), .val (.int (0 : Int32)), .val (.double (FP.i2d p1)), .second, .val (.int (1 : Int32)), .val (.int (1 : Int32)), .val (.int (1 : Int32))] [(.int (1 : Int32))]))
      refine own_via (fun t k => XS.ifNo X30.here hx rfl (hb hby at_188) rfl ((if0 _ _).trans (feq (by decide : ¬ ((1 : Int32) = (0 : Int32)))).1) k) ?_
      show own_G p e below _ (T30.setTop (mkF m 191 #[.val (.int p1), .val (.int p2), .val (.int p3), .val (.int p4), .val (.int (0 : Int32)), .val (.double (FP.i2d p1)), .second, .val (.double (FP.i2d p2)), .second, .val (.double (FP.i2d p4)), .second, .val (.ref b25), .val (.int (0 : Int32)), .val (.double (FP.i2d p1)), .second, .val (.int (1 : Int32)), .val (.int (1 : Int32)), .val (.int (1 : Int32))] []))
      refine own_via (fun t k => XS.iload X30.here hx rfl (hb hby at_191) rfl k) ?_
      show own_G p e below _ (T30.setTop (mkF m 193 #[.val (.int p1), .val (.int p2), .val (.int p3), .val (.int p4), .val (.int (0 : Int32)), .val (.double (FP.i2d p1)), .second, .val (.double (FP.i2d p2)), .second, .val (.double (FP.i2d p4)), .second, .val (.ref b25), .val (.int (0 : Int32)), .val (.double (FP.i2d p1)), .second, .val (.int (1 : Int32)), .val (.int (1 : Int32)), .val (.int (1 : Int32))] [(.int (1 : Int32))]))
      refine own_via (fun t k => XS.ifNo X30.here hx rfl (hb hby at_193) rfl ((if0 _ _).trans (feq (by decide : ¬ ((1 : Int32) = (0 : Int32)))).1) k) ?_
      show own_G p e below _ (T30.setTop (mkF m 196 #[.val (.int p1), .val (.int p2), .val (.int p3), .val (.int p4), .val (.int (0 : Int32)), .val (.double (FP.i2d p1)), .second, .val (.double (FP.i2d p2)), .second, .val (.double (FP.i2d p4)), .second, .val (.ref b25), .val (.int (0 : Int32)), .val (.double (FP.i2d p1)), .second, .val (.int (1 : Int32)), .val (.int (1 : Int32)), .val (.int (1 : Int32))] []))
      refine own_via (fun t k => XS.iload X30.here hx rfl (hb hby at_196) rfl k) ?_
      show own_G p e below _ (T30.setTop (mkF m 198 #[.val (.int p1), .val (.int p2), .val (.int p3), .val (.int p4), .val (.int (0 : Int32)), .val (.double (FP.i2d p1)), .second, .val (.double (FP.i2d p2)), .second, .val (.double (FP.i2d p4)), .second, .val (.ref b25), .val (.int (0 : Int32)), .val (.double (FP.i2d p1)), .second, .val (.int (1 : Int32)), .val (.int (1 : Int32)), .val (.int (1 : Int32))] [(.int (1 : Int32))]))
      refine own_via (fun t k => XS.ifNo X30.here hx rfl (hb hby at_198) rfl ((if0 _ _).trans (feq (by decide : ¬ ((1 : Int32) = (0 : Int32)))).1) k) ?_
      show own_G p e below _ (T30.setTop (mkF m 201 #[.val (.int p1), .val (.int p2), .val (.int p3), .val (.int p4), .val (.int (0 : Int32)), .val (.double (FP.i2d p1)), .second, .val (.double (FP.i2d p2)), .second, .val (.double (FP.i2d p4)), .second, .val (.ref b25), .val (.int (0 : Int32)), .val (.double (FP.i2d p1)), .second, .val (.int (1 : Int32)), .val (.int (1 : Int32)), .val (.int (1 : Int32))] []))
      refine own_via (fun t k => XS.iconst X30.here hx rfl (hb hby at_201) k) ?_
      show own_G p e below _ (T30.setTop (mkF m 202 #[.val (.int p1), .val (.int p2), .val (.int p3), .val (.int p4), .val (.int (0 : Int32)), .val (.double (FP.i2d p1)), .second, .val (.double (FP.i2d p2)), .second, .val (.double (FP.i2d p4)), .second, .val (.ref b25), .val (.int (0 : Int32)), .val (.double (FP.i2d p1)), .second, .val (.int (1 : Int32)), .val (.int (1 : Int32)), .val (.int (1 : Int32))] [(.int (1 : Int32))]))
      refine own_via (fun t k => XS.goto X30.here hx rfl (pc0 := 202) (pc' := 206) rfl (hb hby at_202) (by decide) (by decide) k) ?_
      show own_G p e below _ (T30.setTop (mkF m 206 #[.val (.int p1), .val (.int p2), .val (.int p3), .val (.int p4), .val (.int (0 : Int32)), .val (.double (FP.i2d p1)), .second, .val (.double (FP.i2d p2)), .second, .val (.double (FP.i2d p4)), .second, .val (.ref b25), .val (.int (0 : Int32)), .val (.double (FP.i2d p1)), .second, .val (.int (1 : Int32)), .val (.int (1 : Int32)), .val (.int (1 : Int32))] [(.int (1 : Int32))]))
      obtain ⟨fs, hr, hrun, hended, hW, hsame⟩ := X30.leave (v := some (.int (1 : Int32))) (fun h => by rw [Bd.returns] at h; cases h)
      refine ⟨_, _, retN X30 hx (t := .boolean) Bd.returns (by simp) (hb hby at_206) hr, hrun, hended, _, _, rfl, ?_, ⟨_, rfl⟩, hW, hsame.mono (by decide) (by decide)⟩
      show rm0_Q Z p1 p2 p3 p4 h0 n0 _ T30.heap _
      exact ⟨rfl, N30⟩
    · rw [hk]
      show own_G p e below _ (s₁.setTop (mkF m 6 #[.val (.int p1), .val (.int p2), .val (.int p3), .val (.int p4), .unset, .unset, .unset, .unset, .unset, .unset, .unset, .unset, .unset, .unset, .unset, .unset, .unset, .unset] [(.int (0 : Int32))]))
      refine own_via (fun t k => XS.istore X0.here hx rfl (hb hby at_6) rfl (l' := #[.val (.int p1), .val (.int p2), .val (.int p3), .val (.int p4), .val (.int (0 : Int32)), .unset, .unset, .unset, .unset, .unset, .unset, .unset, .unset, .unset, .unset, .unset, .unset, .unset]) rfl k) ?_
      show own_G p e below _ (s₁.setTop (mkF m 8 #[.val (.int p1), .val (.int p2), .val (.int p3), .val (.int p4), .val (.int (0 : Int32)), .unset, .unset, .unset, .unset, .unset, .unset, .unset, .unset, .unset, .unset, .unset, .unset, .unset] []))
      refine own_via (fun t k => XS.iloadN X0.here hx rfl (hb hby at_8) rfl k) ?_
      show own_G p e below _ (s₁.setTop (mkF m 9 #[.val (.int p1), .val (.int p2), .val (.int p3), .val (.int p4), .val (.int (0 : Int32)), .unset, .unset, .unset, .unset, .unset, .unset, .unset, .unset, .unset, .unset, .unset, .unset, .unset] [(.int p1)]))
      refine own_via (fun t k => XS.i2dS X0.here hx rfl (hb hby at_9) rfl rfl k) ?_
      show own_G p e below _ (s₁.setTop (mkF m 10 #[.val (.int p1), .val (.int p2), .val (.int p3), .val (.int p4), .val (.int (0 : Int32)), .unset, .unset, .unset, .unset, .unset, .unset, .unset, .unset, .unset, .unset, .unset, .unset, .unset] [(.double (FP.i2d p1))]))
      refine own_via (fun t k => XS.dstore X0.here hx rfl (hb hby at_10) rfl (l' := #[.val (.int p1), .val (.int p2), .val (.int p3), .val (.int p4), .val (.int (0 : Int32)), .val (.double (FP.i2d p1)), .second, .unset, .unset, .unset, .unset, .unset, .unset, .unset, .unset, .unset, .unset, .unset]) rfl k) ?_
      show own_G p e below _ (s₁.setTop (mkF m 12 #[.val (.int p1), .val (.int p2), .val (.int p3), .val (.int p4), .val (.int (0 : Int32)), .val (.double (FP.i2d p1)), .second, .unset, .unset, .unset, .unset, .unset, .unset, .unset, .unset, .unset, .unset, .unset] []))
      refine own_via (fun t k => XS.iloadN X0.here hx rfl (hb hby at_12) rfl k) ?_
      show own_G p e below _ (s₁.setTop (mkF m 13 #[.val (.int p1), .val (.int p2), .val (.int p3), .val (.int p4), .val (.int (0 : Int32)), .val (.double (FP.i2d p1)), .second, .unset, .unset, .unset, .unset, .unset, .unset, .unset, .unset, .unset, .unset, .unset] [(.int p2)]))
      refine own_via (fun t k => XS.i2dS X0.here hx rfl (hb hby at_13) rfl rfl k) ?_
      show own_G p e below _ (s₁.setTop (mkF m 14 #[.val (.int p1), .val (.int p2), .val (.int p3), .val (.int p4), .val (.int (0 : Int32)), .val (.double (FP.i2d p1)), .second, .unset, .unset, .unset, .unset, .unset, .unset, .unset, .unset, .unset, .unset, .unset] [(.double (FP.i2d p2))]))
      refine own_via (fun t k => XS.dstore X0.here hx rfl (hb hby at_14) rfl (l' := #[.val (.int p1), .val (.int p2), .val (.int p3), .val (.int p4), .val (.int (0 : Int32)), .val (.double (FP.i2d p1)), .second, .val (.double (FP.i2d p2)), .second, .unset, .unset, .unset, .unset, .unset, .unset, .unset, .unset, .unset]) rfl k) ?_
      show own_G p e below _ (s₁.setTop (mkF m 16 #[.val (.int p1), .val (.int p2), .val (.int p3), .val (.int p4), .val (.int (0 : Int32)), .val (.double (FP.i2d p1)), .second, .val (.double (FP.i2d p2)), .second, .unset, .unset, .unset, .unset, .unset, .unset, .unset, .unset, .unset] []))
      refine own_via (fun t k => XS.iloadN X0.here hx rfl (hb hby at_16) rfl k) ?_
      show own_G p e below _ (s₁.setTop (mkF m 17 #[.val (.int p1), .val (.int p2), .val (.int p3), .val (.int p4), .val (.int (0 : Int32)), .val (.double (FP.i2d p1)), .second, .val (.double (FP.i2d p2)), .second, .unset, .unset, .unset, .unset, .unset, .unset, .unset, .unset, .unset] [(.int p4)]))
      refine own_via (fun t k => XS.i2dS X0.here hx rfl (hb hby at_17) rfl rfl k) ?_
      show own_G p e below _ (s₁.setTop (mkF m 18 #[.val (.int p1), .val (.int p2), .val (.int p3), .val (.int p4), .val (.int (0 : Int32)), .val (.double (FP.i2d p1)), .second, .val (.double (FP.i2d p2)), .second, .unset, .unset, .unset, .unset, .unset, .unset, .unset, .unset, .unset] [(.double (FP.i2d p4))]))
      refine own_via (fun t k => XS.dstore X0.here hx rfl (hb hby at_18) rfl (l' := #[.val (.int p1), .val (.int p2), .val (.int p3), .val (.int p4), .val (.int (0 : Int32)), .val (.double (FP.i2d p1)), .second, .val (.double (FP.i2d p2)), .second, .val (.double (FP.i2d p4)), .second, .unset, .unset, .unset, .unset, .unset, .unset, .unset]) rfl k) ?_
      show own_G p e below _ (s₁.setTop (mkF m 20 #[.val (.int p1), .val (.int p2), .val (.int p3), .val (.int p4), .val (.int (0 : Int32)), .val (.double (FP.i2d p1)), .second, .val (.double (FP.i2d p2)), .second, .val (.double (FP.i2d p4)), .second, .unset, .unset, .unset, .unset, .unset, .unset, .unset] []))
      refine own_via (fun t k => XS.iconst X0.here hx rfl (hb hby at_20) k) ?_
      show own_G p e below _ (s₁.setTop (mkF m 21 #[.val (.int p1), .val (.int p2), .val (.int p3), .val (.int p4), .val (.int (0 : Int32)), .val (.double (FP.i2d p1)), .second, .val (.double (FP.i2d p2)), .second, .val (.double (FP.i2d p4)), .second, .unset, .unset, .unset, .unset, .unset, .unset, .unset] [(.int (3 : Int32))]))
      obtain ⟨T48, h48, k48, X48, e48, E48, A48, st48⟩ := newP X0 hx hZ (hw _ (List.mem_of_getElem? (i := 1) rfl)) e0 (g := (mkF m 21 #[.val (.int p1), .val (.int p2), .val (.int p3), .val (.int p4), .val (.int (0 : Int32)), .val (.double (FP.i2d p1)), .second, .val (.double (FP.i2d p2)), .second, .val (.double (FP.i2d p4)), .second, .unset, .unset, .unset, .unset, .unset, .unset, .unset] [(.int (3 : Int32))])) rfl (hb hby at_21) rfl (by decide) (cap := 3) (by decide) (by decide) (by decide) (by decide)
      obtain ⟨b48, g48⟩ : ∃ z, z = h0.size := ⟨_, rfl⟩
      rw [← g48] at A48 st48
      have gx_b48 : n0 ≤ b48 := Nat.le_trans Z0 (Nat.le_of_eq g48.symm)
      have Z48 : n0 ≤ h48.size := Nat.le_trans Z0 E48.1
      have V48 : Arv Z h48 b48 k48 .double (3 : Int32) [(.double (0 : UInt64)), (.double (0 : UInt64)), (.double (0 : UInt64))] (.double (0 : UInt64)) := (Arv.new A48 (by decide)).pad (pad_rep [] (.double (0 : UInt64)) 3)
      refine own_via st48 ?_
      show own_G p e below _ (T48.setTop (mkF m 23 #[.val (.int p1), .val (.int p2), .val (.int p3), .val (.int p4), .val (.int (0 : Int32)), .val (.double (FP.i2d p1)), .second, .val (.double (FP.i2d p2)), .second, .val (.double (FP.i2d p4)), .second, .unset, .unset, .unset, .unset, .unset, .unset, .unset] [(.ref b48)]))
      refine own_via (fun t k => XS.astore X48.here hx rfl (hb hby at_23) rfl rfl (l' := #[.val (.int p1), .val (.int p2), .val (.int p3), .val (.int p4), .val (.int (0 : Int32)), .val (.double (FP.i2d p1)), .second, .val (.double (FP.i2d p2)), .second, .val (.double (FP.i2d p4)), .second, .val (.ref b48), .unset, .unset, .unset, .unset, .unset, .unset]) rfl k) ?_
      show own_G p e below _ (T48.setTop (mkF m 25 #[.val (.int p1), .val (.int p2), .val (.int p3), .val (.int p4), .val (.int (0 : Int32)), .val (.double (FP.i2d p1)), .second, .val (.double (FP.i2d p2)), .second, .val (.double (FP.i2d p4)), .second, .val (.ref b48), .unset, .unset, .unset, .unset, .unset, .unset] []))
      refine own_via (fun t k => XS.aload X48.here hx rfl (hb hby at_25) rfl rfl k) ?_
      show own_G p e below _ (T48.setTop (mkF m 27 #[.val (.int p1), .val (.int p2), .val (.int p3), .val (.int p4), .val (.int (0 : Int32)), .val (.double (FP.i2d p1)), .second, .val (.double (FP.i2d p2)), .second, .val (.double (FP.i2d p4)), .second, .val (.ref b48), .unset, .unset, .unset, .unset, .unset, .unset] [(.ref b48)]))
      refine own_via (fun t k => XS.iconst X48.here hx rfl (hb hby at_27) k) ?_
      show own_G p e below _ (T48.setTop (mkF m 28 #[.val (.int p1), .val (.int p2), .val (.int p3), .val (.int p4), .val (.int (0 : Int32)), .val (.double (FP.i2d p1)), .second, .val (.double (FP.i2d p2)), .second, .val (.double (FP.i2d p4)), .second, .val (.ref b48), .unset, .unset, .unset, .unset, .unset, .unset] [(.int (0 : Int32)), (.ref b48)]))
      refine own_via (fun t k => XS.dload X48.here hx rfl (hb hby at_28) rfl k) ?_
      show own_G p e below _ (T48.setTop (mkF m 30 #[.val (.int p1), .val (.int p2), .val (.int p3), .val (.int p4), .val (.int (0 : Int32)), .val (.double (FP.i2d p1)), .second, .val (.double (FP.i2d p2)), .second, .val (.double (FP.i2d p4)), .second, .val (.ref b48), .unset, .unset, .unset, .unset, .unset, .unset] [(.double (FP.i2d p4)), (.int (0 : Int32)), (.ref b48)]))
      obtain ⟨cl49, Ar49, q49, S49, Ng49, Hs49, G49⟩ := id V48
      have hin49 : ¬ ((0 : Int32) < 0 ∨ cl49.slots.size ≤ ((0 : Int32)).toNatClampNeg) := inb_of S49 ⟨by decide, by decide⟩
      obtain ⟨T49, h49, X49, e49, W49, st49⟩ := stD X48 hx hZ e48 Ar49 (j := (0 : Int32)) hin49 (g := (mkF m 30 #[.val (.int p1), .val (.int p2), .val (.int p3), .val (.int p4), .val (.int (0 : Int32)), .val (.double (FP.i2d p1)), .second, .val (.double (FP.i2d p2)), .second, .val (.double (FP.i2d p4)), .second, .val (.ref b48), .unset, .unset, .unset, .unset, .unset, .unset] [(.double (FP.i2d p4)), (.int (0 : Int32)), (.ref b48)])) rfl rfl (hb hby at_30)
      have V49 : Arv Z h49 b48 k48 .double (3 : Int32) [(.double (FP.i2d p4)), (.double (0 : UInt64)), (.double (0 : UInt64))] (.double (0 : UInt64)) := Arv.set Ar49 q49 S49 Ng49 Hs49 G49 rfl W49 0 rfl (Nat.le_of_ble_eq_true rfl)
      have N49 := Fr.snoc X49 N0 gx_b48
      have Z49 : n0 ≤ h49.size := Nat.le_trans Z48 (Nat.le_of_eq W49.size.symm)
      refine own_via st49 ?_
      show own_G p e below _ (T49.setTop (mkF m 31 #[.val (.int p1), .val (.int p2), .val (.int p3), .val (.int p4), .val (.int (0 : Int32)), .val (.double (FP.i2d p1)), .second, .val (.double (FP.i2d p2)), .second, .val (.double (FP.i2d p4)), .second, .val (.ref b48), .unset, .unset, .unset, .unset, .unset, .unset] []))
      refine own_via (fun t k => XS.aload X49.here hx rfl (hb hby at_31) rfl rfl k) ?_
      show own_G p e below _ (T49.setTop (mkF m 33 #[.val (.int p1), .val (.int p2), .val (.int p3), .val (.int p4), .val (.int (0 : Int32)), .val (.double (FP.i2d p1)), .second, .val (.double (FP.i2d p2)), .second, .val (.double (FP.i2d p4)), .second, .val (.ref b48), .unset, .unset, .unset, .unset, .unset, .unset] [(.ref b48)]))
      refine own_via (fun t k => XS.iconst X49.here hx rfl (hb hby at_33) k) ?_
      show own_G p e below _ (T49.setTop (mkF m 34 #[.val (.int p1), .val (.int p2), .val (.int p3), .val (.int p4), .val (.int (0 : Int32)), .val (.double (FP.i2d p1)), .second, .val (.double (FP.i2d p2)), .second, .val (.double (FP.i2d p4)), .second, .val (.ref b48), .unset, .unset, .unset, .unset, .unset, .unset] [(.int (1 : Int32)), (.ref b48)]))
      refine own_via (fun t k => XS.dload X49.here hx rfl (hb hby at_34) rfl k) ?_
      show own_G p e below _ (T49.setTop (mkF m 36 #[.val (.int p1), .val (.int p2), .val (.int p3), .val (.int p4), .val (.int (0 : Int32)), .val (.double (FP.i2d p1)), .second, .val (.double (FP.i2d p2)), .second, .val (.double (FP.i2d p4)), .second, .val (.ref b48), .unset, .unset, .unset, .unset, .unset, .unset] [(.double (FP.i2d p4)), (.int (1 : Int32)), (.ref b48)]))
      obtain ⟨cl50, Ar50, q50, S50, Ng50, Hs50, G50⟩ := id V49
      have hin50 : ¬ ((1 : Int32) < 0 ∨ cl50.slots.size ≤ ((1 : Int32)).toNatClampNeg) := inb_of S50 ⟨by decide, by decide⟩
      obtain ⟨T50, h50, X50, e50, W50, st50⟩ := stD X49 hx hZ e49 Ar50 (j := (1 : Int32)) hin50 (g := (mkF m 36 #[.val (.int p1), .val (.int p2), .val (.int p3), .val (.int p4), .val (.int (0 : Int32)), .val (.double (FP.i2d p1)), .second, .val (.double (FP.i2d p2)), .second, .val (.double (FP.i2d p4)), .second, .val (.ref b48), .unset, .unset, .unset, .unset, .unset, .unset] [(.double (FP.i2d p4)), (.int (1 : Int32)), (.ref b48)])) rfl rfl (hb hby at_36)
      have V50 : Arv Z h50 b48 k48 .double (3 : Int32) [(.double (FP.i2d p4)), (.double (FP.i2d p4)), (.double (0 : UInt64))] (.double (0 : UInt64)) := Arv.set Ar50 q50 S50 Ng50 Hs50 G50 rfl W50 1 rfl (Nat.le_of_ble_eq_true rfl)
      have N50 := Fr.snoc X50 N49 gx_b48
      have Z50 : n0 ≤ h50.size := Nat.le_trans Z49 (Nat.le_of_eq W50.size.symm)
      refine own_via st50 ?_
      show own_G p e below _ (T50.setTop (mkF m 37 #[.val (.int p1), .val (.int p2), .val (.int p3), .val (.int p4), .val (.int (0 : Int32)), .val (.double (FP.i2d p1)), .second, .val (.double (FP.i2d p2)), .second, .val (.double (FP.i2d p4)), .second, .val (.ref b48), .unset, .unset, .unset, .unset, .unset, .unset] []))
      refine own_via (fun t k => XS.aload X50.here hx rfl (hb hby at_37) rfl rfl k) ?_
      show own_G p e below _ (T50.setTop (mkF m 39 #[.val (.int p1), .val (.int p2), .val (.int p3), .val (.int p4), .val (.int (0 : Int32)), .val (.double (FP.i2d p1)), .second, .val (.double (FP.i2d p2)), .second, .val (.double (FP.i2d p4)), .second, .val (.ref b48), .unset, .unset, .unset, .unset, .unset, .unset] [(.ref b48)]))
      refine own_via (fun t k => XS.iconst X50.here hx rfl (hb hby at_39) k) ?_
      show own_G p e below _ (T50.setTop (mkF m 40 #[.val (.int p1), .val (.int p2), .val (.int p3), .val (.int p4), .val (.int (0 : Int32)), .val (.double (FP.i2d p1)), .second, .val (.double (FP.i2d p2)), .second, .val (.double (FP.i2d p4)), .second, .val (.ref b48), .unset, .unset, .unset, .unset, .unset, .unset] [(.int (2 : Int32)), (.ref b48)]))
      refine own_via (fun t k => XS.dload X50.here hx rfl (hb hby at_40) rfl k) ?_
      show own_G p e below _ (T50.setTop (mkF m 42 #[.val (.int p1), .val (.int p2), .val (.int p3), .val (.int p4), .val (.int (0 : Int32)), .val (.double (FP.i2d p1)), .second, .val (.double (FP.i2d p2)), .second, .val (.double (FP.i2d p4)), .second, .val (.ref b48), .unset, .unset, .unset, .unset, .unset, .unset] [(.double (FP.i2d p4)), (.int (2 : Int32)), (.ref b48)]))
      obtain ⟨cl51, Ar51, q51, S51, Ng51, Hs51, G51⟩ := id V50
      have hin51 : ¬ ((2 : Int32) < 0 ∨ cl51.slots.size ≤ ((2 : Int32)).toNatClampNeg) := inb_of S51 ⟨by decide, by decide⟩
      obtain ⟨T51, h51, X51, e51, W51, st51⟩ := stD X50 hx hZ e50 Ar51 (j := (2 : Int32)) hin51 (g := (mkF m 42 #[.val (.int p1), .val (.int p2), .val (.int p3), .val (.int p4), .val (.int (0 : Int32)), .val (.double (FP.i2d p1)), .second, .val (.double (FP.i2d p2)), .second, .val (.double (FP.i2d p4)), .second, .val (.ref b48), .unset, .unset, .unset, .unset, .unset, .unset] [(.double (FP.i2d p4)), (.int (2 : Int32)), (.ref b48)])) rfl rfl (hb hby at_42)
      have V51 : Arv Z h51 b48 k48 .double (3 : Int32) [(.double (FP.i2d p4)), (.double (FP.i2d p4)), (.double (FP.i2d p4))] (.double (0 : UInt64)) := Arv.set Ar51 q51 S51 Ng51 Hs51 G51 rfl W51 2 rfl (Nat.le_of_ble_eq_true rfl)
      have N51 := Fr.snoc X51 N50 gx_b48
      have Z51 : n0 ≤ h51.size := Nat.le_trans Z50 (Nat.le_of_eq W51.size.symm)
      refine own_via st51 ?_
      show own_G p e below _ (T51.setTop (mkF m 43 #[.val (.int p1), .val (.int p2), .val (.int p3), .val (.int p4), .val (.int (0 : Int32)), .val (.double (FP.i2d p1)), .second, .val (.double (FP.i2d p2)), .second, .val (.double (FP.i2d p4)), .second, .val (.ref b48), .unset, .unset, .unset, .unset, .unset, .unset] []))
      refine own_via (fun t k => XS.aload X51.here hx rfl (hb hby at_43) rfl rfl k) ?_
      show own_G p e below _ (T51.setTop (mkF m 45 #[.val (.int p1), .val (.int p2), .val (.int p3), .val (.int p4), .val (.int (0 : Int32)), .val (.double (FP.i2d p1)), .second, .val (.double (FP.i2d p2)), .second, .val (.double (FP.i2d p4)), .second, .val (.ref b48), .unset, .unset, .unset, .unset, .unset, .unset] [(.ref b48)]))
      refine own_via (fun t k => XS.iload X51.here hx rfl (hb hby at_45) rfl k) ?_
      show own_G p e below _ (T51.setTop (mkF m 47 #[.val (.int p1), .val (.int p2), .val (.int p3), .val (.int p4), .val (.int (0 : Int32)), .val (.double (FP.i2d p1)), .second, .val (.double (FP.i2d p2)), .second, .val (.double (FP.i2d p4)), .second, .val (.ref b48), .unset, .unset, .unset, .unset, .unset, .unset] [(.int (0 : Int32)), (.ref b48)]))
      refine own_via (fun t k => XS.dload X51.here hx rfl (hb hby at_47) rfl k) ?_
      show own_G p e below _ (T51.setTop (mkF m 49 #[.val (.int p1), .val (.int p2), .val (.int p3), .val (.int p4), .val (.int (0 : Int32)), .val (.double (FP.i2d p1)), .second, .val (.double (FP.i2d p2)), .second, .val (.double (FP.i2d p4)), .second, .val (.ref b48), .unset, .unset, .unset, .unset, .unset, .unset] [(.double (FP.i2d p1)), (.int (0 : Int32)), (.ref b48)]))
      obtain ⟨cl52, Ar52, q52, S52, Ng52, Hs52, G52⟩ := id V51
      have hin52 : ¬ ((0 : Int32) < 0 ∨ cl52.slots.size ≤ ((0 : Int32)).toNatClampNeg) := inb_of S52 ⟨by decide, by decide⟩
      obtain ⟨T52, h52, X52, e52, W52, st52⟩ := stD X51 hx hZ e51 Ar52 (j := (0 : Int32)) hin52 (g := (mkF m 49 #[.val (.int p1), .val (.int p2), .val (.int p3), .val (.int p4), .val (.int (0 : Int32)), .val (.double (FP.i2d p1)), .second, .val (.double (FP.i2d p2)), .second, .val (.double (FP.i2d p4)), .second, .val (.ref b48), .unset, .unset, .unset, .unset, .unset, .unset] [(.double (FP.i2d p1)), (.int (0 : Int32)), (.ref b48)])) rfl rfl (hb hby at_49)
      have V52 : Arv Z h52 b48 k48 .double (3 : Int32) [(.double (FP.i2d p1)), (.double (FP.i2d p4)), (.double (FP.i2d p4))] (.double (0 : UInt64)) := Arv.set Ar52 q52 S52 Ng52 Hs52 G52 rfl W52 0 rfl (Nat.le_of_ble_eq_true rfl)
      have N52 := Fr.snoc X52 N51 gx_b48
      have Z52 : n0 ≤ h52.size := Nat.le_trans Z51 (Nat.le_of_eq W52.size.symm)
      refine own_via st52 ?_
      show own_G p e below _ (T52.setTop (mkF m 50 #[.val (.int p1), .val (.int p2), .val (.int p3), .val (.int p4), .val (.int (0 : Int32)), .val (.double (FP.i2d p1)), .second, .val (.double (FP.i2d p2)), .second, .val (.double (FP.i2d p4)), .second, .val (.ref b48), .unset, .unset, .unset, .unset, .unset, .unset] []))
      refine own_via (fun t k => XS.aload X52.here hx rfl (hb hby at_50) rfl rfl k) ?_
      show own_G p e below _ (T52.setTop (mkF m 52 #[.val (.int p1), .val (.int p2), .val (.int p3), .val (.int p4), .val (.int (0 : Int32)), .val (.double (FP.i2d p1)), .second, .val (.double (FP.i2d p2)), .second, .val (.double (FP.i2d p4)), .second, .val (.ref b48), .unset, .unset, .unset, .unset, .unset, .unset] [(.ref b48)]))
      refine own_via (fun t k => XS.iload X52.here hx rfl (hb hby at_52) rfl k) ?_
      show own_G p e below _ (T52.setTop (mkF m 54 #[.val (.int p1), .val (.int p2), .val (.int p3), .val (.int p4), .val (.int (0 : Int32)), .val (.double (FP.i2d p1)), .second, .val (.double (FP.i2d p2)), .second, .val (.double (FP.i2d p4)), .second, .val (.ref b48), .unset, .unset, .unset, .unset, .unset, .unset] [(.int (0 : Int32)), (.ref b48)]))
      refine own_via (fun t k => XS.dload X52.here hx rfl (hb hby at_54) rfl k) ?_
      show own_G p e below _ (T52.setTop (mkF m 56 #[.val (.int p1), .val (.int p2), .val (.int p3), .val (.int p4), .val (.int (0 : Int32)), .val (.double (FP.i2d p1)), .second, .val (.double (FP.i2d p2)), .second, .val (.double (FP.i2d p4)), .second, .val (.ref b48), .unset, .unset, .unset, .unset, .unset, .unset] [(.double (FP.i2d p2)), (.int (0 : Int32)), (.ref b48)]))
      obtain ⟨_, _, ⟨T53, L53, k53, n53⟩, -, X53, ⟨Lc53, hQ53, l53, y53, z53⟩, st53⟩ := Jvm.LawKit.callS X52 hx (y := (⟨"com/example/odds2/odds2/engine/Bounds", "tightenUpper", "([DID)Z"⟩ : MethodName)) hown (mvT hZ (hw _ (List.mem_of_getElem? (i := 2) rfl))) (mvT hZ (hw _ (List.mem_of_getElem? (i := 3) rfl))) (mvT hZ (hw _ (List.mem_of_getElem? (i := 4) rfl))) (mvT hZ (hw _ (List.mem_of_getElem? (i := 5) rfl))) (by decide) (backOf (W := 0) (rm1_0gt l Z a0 hw [] b48 p1 p4 p4 p2 k48 h52 n0 Z52 V52 gx_b48 hob) hZ (hw _ (List.mem_of_getElem? (i := 5) rfl)) (hw _ (List.mem_of_getElem? (i := 4) rfl)) (by decide) (by decide)) (g := (mkF m 56 #[.val (.int p1), .val (.int p2), .val (.int p3), .val (.int p4), .val (.int (0 : Int32)), .val (.double (FP.i2d p1)), .second, .val (.double (FP.i2d p2)), .second, .val (.double (FP.i2d p4)), .second, .val (.ref b48), .unset, .unset, .unset, .unset, .unset, .unset] [(.double (FP.i2d p2)), (.int (0 : Int32)), (.ref b48)])) rfl (by rw [hml]; rfl) (argsL := [(.ref b48), (.int (0 : Int32)), (.double (FP.i2d p2))]) (rest := []) (lenOf pd_rm0_0 rfl) rfl (by show 2 * 0 + _ ≤ _; exact Nat.le_of_eq rfl) (hb hby at_56) (fun _ _ => ⟨rfl, e52, (by decide : 1 + 0 ≤ _), (by decide : 3 + 0 ≤ _)⟩)
      dsimp only [Pt.U, Pt.locs, Pt.cells, Pt.slots] at X53 l53 y53 z53 st53 hQ53
      subst l53 y53 z53
      obtain ⟨rfl, N53q, K53, V53⟩ := hQ53
      have N53 := Fr.app N52 N53q
      have Z53 : n0 ≤ T53.heap.size := Nat.le_trans Z52 K53.1
      refine own_via st53 ?_
      show own_G p e below _ (T53.setTop (mkF m 59 #[.val (.int p1), .val (.int p2), .val (.int p3), .val (.int p4), .val (.int (0 : Int32)), .val (.double (FP.i2d p1)), .second, .val (.double (FP.i2d p2)), .second, .val (.double (FP.i2d p4)), .second, .val (.ref b48), .unset, .unset, .unset, .unset, .unset, .unset] [(.int (0 : Int32))]))
      refine own_via (fun t k => XS.istore X53.here hx rfl (hb hby at_59) rfl (l' := #[.val (.int p1), .val (.int p2), .val (.int p3), .val (.int p4), .val (.int (0 : Int32)), .val (.double (FP.i2d p1)), .second, .val (.double (FP.i2d p2)), .second, .val (.double (FP.i2d p4)), .second, .val (.ref b48), .val (.int (0 : Int32)), .unset, .unset, .unset, .unset, .unset]) rfl k) ?_
      show own_G p e below _ (T53.setTop (mkF m 61 #[.val (.int p1), .val (.int p2), .val (.int p3), .val (.int p4), .val (.int (0 : Int32)), .val (.double (FP.i2d p1)), .second, .val (.double (FP.i2d p2)), .second, .val (.double (FP.i2d p4)), .second, .val (.ref b48), .val (.int (0 : Int32)), .unset, .unset, .unset, .unset, .unset] []))
      refine own_via (fun t k => XS.aload X53.here hx rfl (hb hby at_61) rfl rfl k) ?_
      show own_G p e below _ (T53.setTop (mkF m 63 #[.val (.int p1), .val (.int p2), .val (.int p3), .val (.int p4), .val (.int (0 : Int32)), .val (.double (FP.i2d p1)), .second, .val (.double (FP.i2d p2)), .second, .val (.double (FP.i2d p4)), .second, .val (.ref b48), .val (.int (0 : Int32)), .unset, .unset, .unset, .unset, .unset] [(.ref b48)]))
      refine own_via (fun t k => XS.iload X53.here hx rfl (hb hby at_63) rfl k) ?_
      show own_G p e below _ (T53.setTop (mkF m 65 #[.val (.int p1), .val (.int p2), .val (.int p3), .val (.int p4), .val (.int (0 : Int32)), .val (.double (FP.i2d p1)), .second, .val (.double (FP.i2d p2)), .second, .val (.double (FP.i2d p4)), .second, .val (.ref b48), .val (.int (0 : Int32)), .unset, .unset, .unset, .unset, .unset] [(.int (0 : Int32)), (.ref b48)]))
      obtain ⟨cl55, Ar55, q55, S55, Ng55, Hs55, G55⟩ := id V53
      have hin55 : ¬ ((0 : Int32) < 0 ∨ cl55.slots.size ≤ ((0 : Int32)).toNatClampNeg) := inb_of S55 ⟨by decide, by decide⟩
      have hat55 : cl55.slots[((0 : Int32)).toNatClampNeg]? = some (.double (FP.i2d p1)) := Hs55.at hin55 rfl
      refine own_via (fun t k => X53.daload hx (j := (0 : Int32)) (v := (.double (FP.i2d p1))) Ar55.1 (State.isArrayOf_alike hZ.alike Ar55.2.1) Ar55.2.2 hin55 hat55 (g := (mkF m 65 #[.val (.int p1), .val (.int p2), .val (.int p3), .val (.int p4), .val (.int (0 : Int32)), .val (.double (FP.i2d p1)), .second, .val (.double (FP.i2d p2)), .second, .val (.double (FP.i2d p4)), .second, .val (.ref b48), .val (.int (0 : Int32)), .unset, .unset, .unset, .unset, .unset] [(.int (0 : Int32)), (.ref b48)])) rfl rfl (hb hby at_65) _ k) ?_
      show own_G p e below _ (T53.setTop (mkF m 66 #[.val (.int p1), .val (.int p2), .val (.int p3), .val (.int p4), .val (.int (0 : Int32)), .val (.double (FP.i2d p1)), .second, .val (.double (FP.i2d p2)), .second, .val (.double (FP.i2d p4)), .second, .val (.ref b48), .val (.int (0 : Int32)), .unset, .unset, .unset, .unset, .unset] [(.double (FP.i2d p1))]))
      refine own_via (fun t k => XS.dstore X53.here hx rfl (hb hby at_66) rfl (l' := #[.val (.int p1), .val (.int p2), .val (.int p3), .val (.int p4), .val (.int (0 : Int32)), .val (.double (FP.i2d p1)), .second, .val (.double (FP.i2d p2)), .second, .val (.double (FP.i2d p4)), .second, .val (.ref b48), .val (.int (0 : Int32)), .val (.double (FP.i2d p1)), .second, .unset, .unset, .unset]) rfl k) ?_
      show own_G p e below _ (T53.setTop (mkF m 68 #[.val (.int p1), .val (.int p2), .val (.int p3), .val (.int p4), .val (.int (0 : Int32)), .val (.double (FP.i2d p1)), .second, .val (.double (FP.i2d p2)), .second, .val (.double (FP.i2d p4)), .second, .val (.ref b48), .val (.int (0 : Int32)), .val (.double (FP.i2d p1)), .second, .unset, .unset, .unset] []))
      refine own_via (fun t k => XS.dload X53.here hx rfl (hb hby at_68) rfl k) ?_
      show own_G p e below _ (T53.setTop (mkF m 70 #[.val (.int p1), .val (.int p2), .val (.int p3), .val (.int p4), .val (.int (0 : Int32)), .val (.double (FP.i2d p1)), .second, .val (.double (FP.i2d p2)), .second, .val (.double (FP.i2d p4)), .second, .val (.ref b48), .val (.int (0 : Int32)), .val (.double (FP.i2d p1)), .second, .unset, .unset, .unset] [(.double (FP.i2d p1))]))
      refine own_via (fun t k => XS.dload X53.here hx rfl (hb hby at_70) rfl k) ?_
      show own_G p e below _ (T53.setTop (mkF m 72 #[.val (.int p1), .val (.int p2), .val (.int p3), .val (.int p4), .val (.int (0 : Int32)), .val (.double (FP.i2d p1)), .second, .val (.double (FP.i2d p2)), .second, .val (.double (FP.i2d p4)), .second, .val (.ref b48), .val (.int (0 : Int32)), .val (.double (FP.i2d p1)), .second, .unset, .unset, .unset] [(.double (FP.i2d p1)), (.double (FP.i2d p1))]))
      refine own_via (fun t k => XS.dcmpS X53.here hx rfl (hb hby at_72) rfl (own_dc_eq rfl _) k) ?_
      show own_G p e below _ (T53.setTop (mkF m 73 #[.val (.int p1), .val (.int p2), .val (.int p3), .val (.int p4), .val (.int (0 : Int32)), .val (.double (FP.i2d p1)), .second, .val (.double (FP.i2d p2)), .second, .val (.double (FP.i2d p4)), .second, .val (.ref b48), .val (.int (0 : Int32)), .val (.double (FP.i2d p1)), .second, .unset, .unset, .unset] [(.int (0 : Int32))]))
      refine own_via (fun t k => XS.ifNo X53.here hx rfl (hb hby at_73) rfl ((if0 _ _).trans (flt (by decide : ¬ ((0 : Int32) < (0 : Int32)))).1) k) ?_
      show own_G p e below _ (T53.setTop (mkF m 76 #[.val (.int p1), .val (.int p2), .val (.int p3), .val (.int p4), .val (.int (0 : Int32)), .val (.double (FP.i2d p1)), .second, .val (.double (FP.i2d p2)), .second, .val (.double (FP.i2d p4)), .second, .val (.ref b48), .val (.int (0 : Int32)), .val (.double (FP.i2d p1)), .second, .unset, .unset, .unset] []))
      refine own_via (fun t k => XS.dload X53.here hx rfl (hb hby at_76) rfl k) ?_
      show own_G p e below _ (T53.setTop (mkF m 78 #[.val (.int p1), .val (.int p2), .val (.int p3), .val (.int p4), .val (.int (0 : Int32)), .val (.double (FP.i2d p1)), .second, .val (.double (FP.i2d p2)), .second, .val (.double (FP.i2d p4)), .second, .val (.ref b48), .val (.int (0 : Int32)), .val (.double (FP.i2d p1)), .second, .unset, .unset, .unset] [(.double (FP.i2d p2))]))
      refine own_via (fun t k => XS.dload X53.here hx rfl (hb hby at_78) rfl k) ?_
      show own_G p e below _ (T53.setTop (mkF m 80 #[.val (.int p1), .val (.int p2), .val (.int p3), .val (.int p4), .val (.int (0 : Int32)), .val (.double (FP.i2d p1)), .second, .val (.double (FP.i2d p2)), .second, .val (.double (FP.i2d p4)), .second, .val (.ref b48), .val (.int (0 : Int32)), .val (.double (FP.i2d p1)), .second, .unset, .unset, .unset] [(.double (FP.i2d p1)), (.double (FP.i2d p2))]))
      refine own_via (fun t k => XS.dcmpS X53.here hx rfl (hb hby at_80) rfl (own_dc_gt hob _) k) ?_
      show own_G p e below _ (T53.setTop (mkF m 81 #[.val (.int p1), .val (.int p2), .val (.int p3), .val (.int p4), .val (.int (0 : Int32)), .val (.double (FP.i2d p1)), .second, .val (.double (FP.i2d p2)), .second, .val (.double (FP.i2d p4)), .second, .val (.ref b48), .val (.int (0 : Int32)), .val (.double (FP.i2d p1)), .second, .unset, .unset, .unset] [(.int (1 : Int32))]))
      refine own_via (fun t k => XS.ifNo X53.here hx rfl (hb hby at_81) rfl ((if0 _ _).trans (flt (by decide : ¬ ((1 : Int32) < (0 : Int32)))).1) k) ?_
      show own_G p e below _ (T53.setTop (mkF m 84 #[.val (.int p1), .val (.int p2), .val (.int p3), .val (.int p4), .val (.int (0 : Int32)), .val (.double (FP.i2d p1)), .second, .val (.double (FP.i2d p2)), .second, .val (.double (FP.i2d p4)), .second, .val (.ref b48), .val (.int (0 : Int32)), .val (.double (FP.i2d p1)), .second, .unset, .unset, .unset] []))
      refine own_via (fun t k => XS.dload X53.here hx rfl (hb hby at_84) rfl k) ?_
      show own_G p e below _ (T53.setTop (mkF m 86 #[.val (.int p1), .val (.int p2), .val (.int p3), .val (.int p4), .val (.int (0 : Int32)), .val (.double (FP.i2d p1)), .second, .val (.double (FP.i2d p2)), .second, .val (.double (FP.i2d p4)), .second, .val (.ref b48), .val (.int (0 : Int32)), .val (.double (FP.i2d p1)), .second, .unset, .unset, .unset] [(.double (FP.i2d p1))]))
      refine own_via (fun t k => XS.dload X53.here hx rfl (hb hby at_86) rfl k) ?_
      show own_G p e below _ (T53.setTop (mkF m 88 #[.val (.int p1), .val (.int p2), .val (.int p3), .val (.int p4), .val (.int (0 : Int32)), .val (.double (FP.i2d p1)), .second, .val (.double (FP.i2d p2)), .second, .val (.double (FP.i2d p4)), .second, .val (.ref b48), .val (.int (0 : Int32)), .val (.double (FP.i2d p1)), .second, .unset, .unset, .unset] [(.double (FP.i2d p1)), (.double (FP.i2d p1))]))
      refine own_via (fun t k => XS.dcmpS X53.here hx rfl (hb hby at_88) rfl (own_dc_eq rfl _) k) ?_
      show own_G p e below _ (T53.setTop (mkF m 89 #[.val (.int p1), .val (.int p2), .val (.int p3), .val (.int p4), .val (.int (0 : Int32)), .val (.double (FP.i2d p1)), .second, .val (.double (FP.i2d p2)), .second, .val (.double (FP.i2d p4)), .second, .val (.ref b48), .val (.int (0 : Int32)), .val (.double (FP.i2d p1)), .second, .unset, .unset, .unset] [(.int (0 : Int32))]))
      refine own_via (fun t k => XS.ifYes X53.here hx rfl (pc0 := 89) (pc' := 100) rfl (hb hby at_89) rfl ((if0 _ _).trans (teq (by decide : (0 : Int32) = (0 : Int32))).1) (by decide) (by decide) k) ?_
      show own_G p e below _ (T53.setTop (mkF m 100 #[.val (.int p1), .val (.int p2), .val (.int p3), .val (.int p4), .val (.int (0 : Int32)), .val (.double (FP.i2d p1)), .second, .val (.double (FP.i2d p2)), .second, .val (.double (FP.i2d p4)), .second, .val (.ref b48), .val (.int (0 : Int32)), .val (.double (FP.i2d p1)), .second, .unset, .unset, .unset] []))
      refine own_via (fun t k => XS.iconst X53.here hx rfl (hb hby at_100) k) ?_
      show own_G p e below _ (T53.setTop (mkF m 101 #[.val (.int p1), .val (.int p2), .val (.int p3), .val (.int p4), .val (.int (0 : Int32)), .val (.double (FP.i2d p1)), .second, .val (.double (FP.i2d p2)), .second, .val (.double (FP.i2d p4)), .second, .val (.ref b48), .val (.int (0 : Int32)), .val (.double (FP.i2d p1)), .second, .unset, .unset, .unset] [(.int (1 : Int32))]))
      refine own_via (fun t k => XS.goto X53.here hx rfl (pc0 := 101) (pc' := 105) rfl (hb hby at_101) (by decide) (by decide) k) ?_
      show own_G p e below _ (T53.setTop (mkF m 105 #[.val (.int p1), .val (.int p2), .val (.int p3), .val (.int p4), .val (.int (0 : Int32)), .val (.double (FP.i2d p1)), .second, .val (.double (FP.i2d p2)), .second, .val (.double (FP.i2d p4)), .second, .val (.ref b48), .val (.int (0 : Int32)), .val (.double (FP.i2d p1)), .second, .unset, .unset, .unset] [(.int (1 : Int32))]))
      refine own_via (fun t k => XS.istore X53.here hx rfl (hb hby at_105) rfl (l' := #[.val (.int p1), .val (.int p2), .val (.int p3), .val (.int p4), .val (.int (0 : Int32)), .val (.double (FP.i2d p1)), .second, .val (.double (FP.i2d p2)), .second, .val (.double (FP.i2d p4)), .second, .val (.ref b48), .val (.int (0 : Int32)), .val (.double (FP.i2d p1)), .second, .val (.int (1 : Int32)), .unset, .unset]) rfl k) ?_
      show own_G p e below _ (T53.setTop (mkF m 107 #[.val (.int p1), .val (.int p2), .val (.int p3), .val (.int p4), .val (.int (0 : Int32)), .val (.double (FP.i2d p1)), .second, .val (.double (FP.i2d p2)), .second, .val (.double (FP.i2d p4)), .second, .val (.ref b48), .val (.int (0 : Int32)), .val (.double (FP.i2d p1)), .second, .val (.int (1 : Int32)), .unset, .unset] []))
      refine own_via (fun t k => XS.iload X53.here hx rfl (hb hby at_107) rfl k) ?_
      show own_G p e below _ (T53.setTop (mkF m 109 #[.val (.int p1), .val (.int p2), .val (.int p3), .val (.int p4), .val (.int (0 : Int32)), .val (.double (FP.i2d p1)), .second, .val (.double (FP.i2d p2)), .second, .val (.double (FP.i2d p4)), .second, .val (.ref b48), .val (.int (0 : Int32)), .val (.double (FP.i2d p1)), .second, .val (.int (1 : Int32)), .unset, .unset] [(.int (0 : Int32))]))
      refine own_via (fun t k => XS.dload X53.here hx rfl (hb hby at_109) rfl k) ?_
      show own_G p e below _ (T53.setTop (mkF m 111 #[.val (.int p1), .val (.int p2), .val (.int p3), .val (.int p4), .val (.int (0 : Int32)), .val (.double (FP.i2d p1)), .second, .val (.double (FP.i2d p2)), .second, .val (.double (FP.i2d p4)), .second, .val (.ref b48), .val (.int (0 : Int32)), .val (.double (FP.i2d p1)), .second, .val (.int (1 : Int32)), .unset, .unset] [(.double (FP.i2d p2)), (.int (0 : Int32))]))
      refine own_via (fun t k => XS.dload X53.here hx rfl (hb hby at_111) rfl k) ?_
      show own_G p e below _ (T53.setTop (mkF m 113 #[.val (.int p1), .val (.int p2), .val (.int p3), .val (.int p4), .val (.int (0 : Int32)), .val (.double (FP.i2d p1)), .second, .val (.double (FP.i2d p2)), .second, .val (.double (FP.i2d p4)), .second, .val (.ref b48), .val (.int (0 : Int32)), .val (.double (FP.i2d p1)), .second, .val (.int (1 : Int32)), .unset, .unset] [(.double (FP.i2d p1)), (.double (FP.i2d p2)), (.int (0 : Int32))]))
      refine own_via (fun t k => XS.dcmpS X53.here hx rfl (hb hby at_113) rfl (own_dc_gt hob _) k) ?_
      show own_G p e below _ (T53.setTop (mkF m 114 #[.val (.int p1), .val (.int p2), .val (.int p3), .val (.int p4), .val (.int (0 : Int32)), .val (.double (FP.i2d p1)), .second, .val (.double (FP.i2d p2)), .second, .val (.double (FP.i2d p4)), .second, .val (.ref b48), .val (.int (0 : Int32)), .val (.double (FP.i2d p1)), .second, .val (.int (1 : Int32)), .unset, .unset] [(.int (1 : Int32)), (.int (0 : Int32))]))
      refine own_via (fun t k => XS.ifYes X53.here hx rfl (pc0 := 114) (pc' := 121) rfl (hb hby at_114) rfl ((if0 _ _).trans (flt (by decide : ¬ ((1 : Int32) < (0 : Int32)))).2.1) (by decide) (by decide) k) ?_
      show own_G p e below _ (T53.setTop (mkF m 121 #[.val (.int p1), .val (.int p2), .val (.int p3), .val (.int p4), .val (.int (0 : Int32)), .val (.double (FP.i2d p1)), .second, .val (.double (FP.i2d p2)), .second, .val (.double (FP.i2d p4)), .second, .val (.ref b48), .val (.int (0 : Int32)), .val (.double (FP.i2d p1)), .second, .val (.int (1 : Int32)), .unset, .unset] [(.int (0 : Int32))]))
      refine own_via (fun t k => XS.iconst X53.here hx rfl (hb hby at_121) k) ?_
      show own_G p e below _ (T53.setTop (mkF m 122 #[.val (.int p1), .val (.int p2), .val (.int p3), .val (.int p4), .val (.int (0 : Int32)), .val (.double (FP.i2d p1)), .second, .val (.double (FP.i2d p2)), .second, .val (.double (FP.i2d p4)), .second, .val (.ref b48), .val (.int (0 : Int32)), .val (.double (FP.i2d p1)), .second, .val (.int (1 : Int32)), .unset, .unset] [(.int (0 : Int32)), (.int (0 : Int32))]))
      refine own_via (fun t k => XS.icmpNo X53.here hx rfl (hb hby at_122) rfl (teq (by decide : (0 : Int32) = (0 : Int32))).2 k) ?_
      show own_G p e below _ (T53.setTop (mkF m 125 #[.val (.int p1), .val (.int p2), .val (.int p3), .val (.int p4), .val (.int (0 : Int32)), .val (.double (FP.i2d p1)), .second, .val (.double (FP.i2d p2)), .second, .val (.double (FP.i2d p4)), .second, .val (.ref b48), .val (.int (0 : Int32)), .val (.double (FP.i2d p1)), .second, .val (.int (1 : Int32)), .unset, .unset] []))
      refine own_via (fun t k => XS.iconst X53.here hx rfl (hb hby at_125) k) ?_
      show own_G p e below _ (T53.setTop (mkF m 126 #[.val (.int p1), .val (.int p2), .val (.int p3), .val (.int p4), .val (.int (0 : Int32)), .val (.double (FP.i2d p1)), .second, .val (.double (FP.i2d p2)), .second, .val (.double (FP.i2d p4)), .second, .val (.ref b48), .val (.int (0 : Int32)), .val (.double (FP.i2d p1)), .second, .val (.int (1 : Int32)), .unset, .unset] [(.int (1 : Int32))]))
      refine own_via (fun t k => XS.goto X53.here hx rfl (pc0 := 126) (pc' := 130) rfl (hb hby at_126) (by decide) (by decide) k) ?_
      show own_G p e below _ (T53.setTop (mkF m 130 #[.val (.int p1), .val (.int p2), .val (.int p3), .val (.int p4), .val (.int (0 : Int32)), .val (.double (FP.i2d p1)), .second, .val (.double (FP.i2d p2)), .second, .val (.double (FP.i2d p4)), .second, .val (.ref b48), .val (.int (0 : Int32)), .val (.double (FP.i2d p1)), .second, .val (.int (1 : Int32)), .unset, .unset] [(.int (1 : Int32))]))
      refine own_via (fun t k => XS.istore X53.here hx rfl (hb hby at_130) rfl (l' := #[.val (.int p1), .val (.int p2), .val (.int p3), .val (.int p4), .val (.int (0 : Int32)), .val (.double (FP.i2d p1)), .second, .val (.double (FP.i2d p2)), .second, .val (.double (FP.i2d p4)), .second, .val (.ref b48), .val (.int (0 : Int32)), .val (.double (FP.i2d p1)), .second, .val (.int (1 : Int32)), .val (.int (1 : Int32)), .unset]) rfl k) ?_
      show own_G p e below _ (T53.setTop (mkF m 132 #[.val (.int p1), .val (.int p2), .val (.int p3), .val (.int p4), .val (.int (0 : Int32)), .val (.double (FP.i2d p1)), .second, .val (.double (FP.i2d p2)), .second, .val (.double (FP.i2d p4)), .second, .val (.ref b48), .val (.int (0 : Int32)), .val (.double (FP.i2d p1)), .second, .val (.int (1 : Int32)), .val (.int (1 : Int32)), .unset] []))
      refine own_via (fun t k => XS.iload X53.here hx rfl (hb hby at_132) rfl k) ?_
      show own_G p e below _ (T53.setTop (mkF m 134 #[.val (.int p1), .val (.int p2), .val (.int p3), .val (.int p4), .val (.int (0 : Int32)), .val (.double (FP.i2d p1)), .second, .val (.double (FP.i2d p2)), .second, .val (.double (FP.i2d p4)), .second, .val (.ref b48), .val (.int (0 : Int32)), .val (.double (FP.i2d p1)), .second, .val (.int (1 : Int32)), .val (.int (1 : Int32)), .unset] [(.int (0 : Int32))]))
      refine own_via (fun t k => XS.ifYes X53.here hx rfl (pc0 := 134) (pc' := 147) rfl (hb hby at_134) rfl ((if0 _ _).trans (teq (by decide : (0 : Int32) = (0 : Int32))).1) (by decide) (by decide) k) ?_
      show own_G p e below _ (T53.setTop (mkF m 147 #[.val (.int p1), .val (.int p2), .val (.int p3), .val (.int p4), .val (.int (0 : Int32)), .val (.double (FP.i2d p1)), .second, .val (.double (FP.i2d p2)), .second, .val (.double (FP.i2d p4)), .second, .val (.ref b48), .val (.int (0 : Int32)), .val (.double (FP.i2d p1)), .second, .val (.int (1 : Int32)), .val (.int (1 : Int32)), .unset] []))
      refine own_via (fun t k => XS.iload X53.here hx rfl (hb hby at_147) rfl k) ?_
      show own_G p e below _ (T53.setTop (mkF m 149 #[.val (.int p1), .val (.int p2), .val (.int p3), .val (.int p4), .val (.int (0 : Int32)), .val (.double (FP.i2d p1)), .second, .val (.double (FP.i2d p2)), .second, .val (.double (FP.i2d p4)), .second, .val (.ref b48), .val (.int (0 : Int32)), .val (.double (FP.i2d p1)), .second, .val (.int (1 : Int32)), .val (.int (1 : Int32)), .unset] [(.int (0 : Int32))]))
      refine own_via (fun t k => XS.iconst X53.here hx rfl (hb hby at_149) k) ?_
      show own_G p e below _ (T53.setTop (mkF m 150 #[.val (.int p1), .val (.int p2), .val (.int p3), .val (.int p4), .val (.int (0 : Int32)), .val (.double (FP.i2d p1)), .second, .val (.double (FP.i2d p2)), .second, .val (.double (FP.i2d p4)), .second, .val (.ref b48), .val (.int (0 : Int32)), .val (.double (FP.i2d p1)), .second, .val (.int (1 : Int32)), .val (.int (1 : Int32)), .unset] [(.int (1 : Int32)), (.int (0 : Int32))]))
      refine own_via (fun t k => XS.icmpNo X53.here hx rfl (hb hby at_150) rfl (feq (by decide : ¬ ((0 : Int32) = (1 : Int32)))).1 k) ?_
      show own_G p e below _ (T53.setTop (mkF m 153 #[.val (.int p1), .val (.int p2), .val (.int p3), .val (.int p4), .val (.int (0 : Int32)), .val (.double (FP.i2d p1)), .second, .val (.double (FP.i2d p2)), .second, .val (.double (FP.i2d p4)), .second, .val (.ref b48), .val (.int (0 : Int32)), .val (.double (FP.i2d p1)), .second, .val (.int (1 : Int32)), .val (.int (1 : Int32)), .unset] []))
      refine own_via (fun t k => XS.aload X53.here hx rfl (hb hby at_153) rfl rfl k) ?_
      show own_G p e below _ (T53.setTop (mkF m 155 #[.val (.int p1), .val (.int p2), .val (.int p3), .val (.int p4), .val (.int (0 : Int32)), .val (.double (FP.i2d p1)), .second, .val (.double (FP.i2d p2)), .second, .val (.double (FP.i2d p4)), .second, .val (.ref b48), .val (.int (0 : Int32)), .val (.double (FP.i2d p1)), .second, .val (.int (1 : Int32)), .val (.int (1 : Int32)), .unset] [(.ref b48)]))
      refine own_via (fun t k => XS.iconst X53.here hx rfl (hb hby at_155) k) ?_
      show own_G p e below _ (T53.setTop (mkF m 156 #[.val (.int p1), .val (.int p2), .val (.int p3), .val (.int p4), .val (.int (0 : Int32)), .val (.double (FP.i2d p1)), .second, .val (.double (FP.i2d p2)), .second, .val (.double (FP.i2d p4)), .second, .val (.ref b48), .val (.int (0 : Int32)), .val (.double (FP.i2d p1)), .second, .val (.int (1 : Int32)), .val (.int (1 : Int32)), .unset] [(.int (1 : Int32)), (.ref b48)]))
      obtain ⟨cl63, Ar63, q63, S63, Ng63, Hs63, G63⟩ := id V53
      have hin63 : ¬ ((1 : Int32) < 0 ∨ cl63.slots.size ≤ ((1 : Int32)).toNatClampNeg) := inb_of S63 ⟨by decide, by decide⟩
      have hat63 : cl63.slots[((1 : Int32)).toNatClampNeg]? = some (.double (FP.i2d p4)) := Hs63.at hin63 rfl
      refine own_via (fun t k => X53.daload hx (j := (1 : Int32)) (v := (.double (FP.i2d p4))) Ar63.1 (State.isArrayOf_alike hZ.alike Ar63.2.1) Ar63.2.2 hin63 hat63 (g := (mkF m 156 #[.val (.int p1), .val (.int p2), .val (.int p3), .val (.int p4), .val (.int (0 : Int32)), .val (.double (FP.i2d p1)), .second, .val (.double (FP.i2d p2)), .second, .val (.double (FP.i2d p4)), .second, .val (.ref b48), .val (.int (0 : Int32)), .val (.double (FP.i2d p1)), .second, .val (.int (1 : Int32)), .val (.int (1 : Int32)), .unset] [(.int (1 : Int32)), (.ref b48)])) rfl rfl (hb hby at_156) _ k) ?_
      show own_G p e below _ (T53.setTop (mkF m 157 #[.val (.int p1), .val (.int p2), .val (.int p3), .val (.int p4), .val (.int (0 : Int32)), .val (.double (FP.i2d p1)), .second, .val (.double (FP.i2d p2)), .second, .val (.double (FP.i2d p4)), .second, .val (.ref b48), .val (.int (0 : Int32)), .val (.double (FP.i2d p1)), .second, .val (.int (1 : Int32)), .val (.int (1 : Int32)), .unset] [(.double (FP.i2d p4))]))
      refine own_via (fun t k => XS.dload X53.here hx rfl (hb hby at_157) rfl k) ?_
      show own_G p e below _ (T53.setTop (mkF m 159 #[.val (.int p1), .val (.int p2), .val (.int p3), .val (.int p4), .val (.int (0 : Int32)), .val (.double (FP.i2d p1)), .second, .val (.double (FP.i2d p2)), .second, .val (.double (FP.i2d p4)), .second, .val (.ref b48), .val (.int (0 : Int32)), .val (.double (FP.i2d p1)), .second, .val (.int (1 : Int32)), .val (.int (1 : Int32)), .unset] [(.double (FP.i2d p4)), (.double (FP.i2d p4))]))
      refine own_via (fun t k => XS.dcmpS X53.here hx rfl (hb hby at_159) rfl (own_dc_eq rfl _) k) ?_
      show own_G p e below _ (T53.setTop (mkF m 160 #[.val (.int p1), .val (.int p2), .val (.int p3), .val (.int p4), .val (.int (0 : Int32)), .val (.double (FP.i2d p1)), .second, .val (.double (FP.i2d p2)), .second, .val (.double (FP.i2d p4)), .second, .val (.ref b48), .val (.int (0 : Int32)), .val (.double (FP.i2d p1)), .second, .val (.int (1 : Int32)), .val (.int (1 : Int32)), .unset] [(.int (0 : Int32))]))
      refine own_via (fun t k => XS.ifNo X53.here hx rfl (hb hby at_160) rfl ((if0 _ _).trans (teq (by decide : (0 : Int32) = (0 : Int32))).2) k) ?_
      show own_G p e below _ (T53.setTop (mkF m 163 #[.val (.int p1), .val (.int p2), .val (.int p3), .val (.int p4), .val (.int (0 : Int32)), .val (.double (FP.i2d p1)), .second, .val (.double (FP.i2d p2)), .second, .val (.double (FP.i2d p4)), .second, .val (.ref b48), .val (.int (0 : Int32)), .val (.double (FP.i2d p1)), .second, .val (.int (1 : Int32)), .val (.int (1 : Int32)), .unset] []))
      refine own_via (fun t k => XS.iload X53.here hx rfl (hb hby at_163) rfl k) ?_
      show own_G p e below _ (T53.setTop (mkF m 165 #[.val (.int p1), .val (.int p2), .val (.int p3), .val (.int p4), .val (.int (0 : Int32)), .val (.double (FP.i2d p1)), .second, .val (.double (FP.i2d p2)), .second, .val (.double (FP.i2d p4)), .second, .val (.ref b48), .val (.int (0 : Int32)), .val (.double (FP.i2d p1)), .second, .val (.int (1 : Int32)), .val (.int (1 : Int32)), .unset] [(.int (0 : Int32))]))
      refine own_via (fun t k => XS.iconst X53.here hx rfl (hb hby at_165) k) ?_
      show own_G p e below _ (T53.setTop (mkF m 166 #[.val (.int p1), .val (.int p2), .val (.int p3), .val (.int p4), .val (.int (0 : Int32)), .val (.double (FP.i2d p1)), .second, .val (.double (FP.i2d p2)), .second, .val (.double (FP.i2d p4)), .second, .val (.ref b48), .val (.int (0 : Int32)), .val (.double (FP.i2d p1)), .second, .val (.int (1 : Int32)), .val (.int (1 : Int32)), .unset] [(.int (2 : Int32)), (.int (0 : Int32))]))
      refine own_via (fun t k => XS.icmpNo X53.here hx rfl (hb hby at_166) rfl (feq (by decide : ¬ ((0 : Int32) = (2 : Int32)))).1 k) ?_
      show own_G p e below _ (T53.setTop (mkF m 169 #[.val (.int p1), .val (.int p2), .val (.int p3), .val (.int p4), .val (.int (0 : Int32)), .val (.double (FP.i2d p1)), .second, .val (.double (FP.i2d p2)), .second, .val (.double (FP.i2d p4)), .second, .val (.ref b48), .val (.int (0 : Int32)), .val (.double (FP.i2d p1)), .second, .val (.int (1 : Int32)), .val (.int (1 : Int32)), .unset] []))
      refine own_via (fun t k => XS.aload X53.here hx rfl (hb hby at_169) rfl rfl k) ?_
      show own_G p e below _ (T53.setTop (mkF m 171 #[.val (.int p1), .val (.int p2), .val (.int p3), .val (.int p4), .val (.int (0 : Int32)), .val (.double (FP.i2d p1)), .second, .val (.double (FP.i2d p2)), .second, .val (.double (FP.i2d p4)), .second, .val (.ref b48), .val (.int (0 : Int32)), .val (.double (FP.i2d p1)), .second, .val (.int (1 : Int32)), .val (.int (1 : Int32)), .unset] [(.ref b48)]))
      refine own_via (fun t k => XS.iconst X53.here hx rfl (hb hby at_171) k) ?_
      show own_G p e below _ (T53.setTop (mkF m 172 #[.val (.int p1), .val (.int p2), .val (.int p3), .val (.int p4), .val (.int (0 : Int32)), .val (.double (FP.i2d p1)), .second, .val (.double (FP.i2d p2)), .second, .val (.double (FP.i2d p4)), .second, .val (.ref b48), .val (.int (0 : Int32)), .val (.double (FP.i2d p1)), .second, .val (.int (1 : Int32)), .val (.int (1 : Int32)), .unset] [(.int (2 : Int32)), (.ref b48)]))
      obtain ⟨cl66, Ar66, q66, S66, Ng66, Hs66, G66⟩ := id V53
      have hin66 : ¬ ((2 : Int32) < 0 ∨ cl66.slots.size ≤ ((2 : Int32)).toNatClampNeg) := inb_of S66 ⟨by decide, by decide⟩
      have hat66 : cl66.slots[((2 : Int32)).toNatClampNeg]? = some (.double (FP.i2d p4)) := Hs66.at hin66 rfl
      refine own_via (fun t k => X53.daload hx (j := (2 : Int32)) (v := (.double (FP.i2d p4))) Ar66.1 (State.isArrayOf_alike hZ.alike Ar66.2.1) Ar66.2.2 hin66 hat66 (g := (mkF m 172 #[.val (.int p1), .val (.int p2), .val (.int p3), .val (.int p4), .val (.int (0 : Int32)), .val (.double (FP.i2d p1)), .second, .val (.double (FP.i2d p2)), .second, .val (.double (FP.i2d p4)), .second, .val (.ref b48), .val (.int (0 : Int32)), .val (.double (FP.i2d p1)), .second, .val (.int (1 : Int32)), .val (.int (1 : Int32)), .unset] [(.int (2 : Int32)), (.ref b48)])) rfl rfl (hb hby at_172) _ k) ?_
      show own_G p e below _ (T53.setTop (mkF m 173 #[.val (.int p1), .val (.int p2), .val (.int p3), .val (.int p4), .val (.int (0 : Int32)), .val (.double (FP.i2d p1)), .second, .val (.double (FP.i2d p2)), .second, .val (.double (FP.i2d p4)), .second, .val (.ref b48), .val (.int (0 : Int32)), .val (.double (FP.i2d p1)), .second, .val (.int (1 : Int32)), .val (.int (1 : Int32)), .unset] [(.double (FP.i2d p4))]))
      refine own_via (fun t k => XS.dload X53.here hx rfl (hb hby at_173) rfl k) ?_
      show own_G p e below _ (T53.setTop (mkF m 175 #[.val (.int p1), .val (.int p2), .val (.int p3), .val (.int p4), .val (.int (0 : Int32)), .val (.double (FP.i2d p1)), .second, .val (.double (FP.i2d p2)), .second, .val (.double (FP.i2d p4)), .second, .val (.ref b48), .val (.int (0 : Int32)), .val (.double (FP.i2d p1)), .second, .val (.int (1 : Int32)), .val (.int (1 : Int32)), .unset] [(.double (FP.i2d p4)), (.double (FP.i2d p4))]))
      refine own_via (fun t k => XS.dcmpS X53.here hx rfl (hb hby at_175) rfl (own_dc_eq rfl _) k) ?_
      show own_G p e below _ (T53.setTop (mkF m 176 #[.val (.int p1), .val (.int p2), .val (.int p3), .val (.int p4), .val (.int (0 : Int32)), .val (.double (FP.i2d p1)), .second, .val (.double (FP.i2d p2)), .second, .val (.double (FP.i2d p4)), .second, .val (.ref b48), .val (.int (0 : Int32)), .val (.double (FP.i2d p1)), .second, .val (.int (1 : Int32)), .val (.int (1 : Int32)), .unset] [(.int (0 : Int32))]))
      refine own_via (fun t k => XS.ifNo X53.here hx rfl (hb hby at_176) rfl ((if0 _ _).trans (teq (by decide : (0 : Int32) = (0 : Int32))).2) k) ?_
      show own_G p e below _ (T53.setTop (mkF m 179 #[.val (.int p1), .val (.int p2), .val (.int p3), .val (.int p4), .val (.int (0 : Int32)), .val (.double (FP.i2d p1)), .second, .val (.double (FP.i2d p2)), .second, .val (.double (FP.i2d p4)), .second, .val (.ref b48), .val (.int (0 : Int32)), .val (.double (FP.i2d p1)), .second, .val (.int (1 : Int32)), .val (.int (1 : Int32)), .unset] []))
      refine own_via (fun t k => XS.iconst X53.here hx rfl (hb hby at_179) k) ?_
      show own_G p e below _ (T53.setTop (mkF m 180 #[.val (.int p1), .val (.int p2), .val (.int p3), .val (.int p4), .val (.int (0 : Int32)), .val (.double (FP.i2d p1)), .second, .val (.double (FP.i2d p2)), .second, .val (.double (FP.i2d p4)), .second, .val (.ref b48), .val (.int (0 : Int32)), .val (.double (FP.i2d p1)), .second, .val (.int (1 : Int32)), .val (.int (1 : Int32)), .unset] [(.int (1 : Int32))]))
      refine own_via (fun t k => XS.goto X53.here hx rfl (pc0 := 180) (pc' := 184) rfl (hb hby at_180) (by decide) (by decide) k) ?_
      show own_G p e below _ (T53.setTop (mkF m 184 #[.val (.int p1), .val (.int p2), .val (.int p3), .val (.int p4), .val (.int (0 : Int32)), .val (.double (FP.i2d p1)), .second, .val (.double (FP.i2d p2)), .second, .val (.double (FP.i2d p4)), .second, .val (.ref b48), .val (.int (0 : Int32)), .val (.double (FP.i2d p1)), .second, .val (.int (1 : Int32)), .val (.int (1 : Int32)), .unset] [(.int (1 : Int32))]))
      refine own_via (fun t k => XS.istore X53.here hx rfl (hb hby at_184) rfl (l' := #[.val (.int p1), .val (.int p2), .val (.int p3), .val (.int p4), .val (.int (0 : Int32)), .val (.double (FP.i2d p1)), .second, .val (.double (FP.i2d p2)), .second, .val (.double (FP.i2d p4)), .second, .val (.ref b48), .val (.int (0 : Int32)), .val (.double (FP.i2d p1)), .second, .val (.int (1 : Int32)), .val (.int (1 : Int32)), .val (.int (1 : Int32))]) rfl k) ?_
      show own_G p e below _ (T53.setTop (mkF m 186 #[.val (.int p1), .val (.int p2), .val (.int p3), .val (.int p4), .val (.int (0 : Int32)), .val (.double (FP.i2d p1)), .second, .val (.double (FP.i2d p2)), .second, .val (.double (FP.i2d p4)), .second, .val (.ref b48), .val (.int (0 : Int32)), .val (.double (FP.i2d p1)), .second, .val (.int (1 : Int32)), .val (.int (1 : Int32)), .val (.int (1 : Int32))] []))
      refine own_via (fun t k => XS.iload X53.here hx rfl (hb hby at_186) rfl k) ?_
      show own_G p e below _ (T53.setTop (mkF m 188 #[.val (.int p1), .val (.int p2), .val (.int p3), .val (.int p4), .val (.int (0 : Int32)), .val (.double (FP.i2d p1)), .second, .val (.double (FP.i2d p2)), .second, .val (.double (FP.i2d p4)), .second, .val (.ref b48), .val (.int (0 : Int32)), .val (.double (FP.i2d p1)), .second, .val (.int (1 : Int32)), .val (.int (1 : Int32)), .val (.int (1 : Int32))] [(.int (1 : Int32))]))
      refine own_via (fun t k => XS.ifNo X53.here hx rfl (hb hby at_188) rfl ((if0 _ _).trans (feq (by decide : ¬ ((1 : Int32) = (0 : Int32)))).1) k) ?_
      show own_G p e below _ (T53.setTop (mkF m 191 #[.val (.int p1), .val (.int p2), .val (.int p3), .val (.int p4), .val (.int (0 : Int32)), .val (.double (FP.i2d p1)), .second, .val (.double (FP.i2d p2)), .second, .val (.double (FP.i2d p4)), .second, .val (.ref b48), .val (.int (0 : Int32)), .val (.double (FP.i2d p1)), .second, .val (.int (1 : Int32)), .val (.int (1 : Int32)), .val (.int (1 : Int32))] []))
      refine own_via (fun t k => XS.iload X53.here hx rfl (hb hby at_191) rfl k) ?_
      show own_G p e below _ (T53.setTop (mkF m 193 #[.val (.int p1), .val (.int p2), .val (.int p3), .val (.int p4), .val (.int (0 : Int32)), .val (.double (FP.i2d p1)), .second, .val (.double (FP.i2d p2)), .second, .val (.double (FP.i2d p4)), .second, .val (.ref b48), .val (.int (0 : Int32)), .val (.double (FP.i2d p1)), .second, .val (.int (1 : Int32)), .val (.int (1 : Int32)), .val (.int (1 : Int32))] [(.int (1 : Int32))]))
      refine own_via (fun t k => XS.ifNo X53.here hx rfl (hb hby at_193) rfl ((if0 _ _).trans (feq (by decide : ¬ ((1 : Int32) = (0 : Int32)))).1) k) ?_
      show own_G p e below _ (T53.setTop (mkF m 196 #[.val (.int p1), .val (.int p2), .val (.int p3), .val (.int p4), .val (.int (0 : Int32)), .val (.double (FP.i2d p1)), .second, .val (.double (FP.i2d p2)), .second, .val (.double (FP.i2d p4)), .second, .val (.ref b48), .val (.int (0 : Int32)), .val (.double (FP.i2d p1)), .second, .val (.int (1 : Int32)), .val (.int (1 : Int32)), .val (.int (1 : Int32))] []))
      refine own_via (fun t k => XS.iload X53.here hx rfl (hb hby at_196) rfl k) ?_
      show own_G p e below _ (T53.setTop (mkF m 198 #[.val (.int p1), .val (.int p2), .val (.int p3), .val (.int p4), .val (.int (0 : Int32)), .val (.double (FP.i2d p1)), .second, .val (.double (FP.i2d p2)), .second, .val (.double (FP.i2d p4)), .second, .val (.ref b48), .val (.int (0 : Int32)), .val (.double (FP.i2d p1)), .second, .val (.int (1 : Int32)), .val (.int (1 : Int32)), .val (.int (1 : Int32))] [(.int (1 : Int32))]))
      refine own_via (fun t k => XS.ifNo X53.here hx rfl (hb hby at_198) rfl ((if0 _ _).trans (feq (by decide : ¬ ((1 : Int32) = (0 : Int32)))).1) k) ?_
      show own_G p e below _ (T53.setTop (mkF m 201 #[.val (.int p1), .val (.int p2), .val (.int p3), .val (.int p4), .val (.int (0 : Int32)), .val (.double (FP.i2d p1)), .second, .val (.double (FP.i2d p2)), .second, .val (.double (FP.i2d p4)), .second, .val (.ref b48), .val (.int (0 : Int32)), .val (.double (FP.i2d p1)), .second, .val (.int (1 : Int32)), .val (.int (1 : Int32)), .val (.int (1 : Int32))] []))
      refine own_via (fun t k => XS.iconst X53.here hx rfl (hb hby at_201) k) ?_
      show own_G p e below _ (T53.setTop (mkF m 202 #[.val (.int p1), .val (.int p2), .val (.int p3), .val (.int p4), .val (.int (0 : Int32)), .val (.double (FP.i2d p1)), .second, .val (.double (FP.i2d p2)), .second, .val (.double (FP.i2d p4)), .second, .val (.ref b48), .val (.int (0 : Int32)), .val (.double (FP.i2d p1)), .second, .val (.int (1 : Int32)), .val (.int (1 : Int32)), .val (.int (1 : Int32))] [(.int (1 : Int32))]))
      refine own_via (fun t k => XS.goto X53.here hx rfl (pc0 := 202) (pc' := 206) rfl (hb hby at_202) (by decide) (by decide) k) ?_
      show own_G p e below _ (T53.setTop (mkF m 206 #[.val (.int p1), .val (.int p2), .val (.int p3), .val (.int p4), .val (.int (0 : Int32)), .val (.double (FP.i2d p1)), .second, .val (.double (FP.i2d p2)), .second, .val (.double (FP.i2d p4)), .second, .val (.ref b48), .val (.int (0 : Int32)), .val (.double (FP.i2d p1)), .second, .val (.int (1 : Int32)), .val (.int (1 : Int32)), .val (.int (1 : Int32))] [(.int (1 : Int32))]))
      obtain ⟨fs, hr, hrun, hended, hW, hsame⟩ := X53.leave (v := some (.int (1 : Int32))) (fun h => by rw [Bd.returns] at h; cases h)
      refine ⟨_, _, retN X53 hx (t := .boolean) Bd.returns (by simp) (hb hby at_206) hr, hrun, hended, _, _, rfl, ?_, ⟨_, rfl⟩, hW, hsame.mono (by decide) (by decide)⟩
      show rm0_Q Z p1 p2 p3 p4 h0 n0 _ T53.heap _
      exact ⟨rfl, N53⟩
  · rcases own_tri p2 p1 with hob | hob | hob
    · rw [hk]
      show own_G p e below _ (s₁.setTop (mkF m 6 #[.val (.int p1), .val (.int p2), .val (.int p3), .val (.int p4), .unset, .unset, .unset, .unset, .unset, .unset, .unset, .unset, .unset, .unset, .unset, .unset, .unset, .unset] [(.int (1 : Int32))]))
      refine own_via (fun t k => XS.istore X0.here hx rfl (hb hby at_6) rfl (l' := #[.val (.int p1), .val (.int p2), .val (.int p3), .val (.int p4), .val (.int (1 : Int32)), .unset, .unset, .unset, .unset, .unset, .unset, .unset, .unset, .unset, .unset, .unset, .unset, .unset]) rfl k) ?_
      show own_G p e below _ (s₁.setTop (mkF m 8 #[.val (.int p1), .val (.int p2), .val (.int p3), .val (.int p4), .val (.int (1 : Int32)), .unset, .unset, .unset, .unset, .unset, .unset, .unset, .unset, .unset, .unset, .unset, .unset, .unset] []))
      refine own_via (fun t k => XS.iloadN X0.here hx rfl (hb hby at_8) rfl k) ?_
      show own_G p e below _ (s₁.setTop (mkF m 9 #[.val (.int p1), .val (.int p2), .val (.int p3), .val (.int p4), .val (.int (1 : Int32)), .unset, .unset, .unset, .unset, .unset, .unset, .unset, .unset, .unset, .unset, .unset, .unset, .unset] [(.int p1)]))
      refine own_via (fun t k => XS.i2dS X0.here hx rfl (hb hby at_9) rfl rfl k) ?_
      show own_G p e below _ (s₁.setTop (mkF m 10 #[.val (.int p1), .val (.int p2), .val (.int p3), .val (.int p4), .val (.int (1 : Int32)), .unset, .unset, .unset, .unset, .unset, .unset, .unset, .unset, .unset, .unset, .unset, .unset, .unset] [(.double (FP.i2d p1))]))
      refine own_via (fun t k => XS.dstore X0.here hx rfl (hb hby at_10) rfl (l' := #[.val (.int p1), .val (.int p2), .val (.int p3), .val (.int p4), .val (.int (1 : Int32)), .val (.double (FP.i2d p1)), .second, .unset, .unset, .unset, .unset, .unset, .unset, .unset, .unset, .unset, .unset, .unset]) rfl k) ?_
      show own_G p e below _ (s₁.setTop (mkF m 12 #[.val (.int p1), .val (.int p2), .val (.int p3), .val (.int p4), .val (.int (1 : Int32)), .val (.double (FP.i2d p1)), .second, .unset, .unset, .unset, .unset, .unset, .unset, .unset, .unset, .unset, .unset, .unset] []))
      refine own_via (fun t k => XS.iloadN X0.here hx rfl (hb hby at_12) rfl k) ?_
      show own_G p e below _ (s₁.setTop (mkF m 13 #[.val (.int p1), .val (.int p2), .val (.int p3), .val (.int p4), .val (.int (1 : Int32)), .val (.double (FP.i2d p1)), .second, .unset, .unset, .unset, .unset, .unset, .unset, .unset, .unset, .unset, .unset, .unset] [(.int p2)]))
      refine own_via (fun t k => XS.i2dS X0.here hx rfl (hb hby at_13) rfl rfl k) ?_
      show own_G p e below _ (s₁.setTop (mkF m 14 #[.val (.int p1), .val (.int p2), .val (.int p3), .val (.int p4), .val (.int (1 : Int32)), .val (.double (FP.i2d p1)), .second, .unset, .unset, .unset, .unset, .unset, .unset, .unset, .unset, .unset, .unset, .unset] [(.double (FP.i2d p2))]))
      refine own_via (fun t k => XS.dstore X0.here hx rfl (hb hby at_14) rfl (l' := #[.val (.int p1), .val (.int p2), .val (.int p3), .val (.int p4), .val (.int (1 : Int32)), .val (.double (FP.i2d p1)), .second, .val (.double (FP.i2d p2)), .second, .unset, .unset, .unset, .unset, .unset, .unset, .unset, .unset, .unset]) rfl k) ?_
      show own_G p e below _ (s₁.setTop (mkF m 16 #[.val (.int p1), .val (.int p2), .val (.int p3), .val (.int p4), .val (.int (1 : Int32)), .val (.double (FP.i2d p1)), .second, .val (.double (FP.i2d p2)), .second, .unset, .unset, .unset, .unset, .unset, .unset, .unset, .unset, .unset] []))
      refine own_via (fun t k => XS.iloadN X0.here hx rfl (hb hby at_16) rfl k) ?_
      show own_G p e below _ (s₁.setTop (mkF m 17 #[.val (.int p1), .val (.int p2), .val (.int p3), .val (.int p4), .val (.int (1 : Int32)), .val (.double (FP.i2d p1)), .second, .val (.double (FP.i2d p2)), .second, .unset, .unset, .unset, .unset, .unset, .unset, .unset, .unset, .unset] [(.int p4)]))
      refine own_via (fun t k => XS.i2dS X0.here hx rfl (hb hby at_17) rfl rfl k) ?_
      show own_G p e below _ (s₁.setTop (mkF m 18 #[.val (.int p1), .val (.int p2), .val (.int p3), .val (.int p4), .val (.int (1 : Int32)), .val (.double (FP.i2d p1)), .second, .val (.double (FP.i2d p2)), .second, .unset, .unset, .unset, .unset, .unset, .unset, .unset, .unset, .unset] [(.double (FP.i2d p4))]))
      refine own_via (fun t k => XS.dstore X0.here hx rfl (hb hby at_18) rfl (l' := #[.val (.int p1), .val (.int p2), .val (.int p3), .val (.int p4), .val (.int (1 : Int32)), .val (.double (FP.i2d p1)), .second, .val (.double (FP.i2d p2)), .second, .val (.double (FP.i2d p4)), .second, .unset, .unset, .unset, .unset, .unset, .unset, .unset]) rfl k) ?_
      show own_G p e below _ (s₁.setTop (mkF m 20 #[.val (.int p1), .val (.int p2), .val (.int p3), .val (.int p4), .val (.int (1 : Int32)), .val (.double (FP.i2d p1)), .second, .val (.double (FP.i2d p2)), .second, .val (.double (FP.i2d p4)), .second, .unset, .unset, .unset, .unset, .unset, .unset, .unset] []))
      refine own_via (fun t k => XS.iconst X0.here hx rfl (hb hby at_20) k) ?_
      show own_G p e below _ (s₁.setTop (mkF m 21 #[.val (.int p1), .val (.int p2), .val (.int p3), .val (.int p4), .val (.int (1 : Int32)), .val (.double (FP.i2d p1)), .second, .val (.double (FP.i2d p2)), .second, .val (.double (FP.i2d p4)), .second, .unset, .unset, .unset, .unset, .unset, .unset, .unset] [(.int (3 : Int32))]))
      obtain ⟨T71, h71, k71, X71, e71, E71, A71, st71⟩ := newP X0 hx hZ (hw _ (List.mem_of_getElem? (i := 1) rfl)) e0 (g := (mkF m 21 #[.val (.int p1), .val (.int p2), .val (.int p3), .val (.int p4), .val (.int (1 : Int32)), .val (.double (FP.i2d p1)), .second, .val (.double (FP.i2d p2)), .second, .val (.double (FP.i2d p4)), .second, .unset, .unset, .unset, .unset, .unset, .unset, .unset] [(.int (3 : Int32))])) rfl (hb hby at_21) rfl (by decide) (cap := 3) (by decide) (by decide) (by decide) (by decide)
      obtain ⟨b71, g71⟩ : ∃ z, z = h0.size := ⟨_, rfl⟩
      rw [← g71] at A71 st71
      have gx_b71 : n0 ≤ b71 := Nat.le_trans Z0 (Nat.le_of_eq g71.symm)
      have Z71 : n0 ≤ h71.size := Nat.le_trans Z0 E71.1
      have V71 : Arv Z h71 b71 k71 .double (3 : Int32) [(.double (0 : UInt64)), (.double (0 : UInt64)), (.double (0 : UInt64))] (.double (0 : UInt64)) := (Arv.new A71 (by decide)).pad (pad_rep [] (.double (0 : UInt64)) 3)
      refine own_via st71 ?_
      show own_G p e below _ (T71.setTop (mkF m 23 #[.val (.int p1), .val (.int p2), .val (.int p3), .val (.int p4), .val (.int (1 : Int32)), .val (.double (FP.i2d p1)), .second, .val (.double (FP.i2d p2)), .second, .val (.double (FP.i2d p4)), .second, .unset, .unset, .unset, .unset, .unset, .unset, .unset] [(.ref b71)]))
      refine own_via (fun t k => XS.astore X71.here hx rfl (hb hby at_23) rfl rfl (l' := #[.val (.int p1), .val (.int p2), .val (.int p3), .val (.int p4), .val (.int (1 : Int32)), .val (.double (FP.i2d p1)), .second, .val (.double (FP.i2d p2)), .second, .val (.double (FP.i2d p4)), .second, .val (.ref b71), .unset, .unset, .unset, .unset, .unset, .unset]) rfl k) ?_
      show own_G p e below _ (T71.setTop (mkF m 25 #[.val (.int p1), .val (.int p2), .val (.int p3), .val (.int p4), .val (.int (1 : Int32)), .val (.double (FP.i2d p1)), .second, .val (.double (FP.i2d p2)), .second, .val (.double (FP.i2d p4)), .second, .val (.ref b71), .unset, .unset, .unset, .unset, .unset, .unset] []))
      refine own_via (fun t k => XS.aload X71.here hx rfl (hb hby at_25) rfl rfl k) ?_
      show own_G p e below _ (T71.setTop (mkF m 27 #[.val (.int p1), .val (.int p2), .val (.int p3), .val (.int p4), .val (.int (1 : Int32)), .val (.double (FP.i2d p1)), .second, .val (.double (FP.i2d p2)), .second, .val (.double (FP.i2d p4)), .second, .val (.ref b71), .unset, .unset, .unset, .unset, .unset, .unset] [(.ref b71)]))
      refine own_via (fun t k => XS.iconst X71.here hx rfl (hb hby at_27) k) ?_
      show own_G p e below _ (T71.setTop (mkF m 28 #[.val (.int p1), .val (.int p2), .val (.int p3), .val (.int p4), .val (.int (1 : Int32)), .val (.double (FP.i2d p1)), .second, .val (.double (FP.i2d p2)), .second, .val (.double (FP.i2d p4)), .second, .val (.ref b71), .unset, .unset, .unset, .unset, .unset, .unset] [(.int (0 : Int32)), (.ref b71)]))
      refine own_via (fun t k => XS.dload X71.here hx rfl (hb hby at_28) rfl k) ?_
      show own_G p e below _ (T71.setTop (mkF m 30 #[.val (.int p1), .val (.int p2), .val (.int p3), .val (.int p4), .val (.int (1 : Int32)), .val (.double (FP.i2d p1)), .second, .val (.double (FP.i2d p2)), .second, .val (.double (FP.i2d p4)), .second, .val (.ref b71), .unset, .unset, .unset, .unset, .unset, .unset] [(.double (FP.i2d p4)), (.int (0 : Int32)), (.ref b71)]))
      obtain ⟨cl72, Ar72, q72, S72, Ng72, Hs72, G72⟩ := id V71
      have hin72 : ¬ ((0 : Int32) < 0 ∨ cl72.slots.size ≤ ((0 : Int32)).toNatClampNeg) := inb_of S72 ⟨by decide, by decide⟩
      obtain ⟨T72, h72, X72, e72, W72, st72⟩ := stD X71 hx hZ e71 Ar72 (j := (0 : Int32)) hin72 (g := (mkF m 30 #[.val (.int p1), .val (.int p2), .val (.int p3), .val (.int p4), .val (.int (1 : Int32)), .val (.double (FP.i2d p1)), .second, .val (.double (FP.i2d p2)), .second, .val (.double (FP.i2d p4)), .second, .val (.ref b71), .unset, .unset, .unset, .unset, .unset, .unset] [(.double (FP.i2d p4)), (.int (0 : Int32)), (.ref b71)])) rfl rfl (hb hby at_30)
      have V72 : Arv Z h72 b71 k71 .double (3 : Int32) [(.double (FP.i2d p4)), (.double (0 : UInt64)), (.double (0 : UInt64))] (.double (0 : UInt64)) := Arv.set Ar72 q72 S72 Ng72 Hs72 G72 rfl W72 0 rfl (Nat.le_of_ble_eq_true rfl)
      have N72 := Fr.snoc X72 N0 gx_b71
      have Z72 : n0 ≤ h72.size := Nat.le_trans Z71 (Nat.le_of_eq W72.size.symm)
      refine own_via st72 ?_
      show own_G p e below _ (T72.setTop (mkF m 31 #[.val (.int p1), .val (.int p2), .val (.int p3), .val (.int p4), .val (.int (1 : Int32)), .val (.double (FP.i2d p1)), .second, .val (.double (FP.i2d p2)), .second, .val (.double (FP.i2d p4)), .second, .val (.ref b71), .unset, .unset, .unset, .unset, .unset, .unset] []))
      refine own_via (fun t k => XS.aload X72.here hx rfl (hb hby at_31) rfl rfl k) ?_
      show own_G p e below _ (T72.setTop (mkF m 33 #[.val (.int p1), .val (.int p2), .val (.int p3), .val (.int p4), .val (.int (1 : Int32)), .val (.double (FP.i2d p1)), .second, .val (.double (FP.i2d p2)), .second, .val (.double (FP.i2d p4)), .second, .val (.ref b71), .unset, .unset, .unset, .unset, .unset, .unset] [(.ref b71)]))
      refine own_via (fun t k => XS.iconst X72.here hx rfl (hb hby at_33) k) ?_
      show own_G p e below _ (T72.setTop (mkF m 34 #[.val (.int p1), .val (.int p2), .val (.int p3), .val (.int p4), .val (.int (1 : Int32)), .val (.double (FP.i2d p1)), .second, .val (.double (FP.i2d p2)), .second, .val (.double (FP.i2d p4)), .second, .val (.ref b71), .unset, .unset, .unset, .unset, .unset, .unset] [(.int (1 : Int32)), (.ref b71)]))
      refine own_via (fun t k => XS.dload X72.here hx rfl (hb hby at_34) rfl k) ?_
      show own_G p e below _ (T72.setTop (mkF m 36 #[.val (.int p1), .val (.int p2), .val (.int p3), .val (.int p4), .val (.int (1 : Int32)), .val (.double (FP.i2d p1)), .second, .val (.double (FP.i2d p2)), .second, .val (.double (FP.i2d p4)), .second, .val (.ref b71), .unset, .unset, .unset, .unset, .unset, .unset] [(.double (FP.i2d p4)), (.int (1 : Int32)), (.ref b71)]))
      obtain ⟨cl73, Ar73, q73, S73, Ng73, Hs73, G73⟩ := id V72
      have hin73 : ¬ ((1 : Int32) < 0 ∨ cl73.slots.size ≤ ((1 : Int32)).toNatClampNeg) := inb_of S73 ⟨by decide, by decide⟩
      obtain ⟨T73, h73, X73, e73, W73, st73⟩ := stD X72 hx hZ e72 Ar73 (j := (1 : Int32)) hin73 (g := (mkF m 36 #[.val (.int p1), .val (.int p2), .val (.int p3), .val (.int p4), .val (.int (1 : Int32)), .val (.double (FP.i2d p1)), .second, .val (.double (FP.i2d p2)), .second, .val (.double (FP.i2d p4)), .second, .val (.ref b71), .unset, .unset, .unset, .unset, .unset, .unset] [(.double (FP.i2d p4)), (.int (1 : Int32)), (.ref b71)])) rfl rfl (hb hby at_36)
      have V73 : Arv Z h73 b71 k71 .double (3 : Int32) [(.double (FP.i2d p4)), (.double (FP.i2d p4)), (.double (0 : UInt64))] (.double (0 : UInt64)) := Arv.set Ar73 q73 S73 Ng73 Hs73 G73 rfl W73 1 rfl (Nat.le_of_ble_eq_true rfl)
      have N73 := Fr.snoc X73 N72 gx_b71
      have Z73 : n0 ≤ h73.size := Nat.le_trans Z72 (Nat.le_of_eq W73.size.symm)
      refine own_via st73 ?_
      show own_G p e below _ (T73.setTop (mkF m 37 #[.val (.int p1), .val (.int p2), .val (.int p3), .val (.int p4), .val (.int (1 : Int32)), .val (.double (FP.i2d p1)), .second, .val (.double (FP.i2d p2)), .second, .val (.double (FP.i2d p4)), .second, .val (.ref b71), .unset, .unset, .unset, .unset, .unset, .unset] []))
      refine own_via (fun t k => XS.aload X73.here hx rfl (hb hby at_37) rfl rfl k) ?_
      show own_G p e below _ (T73.setTop (mkF m 39 #[.val (.int p1), .val (.int p2), .val (.int p3), .val (.int p4), .val (.int (1 : Int32)), .val (.double (FP.i2d p1)), .second, .val (.double (FP.i2d p2)), .second, .val (.double (FP.i2d p4)), .second, .val (.ref b71), .unset, .unset, .unset, .unset, .unset, .unset] [(.ref b71)]))
      refine own_via (fun t k => XS.iconst X73.here hx rfl (hb hby at_39) k) ?_
      show own_G p e below _ (T73.setTop (mkF m 40 #[.val (.int p1), .val (.int p2), .val (.int p3), .val (.int p4), .val (.int (1 : Int32)), .val (.double (FP.i2d p1)), .second, .val (.double (FP.i2d p2)), .second, .val (.double (FP.i2d p4)), .second, .val (.ref b71), .unset, .unset, .unset, .unset, .unset, .unset] [(.int (2 : Int32)), (.ref b71)]))
      refine own_via (fun t k => XS.dload X73.here hx rfl (hb hby at_40) rfl k) ?_
      show own_G p e below _ (T73.setTop (mkF m 42 #[.val (.int p1), .val (.int p2), .val (.int p3), .val (.int p4), .val (.int (1 : Int32)), .val (.double (FP.i2d p1)), .second, .val (.double (FP.i2d p2)), .second, .val (.double (FP.i2d p4)), .second, .val (.ref b71), .unset, .unset, .unset, .unset, .unset, .unset] [(.double (FP.i2d p4)), (.int (2 : Int32)), (.ref b71)]))
      obtain ⟨cl74, Ar74, q74, S74, Ng74, Hs74, G74⟩ := id V73
      have hin74 : ¬ ((2 : Int32) < 0 ∨ cl74.slots.size ≤ ((2 : Int32)).toNatClampNeg) := inb_of S74 ⟨by decide, by decide⟩
      obtain ⟨T74, h74, X74, e74, W74, st74⟩ := stD X73 hx hZ e73 Ar74 (j := (2 : Int32)) hin74 (g := (mkF m 42 #[.val (.int p1), .val (.int p2), .val (.int p3), .val (.int p4), .val (.int (1 : Int32)), .val (.double (FP.i2d p1)), .second, .val (.double (FP.i2d p2)), .second, .val (.double (FP.i2d p4)), .second, .val (.ref b71), .unset, .unset, .unset, .unset, .unset, .unset] [(.double (FP.i2d p4)), (.int (2 : Int32)), (.ref b71)])) rfl rfl (hb hby at_42)
      have V74 : Arv Z h74 b71 k71 .double (3 : Int32) [(.double (FP.i2d p4)), (.double (FP.i2d p4)), (.double (FP.i2d p4))] (.double (0 : UInt64)) := Arv.set Ar74 q74 S74 Ng74 Hs74 G74 rfl W74 2 rfl (Nat.le_of_ble_eq_true rfl)
      have N74 := Fr.snoc X74 N73 gx_b71
      have Z74 : n0 ≤ h74.size := Nat.le_trans Z73 (Nat.le_of_eq W74.size.symm)
      refine own_via st74 ?_
      show own_G p e below _ (T74.setTop (mkF m 43 #[.val (.int p1), .val (.int p2), .val (.int p3), .val (.int p4), .val (.int (1 : Int32)), .val (.double (FP.i2d p1)), .second, .val (.double (FP.i2d p2)), .second, .val (.double (FP.i2d p4)), .second, .val (.ref b71), .unset, .unset, .unset, .unset, .unset, .unset] []))
      refine own_via (fun t k => XS.aload X74.here hx rfl (hb hby at_43) rfl rfl k) ?_
      show own_G p e below _ (T74.setTop (mkF m 45 #[.val (.int p1), .val (.int p2), .val (.int p3), .val (.int p4), .val (.int (1 : Int32)), .val (.double (FP.i2d p1)), .second, .val (.double (FP.i2d p2)), .second, .val (.double (FP.i2d p4)), .second, .val (.ref b71), .unset, .unset, .unset, .unset, .unset, .unset] [(.ref b71)]))
      refine own_via (fun t k => XS.iload X74.here hx rfl (hb hby at_45) rfl k) ?_
      show own_G p e below _ (T74.setTop (mkF m 47 #[.val (.int p1), .val (.int p2), .val (.int p3), .val (.int p4), .val (.int (1 : Int32)), .val (.double (FP.i2d p1)), .second, .val (.double (FP.i2d p2)), .second, .val (.double (FP.i2d p4)), .second, .val (.ref b71), .unset, .unset, .unset, .unset, .unset, .unset] [(.int (1 : Int32)), (.ref b71)]))
      refine own_via (fun t k => XS.dload X74.here hx rfl (hb hby at_47) rfl k) ?_
      show own_G p e below _ (T74.setTop (mkF m 49 #[.val (.int p1), .val (.int p2), .val (.int p3), .val (.int p4), .val (.int (1 : Int32)), .val (.double (FP.i2d p1)), .second, .val (.double (FP.i2d p2)), .second, .val (.double (FP.i2d p4)), .second, .val (.ref b71), .unset, .unset, .unset, .unset, .unset, .unset] [(.double (FP.i2d p1)), (.int (1 : Int32)), (.ref b71)]))
      obtain ⟨cl75, Ar75, q75, S75, Ng75, Hs75, G75⟩ := id V74
      have hin75 : ¬ ((1 : Int32) < 0 ∨ cl75.slots.size ≤ ((1 : Int32)).toNatClampNeg) := inb_of S75 ⟨by decide, by decide⟩
      obtain ⟨T75, h75, X75, e75, W75, st75⟩ := stD X74 hx hZ e74 Ar75 (j := (1 : Int32)) hin75 (g := (mkF m 49 #[.val (.int p1), .val (.int p2), .val (.int p3), .val (.int p4), .val (.int (1 : Int32)), .val (.double (FP.i2d p1)), .second, .val (.double (FP.i2d p2)), .second, .val (.double (FP.i2d p4)), .second, .val (.ref b71), .unset, .unset, .unset, .unset, .unset, .unset] [(.double (FP.i2d p1)), (.int (1 : Int32)), (.ref b71)])) rfl rfl (hb hby at_49)
      have V75 : Arv Z h75 b71 k71 .double (3 : Int32) [(.double (FP.i2d p4)), (.double (FP.i2d p1)), (.double (FP.i2d p4))] (.double (0 : UInt64)) := Arv.set Ar75 q75 S75 Ng75 Hs75 G75 rfl W75 1 rfl (Nat.le_of_ble_eq_true rfl)
      have N75 := Fr.snoc X75 N74 gx_b71
      have Z75 : n0 ≤ h75.size := Nat.le_trans Z74 (Nat.le_of_eq W75.size.symm)
      refine own_via st75 ?_
      show own_G p e below _ (T75.setTop (mkF m 50 #[.val (.int p1), .val (.int p2), .val (.int p3), .val (.int p4), .val (.int (1 : Int32)), .val (.double (FP.i2d p1)), .second, .val (.double (FP.i2d p2)), .second, .val (.double (FP.i2d p4)), .second, .val (.ref b71), .unset, .unset, .unset, .unset, .unset, .unset] []))
      refine own_via (fun t k => XS.aload X75.here hx rfl (hb hby at_50) rfl rfl k) ?_
      show own_G p e below _ (T75.setTop (mkF m 52 #[.val (.int p1), .val (.int p2), .val (.int p3), .val (.int p4), .val (.int (1 : Int32)), .val (.double (FP.i2d p1)), .second, .val (.double (FP.i2d p2)), .second, .val (.double (FP.i2d p4)), .second, .val (.ref b71), .unset, .unset, .unset, .unset, .unset, .unset] [(.ref b71)]))
      refine own_via (fun t k => XS.iload X75.here hx rfl (hb hby at_52) rfl k) ?_
      show own_G p e below _ (T75.setTop (mkF m 54 #[.val (.int p1), .val (.int p2), .val (.int p3), .val (.int p4), .val (.int (1 : Int32)), .val (.double (FP.i2d p1)), .second, .val (.double (FP.i2d p2)), .second, .val (.double (FP.i2d p4)), .second, .val (.ref b71), .unset, .unset, .unset, .unset, .unset, .unset] [(.int (1 : Int32)), (.ref b71)]))
      refine own_via (fun t k => XS.dload X75.here hx rfl (hb hby at_54) rfl k) ?_
      show own_G p e below _ (T75.setTop (mkF m 56 #[.val (.int p1), .val (.int p2), .val (.int p3), .val (.int p4), .val (.int (1 : Int32)), .val (.double (FP.i2d p1)), .second, .val (.double (FP.i2d p2)), .second, .val (.double (FP.i2d p4)), .second, .val (.ref b71), .unset, .unset, .unset, .unset, .unset, .unset] [(.double (FP.i2d p2)), (.int (1 : Int32)), (.ref b71)]))
      obtain ⟨_, _, ⟨T76, L76, k76, n76⟩, -, X76, ⟨Lc76, hQ76, l76, y76, z76⟩, st76⟩ := Jvm.LawKit.callS X75 hx (y := (⟨"com/example/odds2/odds2/engine/Bounds", "tightenUpper", "([DID)Z"⟩ : MethodName)) hown (mvT hZ (hw _ (List.mem_of_getElem? (i := 2) rfl))) (mvT hZ (hw _ (List.mem_of_getElem? (i := 3) rfl))) (mvT hZ (hw _ (List.mem_of_getElem? (i := 4) rfl))) (mvT hZ (hw _ (List.mem_of_getElem? (i := 5) rfl))) (by decide) (backOf (W := 0) (rm1_1lt l Z a0 hw [] b71 p4 p1 p4 p2 k71 h75 n0 Z75 V75 gx_b71 hob) hZ (hw _ (List.mem_of_getElem? (i := 5) rfl)) (hw _ (List.mem_of_getElem? (i := 4) rfl)) (by decide) (by decide)) (g := (mkF m 56 #[.val (.int p1), .val (.int p2), .val (.int p3), .val (.int p4), .val (.int (1 : Int32)), .val (.double (FP.i2d p1)), .second, .val (.double (FP.i2d p2)), .second, .val (.double (FP.i2d p4)), .second, .val (.ref b71), .unset, .unset, .unset, .unset, .unset, .unset] [(.double (FP.i2d p2)), (.int (1 : Int32)), (.ref b71)])) rfl (by rw [hml]; rfl) (argsL := [(.ref b71), (.int (1 : Int32)), (.double (FP.i2d p2))]) (rest := []) (lenOf pd_rm0_0 rfl) rfl (by show 2 * 0 + _ ≤ _; exact Nat.le_of_eq rfl) (hb hby at_56) (fun _ _ => ⟨rfl, e75, (by decide : 1 + 0 ≤ _), (by decide : 3 + 0 ≤ _)⟩)
      dsimp only [Pt.U, Pt.locs, Pt.cells, Pt.slots] at X76 l76 y76 z76 st76 hQ76
      subst l76 y76 z76
      obtain ⟨rfl, N76q, K76, V76⟩ := hQ76
      have N76 := Fr.app N75 N76q
      have Z76 : n0 ≤ T76.heap.size := Nat.le_trans Z75 K76.1
      refine own_via st76 ?_
      show own_G p e below _ (T76.setTop (mkF m 59 #[.val (.int p1), .val (.int p2), .val (.int p3), .val (.int p4), .val (.int (1 : Int32)), .val (.double (FP.i2d p1)), .second, .val (.double (FP.i2d p2)), .second, .val (.double (FP.i2d p4)), .second, .val (.ref b71), .unset, .unset, .unset, .unset, .unset, .unset] [(.int (1 : Int32))]))
      refine own_via (fun t k => XS.istore X76.here hx rfl (hb hby at_59) rfl (l' := #[.val (.int p1), .val (.int p2), .val (.int p3), .val (.int p4), .val (.int (1 : Int32)), .val (.double (FP.i2d p1)), .second, .val (.double (FP.i2d p2)), .second, .val (.double (FP.i2d p4)), .second, .val (.ref b71), .val (.int (1 : Int32)), .unset, .unset, .unset, .unset, .unset]) rfl k) ?_
      show own_G p e below _ (T76.setTop (mkF m 61 #[.val (.int p1), .val (.int p2), .val (.int p3), .val (.int p4), .val (.int (1 : Int32)), .val (.double (FP.i2d p1)), .second, .val (.double (FP.i2d p2)), .second, .val (.double (FP.i2d p4)), .second, .val (.ref b71), .val (.int (1 : Int32)), .unset, .unset, .unset, .unset, .unset] []))
      refine own_via (fun t k => XS.aload X76.here hx rfl (hb hby at_61) rfl rfl k) ?_
      show own_G p e below _ (T76.setTop (mkF m 63 #[.val (.int p1), .val (.int p2), .val (.int p3), .val (.int p4), .val (.int (1 : Int32)), .val (.double (FP.i2d p1)), .second, .val (.double (FP.i2d p2)), .second, .val (.double (FP.i2d p4)), .second, .val (.ref b71), .val (.int (1 : Int32)), .unset, .unset, .unset, .unset, .unset] [(.ref b71)]))
      refine own_via (fun t k => XS.iload X76.here hx rfl (hb hby at_63) rfl k) ?_
      show own_G p e below _ (T76.setTop (mkF m 65 #[.val (.int p1), .val (.int p2), .val (.int p3), .val (.int p4), .val (.int (1 : Int32)), .val (.double (FP.i2d p1)), .second, .val (.double (FP.i2d p2)), .second, .val (.double (FP.i2d p4)), .second, .val (.ref b71), .val (.int (1 : Int32)), .unset, .unset, .unset, .unset, .unset] [(.int (1 : Int32)), (.ref b71)]))
      obtain ⟨cl78, Ar78, q78, S78, Ng78, Hs78, G78⟩ := id V76
      have hin78 : ¬ ((1 : Int32) < 0 ∨ cl78.slots.size ≤ ((1 : Int32)).toNatClampNeg) := inb_of S78 ⟨by decide, by decide⟩
      have hat78 : cl78.slots[((1 : Int32)).toNatClampNeg]? = some (.double (FP.i2d p2)) := Hs78.at hin78 rfl
      refine own_via (fun t k => X76.daload hx (j := (1 : Int32)) (v := (.double (FP.i2d p2))) Ar78.1 (State.isArrayOf_alike hZ.alike Ar78.2.1) Ar78.2.2 hin78 hat78 (g := (mkF m 65 #[.val (.int p1), .val (.int p2), .val (.int p3), .val (.int p4), .val (.int (1 : Int32)), .val (.double (FP.i2d p1)), .second, .val (.double (FP.i2d p2)), .second, .val (.double (FP.i2d p4)), .second, .val (.ref b71), .val (.int (1 : Int32)), .unset, .unset, .unset, .unset, .unset] [(.int (1 : Int32)), (.ref b71)])) rfl rfl (hb hby at_65) _ k) ?_
      show own_G p e below _ (T76.setTop (mkF m 66 #[.val (.int p1), .val (.int p2), .val (.int p3), .val (.int p4), .val (.int (1 : Int32)), .val (.double (FP.i2d p1)), .second, .val (.double (FP.i2d p2)), .second, .val (.double (FP.i2d p4)), .second, .val (.ref b71), .val (.int (1 : Int32)), .unset, .unset, .unset, .unset, .unset] [(.double (FP.i2d p2))]))
      refine own_via (fun t k => XS.dstore X76.here hx rfl (hb hby at_66) rfl (l' := #[.val (.int p1), .val (.int p2), .val (.int p3), .val (.int p4), .val (.int (1 : Int32)), .val (.double (FP.i2d p1)), .second, .val (.double (FP.i2d p2)), .second, .val (.double (FP.i2d p4)), .second, .val (.ref b71), .val (.int (1 : Int32)), .val (.double (FP.i2d p2)), .second, .unset, .unset, .unset]) rfl k) ?_
      show own_G p e below _ (T76.setTop (mkF m 68 #[.val (.int p1), .val (.int p2), .val (.int p3), .val (.int p4), .val (.int (1 : Int32)), .val (.double (FP.i2d p1)), .second, .val (.double (FP.i2d p2)), .second, .val (.double (FP.i2d p4)), .second, .val (.ref b71), .val (.int (1 : Int32)), .val (.double (FP.i2d p2)), .second, .unset, .unset, .unset] []))
      refine own_via (fun t k => XS.dload X76.here hx rfl (hb hby at_68) rfl k) ?_
      show own_G p e below _ (T76.setTop (mkF m 70 #[.val (.int p1), .val (.int p2), .val (.int p3), .val (.int p4), .val (.int (1 : Int32)), .val (.double (FP.i2d p1)), .second, .val (.double (FP.i2d p2)), .second, .val (.double (FP.i2d p4)), .second, .val (.ref b71), .val (.int (1 : Int32)), .val (.double (FP.i2d p2)), .second, .unset, .unset, .unset] [(.double (FP.i2d p1))]))
      refine own_via (fun t k => XS.dload X76.here hx rfl (hb hby at_70) rfl k) ?_
      show own_G p e below _ (T76.setTop (mkF m 72 #[.val (.int p1), .val (.int p2), .val (.int p3), .val (.int p4), .val (.int (1 : Int32)), .val (.double (FP.i2d p1)), .second, .val (.double (FP.i2d p2)), .second, .val (.double (FP.i2d p4)), .second, .val (.ref b71), .val (.int (1 : Int32)), .val (.double (FP.i2d p2)), .second, .unset, .unset, .unset] [(.double (FP.i2d p2)), (.double (FP.i2d p1))]))
      refine own_via (fun t k => XS.dcmpS X76.here hx rfl (hb hby at_72) rfl (own_dc_gt hob _) k) ?_
      show own_G p e below _ (T76.setTop (mkF m 73 #[.val (.int p1), .val (.int p2), .val (.int p3), .val (.int p4), .val (.int (1 : Int32)), .val (.double (FP.i2d p1)), .second, .val (.double (FP.i2d p2)), .second, .val (.double (FP.i2d p4)), .second, .val (.ref b71), .val (.int (1 : Int32)), .val (.double (FP.i2d p2)), .second, .unset, .unset, .unset] [(.int (1 : Int32))]))
      refine own_via (fun t k => XS.ifNo X76.here hx rfl (hb hby at_73) rfl ((if0 _ _).trans (flt (by decide : ¬ ((1 : Int32) < (0 : Int32)))).1) k) ?_
      show own_G p e below _ (T76.setTop (mkF m 76 #[.val (.int p1), .val (.int p2), .val (.int p3), .val (.int p4), .val (.int (1 : Int32)), .val (.double (FP.i2d p1)), .second, .val (.double (FP.i2d p2)), .second, .val (.double (FP.i2d p4)), .second, .val (.ref b71), .val (.int (1 : Int32)), .val (.double (FP.i2d p2)), .second, .unset, .unset, .unset] []))
      refine own_via (fun t k => XS.dload X76.here hx rfl (hb hby at_76) rfl k) ?_
      show own_G p e below _ (T76.setTop (mkF m 78 #[.val (.int p1), .val (.int p2), .val (.int p3), .val (.int p4), .val (.int (1 : Int32)), .val (.double (FP.i2d p1)), .second, .val (.double (FP.i2d p2)), .second, .val (.double (FP.i2d p4)), .second, .val (.ref b71), .val (.int (1 : Int32)), .val (.double (FP.i2d p2)), .second, .unset, .unset, .unset] [(.double (FP.i2d p2))]))
      refine own_via (fun t k => XS.dload X76.here hx rfl (hb hby at_78) rfl k) ?_
      show own_G p e below _ (T76.setTop (mkF m 80 #[.val (.int p1), .val (.int p2), .val (.int p3), .val (.int p4), .val (.int (1 : Int32)), .val (.double (FP.i2d p1)), .second, .val (.double (FP.i2d p2)), .second, .val (.double (FP.i2d p4)), .second, .val (.ref b71), .val (.int (1 : Int32)), .val (.double (FP.i2d p2)), .second, .unset, .unset, .unset] [(.double (FP.i2d p2)), (.double (FP.i2d p2))]))
      refine own_via (fun t k => XS.dcmpS X76.here hx rfl (hb hby at_80) rfl (own_dc_eq rfl _) k) ?_
      show own_G p e below _ (T76.setTop (mkF m 81 #[.val (.int p1), .val (.int p2), .val (.int p3), .val (.int p4), .val (.int (1 : Int32)), .val (.double (FP.i2d p1)), .second, .val (.double (FP.i2d p2)), .second, .val (.double (FP.i2d p4)), .second, .val (.ref b71), .val (.int (1 : Int32)), .val (.double (FP.i2d p2)), .second, .unset, .unset, .unset] [(.int (0 : Int32))]))
      refine own_via (fun t k => XS.ifNo X76.here hx rfl (hb hby at_81) rfl ((if0 _ _).trans (flt (by decide : ¬ ((0 : Int32) < (0 : Int32)))).1) k) ?_
      show own_G p e below _ (T76.setTop (mkF m 84 #[.val (.int p1), .val (.int p2), .val (.int p3), .val (.int p4), .val (.int (1 : Int32)), .val (.double (FP.i2d p1)), .second, .val (.double (FP.i2d p2)), .second, .val (.double (FP.i2d p4)), .second, .val (.ref b71), .val (.int (1 : Int32)), .val (.double (FP.i2d p2)), .second, .unset, .unset, .unset] []))
      refine own_via (fun t k => XS.dload X76.here hx rfl (hb hby at_84) rfl k) ?_
      show own_G p e below _ (T76.setTop (mkF m 86 #[.val (.int p1), .val (.int p2), .val (.int p3), .val (.int p4), .val (.int (1 : Int32)), .val (.double (FP.i2d p1)), .second, .val (.double (FP.i2d p2)), .second, .val (.double (FP.i2d p4)), .second, .val (.ref b71), .val (.int (1 : Int32)), .val (.double (FP.i2d p2)), .second, .unset, .unset, .unset] [(.double (FP.i2d p2))]))
      refine own_via (fun t k => XS.dload X76.here hx rfl (hb hby at_86) rfl k) ?_
      show own_G p e below _ (T76.setTop (mkF m 88 #[.val (.int p1), .val (.int p2), .val (.int p3), .val (.int p4), .val (.int (1 : Int32)), .val (.double (FP.i2d p1)), .second, .val (.double (FP.i2d p2)), .second, .val (.double (FP.i2d p4)), .second, .val (.ref b71), .val (.int (1 : Int32)), .val (.double (FP.i2d p2)), .second, .unset, .unset, .unset] [(.double (FP.i2d p1)), (.double (FP.i2d p2))]))
      refine own_via (fun t k => XS.dcmpS X76.here hx rfl (hb hby at_88) rfl (own_dc_lt hob _) k) ?_
      show own_G p e below _ (T76.setTop (mkF m 89 #[.val (.int p1), .val (.int p2), .val (.int p3), .val (.int p4), .val (.int (1 : Int32)), .val (.double (FP.i2d p1)), .second, .val (.double (FP.i2d p2)), .second, .val (.double (FP.i2d p4)), .second, .val (.ref b71), .val (.int (1 : Int32)), .val (.double (FP.i2d p2)), .second, .unset, .unset, .unset] [(.int (-1 : Int32))]))
      refine own_via (fun t k => XS.ifNo X76.here hx rfl (hb hby at_89) rfl ((if0 _ _).trans (feq (by decide : ¬ ((-1 : Int32) = (0 : Int32)))).1) k) ?_
      show own_G p e below _ (T76.setTop (mkF m 92 #[.val (.int p1), .val (.int p2), .val (.int p3), .val (.int p4), .val (.int (1 : Int32)), .val (.double (FP.i2d p1)), .second, .val (.double (FP.i2d p2)), .second, .val (.double (FP.i2d p4)), .second, .val (.ref b71), .val (.int (1 : Int32)), .val (.double (FP.i2d p2)), .second, .unset, .unset, .unset] []))
      refine own_via (fun t k => XS.dload X76.here hx rfl (hb hby at_92) rfl k) ?_
      show own_G p e below _ (T76.setTop (mkF m 94 #[.val (.int p1), .val (.int p2), .val (.int p3), .val (.int p4), .val (.int (1 : Int32)), .val (.double (FP.i2d p1)), .second, .val (.double (FP.i2d p2)), .second, .val (.double (FP.i2d p4)), .second, .val (.ref b71), .val (.int (1 : Int32)), .val (.double (FP.i2d p2)), .second, .unset, .unset, .unset] [(.double (FP.i2d p2))]))
      refine own_via (fun t k => XS.dload X76.here hx rfl (hb hby at_94) rfl k) ?_
      show own_G p e below _ (T76.setTop (mkF m 96 #[.val (.int p1), .val (.int p2), .val (.int p3), .val (.int p4), .val (.int (1 : Int32)), .val (.double (FP.i2d p1)), .second, .val (.double (FP.i2d p2)), .second, .val (.double (FP.i2d p4)), .second, .val (.ref b71), .val (.int (1 : Int32)), .val (.double (FP.i2d p2)), .second, .unset, .unset, .unset] [(.double (FP.i2d p2)), (.double (FP.i2d p2))]))
      refine own_via (fun t k => XS.dcmpS X76.here hx rfl (hb hby at_96) rfl (own_dc_eq rfl _) k) ?_
      show own_G p e below _ (T76.setTop (mkF m 97 #[.val (.int p1), .val (.int p2), .val (.int p3), .val (.int p4), .val (.int (1 : Int32)), .val (.double (FP.i2d p1)), .second, .val (.double (FP.i2d p2)), .second, .val (.double (FP.i2d p4)), .second, .val (.ref b71), .val (.int (1 : Int32)), .val (.double (FP.i2d p2)), .second, .unset, .unset, .unset] [(.int (0 : Int32))]))
      refine own_via (fun t k => XS.ifNo X76.here hx rfl (hb hby at_97) rfl ((if0 _ _).trans (teq (by decide : (0 : Int32) = (0 : Int32))).2) k) ?_
      show own_G p e below _ (T76.setTop (mkF m 100 #[.val (.int p1), .val (.int p2), .val (.int p3), .val (.int p4), .val (.int (1 : Int32)), .val (.double (FP.i2d p1)), .second, .val (.double (FP.i2d p2)), .second, .val (.double (FP.i2d p4)), .second, .val (.ref b71), .val (.int (1 : Int32)), .val (.double (FP.i2d p2)), .second, .unset, .unset, .unset] []))
      refine own_via (fun t k => XS.iconst X76.here hx rfl (hb hby at_100) k) ?_
      show own_G p e below _ (T76.setTop (mkF m 101 #[.val (.int p1), .val (.int p2), .val (.int p3), .val (.int p4), .val (.int (1 : Int32)), .val (.double (FP.i2d p1)), .second, .val (.double (FP.i2d p2)), .second, .val (.double (FP.i2d p4)), .second, .val (.ref b71), .val (.int (1 : Int32)), .val (.double (FP.i2d p2)), .second, .unset, .unset, .unset] [(.int (1 : Int32))]))
      refine own_via (fun t k => XS.goto X76.here hx rfl (pc0 := 101) (pc' := 105) rfl (hb hby at_101) (by decide) (by decide) k) ?_
      show own_G p e below _ (T76.setTop (mkF m 105 #[.val (.int p1), .val (.int p2), .val (.int p3), .val (.int p4), .val (.int (1 : Int32)), .val (.double (FP.i2d p1)), .second, .val (.double (FP.i2d p2)), .second, .val (.double (FP.i2d p4)), .second, .val (.ref b71), .val (.int (1 : Int32)), .val (.double (FP.i2d p2)), .second, .unset, .unset, .unset] [(.int (1 : Int32))]))
      refine own_via (fun t k => XS.istore X76.here hx rfl (hb hby at_105) rfl (l' := #[.val (.int p1), .val (.int p2), .val (.int p3), .val (.int p4), .val (.int (1 : Int32)), .val (.double (FP.i2d p1)), .second, .val (.double (FP.i2d p2)), .second, .val (.double (FP.i2d p4)), .second, .val (.ref b71), .val (.int (1 : Int32)), .val (.double (FP.i2d p2)), .second, .val (.int (1 : Int32)), .unset, .unset]) rfl k) ?_
      show own_G p e below _ (T76.setTop (mkF m 107 #[.val (.int p1), .val (.int p2), .val (.int p3), .val (.int p4), .val (.int (1 : Int32)), .val (.double (FP.i2d p1)), .second, .val (.double (FP.i2d p2)), .second, .val (.double (FP.i2d p4)), .second, .val (.ref b71), .val (.int (1 : Int32)), .val (.double (FP.i2d p2)), .second, .val (.int (1 : Int32)), .unset, .unset] []))
      refine own_via (fun t k => XS.iload X76.here hx rfl (hb hby at_107) rfl k) ?_
      show own_G p e below _ (T76.setTop (mkF m 109 #[.val (.int p1), .val (.int p2), .val (.int p3), .val (.int p4), .val (.int (1 : Int32)), .val (.double (FP.i2d p1)), .second, .val (.double (FP.i2d p2)), .second, .val (.double (FP.i2d p4)), .second, .val (.ref b71), .val (.int (1 : Int32)), .val (.double (FP.i2d p2)), .second, .val (.int (1 : Int32)), .unset, .unset] [(.int (1 : Int32))]))
      refine own_via (fun t k => XS.dload X76.here hx rfl (hb hby at_109) rfl k) ?_
      show own_G p e below _ (T76.setTop (mkF m 111 #[.val (.int p1), .val (.int p2), .val (.int p3), .val (.int p4), .val (.int (1 : Int32)), .val (.double (FP.i2d p1)), .second, .val (.double (FP.i2d p2)), .second, .val (.double (FP.i2d p4)), .second, .val (.ref b71), .val (.int (1 : Int32)), .val (.double (FP.i2d p2)), .second, .val (.int (1 : Int32)), .unset, .unset] [(.double (FP.i2d p2)), (.int (1 : Int32))]))
      refine own_via (fun t k => XS.dload X76.here hx rfl (hb hby at_111) rfl k) ?_
      show own_G p e below _ (T76.setTop (mkF m 113 #[.val (.int p1), .val (.int p2), .val (.int p3), .val (.int p4), .val (.int (1 : Int32)), .val (.double (FP.i2d p1)), .second, .val (.double (FP.i2d p2)), .second, .val (.double (FP.i2d p4)), .second, .val (.ref b71), .val (.int (1 : Int32)), .val (.double (FP.i2d p2)), .second, .val (.int (1 : Int32)), .unset, .unset] [(.double (FP.i2d p1)), (.double (FP.i2d p2)), (.int (1 : Int32))]))
      refine own_via (fun t k => XS.dcmpS X76.here hx rfl (hb hby at_113) rfl (own_dc_lt hob _) k) ?_
      show own_G p e below _ (T76.setTop (mkF m 114 #[.val (.int p1), .val (.int p2), .val (.int p3), .val (.int p4), .val (.int (1 : Int32)), .val (.double (FP.i2d p1)), .second, .val (.double (FP.i2d p2)), .second, .val (.double (FP.i2d p4)), .second, .val (.ref b71), .val (.int (1 : Int32)), .val (.double (FP.i2d p2)), .second, .val (.int (1 : Int32)), .unset, .unset] [(.int (-1 : Int32)), (.int (1 : Int32))]))
      refine own_via (fun t k => XS.ifNo X76.here hx rfl (hb hby at_114) rfl ((if0 _ _).trans (tlt (by decide : (-1 : Int32) < (0 : Int32))).2.1) k) ?_
      show own_G p e below _ (T76.setTop (mkF m 117 #[.val (.int p1), .val (.int p2), .val (.int p3), .val (.int p4), .val (.int (1 : Int32)), .val (.double (FP.i2d p1)), .second, .val (.double (FP.i2d p2)), .second, .val (.double (FP.i2d p4)), .second, .val (.ref b71), .val (.int (1 : Int32)), .val (.double (FP.i2d p2)), .second, .val (.int (1 : Int32)), .unset, .unset] [(.int (1 : Int32))]))
      refine own_via (fun t k => XS.iconst X76.here hx rfl (hb hby at_117) k) ?_
      show own_G p e below _ (T76.setTop (mkF m 118 #[.val (.int p1), .val (.int p2), .val (.int p3), .val (.int p4), .val (.int (1 : Int32)), .val (.double (FP.i2d p1)), .second, .val (.double (FP.i2d p2)), .second, .val (.double (FP.i2d p4)), .second, .val (.ref b71), .val (.int (1 : Int32)), .val (.double (FP.i2d p2)), .second, .val (.int (1 : Int32)), .unset, .unset] [(.int (1 : Int32)), (.int (1 : Int32))]))
      refine own_via (fun t k => XS.goto X76.here hx rfl (pc0 := 118) (pc' := 122) rfl (hb hby at_118) (by decide) (by decide) k) ?_
      show own_G p e below _ (T76.setTop (mkF m 122 #[.val (.int p1), .val (.int p2), .val (.int p3), .val (.int p4), .val (.int (1 : Int32)), .val (.double (FP.i2d p1)), .second, .val (.double (FP.i2d p2)), .second, .val (.double (FP.i2d p4)), .second, .val (.ref b71), .val (.int (1 : Int32)), .val (.double (FP.i2d p2)), .second, .val (.int (1 : Int32)), .unset, .unset] [(.int (1 : Int32)), (.int (1 : Int32))]))
      refine own_via (fun t k => XS.icmpNo X76.here hx rfl (hb hby at_122) rfl (teq (by decide : (1 : Int32) = (1 : Int32))).2 k) ?_
      show own_G p e below _ (T76.setTop (mkF m 125 #[.val (.int p1), .val (.int p2), .val (.int p3), .val (.int p4), .val (.int (1 : Int32)), .val (.double (FP.i2d p1)), .second, .val (.double (FP.i2d p2)), .second, .val (.double (FP.i2d p4)), .second, .val (.ref b71), .val (.int (1 : Int32)), .val (.double (FP.i2d p2)), .second, .val (.int (1 : Int32)), .unset, .unset] []))
      refine own_via (fun t k => XS.iconst X76.here hx rfl (hb hby at_125) k) ?_
      show own_G p e below _ (T76.setTop (mkF m 126 #[.val (.int p1), .val (.int p2), .val (.int p3), .val (.int p4), .val (.int (1 : Int32)), .val (.double (FP.i2d p1)), .second, .val (.double (FP.i2d p2)), .second, .val (.double (FP.i2d p4)), .second, .val (.ref b71), .val (.int (1 : Int32)), .val (.double (FP.i2d p2)), .second, .val (.int (1 : Int32)), .unset, .unset] [(.int (1 : Int32))]))
      refine own_via (fun t k => XS.goto X76.here hx rfl (pc0 := 126) (pc' := 130) rfl (hb hby at_126) (by decide) (by decide) k) ?_
      show own_G p e below _ (T76.setTop (mkF m 130 #[.val (.int p1), .val (.int p2), .val (.int p3), .val (.int p4), .val (.int (1 : Int32)), .val (.double (FP.i2d p1)), .second, .val (.double (FP.i2d p2)), .second, .val (.double (FP.i2d p4)), .second, .val (.ref b71), .val (.int (1 : Int32)), .val (.double (FP.i2d p2)), .second, .val (.int (1 : Int32)), .unset, .unset] [(.int (1 : Int32))]))
      refine own_via (fun t k => XS.istore X76.here hx rfl (hb hby at_130) rfl (l' := #[.val (.int p1), .val (.int p2), .val (.int p3), .val (.int p4), .val (.int (1 : Int32)), .val (.double (FP.i2d p1)), .second, .val (.double (FP.i2d p2)), .second, .val (.double (FP.i2d p4)), .second, .val (.ref b71), .val (.int (1 : Int32)), .val (.double (FP.i2d p2)), .second, .val (.int (1 : Int32)), .val (.int (1 : Int32)), .unset]) rfl k) ?_
      show own_G p e below _ (T76.setTop (mkF m 132 #[.val (.int p1), .val (.int p2), .val (.int p3), .val (.int p4), .val (.int (1 : Int32)), .val (.double (FP.i2d p1)), .second, .val (.double (FP.i2d p2)), .second, .val (.double (FP.i2d p4)), .second, .val (.ref b71), .val (.int (1 : Int32)), .val (.double (FP.i2d p2)), .second, .val (.int (1 : Int32)), .val (.int (1 : Int32)), .unset] []))
      refine own_via (fun t k => XS.iload X76.here hx rfl (hb hby at_132) rfl k) ?_
      show own_G p e below _ (T76.setTop (mkF m 134 #[.val (.int p1), .val (.int p2), .val (.int p3), .val (.int p4), .val (.int (1 : Int32)), .val (.double (FP.i2d p1)), .second, .val (.double (FP.i2d p2)), .second, .val (.double (FP.i2d p4)), .second, .val (.ref b71), .val (.int (1 : Int32)), .val (.double (FP.i2d p2)), .second, .val (.int (1 : Int32)), .val (.int (1 : Int32)), .unset] [(.int (1 : Int32))]))
      refine own_via (fun t k => XS.ifNo X76.here hx rfl (hb hby at_134) rfl ((if0 _ _).trans (feq (by decide : ¬ ((1 : Int32) = (0 : Int32)))).1) k) ?_
      show own_G p e below _ (T76.setTop (mkF m 137 #[.val (.int p1), .val (.int p2), .val (.int p3), .val (.int p4), .val (.int (1 : Int32)), .val (.double (FP.i2d p1)), .second, .val (.double (FP.i2d p2)), .second, .val (.double (FP.i2d p4)), .second, .val (.ref b71), .val (.int (1 : Int32)), .val (.double (FP.i2d p2)), .second, .val (.int (1 : Int32)), .val (.int (1 : Int32)), .unset] []))
      refine own_via (fun t k => XS.aload X76.here hx rfl (hb hby at_137) rfl rfl k) ?_
      show own_G p e below _ (T76.setTop (mkF m 139 #[.val (.int p1), .val (.int p2), .val (.int p3), .val (.int p4), .val (.int (1 : Int32)), .val (.double (FP.i2d p1)), .second, .val (.double (FP.i2d p2)), .second, .val (.double (FP.i2d p4)), .second, .val (.ref b71), .val (.int (1 : Int32)), .val (.double (FP.i2d p2)), .second, .val (.int (1 : Int32)), .val (.int (1 : Int32)), .unset] [(.ref b71)]))
      refine own_via (fun t k => XS.iconst X76.here hx rfl (hb hby at_139) k) ?_
      show own_G p e below _ (T76.setTop (mkF m 140 #[.val (.int p1), .val (.int p2), .val (.int p3), .val (.int p4), .val (.int (1 : Int32)), .val (.double (FP.i2d p1)), .second, .val (.double (FP.i2d p2)), .second, .val (.double (FP.i2d p4)), .second, .val (.ref b71), .val (.int (1 : Int32)), .val (.double (FP.i2d p2)), .second, .val (.int (1 : Int32)), .val (.int (1 : Int32)), .unset] [(.int (0 : Int32)), (.ref b71)]))
      obtain ⟨cl86, Ar86, q86, S86, Ng86, Hs86, G86⟩ := id V76
      have hin86 : ¬ ((0 : Int32) < 0 ∨ cl86.slots.size ≤ ((0 : Int32)).toNatClampNeg) := inb_of S86 ⟨by decide, by decide⟩
      have hat86 : cl86.slots[((0 : Int32)).toNatClampNeg]? = some (.double (FP.i2d p4)) := Hs86.at hin86 rfl
      refine own_via (fun t k => X76.daload hx (j := (0 : Int32)) (v := (.double (FP.i2d p4))) Ar86.1 (State.isArrayOf_alike hZ.alike Ar86.2.1) Ar86.2.2 hin86 hat86 (g := (mkF m 140 #[.val (.int p1), .val (.int p2), .val (.int p3), .val (.int p4), .val (.int (1 : Int32)), .val (.double (FP.i2d p1)), .second, .val (.double (FP.i2d p2)), .second, .val (.double (FP.i2d p4)), .second, .val (.ref b71), .val (.int (1 : Int32)), .val (.double (FP.i2d p2)), .second, .val (.int (1 : Int32)), .val (.int (1 : Int32)), .unset] [(.int (0 : Int32)), (.ref b71)])) rfl rfl (hb hby at_140) _ k) ?_
      show own_G p e below _ (T76.setTop (mkF m 141 #[.val (.int p1), .val (.int p2), .val (.int p3), .val (.int p4), .val (.int (1 : Int32)), .val (.double (FP.i2d p1)), .second, .val (.double (FP.i2d p2)), .second, .val (.double (FP.i2d p4)), .second, .val (.ref b71), .val (.int (1 : Int32)), .val (.double (FP.i2d p2)), .second, .val (.int (1 : Int32)), .val (.int (1 : Int32)), .unset] [(.double (FP.i2d p4))]))
      refine own_via (fun t k => XS.dload X76.here hx rfl (hb hby at_141) rfl k) ?_
      show own_G p e below _ (T76.setTop (mkF m 143 #[.val (.int p1), .val (.int p2), .val (.int p3), .val (.int p4), .val (.int (1 : Int32)), .val (.double (FP.i2d p1)), .second, .val (.double (FP.i2d p2)), .second, .val (.double (FP.i2d p4)), .second, .val (.ref b71), .val (.int (1 : Int32)), .val (.double (FP.i2d p2)), .second, .val (.int (1 : Int32)), .val (.int (1 : Int32)), .unset] [(.double (FP.i2d p4)), (.double (FP.i2d p4))]))
      refine own_via (fun t k => XS.dcmpS X76.here hx rfl (hb hby at_143) rfl (own_dc_eq rfl _) k) ?_
      show own_G p e below _ (T76.setTop (mkF m 144 #[.val (.int p1), .val (.int p2), .val (.int p3), .val (.int p4), .val (.int (1 : Int32)), .val (.double (FP.i2d p1)), .second, .val (.double (FP.i2d p2)), .second, .val (.double (FP.i2d p4)), .second, .val (.ref b71), .val (.int (1 : Int32)), .val (.double (FP.i2d p2)), .second, .val (.int (1 : Int32)), .val (.int (1 : Int32)), .unset] [(.int (0 : Int32))]))
      refine own_via (fun t k => XS.ifNo X76.here hx rfl (hb hby at_144) rfl ((if0 _ _).trans (teq (by decide : (0 : Int32) = (0 : Int32))).2) k) ?_
      show own_G p e below _ (T76.setTop (mkF m 147 #[.val (.int p1), .val (.int p2), .val (.int p3), .val (.int p4), .val (.int (1 : Int32)), .val (.double (FP.i2d p1)), .second, .val (.double (FP.i2d p2)), .second, .val (.double (FP.i2d p4)), .second, .val (.ref b71), .val (.int (1 : Int32)), .val (.double (FP.i2d p2)), .second, .val (.int (1 : Int32)), .val (.int (1 : Int32)), .unset] []))
      refine own_via (fun t k => XS.iload X76.here hx rfl (hb hby at_147) rfl k) ?_
      show own_G p e below _ (T76.setTop (mkF m 149 #[.val (.int p1), .val (.int p2), .val (.int p3), .val (.int p4), .val (.int (1 : Int32)), .val (.double (FP.i2d p1)), .second, .val (.double (FP.i2d p2)), .second, .val (.double (FP.i2d p4)), .second, .val (.ref b71), .val (.int (1 : Int32)), .val (.double (FP.i2d p2)), .second, .val (.int (1 : Int32)), .val (.int (1 : Int32)), .unset] [(.int (1 : Int32))]))
      refine own_via (fun t k => XS.iconst X76.here hx rfl (hb hby at_149) k) ?_
      show own_G p e below _ (T76.setTop (mkF m 150 #[.val (.int p1), .val (.int p2), .val (.int p3), .val (.int p4), .val (.int (1 : Int32)), .val (.double (FP.i2d p1)), .second, .val (.double (FP.i2d p2)), .second, .val (.double (FP.i2d p4)), .second, .val (.ref b71), .val (.int (1 : Int32)), .val (.double (FP.i2d p2)), .second, .val (.int (1 : Int32)), .val (.int (1 : Int32)), .unset] [(.int (1 : Int32)), (.int (1 : Int32))]))
      refine own_via (fun t k => XS.icmpYes X76.here hx rfl (pc0 := 150) (pc' := 163) rfl (hb hby at_150) rfl (teq (by decide : (1 : Int32) = (1 : Int32))).1 (by decide) (by decide) k) ?_
      show own_G p e below _ (T76.setTop (mkF m 163 #[.val (.int p1), .val (.int p2), .val (.int p3), .val (.int p4), .val (.int (1 : Int32)), .val (.double (FP.i2d p1)), .second, .val (.double (FP.i2d p2)), .second, .val (.double (FP.i2d p4)), .second, .val (.ref b71), .val (.int (1 : Int32)), .val (.double (FP.i2d p2)), .second, .val (.int (1 : Int32)), .val (.int (1 : Int32)), .unset] []))
      refine own_via (fun t k => XS.iload X76.here hx rfl (hb hby at_163) rfl k) ?_
      show own_G p e below _ (T76.setTop (mkF m 165 #[.val (.int p1), .val (.int p2), .val (.int p3), .val (.int p4), .val (.int (1 : Int32)), .val (.double (FP.i2d p1)), .second, .val (.double (FP.i2d p2)), .second, .val (.double (FP.i2d p4)), .second, .val (.ref b71), .val (.int (1 : Int32)), .val (.double (FP.i2d p2)), .second, .val (.int (1 : Int32)), .val (.int (1 : Int32)), .unset] [(.int (1 : Int32))]))
      refine own_via (fun t k => XS.iconst X76.here hx rfl (hb hby at_165) k) ?_
      show own_G p e below _ (T76.setTop (mkF m 166 #[.val (.int p1), .val (.int p2), .val (.int p3), .val (.int p4), .val (.int (1 : Int32)), .val (.double (FP.i2d p1)), .second, .val (.double (FP.i2d p2)), .second, .val (.double (FP.i2d p4)), .second, .val (.ref b71), .val (.int (1 : Int32)), .val (.double (FP.i2d p2)), .second, .val (.int (1 : Int32)), .val (.int (1 : Int32)), .unset] [(.int (2 : Int32)), (.int (1 : Int32))]))
      refine own_via (fun t k => XS.icmpNo X76.here hx rfl (hb hby at_166) rfl (feq (by decide : ¬ ((1 : Int32) = (2 : Int32)))).1 k) ?_
      show own_G p e below _ (T76.setTop (mkF m 169 #[.val (.int p1), .val (.int p2), .val (.int p3), .val (.int p4), .val (.int (1 : Int32)), .val (.double (FP.i2d p1)), .second, .val (.double (FP.i2d p2)), .second, .val (.double (FP.i2d p4)), .second, .val (.ref b71), .val (.int (1 : Int32)), .val (.double (FP.i2d p2)), .second, .val (.int (1 : Int32)), .val (.int (1 : Int32)), .unset] []))
      refine own_via (fun t k => XS.aload X76.here hx rfl (hb hby at_169) rfl rfl k) ?_
      show own_G p e below _ (T76.setTop (mkF m 171 #[.val (.int p1), .val (.int p2), .val (.int p3), .val (.int p4), .val (.int (1 : Int32)), .val (.double (FP.i2d p1)), .second, .val (.double (FP.i2d p2)), .second, .val (.double (FP.i2d p4)), .second, .val (.ref b71), .val (.int (1 : Int32)), .val (.double (FP.i2d p2)), .second, .val (.int (1 : Int32)), .val (.int (1 : Int32)), .unset] [(.ref b71)]))
      refine own_via (fun t k => XS.iconst X76.here hx rfl (hb hby at_171) k) ?_
      show own_G p e below _ (T76.setTop (mkF m 172 #[.val (.int p1), .val (.int p2), .val (.int p3), .val (.int p4), .val (.int (1 : Int32)), .val (.double (FP.i2d p1)), .second, .val (.double (FP.i2d p2)), .second, .val (.double (FP.i2d p4)), .second, .val (.ref b71), .val (.int (1 : Int32)), .val (.double (FP.i2d p2)), .second, .val (.int (1 : Int32)), .val (.int (1 : Int32)), .unset] [(.int (2 : Int32)), (.ref b71)]))
      obtain ⟨cl90, Ar90, q90, S90, Ng90, Hs90, G90⟩ := id V76
      have hin90 : ¬ ((2 : Int32) < 0 ∨ cl90.slots.size ≤ ((2 : Int32)).toNatClampNeg) := inb_of S90 ⟨by decide, by decide⟩
      have hat90 : cl90.slots[((2 : Int32)).toNatClampNeg]? = some (.double (FP.i2d p4)) := Hs90.at hin90 rfl
      refine own_via (fun t k => X76.daload hx (j := (2 : Int32)) (v := (.double (FP.i2d p4))) Ar90.1 (State.isArrayOf_alike hZ.alike Ar90.2.1) Ar90.2.2 hin90 hat90 (g := (mkF m 172 #[.val (.int p1), .val (.int p2), .val (.int p3), .val (.int p4), .val (.int (1 : Int32)), .val (.double (FP.i2d p1)), .second, .val (.double (FP.i2d p2)), .second, .val (.double (FP.i2d p4)), .second, .val (.ref b71), .val (.int (1 : Int32)), .val (.double (FP.i2d p2)), .second, .val (.int (1 : Int32)), .val (.int (1 : Int32)), .unset] [(.int (2 : Int32)), (.ref b71)])) rfl rfl (hb hby at_172) _ k) ?_
      show own_G p e below _ (T76.setTop (mkF m 173 #[.val (.int p1), .val (.int p2), .val (.int p3), .val (.int p4), .val (.int (1 : Int32)), .val (.double (FP.i2d p1)), .second, .val (.double (FP.i2d p2)), .second, .val (.double (FP.i2d p4)), .second, .val (.ref b71), .val (.int (1 : Int32)), .val (.double (FP.i2d p2)), .second, .val (.int (1 : Int32)), .val (.int (1 : Int32)), .unset] [(.double (FP.i2d p4))]))
      refine own_via (fun t k => XS.dload X76.here hx rfl (hb hby at_173) rfl k) ?_
      show own_G p e below _ (T76.setTop (mkF m 175 #[.val (.int p1), .val (.int p2), .val (.int p3), .val (.int p4), .val (.int (1 : Int32)), .val (.double (FP.i2d p1)), .second, .val (.double (FP.i2d p2)), .second, .val (.double (FP.i2d p4)), .second, .val (.ref b71), .val (.int (1 : Int32)), .val (.double (FP.i2d p2)), .second, .val (.int (1 : Int32)), .val (.int (1 : Int32)), .unset] [(.double (FP.i2d p4)), (.double (FP.i2d p4))]))
      refine own_via (fun t k => XS.dcmpS X76.here hx rfl (hb hby at_175) rfl (own_dc_eq rfl _) k) ?_
      show own_G p e below _ (T76.setTop (mkF m 176 #[.val (.int p1), .val (.int p2), .val (.int p3), .val (.int p4), .val (.int (1 : Int32)), .val (.double (FP.i2d p1)), .second, .val (.double (FP.i2d p2)), .second, .val (.double (FP.i2d p4)), .second, .val (.ref b71), .val (.int (1 : Int32)), .val (.double (FP.i2d p2)), .second, .val (.int (1 : Int32)), .val (.int (1 : Int32)), .unset] [(.int (0 : Int32))]))
      refine own_via (fun t k => XS.ifNo X76.here hx rfl (hb hby at_176) rfl ((if0 _ _).trans (teq (by decide : (0 : Int32) = (0 : Int32))).2) k) ?_
      show own_G p e below _ (T76.setTop (mkF m 179 #[.val (.int p1), .val (.int p2), .val (.int p3), .val (.int p4), .val (.int (1 : Int32)), .val (.double (FP.i2d p1)), .second, .val (.double (FP.i2d p2)), .second, .val (.double (FP.i2d p4)), .second, .val (.ref b71), .val (.int (1 : Int32)), .val (.double (FP.i2d p2)), .second, .val (.int (1 : Int32)), .val (.int (1 : Int32)), .unset] []))
      refine own_via (fun t k => XS.iconst X76.here hx rfl (hb hby at_179) k) ?_
      show own_G p e below _ (T76.setTop (mkF m 180 #[.val (.int p1), .val (.int p2), .val (.int p3), .val (.int p4), .val (.int (1 : Int32)), .val (.double (FP.i2d p1)), .second, .val (.double (FP.i2d p2)), .second, .val (.double (FP.i2d p4)), .second, .val (.ref b71), .val (.int (1 : Int32)), .val (.double (FP.i2d p2)), .second, .val (.int (1 : Int32)), .val (.int (1 : Int32)), .unset] [(.int (1 : Int32))]))
      refine own_via (fun t k => XS.goto X76.here hx rfl (pc0 := 180) (pc' := 184) rfl (hb hby at_180) (by decide) (by decide) k) ?_
      show own_G p e below _ (T76.setTop (mkF m 184 #[.val (.int p1), .val (.int p2), .val (.int p3), .val (.int p4), .val (.int (1 : Int32)), .val (.double (FP.i2d p1)), .second, .val (.double (FP.i2d p2)), .second, .val (.double (FP.i2d p4)), .second, .val (.ref b71), .val (.int (1 : Int32)), .val (.double (FP.i2d p2)), .second, .val (.int (1 : Int32)), .val (.int (1 : Int32)), .unset] [(.int (1 : Int32))]))
      refine own_via (fun t k => XS.istore X76.here hx rfl (hb hby at_184) rfl (l' := #[.val (.int p1), .val (.int p2), .val (.int p3), .val (.int p4), .val (.int (1 : Int32)), .val (.double (FP.i2d p1)), .second, .val (.double (FP.i2d p2)), .second, .val (.double (FP.i2d p4)), .second, .val (.ref b71), .val (.int (1 : Int32)), .val (.double (FP.i2d p2)), .second, .val (.int (1 : Int32)), .val (.int (1 : Int32)), .val (.int (1 : Int32))]) rfl k) ?_
      show own_G p e below _ (T76.setTop (mkF m 186 #[.val (.int p1), .val (.int p2), .val (.int p3), .val (.int p4), .val (.int (1 : Int32)), .val (.double (FP.i2d p1)), .second, .val (.double (FP.i2d p2)), .second, .val (.double (FP.i2d p4)), .second, .val (.ref b71), .val (.int (1 : Int32)), .val (.double (FP.i2d p2)), .second, .val (.int (1 : Int32)), .val (.int (1 : Int32)), .val (.int (1 : Int32))] []))
      refine own_via (fun t k => XS.iload X76.here hx rfl (hb hby at_186) rfl k) ?_
      show own_G p e below _ (T76.setTop (mkF m 188 #[.val (.int p1), .val (.int p2), .val (.int p3), .val (.int p4), .val (.int (1 : Int32)), .val (.double (FP.i2d p1)), .second, .val (.double (FP.i2d p2)), .second, .val (.double (FP.i2d p4)), .second, .val (.ref b71), .val (.int (1 : Int32)), .val (.double (FP.i2d p2)), .second, .val (.int (1 : Int32)), .val (.int (1 : Int32)), .val (.int (1 : Int32))] [(.int (1 : Int32))]))
      refine own_via (fun t k => XS.ifNo X76.here hx rfl (hb hby at_188) rfl ((if0 _ _).trans (feq (by decide : ¬ ((1 : Int32) = (0 : Int32)))).1) k) ?_
      show own_G p e below _ (T76.setTop (mkF m 191 #[.val (.int p1), .val (.int p2), .val (.int p3), .val (.int p4), .val (.int (1 : Int32)), .val (.double (FP.i2d p1)), .second, .val (.double (FP.i2d p2)), .second, .val (.double (FP.i2d p4)), .second, .val (.ref b71), .val (.int (1 : Int32)), .val (.double (FP.i2d p2)), .second, .val (.int (1 : Int32)), .val (.int (1 : Int32)), .val (.int (1 : Int32))] []))
      refine own_via (fun t k => XS.iload X76.here hx rfl (hb hby at_191) rfl k) ?_
      show own_G p e below _ (T76.setTop (mkF m 193 #[.val (.int p1), .val (.int p2), .val (.int p3), .val (.int p4), .val (.int (1 : Int32)), .val (.double (FP.i2d p1)), .second, .val (.double (FP.i2d p2)), .second, .val (.double (FP.i2d p4)), .second, .val (.ref b71), .val (.int (1 : Int32)), .val (.double (FP.i2d p2)), .second, .val (.int (1 : Int32)), .val (.int (1 : Int32)), .val (.int (1 : Int32))] [(.int (1 : Int32))]))
      refine own_via (fun t k => XS.ifNo X76.here hx rfl (hb hby at_193) rfl ((if0 _ _).trans (feq (by decide : ¬ ((1 : Int32) = (0 : Int32)))).1) k) ?_
      show own_G p e below _ (T76.setTop (mkF m 196 #[.val (.int p1), .val (.int p2), .val (.int p3), .val (.int p4), .val (.int (1 : Int32)), .val (.double (FP.i2d p1)), .second, .val (.double (FP.i2d p2)), .second, .val (.double (FP.i2d p4)), .second, .val (.ref b71), .val (.int (1 : Int32)), .val (.double (FP.i2d p2)), .second, .val (.int (1 : Int32)), .val (.int (1 : Int32)), .val (.int (1 : Int32))] []))
      refine own_via (fun t k => XS.iload X76.here hx rfl (hb hby at_196) rfl k) ?_
      show own_G p e below _ (T76.setTop (mkF m 198 #[.val (.int p1), .val (.int p2), .val (.int p3), .val (.int p4), .val (.int (1 : Int32)), .val (.double (FP.i2d p1)), .second, .val (.double (FP.i2d p2)), .second, .val (.double (FP.i2d p4)), .second, .val (.ref b71), .val (.int (1 : Int32)), .val (.double (FP.i2d p2)), .second, .val (.int (1 : Int32)), .val (.int (1 : Int32)), .val (.int (1 : Int32))] [(.int (1 : Int32))]))
      refine own_via (fun t k => XS.ifNo X76.here hx rfl (hb hby at_198) rfl ((if0 _ _).trans (feq (by decide : ¬ ((1 : Int32) = (0 : Int32)))).1) k) ?_
      show own_G p e below _ (T76.setTop (mkF m 201 #[.val (.int p1), .val (.int p2), .val (.int p3), .val (.int p4), .val (.int (1 : Int32)), .val (.double (FP.i2d p1)), .second, .val (.double (FP.i2d p2)), .second, .val (.double (FP.i2d p4)), .second, .val (.ref b71), .val (.int (1 : Int32)), .val (.double (FP.i2d p2)), .second, .val (.int (1 : Int32)), .val (.int (1 : Int32)), .val (.int (1 : Int32))] []))
      refine own_via (fun t k => XS.iconst X76.here hx rfl (hb hby at_201) k) ?_
      show own_G p e below _ (T76.setTop (mkF m 202 #[.val (.int p1), .val (.int p2), .val (.int p3), .val (.int p4), .val (.int (1 : Int32)), .val (.double (FP.i2d p1)), .second, .val (.double (FP.i2d p2)), .second, .val (.double (FP.i2d p4)), .second, .val (.ref b71), .val (.int (1 : Int32)), .val (.double (FP.i2d p2)), .second, .val (.int (1 : Int32)), .val (.int (1 : Int32)), .val (.int (1 : Int32))] [(.int (1 : Int32))]))
      refine own_via (fun t k => XS.goto X76.here hx rfl (pc0 := 202) (pc' := 206) rfl (hb hby at_202) (by decide) (by decide) k) ?_
      show own_G p e below _ (T76.setTop (mkF m 206 #[.val (.int p1), .val (.int p2), .val (.int p3), .val (.int p4), .val (.int (1 : Int32)), .val (.double (FP.i2d p1)), .second, .val (.double (FP.i2d p2)), .second, .val (.double (FP.i2d p4)), .second, .val (.ref b71), .val (.int (1 : Int32)), .val (.double (FP.i2d p2)), .second, .val (.int (1 : Int32)), .val (.int (1 : Int32)), .val (.int (1 : Int32))] [(.int (1 : Int32))]))
      obtain ⟨fs, hr, hrun, hended, hW, hsame⟩ := X76.leave (v := some (.int (1 : Int32))) (fun h => by rw [Bd.returns] at h; cases h)
      refine ⟨_, _, retN X76 hx (t := .boolean) Bd.returns (by simp) (hb hby at_206) hr, hrun, hended, _, _, rfl, ?_, ⟨_, rfl⟩, hW, hsame.mono (by decide) (by decide)⟩
      show rm0_Q Z p1 p2 p3 p4 h0 n0 _ T76.heap _
      exact ⟨rfl, N76⟩
    · rw [hk]
      show own_G p e below _ (s₁.setTop (mkF m 6 #[.val (.int p1), .val (.int p2), .val (.int p3), .val (.int p4), .unset, .unset, .unset, .unset, .unset, .unset, .unset, .unset, .unset, .unset, .unset, .unset, .unset, .unset] [(.int (1 : Int32))]))
      refine own_via (fun t k => XS.istore X0.here hx rfl (hb hby at_6) rfl (l' := #[.val (.int p1), .val (.int p2), .val (.int p3), .val (.int p4), .val (.int (1 : Int32)), .unset, .unset, .unset, .unset, .unset, .unset, .unset, .unset, .unset, .unset, .unset, .unset, .unset]) rfl k) ?_
      show own_G p e below _ (s₁.setTop (mkF m 8 #[.val (.int p1), .val (.int p2), .val (.int p3), .val (.int p4), .val (.int (1 : Int32)), .unset, .unset, .unset, .unset, .unset, .unset, .unset, .unset, .unset, .unset, .unset, .unset, .unset] []))
      refine own_via (fun t k => XS.iloadN X0.here hx rfl (hb hby at_8) rfl k) ?_
      show own_G p e below _ (s₁.setTop (mkF m 9 #[.val (.int p1), .val (.int p2), .val (.int p3), .val (.int p4), .val (.int (1 : Int32)), .unset, .unset, .unset, .unset, .unset, .unset, .unset, .unset, .unset, .unset, .unset, .unset, .unset] [(.int p1)]))
      refine own_via (fun t k => XS.i2dS X0.here hx rfl (hb hby at_9) rfl rfl k) ?_
      show own_G p e below _ (s₁.setTop (mkF m 10 #[.val (.int p1), .val (.int p2), .val (.int p3), .val (.int p4), .val (.int (1 : Int32)), .unset, .unset, .unset, .unset, .unset, .unset, .unset, .unset, .unset, .unset, .unset, .unset, .unset] [(.double (FP.i2d p1))]))
      refine own_via (fun t k => XS.dstore X0.here hx rfl (hb hby at_10) rfl (l' := #[.val (.int p1), .val (.int p2), .val (.int p3), .val (.int p4), .val (.int (1 : Int32)), .val (.double (FP.i2d p1)), .second, .unset, .unset, .unset, .unset, .unset, .unset, .unset, .unset, .unset, .unset, .unset]) rfl k) ?_
      show own_G p e below _ (s₁.setTop (mkF m 12 #[.val (.int p1), .val (.int p2), .val (.int p3), .val (.int p4), .val (.int (1 : Int32)), .val (.double (FP.i2d p1)), .second, .unset, .unset, .unset, .unset, .unset, .unset, .unset, .unset, .unset, .unset, .unset] []))
      refine own_via (fun t k => XS.iloadN X0.here hx rfl (hb hby at_12) rfl k) ?_
      show own_G p e below _ (s₁.setTop (mkF m 13 #[.val (.int p1), .val (.int p2), .val (.int p3), .val (.int p4), .val (.int (1 : Int32)), .val (.double (FP.i2d p1)), .second, .unset, .unset, .unset, .unset, .unset, .unset, .unset, .unset, .unset, .unset, .unset] [(.int p2)]))
      refine own_via (fun t k => XS.i2dS X0.here hx rfl (hb hby at_13) rfl rfl k) ?_
      show own_G p e below _ (s₁.setTop (mkF m 14 #[.val (.int p1), .val (.int p2), .val (.int p3), .val (.int p4), .val (.int (1 : Int32)), .val (.double (FP.i2d p1)), .second, .unset, .unset, .unset, .unset, .unset, .unset, .unset, .unset, .unset, .unset, .unset] [(.double (FP.i2d p2))]))
      refine own_via (fun t k => XS.dstore X0.here hx rfl (hb hby at_14) rfl (l' := #[.val (.int p1), .val (.int p2), .val (.int p3), .val (.int p4), .val (.int (1 : Int32)), .val (.double (FP.i2d p1)), .second, .val (.double (FP.i2d p2)), .second, .unset, .unset, .unset, .unset, .unset, .unset, .unset, .unset, .unset]) rfl k) ?_
      show own_G p e below _ (s₁.setTop (mkF m 16 #[.val (.int p1), .val (.int p2), .val (.int p3), .val (.int p4), .val (.int (1 : Int32)), .val (.double (FP.i2d p1)), .second, .val (.double (FP.i2d p2)), .second, .unset, .unset, .unset, .unset, .unset, .unset, .unset, .unset, .unset] []))
      refine own_via (fun t k => XS.iloadN X0.here hx rfl (hb hby at_16) rfl k) ?_
      show own_G p e below _ (s₁.setTop (mkF m 17 #[.val (.int p1), .val (.int p2), .val (.int p3), .val (.int p4), .val (.int (1 : Int32)), .val (.double (FP.i2d p1)), .second, .val (.double (FP.i2d p2)), .second, .unset, .unset, .unset, .unset, .unset, .unset, .unset, .unset, .unset] [(.int p4)]))
      refine own_via (fun t k => XS.i2dS X0.here hx rfl (hb hby at_17) rfl rfl k) ?_
      show own_G p e below _ (s₁.setTop (mkF m 18 #[.val (.int p1), .val (.int p2), .val (.int p3), .val (.int p4), .val (.int (1 : Int32)), .val (.double (FP.i2d p1)), .second, .val (.double (FP.i2d p2)), .second, .unset, .unset, .unset, .unset, .unset, .unset, .unset, .unset, .unset] [(.double (FP.i2d p4))]))
      refine own_via (fun t k => XS.dstore X0.here hx rfl (hb hby at_18) rfl (l' := #[.val (.int p1), .val (.int p2), .val (.int p3), .val (.int p4), .val (.int (1 : Int32)), .val (.double (FP.i2d p1)), .second, .val (.double (FP.i2d p2)), .second, .val (.double (FP.i2d p4)), .second, .unset, .unset, .unset, .unset, .unset, .unset, .unset]) rfl k) ?_
      show own_G p e below _ (s₁.setTop (mkF m 20 #[.val (.int p1), .val (.int p2), .val (.int p3), .val (.int p4), .val (.int (1 : Int32)), .val (.double (FP.i2d p1)), .second, .val (.double (FP.i2d p2)), .second, .val (.double (FP.i2d p4)), .second, .unset, .unset, .unset, .unset, .unset, .unset, .unset] []))
      refine own_via (fun t k => XS.iconst X0.here hx rfl (hb hby at_20) k) ?_
      show own_G p e below _ (s₁.setTop (mkF m 21 #[.val (.int p1), .val (.int p2), .val (.int p3), .val (.int p4), .val (.int (1 : Int32)), .val (.double (FP.i2d p1)), .second, .val (.double (FP.i2d p2)), .second, .val (.double (FP.i2d p4)), .second, .unset, .unset, .unset, .unset, .unset, .unset, .unset] [(.int (3 : Int32))]))
      obtain ⟨T95, h95, k95, X95, e95, E95, A95, st95⟩ := newP X0 hx hZ (hw _ (List.mem_of_getElem? (i := 1) rfl)) e0 (g := (mkF m 21 #[.val (.int p1), .val (.int p2), .val (.int p3), .val (.int p4), .val (.int (1 : Int32)), .val (.double (FP.i2d p1)), .second, .val (.double (FP.i2d p2)), .second, .val (.double (FP.i2d p4)), .second, .unset, .unset, .unset, .unset, .unset, .unset, .unset] [(.int (3 : Int32))])) rfl (hb hby at_21) rfl (by decide) (cap := 3) (by decide) (by decide) (by decide) (by decide)
      obtain ⟨b95, g95⟩ : ∃ z, z = h0.size := ⟨_, rfl⟩
      rw [← g95] at A95 st95
      have gx_b95 : n0 ≤ b95 := Nat.le_trans Z0 (Nat.le_of_eq g95.symm)
      have Z95 : n0 ≤ h95.size := Nat.le_trans Z0 E95.1
      have V95 : Arv Z h95 b95 k95 .double (3 : Int32) [(.double (0 : UInt64)), (.double (0 : UInt64)), (.double (0 : UInt64))] (.double (0 : UInt64)) := (Arv.new A95 (by decide)).pad (pad_rep [] (.double (0 : UInt64)) 3)
      refine own_via st95 ?_
      show own_G p e below _ (T95.setTop (mkF m 23 #[.val (.int p1), .val (.int p2), .val (.int p3), .val (.int p4), .val (.int (1 : Int32)), .val (.double (FP.i2d p1)), .second, .val (.double (FP.i2d p2)), .second, .val (.double (FP.i2d p4)), .second, .unset, .unset, .unset, .unset, .unset, .unset, .unset] [(.ref b95)]))
      refine own_via (fun t k => XS.astore X95.here hx rfl (hb hby at_23) rfl rfl (l' := #[.val (.int p1), .val (.int p2), .val (.int p3), .val (.int p4), .val (.int (1 : Int32)), .val (.double (FP.i2d p1)), .second, .val (.double (FP.i2d p2)), .second, .val (.double (FP.i2d p4)), .second, .val (.ref b95), .unset, .unset, .unset, .unset, .unset, .unset]) rfl k) ?_
      show own_G p e below _ (T95.setTop (mkF m 25 #[.val (.int p1), .val (.int p2), .val (.int p3), .val (.int p4), .val (.int (1 : Int32)), .val (.double (FP.i2d p1)), .second, .val (.double (FP.i2d p2)), .second, .val (.double (FP.i2d p4)), .second, .val (.ref b95), .unset, .unset, .unset, .unset, .unset, .unset] []))
      refine own_via (fun t k => XS.aload X95.here hx rfl (hb hby at_25) rfl rfl k) ?_
      show own_G p e below _ (T95.setTop (mkF m 27 #[.val (.int p1), .val (.int p2), .val (.int p3), .val (.int p4), .val (.int (1 : Int32)), .val (.double (FP.i2d p1)), .second, .val (.double (FP.i2d p2)), .second, .val (.double (FP.i2d p4)), .second, .val (.ref b95), .unset, .unset, .unset, .unset, .unset, .unset] [(.ref b95)]))
      refine own_via (fun t k => XS.iconst X95.here hx rfl (hb hby at_27) k) ?_
      show own_G p e below _ (T95.setTop (mkF m 28 #[.val (.int p1), .val (.int p2), .val (.int p3), .val (.int p4), .val (.int (1 : Int32)), .val (.double (FP.i2d p1)), .second, .val (.double (FP.i2d p2)), .second, .val (.double (FP.i2d p4)), .second, .val (.ref b95), .unset, .unset, .unset, .unset, .unset, .unset] [(.int (0 : Int32)), (.ref b95)]))
      refine own_via (fun t k => XS.dload X95.here hx rfl (hb hby at_28) rfl k) ?_
      show own_G p e below _ (T95.setTop (mkF m 30 #[.val (.int p1), .val (.int p2), .val (.int p3), .val (.int p4), .val (.int (1 : Int32)), .val (.double (FP.i2d p1)), .second, .val (.double (FP.i2d p2)), .second, .val (.double (FP.i2d p4)), .second, .val (.ref b95), .unset, .unset, .unset, .unset, .unset, .unset] [(.double (FP.i2d p4)), (.int (0 : Int32)), (.ref b95)]))
      obtain ⟨cl96, Ar96, q96, S96, Ng96, Hs96, G96⟩ := id V95
      have hin96 : ¬ ((0 : Int32) < 0 ∨ cl96.slots.size ≤ ((0 : Int32)).toNatClampNeg) := inb_of S96 ⟨by decide, by decide⟩
      obtain ⟨T96, h96, X96, e96, W96, st96⟩ := stD X95 hx hZ e95 Ar96 (j := (0 : Int32)) hin96 (g := (mkF m 30 #[.val (.int p1), .val (.int p2), .val (.int p3), .val (.int p4), .val (.int (1 : Int32)), .val (.double (FP.i2d p1)), .second, .val (.double (FP.i2d p2)), .second, .val (.double (FP.i2d p4)), .second, .val (.ref b95), .unset, .unset, .unset, .unset, .unset, .unset] [(.double (FP.i2d p4)), (.int (0 : Int32)), (.ref b95)])) rfl rfl (hb hby at_30)
      have V96 : Arv Z h96 b95 k95 .double (3 : Int32) [(.double (FP.i2d p4)), (.double (0 : UInt64)), (.double (0 : UInt64))] (.double (0 : UInt64)) := Arv.set Ar96 q96 S96 Ng96 Hs96 G96 rfl W96 0 rfl (Nat.le_of_ble_eq_true rfl)
      have N96 := Fr.snoc X96 N0 gx_b95
      have Z96 : n0 ≤ h96.size := Nat.le_trans Z95 (Nat.le_of_eq W96.size.symm)
      refine own_via st96 ?_
      show own_G p e below _ (T96.setTop (mkF m 31 #[.val (.int p1), .val (.int p2), .val (.int p3), .val (.int p4), .val (.int (1 : Int32)), .val (.double (FP.i2d p1)), .second, .val (.double (FP.i2d p2)), .second, .val (.double (FP.i2d p4)), .second, .val (.ref b95), .unset, .unset, .unset, .unset, .unset, .unset] []))
      refine own_via (fun t k => XS.aload X96.here hx rfl (hb hby at_31) rfl rfl k) ?_
      show own_G p e below _ (T96.setTop (mkF m 33 #[.val (.int p1), .val (.int p2), .val (.int p3), .val (.int p4), .val (.int (1 : Int32)), .val (.double (FP.i2d p1)), .second, .val (.double (FP.i2d p2)), .second, .val (.double (FP.i2d p4)), .second, .val (.ref b95), .unset, .unset, .unset, .unset, .unset, .unset] [(.ref b95)]))
      refine own_via (fun t k => XS.iconst X96.here hx rfl (hb hby at_33) k) ?_
      show own_G p e below _ (T96.setTop (mkF m 34 #[.val (.int p1), .val (.int p2), .val (.int p3), .val (.int p4), .val (.int (1 : Int32)), .val (.double (FP.i2d p1)), .second, .val (.double (FP.i2d p2)), .second, .val (.double (FP.i2d p4)), .second, .val (.ref b95), .unset, .unset, .unset, .unset, .unset, .unset] [(.int (1 : Int32)), (.ref b95)]))
      refine own_via (fun t k => XS.dload X96.here hx rfl (hb hby at_34) rfl k) ?_
      show own_G p e below _ (T96.setTop (mkF m 36 #[.val (.int p1), .val (.int p2), .val (.int p3), .val (.int p4), .val (.int (1 : Int32)), .val (.double (FP.i2d p1)), .second, .val (.double (FP.i2d p2)), .second, .val (.double (FP.i2d p4)), .second, .val (.ref b95), .unset, .unset, .unset, .unset, .unset, .unset] [(.double (FP.i2d p4)), (.int (1 : Int32)), (.ref b95)]))
      obtain ⟨cl97, Ar97, q97, S97, Ng97, Hs97, G97⟩ := id V96
      have hin97 : ¬ ((1 : Int32) < 0 ∨ cl97.slots.size ≤ ((1 : Int32)).toNatClampNeg) := inb_of S97 ⟨by decide, by decide⟩
      obtain ⟨T97, h97, X97, e97, W97, st97⟩ := stD X96 hx hZ e96 Ar97 (j := (1 : Int32)) hin97 (g := (mkF m 36 #[.val (.int p1), .val (.int p2), .val (.int p3), .val (.int p4), .val (.int (1 : Int32)), .val (.double (FP.i2d p1)), .second, .val (.double (FP.i2d p2)), .second, .val (.double (FP.i2d p4)), .second, .val (.ref b95), .unset, .unset, .unset, .unset, .unset, .unset] [(.double (FP.i2d p4)), (.int (1 : Int32)), (.ref b95)])) rfl rfl (hb hby at_36)
      have V97 : Arv Z h97 b95 k95 .double (3 : Int32) [(.double (FP.i2d p4)), (.double (FP.i2d p4)), (.double (0 : UInt64))] (.double (0 : UInt64)) := Arv.set Ar97 q97 S97 Ng97 Hs97 G97 rfl W97 1 rfl (Nat.le_of_ble_eq_true rfl)
      have N97 := Fr.snoc X97 N96 gx_b95
      have Z97 : n0 ≤ h97.size := Nat.le_trans Z96 (Nat.le_of_eq W97.size.symm)
      refine own_via st97 ?_
      show own_G p e below _ (T97.setTop (mkF m 37 #[.val (.int p1), .val (.int p2), .val (.int p3), .val (.int p4), .val (.int (1 : Int32)), .val (.double (FP.i2d p1)), .second, .val (.double (FP.i2d p2)), .second, .val (.double (FP.i2d p4)), .second, .val (.ref b95), .unset, .unset, .unset, .unset, .unset, .unset] []))
      refine own_via (fun t k => XS.aload X97.here hx rfl (hb hby at_37) rfl rfl k) ?_
      show own_G p e below _ (T97.setTop (mkF m 39 #[.val (.int p1), .val (.int p2), .val (.int p3), .val (.int p4), .val (.int (1 : Int32)), .val (.double (FP.i2d p1)), .second, .val (.double (FP.i2d p2)), .second, .val (.double (FP.i2d p4)), .second, .val (.ref b95), .unset, .unset, .unset, .unset, .unset, .unset] [(.ref b95)]))
      refine own_via (fun t k => XS.iconst X97.here hx rfl (hb hby at_39) k) ?_
      show own_G p e below _ (T97.setTop (mkF m 40 #[.val (.int p1), .val (.int p2), .val (.int p3), .val (.int p4), .val (.int (1 : Int32)), .val (.double (FP.i2d p1)), .second, .val (.double (FP.i2d p2)), .second, .val (.double (FP.i2d p4)), .second, .val (.ref b95), .unset, .unset, .unset, .unset, .unset, .unset] [(.int (2 : Int32)), (.ref b95)]))
      refine own_via (fun t k => XS.dload X97.here hx rfl (hb hby at_40) rfl k) ?_
      show own_G p e below _ (T97.setTop (mkF m 42 #[.val (.int p1), .val (.int p2), .val (.int p3), .val (.int p4), .val (.int (1 : Int32)), .val (.double (FP.i2d p1)), .second, .val (.double (FP.i2d p2)), .second, .val (.double (FP.i2d p4)), .second, .val (.ref b95), .unset, .unset, .unset, .unset, .unset, .unset] [(.double (FP.i2d p4)), (.int (2 : Int32)), (.ref b95)]))
      obtain ⟨cl98, Ar98, q98, S98, Ng98, Hs98, G98⟩ := id V97
      have hin98 : ¬ ((2 : Int32) < 0 ∨ cl98.slots.size ≤ ((2 : Int32)).toNatClampNeg) := inb_of S98 ⟨by decide, by decide⟩
      obtain ⟨T98, h98, X98, e98, W98, st98⟩ := stD X97 hx hZ e97 Ar98 (j := (2 : Int32)) hin98 (g := (mkF m 42 #[.val (.int p1), .val (.int p2), .val (.int p3), .val (.int p4), .val (.int (1 : Int32)), .val (.double (FP.i2d p1)), .second, .val (.double (FP.i2d p2)), .second, .val (.double (FP.i2d p4)), .second, .val (.ref b95), .unset, .unset, .unset, .unset, .unset, .unset] [(.double (FP.i2d p4)), (.int (2 : Int32)), (.ref b95)])) rfl rfl (hb hby at_42)
      have V98 : Arv Z h98 b95 k95 .double (3 : Int32) [(.double (FP.i2d p4)), (.double (FP.i2d p4)), (.double (FP.i2d p4))] (.double (0 : UInt64)) := Arv.set Ar98 q98 S98 Ng98 Hs98 G98 rfl W98 2 rfl (Nat.le_of_ble_eq_true rfl)
      have N98 := Fr.snoc X98 N97 gx_b95
      have Z98 : n0 ≤ h98.size := Nat.le_trans Z97 (Nat.le_of_eq W98.size.symm)
      refine own_via st98 ?_
      show own_G p e below _ (T98.setTop (mkF m 43 #[.val (.int p1), .val (.int p2), .val (.int p3), .val (.int p4), .val (.int (1 : Int32)), .val (.double (FP.i2d p1)), .second, .val (.double (FP.i2d p2)), .second, .val (.double (FP.i2d p4)), .second, .val (.ref b95), .unset, .unset, .unset, .unset, .unset, .unset] []))
      refine own_via (fun t k => XS.aload X98.here hx rfl (hb hby at_43) rfl rfl k) ?_
      show own_G p e below _ (T98.setTop (mkF m 45 #[.val (.int p1), .val (.int p2), .val (.int p3), .val (.int p4), .val (.int (1 : Int32)), .val (.double (FP.i2d p1)), .second, .val (.double (FP.i2d p2)), .second, .val (.double (FP.i2d p4)), .second, .val (.ref b95), .unset, .unset, .unset, .unset, .unset, .unset] [(.ref b95)]))
      refine own_via (fun t k => XS.iload X98.here hx rfl (hb hby at_45) rfl k) ?_
      show own_G p e below _ (T98.setTop (mkF m 47 #[.val (.int p1), .val (.int p2), .val (.int p3), .val (.int p4), .val (.int (1 : Int32)), .val (.double (FP.i2d p1)), .second, .val (.double (FP.i2d p2)), .second, .val (.double (FP.i2d p4)), .second, .val (.ref b95), .unset, .unset, .unset, .unset, .unset, .unset] [(.int (1 : Int32)), (.ref b95)]))
      refine own_via (fun t k => XS.dload X98.here hx rfl (hb hby at_47) rfl k) ?_
      show own_G p e below _ (T98.setTop (mkF m 49 #[.val (.int p1), .val (.int p2), .val (.int p3), .val (.int p4), .val (.int (1 : Int32)), .val (.double (FP.i2d p1)), .second, .val (.double (FP.i2d p2)), .second, .val (.double (FP.i2d p4)), .second, .val (.ref b95), .unset, .unset, .unset, .unset, .unset, .unset] [(.double (FP.i2d p1)), (.int (1 : Int32)), (.ref b95)]))
      obtain ⟨cl99, Ar99, q99, S99, Ng99, Hs99, G99⟩ := id V98
      have hin99 : ¬ ((1 : Int32) < 0 ∨ cl99.slots.size ≤ ((1 : Int32)).toNatClampNeg) := inb_of S99 ⟨by decide, by decide⟩
      obtain ⟨T99, h99, X99, e99, W99, st99⟩ := stD X98 hx hZ e98 Ar99 (j := (1 : Int32)) hin99 (g := (mkF m 49 #[.val (.int p1), .val (.int p2), .val (.int p3), .val (.int p4), .val (.int (1 : Int32)), .val (.double (FP.i2d p1)), .second, .val (.double (FP.i2d p2)), .second, .val (.double (FP.i2d p4)), .second, .val (.ref b95), .unset, .unset, .unset, .unset, .unset, .unset] [(.double (FP.i2d p1)), (.int (1 : Int32)), (.ref b95)])) rfl rfl (hb hby at_49)
      have V99 : Arv Z h99 b95 k95 .double (3 : Int32) [(.double (FP.i2d p4)), (.double (FP.i2d p1)), (.double (FP.i2d p4))] (.double (0 : UInt64)) := Arv.set Ar99 q99 S99 Ng99 Hs99 G99 rfl W99 1 rfl (Nat.le_of_ble_eq_true rfl)
      have N99 := Fr.snoc X99 N98 gx_b95
      have Z99 : n0 ≤ h99.size := Nat.le_trans Z98 (Nat.le_of_eq W99.size.symm)
      refine own_via st99 ?_
      show own_G p e below _ (T99.setTop (mkF m 50 #[.val (.int p1), .val (.int p2), .val (.int p3), .val (.int p4), .val (.int (1 : Int32)), .val (.double (FP.i2d p1)), .second, .val (.double (FP.i2d p2)), .second, .val (.double (FP.i2d p4)), .second, .val (.ref b95), .unset, .unset, .unset, .unset, .unset, .unset] []))
      refine own_via (fun t k => XS.aload X99.here hx rfl (hb hby at_50) rfl rfl k) ?_
      show own_G p e below _ (T99.setTop (mkF m 52 #[.val (.int p1), .val (.int p2), .val (.int p3), .val (.int p4), .val (.int (1 : Int32)), .val (.double (FP.i2d p1)), .second, .val (.double (FP.i2d p2)), .second, .val (.double (FP.i2d p4)), .second, .val (.ref b95), .unset, .unset, .unset, .unset, .unset, .unset] [(.ref b95)]))
      refine own_via (fun t k => XS.iload X99.here hx rfl (hb hby at_52) rfl k) ?_
      show own_G p e below _ (T99.setTop (mkF m 54 #[.val (.int p1), .val (.int p2), .val (.int p3), .val (.int p4), .val (.int (1 : Int32)), .val (.double (FP.i2d p1)), .second, .val (.double (FP.i2d p2)), .second, .val (.double (FP.i2d p4)), .second, .val (.ref b95), .unset, .unset, .unset, .unset, .unset, .unset] [(.int (1 : Int32)), (.ref b95)]))
      refine own_via (fun t k => XS.dload X99.here hx rfl (hb hby at_54) rfl k) ?_
      show own_G p e below _ (T99.setTop (mkF m 56 #[.val (.int p1), .val (.int p2), .val (.int p3), .val (.int p4), .val (.int (1 : Int32)), .val (.double (FP.i2d p1)), .second, .val (.double (FP.i2d p2)), .second, .val (.double (FP.i2d p4)), .second, .val (.ref b95), .unset, .unset, .unset, .unset, .unset, .unset] [(.double (FP.i2d p2)), (.int (1 : Int32)), (.ref b95)]))
      obtain ⟨_, _, ⟨T100, L100, k100, n100⟩, -, X100, ⟨Lc100, hQ100, l100, y100, z100⟩, st100⟩ := Jvm.LawKit.callS X99 hx (y := (⟨"com/example/odds2/odds2/engine/Bounds", "tightenUpper", "([DID)Z"⟩ : MethodName)) hown (mvT hZ (hw _ (List.mem_of_getElem? (i := 2) rfl))) (mvT hZ (hw _ (List.mem_of_getElem? (i := 3) rfl))) (mvT hZ (hw _ (List.mem_of_getElem? (i := 4) rfl))) (mvT hZ (hw _ (List.mem_of_getElem? (i := 5) rfl))) (by decide) (backOf (W := 0) (rm1_1eq l Z a0 hw [] b95 p4 p1 p4 p2 k95 h99 n0 Z99 V99 gx_b95 hob) hZ (hw _ (List.mem_of_getElem? (i := 5) rfl)) (hw _ (List.mem_of_getElem? (i := 4) rfl)) (by decide) (by decide)) (g := (mkF m 56 #[.val (.int p1), .val (.int p2), .val (.int p3), .val (.int p4), .val (.int (1 : Int32)), .val (.double (FP.i2d p1)), .second, .val (.double (FP.i2d p2)), .second, .val (.double (FP.i2d p4)), .second, .val (.ref b95), .unset, .unset, .unset, .unset, .unset, .unset] [(.double (FP.i2d p2)), (.int (1 : Int32)), (.ref b95)])) rfl (by rw [hml]; rfl) (argsL := [(.ref b95), (.int (1 : Int32)), (.double (FP.i2d p2))]) (rest := []) (lenOf pd_rm0_0 rfl) rfl (by show 2 * 0 + _ ≤ _; exact Nat.le_of_eq rfl) (hb hby at_56) (fun _ _ => ⟨rfl, e99, (by decide : 1 + 0 ≤ _), (by decide : 3 + 0 ≤ _)⟩)
      dsimp only [Pt.U, Pt.locs, Pt.cells, Pt.slots] at X100 l100 y100 z100 st100 hQ100
      subst l100 y100 z100
      obtain ⟨rfl, N100q, K100, V100⟩ := hQ100
      have N100 := Fr.app N99 N100q
      have Z100 : n0 ≤ T100.heap.size := Nat.le_trans Z99 K100.1
      refine own_via st100 ?_
      show own_G p e below _ (T100.setTop (mkF m 59 #[.val (.int p1), .val (.int p2), .val (.int p3), .val (.int p4), .val (.int (1 : Int32)), .val (.double (FP.i2d p1)), .second, .val (.double (FP.i2d p2)), .second, .val (.double (FP.i2d p4)), .second, .val (.ref b95), .unset, .unset, .unset, .unset, .unset, .unset] [(.int (0 : Int32))]))
      refine own_via (fun t k => XS.istore X100.here hx rfl (hb hby at_59) rfl (l' := #[.val (.int p1), .val (.int p2), .val (.int p3), .val (.int p4), .val (.int (1 : Int32)), .val (.double (FP.i2d p1)), .second, .val (.double (FP.i2d p2)), .second, .val (.double (FP.i2d p4)), .second, .val (.ref b95), .val (.int (0 : Int32)), .unset, .unset, .unset, .unset, .unset]) rfl k) ?_
      show own_G p e below _ (T100.setTop (mkF m 61 #[.val (.int p1), .val (.int p2), .val (.int p3), .val (.int p4), .val (.int (1 : Int32)), .val (.double (FP.i2d p1)), .second, .val (.double (FP.i2d p2)), .second, .val (.double (FP.i2d p4)), .second, .val (.ref b95), .val (.int (0 : Int32)), .unset, .unset, .unset, .unset, .unset] []))
      refine own_via (fun t k => XS.aload X100.here hx rfl (hb hby at_61) rfl rfl k) ?_
      show own_G p e below _ (T100.setTop (mkF m 63 #[.val (.int p1), .val (.int p2), .val (.int p3), .val (.int p4), .val (.int (1 : Int32)), .val (.double (FP.i2d p1)), .second, .val (.double (FP.i2d p2)), .second, .val (.double (FP.i2d p4)), .second, .val (.ref b95), .val (.int (0 : Int32)), .unset, .unset, .unset, .unset, .unset] [(.ref b95)]))
      refine own_via (fun t k => XS.iload X100.here hx rfl (hb hby at_63) rfl k) ?_
      show own_G p e below _ (T100.setTop (mkF m 65 #[.val (.int p1), .val (.int p2), .val (.int p3), .val (.int p4), .val (.int (1 : Int32)), .val (.double (FP.i2d p1)), .second, .val (.double (FP.i2d p2)), .second, .val (.double (FP.i2d p4)), .second, .val (.ref b95), .val (.int (0 : Int32)), .unset, .unset, .unset, .unset, .unset] [(.int (1 : Int32)), (.ref b95)]))
      obtain ⟨cl102, Ar102, q102, S102, Ng102, Hs102, G102⟩ := id V100
      have hin102 : ¬ ((1 : Int32) < 0 ∨ cl102.slots.size ≤ ((1 : Int32)).toNatClampNeg) := inb_of S102 ⟨by decide, by decide⟩
      have hat102 : cl102.slots[((1 : Int32)).toNatClampNeg]? = some (.double (FP.i2d p1)) := Hs102.at hin102 rfl
      refine own_via (fun t k => X100.daload hx (j := (1 : Int32)) (v := (.double (FP.i2d p1))) Ar102.1 (State.isArrayOf_alike hZ.alike Ar102.2.1) Ar102.2.2 hin102 hat102 (g := (mkF m 65 #[.val (.int p1), .val (.int p2), .val (.int p3), .val (.int p4), .val (.int (1 : Int32)), .val (.double (FP.i2d p1)), .second, .val (.double (FP.i2d p2)), .second, .val (.double (FP.i2d p4)), .second, .val (.ref b95), .val (.int (0 : Int32)), .unset, .unset, .unset, .unset, .unset] [(.int (1 : Int32)), (.ref b95)])) rfl rfl (hb hby at_65) _ k) ?_
      show own_G p e below _ (T100.setTop (mkF m 66 #[.val (.int p1), .val (.int p2), .val (.int p3), .val (.int p4), .val (.int (1 : Int32)), .val (.double (FP.i2d p1)), .second, .val (.double (FP.i2d p2)), .second, .val (.double (FP.i2d p4)), .second, .val (.ref b95), .val (.int (0 : Int32)), .unset, .unset, .unset, .unset, .unset] [(.double (FP.i2d p1))]))
      refine own_via (fun t k => XS.dstore X100.here hx rfl (hb hby at_66) rfl (l' := #[.val (.int p1), .val (.int p2), .val (.int p3), .val (.int p4), .val (.int (1 : Int32)), .val (.double (FP.i2d p1)), .second, .val (.double (FP.i2d p2)), .second, .val (.double (FP.i2d p4)), .second, .val (.ref b95), .val (.int (0 : Int32)), .val (.double (FP.i2d p1)), .second, .unset, .unset, .unset]) rfl k) ?_
      show own_G p e below _ (T100.setTop (mkF m 68 #[.val (.int p1), .val (.int p2), .val (.int p3), .val (.int p4), .val (.int (1 : Int32)), .val (.double (FP.i2d p1)), .second, .val (.double (FP.i2d p2)), .second, .val (.double (FP.i2d p4)), .second, .val (.ref b95), .val (.int (0 : Int32)), .val (.double (FP.i2d p1)), .second, .unset, .unset, .unset] []))
      refine own_via (fun t k => XS.dload X100.here hx rfl (hb hby at_68) rfl k) ?_
      show own_G p e below _ (T100.setTop (mkF m 70 #[.val (.int p1), .val (.int p2), .val (.int p3), .val (.int p4), .val (.int (1 : Int32)), .val (.double (FP.i2d p1)), .second, .val (.double (FP.i2d p2)), .second, .val (.double (FP.i2d p4)), .second, .val (.ref b95), .val (.int (0 : Int32)), .val (.double (FP.i2d p1)), .second, .unset, .unset, .unset] [(.double (FP.i2d p1))]))
      refine own_via (fun t k => XS.dload X100.here hx rfl (hb hby at_70) rfl k) ?_
      show own_G p e below _ (T100.setTop (mkF m 72 #[.val (.int p1), .val (.int p2), .val (.int p3), .val (.int p4), .val (.int (1 : Int32)), .val (.double (FP.i2d p1)), .second, .val (.double (FP.i2d p2)), .second, .val (.double (FP.i2d p4)), .second, .val (.ref b95), .val (.int (0 : Int32)), .val (.double (FP.i2d p1)), .second, .unset, .unset, .unset] [(.double (FP.i2d p1)), (.double (FP.i2d p1))]))
      refine own_via (fun t k => XS.dcmpS X100.here hx rfl (hb hby at_72) rfl (own_dc_eq rfl _) k) ?_
      show own_G p e below _ (T100.setTop (mkF m 73 #[.val (.int p1), .val (.int p2), .val (.int p3), .val (.int p4), .val (.int (1 : Int32)), .val (.double (FP.i2d p1)), .second, .val (.double (FP.i2d p2)), .second, .val (.double (FP.i2d p4)), .second, .val (.ref b95), .val (.int (0 : Int32)), .val (.double (FP.i2d p1)), .second, .unset, .unset, .unset] [(.int (0 : Int32))]))
      refine own_via (fun t k => XS.ifNo X100.here hx rfl (hb hby at_73) rfl ((if0 _ _).trans (flt (by decide : ¬ ((0 : Int32) < (0 : Int32)))).1) k) ?_
      show own_G p e below _ (T100.setTop (mkF m 76 #[.val (.int p1), .val (.int p2), .val (.int p3), .val (.int p4), .val (.int (1 : Int32)), .val (.double (FP.i2d p1)), .second, .val (.double (FP.i2d p2)), .second, .val (.double (FP.i2d p4)), .second, .val (.ref b95), .val (.int (0 : Int32)), .val (.double (FP.i2d p1)), .second, .unset, .unset, .unset] []))
      refine own_via (fun t k => XS.dload X100.here hx rfl (hb hby at_76) rfl k) ?_
      show own_G p e below _ (T100.setTop (mkF m 78 #[.val (.int p1), .val (.int p2), .val (.int p3), .val (.int p4), .val (.int (1 : Int32)), .val (.double (FP.i2d p1)), .second, .val (.double (FP.i2d p2)), .second, .val (.double (FP.i2d p4)), .second, .val (.ref b95), .val (.int (0 : Int32)), .val (.double (FP.i2d p1)), .second, .unset, .unset, .unset] [(.double (FP.i2d p2))]))
      refine own_via (fun t k => XS.dload X100.here hx rfl (hb hby at_78) rfl k) ?_
      show own_G p e below _ (T100.setTop (mkF m 80 #[.val (.int p1), .val (.int p2), .val (.int p3), .val (.int p4), .val (.int (1 : Int32)), .val (.double (FP.i2d p1)), .second, .val (.double (FP.i2d p2)), .second, .val (.double (FP.i2d p4)), .second, .val (.ref b95), .val (.int (0 : Int32)), .val (.double (FP.i2d p1)), .second, .unset, .unset, .unset] [(.double (FP.i2d p1)), (.double (FP.i2d p2))]))
      refine own_via (fun t k => XS.dcmpS X100.here hx rfl (hb hby at_80) rfl (own_dc_eq hob _) k) ?_
      show own_G p e below _ (T100.setTop (mkF m 81 #[.val (.int p1), .val (.int p2), .val (.int p3), .val (.int p4), .val (.int (1 : Int32)), .val (.double (FP.i2d p1)), .second, .val (.double (FP.i2d p2)), .second, .val (.double (FP.i2d p4)), .second, .val (.ref b95), .val (.int (0 : Int32)), .val (.double (FP.i2d p1)), .second, .unset, .unset, .unset] [(.int (0 : Int32))]))
      refine own_via (fun t k => XS.ifNo X100.here hx rfl (hb hby at_81) rfl ((if0 _ _).trans (flt (by decide : ¬ ((0 : Int32) < (0 : Int32)))).1) k) ?_
      show own_G p e below _ (T100.setTop (mkF m 84 #[.val (.int p1), .val (.int p2), .val (.int p3), .val (.int p4), .val (.int (1 : Int32)), .val (.double (FP.i2d p1)), .second, .val (.double (FP.i2d p2)), .second, .val (.double (FP.i2d p4)), .second, .val (.ref b95), .val (.int (0 : Int32)), .val (.double (FP.i2d p1)), .second, .unset, .unset, .unset] []))
      refine own_via (fun t k => XS.dload X100.here hx rfl (hb hby at_84) rfl k) ?_
      show own_G p e below _ (T100.setTop (mkF m 86 #[.val (.int p1), .val (.int p2), .val (.int p3), .val (.int p4), .val (.int (1 : Int32)), .val (.double (FP.i2d p1)), .second, .val (.double (FP.i2d p2)), .second, .val (.double (FP.i2d p4)), .second, .val (.ref b95), .val (.int (0 : Int32)), .val (.double (FP.i2d p1)), .second, .unset, .unset, .unset] [(.double (FP.i2d p1))]))
      refine own_via (fun t k => XS.dload X100.here hx rfl (hb hby at_86) rfl k) ?_
      show own_G p e below _ (T100.setTop (mkF m 88 #[.val (.int p1), .val (.int p2), .val (.int p3), .val (.int p4), .val (.int (1 : Int32)), .val (.double (FP.i2d p1)), .second, .val (.double (FP.i2d p2)), .second, .val (.double (FP.i2d p4)), .second, .val (.ref b95), .val (.int (0 : Int32)), .val (.double (FP.i2d p1)), .second, .unset, .unset, .unset] [(.double (FP.i2d p1)), (.double (FP.i2d p1))]))
      refine own_via (fun t k => XS.dcmpS X100.here hx rfl (hb hby at_88) rfl (own_dc_eq rfl _) k) ?_
      show own_G p e below _ (T100.setTop (mkF m 89 #[.val (.int p1), .val (.int p2), .val (.int p3), .val (.int p4), .val (.int (1 : Int32)), .val (.double (FP.i2d p1)), .second, .val (.double (FP.i2d p2)), .second, .val (.double (FP.i2d p4)), .second, .val (.ref b95), .val (.int (0 : Int32)), .val (.double (FP.i2d p1)), .second, .unset, .unset, .unset] [(.int (0 : Int32))]))
      refine own_via (fun t k => XS.ifYes X100.here hx rfl (pc0 := 89) (pc' := 100) rfl (hb hby at_89) rfl ((if0 _ _).trans (teq (by decide : (0 : Int32) = (0 : Int32))).1) (by decide) (by decide) k) ?_
      show own_G p e below _ (T100.setTop (mkF m 100 #[.val (.int p1), .val (.int p2), .val (.int p3), .val (.int p4), .val (.int (1 : Int32)), .val (.double (FP.i2d p1)), .second, .val (.double (FP.i2d p2)), .second, .val (.double (FP.i2d p4)), .second, .val (.ref b95), .val (.int (0 : Int32)), .val (.double (FP.i2d p1)), .second, .unset, .unset, .unset] []))
      refine own_via (fun t k => XS.iconst X100.here hx rfl (hb hby at_100) k) ?_
      show own_G p e below _ (T100.setTop (mkF m 101 #[.val (.int p1), .val (.int p2), .val (.int p3), .val (.int p4), .val (.int (1 : Int32)), .val (.double (FP.i2d p1)), .second, .val (.double (FP.i2d p2)), .second, .val (.double (FP.i2d p4)), .second, .val (.ref b95), .val (.int (0 : Int32)), .val (.double (FP.i2d p1)), .second, .unset, .unset, .unset] [(.int (1 : Int32))]))
      refine own_via (fun t k => XS.goto X100.here hx rfl (pc0 := 101) (pc' := 105) rfl (hb hby at_101) (by decide) (by decide) k) ?_
      show own_G p e below _ (T100.setTop (mkF m 105 #[.val (.int p1), .val (.int p2), .val (.int p3), .val (.int p4), .val (.int (1 : Int32)), .val (.double (FP.i2d p1)), .second, .val (.double (FP.i2d p2)), .second, .val (.double (FP.i2d p4)), .second, .val (.ref b95), .val (.int (0 : Int32)), .val (.double (FP.i2d p1)), .second, .unset, .unset, .unset] [(.int (1 : Int32))]))
      refine own_via (fun t k => XS.istore X100.here hx rfl (hb hby at_105) rfl (l' := #[.val (.int p1), .val (.int p2), .val (.int p3), .val (.int p4), .val (.int (1 : Int32)), .val (.double (FP.i2d p1)), .second, .val (.double (FP.i2d p2)), .second, .val (.double (FP.i2d p4)), .second, .val (.ref b95), .val (.int (0 : Int32)), .val (.double (FP.i2d p1)), .second, .val (.int (1 : Int32)), .unset, .unset]) rfl k) ?_
      show own_G p e below _ (T100.setTop (mkF m 107 #[.val (.int p1), .val (.int p2), .val (.int p3), .val (.int p4), .val (.int (1 : Int32)), .val (.double (FP.i2d p1)), .second, .val (.double (FP.i2d p2)), .second, .val (.double (FP.i2d p4)), .second, .val (.ref b95), .val (.int (0 : Int32)), .val (.double (FP.i2d p1)), .second, .val (.int (1 : Int32)), .unset, .unset] []))
      refine own_via (fun t k => XS.iload X100.here hx rfl (hb hby at_107) rfl k) ?_
      show own_G p e below _ (T100.setTop (mkF m 109 #[.val (.int p1), .val (.int p2), .val (.int p3), .val (.int p4), .val (.int (1 : Int32)), .val (.double (FP.i2d p1)), .second, .val (.double (FP.i2d p2)), .second, .val (.double (FP.i2d p4)), .second, .val (.ref b95), .val (.int (0 : Int32)), .val (.double (FP.i2d p1)), .second, .val (.int (1 : Int32)), .unset, .unset] [(.int (0 : Int32))]))
      refine own_via (fun t k => XS.dload X100.here hx rfl (hb hby at_109) rfl k) ?_
      show own_G p e below _ (T100.setTop (mkF m 111 #[.val (.int p1), .val (.int p2), .val (.int p3), .val (.int p4), .val (.int (1 : Int32)), .val (.double (FP.i2d p1)), .second, .val (.double (FP.i2d p2)), .second, .val (.double (FP.i2d p4)), .second, .val (.ref b95), .val (.int (0 : Int32)), .val (.double (FP.i2d p1)), .second, .val (.int (1 : Int32)), .unset, .unset] [(.double (FP.i2d p2)), (.int (0 : Int32))]))
      refine own_via (fun t k => XS.dload X100.here hx rfl (hb hby at_111) rfl k) ?_
      show own_G p e below _ (T100.setTop (mkF m 113 #[.val (.int p1), .val (.int p2), .val (.int p3), .val (.int p4), .val (.int (1 : Int32)), .val (.double (FP.i2d p1)), .second, .val (.double (FP.i2d p2)), .second, .val (.double (FP.i2d p4)), .second, .val (.ref b95), .val (.int (0 : Int32)), .val (.double (FP.i2d p1)), .second, .val (.int (1 : Int32)), .unset, .unset] [(.double (FP.i2d p1)), (.double (FP.i2d p2)), (.int (0 : Int32))]))
      refine own_via (fun t k => XS.dcmpS X100.here hx rfl (hb hby at_113) rfl (own_dc_eq hob _) k) ?_
      show own_G p e below _ (T100.setTop (mkF m 114 #[.val (.int p1), .val (.int p2), .val (.int p3), .val (.int p4), .val (.int (1 : Int32)), .val (.double (FP.i2d p1)), .second, .val (.double (FP.i2d p2)), .second, .val (.double (FP.i2d p4)), .second, .val (.ref b95), .val (.int (0 : Int32)), .val (.double (FP.i2d p1)), .second, .val (.int (1 : Int32)), .unset, .unset] [(.int (0 : Int32)), (.int (0 : Int32))]))
      refine own_via (fun t k => XS.ifYes X100.here hx rfl (pc0 := 114) (pc' := 121) rfl (hb hby at_114) rfl ((if0 _ _).trans (flt (by decide : ¬ ((0 : Int32) < (0 : Int32)))).2.1) (by decide) (by decide) k) ?_
      show own_G p e below _ (T100.setTop (mkF m 121 #[.val (.int p1), .val (.int p2), .val (.int p3), .val (.int p4), .val (.int (1 : Int32)), .val (.double (FP.i2d p1)), .second, .val (.double (FP.i2d p2)), .second, .val (.double (FP.i2d p4)), .second, .val (.ref b95), .val (.int (0 : Int32)), .val (.double (FP.i2d p1)), .second, .val (.int (1 : Int32)), .unset, .unset] [(.int (0 : Int32))]))
      refine own_via (fun t k => XS.iconst X100.here hx rfl (hb hby at_121) k) ?_
      show own_G p e below _ (T100.setTop (mkF m 122 #[.val (.int p1), .val (.int p2), .val (.int p3), .val (.int p4), .val (.int (1 : Int32)), .val (.double (FP.i2d p1)), .second, .val (.double (FP.i2d p2)), .second, .val (.double (FP.i2d p4)), .second, .val (.ref b95), .val (.int (0 : Int32)), .val (.double (FP.i2d p1)), .second, .val (.int (1 : Int32)), .unset, .unset] [(.int (0 : Int32)), (.int (0 : Int32))]))
      refine own_via (fun t k => XS.icmpNo X100.here hx rfl (hb hby at_122) rfl (teq (by decide : (0 : Int32) = (0 : Int32))).2 k) ?_
      show own_G p e below _ (T100.setTop (mkF m 125 #[.val (.int p1), .val (.int p2), .val (.int p3), .val (.int p4), .val (.int (1 : Int32)), .val (.double (FP.i2d p1)), .second, .val (.double (FP.i2d p2)), .second, .val (.double (FP.i2d p4)), .second, .val (.ref b95), .val (.int (0 : Int32)), .val (.double (FP.i2d p1)), .second, .val (.int (1 : Int32)), .unset, .unset] []))
      refine own_via (fun t k => XS.iconst X100.here hx rfl (hb hby at_125) k) ?_
      show own_G p e below _ (T100.setTop (mkF m 126 #[.val (.int p1), .val (.int p2), .val (.int p3), .val (.int p4), .val (.int (1 : Int32)), .val (.double (FP.i2d p1)), .second, .val (.double (FP.i2d p2)), .second, .val (.double (FP.i2d p4)), .second, .val (.ref b95), .val (.int (0 : Int32)), .val (.double (FP.i2d p1)), .second, .val (.int (1 : Int32)), .unset, .unset] [(.int (1 : Int32))]))
      refine own_via (fun t k => XS.goto X100.here hx rfl (pc0 := 126) (pc' := 130) rfl (hb hby at_126) (by decide) (by decide) k) ?_
      show own_G p e below _ (T100.setTop (mkF m 130 #[.val (.int p1), .val (.int p2), .val (.int p3), .val (.int p4), .val (.int (1 : Int32)), .val (.double (FP.i2d p1)), .second, .val (.double (FP.i2d p2)), .second, .val (.double (FP.i2d p4)), .second, .val (.ref b95), .val (.int (0 : Int32)), .val (.double (FP.i2d p1)), .second, .val (.int (1 : Int32)), .unset, .unset] [(.int (1 : Int32))]))
      refine own_via (fun t k => XS.istore X100.here hx rfl (hb hby at_130) rfl (l' := #[.val (.int p1), .val (.int p2), .val (.int p3), .val (.int p4), .val (.int (1 : Int32)), .val (.double (FP.i2d p1)), .second, .val (.double (FP.i2d p2)), .second, .val (.double (FP.i2d p4)), .second, .val (.ref b95), .val (.int (0 : Int32)), .val (.double (FP.i2d p1)), .second, .val (.int (1 : Int32)), .val (.int (1 : Int32)), .unset]) rfl k) ?_
      show own_G p e below _ (T100.setTop (mkF m 132 #[.val (.int p1), .val (.int p2), .val (.int p3), .val (.int p4), .val (.int (1 : Int32)), .val (.double (FP.i2d p1)), .second, .val (.double (FP.i2d p2)), .second, .val (.double (FP.i2d p4)), .second, .val (.ref b95), .val (.int (0 : Int32)), .val (.double (FP.i2d p1)), .second, .val (.int (1 : Int32)), .val (.int (1 : Int32)), .unset] []))
      refine own_via (fun t k => XS.iload X100.here hx rfl (hb hby at_132) rfl k) ?_
      show own_G p e below _ (T100.setTop (mkF m 134 #[.val (.int p1), .val (.int p2), .val (.int p3), .val (.int p4), .val (.int (1 : Int32)), .val (.double (FP.i2d p1)), .second, .val (.double (FP.i2d p2)), .second, .val (.double (FP.i2d p4)), .second, .val (.ref b95), .val (.int (0 : Int32)), .val (.double (FP.i2d p1)), .second, .val (.int (1 : Int32)), .val (.int (1 : Int32)), .unset] [(.int (1 : Int32))]))
      refine own_via (fun t k => XS.ifNo X100.here hx rfl (hb hby at_134) rfl ((if0 _ _).trans (feq (by decide : ¬ ((1 : Int32) = (0 : Int32)))).1) k) ?_
      show own_G p e below _ (T100.setTop (mkF m 137 #[.val (.int p1), .val (.int p2), .val (.int p3), .val (.int p4), .val (.int (1 : Int32)), .val (.double (FP.i2d p1)), .second, .val (.double (FP.i2d p2)), .second, .val (.double (FP.i2d p4)), .second, .val (.ref b95), .val (.int (0 : Int32)), .val (.double (FP.i2d p1)), .second, .val (.int (1 : Int32)), .val (.int (1 : Int32)), .unset] []))
      refine own_via (fun t k => XS.aload X100.here hx rfl (hb hby at_137) rfl rfl k) ?_
      show own_G p e below _ (T100.setTop (mkF m 139 #[.val (.int p1), .val (.int p2), .val (.int p3), .val (.int p4), .val (.int (1 : Int32)), .val (.double (FP.i2d p1)), .second, .val (.double (FP.i2d p2)), .second, .val (.double (FP.i2d p4)), .second, .val (.ref b95), .val (.int (0 : Int32)), .val (.double (FP.i2d p1)), .second, .val (.int (1 : Int32)), .val (.int (1 : Int32)), .unset] [(.ref b95)]))
      refine own_via (fun t k => XS.iconst X100.here hx rfl (hb hby at_139) k) ?_
      show own_G p e below _ (T100.setTop (mkF m 140 #[.val (.int p1), .val (.int p2), .val (.int p3), .val (.int p4), .val (.int (1 : Int32)), .val (.double (FP.i2d p1)), .second, .val (.double (FP.i2d p2)), .second, .val (.double (FP.i2d p4)), .second, .val (.ref b95), .val (.int (0 : Int32)), .val (.double (FP.i2d p1)), .second, .val (.int (1 : Int32)), .val (.int (1 : Int32)), .unset] [(.int (0 : Int32)), (.ref b95)]))
      obtain ⟨cl109, Ar109, q109, S109, Ng109, Hs109, G109⟩ := id V100
      have hin109 : ¬ ((0 : Int32) < 0 ∨ cl109.slots.size ≤ ((0 : Int32)).toNatClampNeg) := inb_of S109 ⟨by decide, by decide⟩
      have hat109 : cl109.slots[((0 : Int32)).toNatClampNeg]? = some (.double (FP.i2d p4)) := Hs109.at hin109 rfl
      refine own_via (fun t k => X100.daload hx (j := (0 : Int32)) (v := (.double (FP.i2d p4))) Ar109.1 (State.isArrayOf_alike hZ.alike Ar109.2.1) Ar109.2.2 hin109 hat109 (g := (mkF m 140 #[.val (.int p1), .val (.int p2), .val (.int p3), .val (.int p4), .val (.int (1 : Int32)), .val (.double (FP.i2d p1)), .second, .val (.double (FP.i2d p2)), .second, .val (.double (FP.i2d p4)), .second, .val (.ref b95), .val (.int (0 : Int32)), .val (.double (FP.i2d p1)), .second, .val (.int (1 : Int32)), .val (.int (1 : Int32)), .unset] [(.int (0 : Int32)), (.ref b95)])) rfl rfl (hb hby at_140) _ k) ?_
      show own_G p e below _ (T100.setTop (mkF m 141 #[.val (.int p1), .val (.int p2), .val (.int p3), .val (.int p4), .val (.int (1 : Int32)), .val (.double (FP.i2d p1)), .second, .val (.double (FP.i2d p2)), .second, .val (.double (FP.i2d p4)), .second, .val (.ref b95), .val (.int (0 : Int32)), .val (.double (FP.i2d p1)), .second, .val (.int (1 : Int32)), .val (.int (1 : Int32)), .unset] [(.double (FP.i2d p4))]))
      refine own_via (fun t k => XS.dload X100.here hx rfl (hb hby at_141) rfl k) ?_
      show own_G p e below _ (T100.setTop (mkF m 143 #[.val (.int p1), .val (.int p2), .val (.int p3), .val (.int p4), .val (.int (1 : Int32)), .val (.double (FP.i2d p1)), .second, .val (.double (FP.i2d p2)), .second, .val (.double (FP.i2d p4)), .second, .val (.ref b95), .val (.int (0 : Int32)), .val (.double (FP.i2d p1)), .second, .val (.int (1 : Int32)), .val (.int (1 : Int32)), .unset] [(.double (FP.i2d p4)), (.double (FP.i2d p4))]))
      refine own_via (fun t k => XS.dcmpS X100.here hx rfl (hb hby at_143) rfl (own_dc_eq rfl _) k) ?_
      show own_G p e below _ (T100.setTop (mkF m 144 #[.val (.int p1), .val (.int p2), .val (.int p3), .val (.int p4), .val (.int (1 : Int32)), .val (.double (FP.i2d p1)), .second, .val (.double (FP.i2d p2)), .second, .val (.double (FP.i2d p4)), .second, .val (.ref b95), .val (.int (0 : Int32)), .val (.double (FP.i2d p1)), .second, .val (.int (1 : Int32)), .val (.int (1 : Int32)), .unset] [(.int (0 : Int32))]))
      refine own_via (fun t k => XS.ifNo X100.here hx rfl (hb hby at_144) rfl ((if0 _ _).trans (teq (by decide : (0 : Int32) = (0 : Int32))).2) k) ?_
      show own_G p e below _ (T100.setTop (mkF m 147 #[.val (.int p1), .val (.int p2), .val (.int p3), .val (.int p4), .val (.int (1 : Int32)), .val (.double (FP.i2d p1)), .second, .val (.double (FP.i2d p2)), .second, .val (.double (FP.i2d p4)), .second, .val (.ref b95), .val (.int (0 : Int32)), .val (.double (FP.i2d p1)), .second, .val (.int (1 : Int32)), .val (.int (1 : Int32)), .unset] []))
      refine own_via (fun t k => XS.iload X100.here hx rfl (hb hby at_147) rfl k) ?_
      show own_G p e below _ (T100.setTop (mkF m 149 #[.val (.int p1), .val (.int p2), .val (.int p3), .val (.int p4), .val (.int (1 : Int32)), .val (.double (FP.i2d p1)), .second, .val (.double (FP.i2d p2)), .second, .val (.double (FP.i2d p4)), .second, .val (.ref b95), .val (.int (0 : Int32)), .val (.double (FP.i2d p1)), .second, .val (.int (1 : Int32)), .val (.int (1 : Int32)), .unset] [(.int (1 : Int32))]))
      refine own_via (fun t k => XS.iconst X100.here hx rfl (hb hby at_149) k) ?_
      show own_G p e below _ (T100.setTop (mkF m 150 #[.val (.int p1), .val (.int p2), .val (.int p3), .val (.int p4), .val (.int (1 : Int32)), .val (.double (FP.i2d p1)), .second, .val (.double (FP.i2d p2)), .second, .val (.double (FP.i2d p4)), .second, .val (.ref b95), .val (.int (0 : Int32)), .val (.double (FP.i2d p1)), .second, .val (.int (1 : Int32)), .val (.int (1 : Int32)), .unset] [(.int (1 : Int32)), (.int (1 : Int32))]))
      refine own_via (fun t k => XS.icmpYes X100.here hx rfl (pc0 := 150) (pc' := 163) rfl (hb hby at_150) rfl (teq (by decide : (1 : Int32) = (1 : Int32))).1 (by decide) (by decide) k) ?_
      show own_G p e below _ (T100.setTop (mkF m 163 #[.val (.int p1), .val (.int p2), .val (.int p3), .val (.int p4), .val (.int (1 : Int32)), .val (.double (FP.i2d p1)), .second, .val (.double (FP.i2d p2)), .second, .val (.double (FP.i2d p4)), .second, .val (.ref b95), .val (.int (0 : Int32)), .val (.double (FP.i2d p1)), .second, .val (.int (1 : Int32)), .val (.int (1 : Int32)), .unset] []))
      refine own_via (fun t k => XS.iload X100.here hx rfl (hb hby at_163) rfl k) ?_
      show own_G p e below _ (T100.setTop (mkF m 165 #[.val (.int p1), .val (.int p2), .val (.int p3), .val (.int p4), .val (.int (1 : Int32)), .val (.double (FP.i2d p1)), .second, .val (.double (FP.i2d p2)), .second, .val (.double (FP.i2d p4)), .second, .val (.ref b95), .val (.int (0 : Int32)), .val (.double (FP.i2d p1)), .second, .val (.int (1 : Int32)), .val (.int (1 : Int32)), .unset] [(.int (1 : Int32))]))
      refine own_via (fun t k => XS.iconst X100.here hx rfl (hb hby at_165) k) ?_
      show own_G p e below _ (T100.setTop (mkF m 166 #[.val (.int p1), .val (.int p2), .val (.int p3), .val (.int p4), .val (.int (1 : Int32)), .val (.double (FP.i2d p1)), .second, .val (.double (FP.i2d p2)), .second, .val (.double (FP.i2d p4)), .second, .val (.ref b95), .val (.int (0 : Int32)), .val (.double (FP.i2d p1)), .second, .val (.int (1 : Int32)), .val (.int (1 : Int32)), .unset] [(.int (2 : Int32)), (.int (1 : Int32))]))
      refine own_via (fun t k => XS.icmpNo X100.here hx rfl (hb hby at_166) rfl (feq (by decide : ¬ ((1 : Int32) = (2 : Int32)))).1 k) ?_
      show own_G p e below _ (T100.setTop (mkF m 169 #[.val (.int p1), .val (.int p2), .val (.int p3), .val (.int p4), .val (.int (1 : Int32)), .val (.double (FP.i2d p1)), .second, .val (.double (FP.i2d p2)), .second, .val (.double (FP.i2d p4)), .second, .val (.ref b95), .val (.int (0 : Int32)), .val (.double (FP.i2d p1)), .second, .val (.int (1 : Int32)), .val (.int (1 : Int32)), .unset] []))
      refine own_via (fun t k => XS.aload X100.here hx rfl (hb hby at_169) rfl rfl k) ?_
      show own_G p e below _ (T100.setTop (mkF m 171 #[.val (.int p1), .val (.int p2), .val (.int p3), .val (.int p4), .val (.int (1 : Int32)), .val (.double (FP.i2d p1)), .second, .val (.double (FP.i2d p2)), .second, .val (.double (FP.i2d p4)), .second, .val (.ref b95), .val (.int (0 : Int32)), .val (.double (FP.i2d p1)), .second, .val (.int (1 : Int32)), .val (.int (1 : Int32)), .unset] [(.ref b95)]))
      refine own_via (fun t k => XS.iconst X100.here hx rfl (hb hby at_171) k) ?_
      show own_G p e below _ (T100.setTop (mkF m 172 #[.val (.int p1), .val (.int p2), .val (.int p3), .val (.int p4), .val (.int (1 : Int32)), .val (.double (FP.i2d p1)), .second, .val (.double (FP.i2d p2)), .second, .val (.double (FP.i2d p4)), .second, .val (.ref b95), .val (.int (0 : Int32)), .val (.double (FP.i2d p1)), .second, .val (.int (1 : Int32)), .val (.int (1 : Int32)), .unset] [(.int (2 : Int32)), (.ref b95)]))
      obtain ⟨cl113, Ar113, q113, S113, Ng113, Hs113, G113⟩ := id V100
      have hin113 : ¬ ((2 : Int32) < 0 ∨ cl113.slots.size ≤ ((2 : Int32)).toNatClampNeg) := inb_of S113 ⟨by decide, by decide⟩
      have hat113 : cl113.slots[((2 : Int32)).toNatClampNeg]? = some (.double (FP.i2d p4)) := Hs113.at hin113 rfl
      refine own_via (fun t k => X100.daload hx (j := (2 : Int32)) (v := (.double (FP.i2d p4))) Ar113.1 (State.isArrayOf_alike hZ.alike Ar113.2.1) Ar113.2.2 hin113 hat113 (g := (mkF m 172 #[.val (.int p1), .val (.int p2), .val (.int p3), .val (.int p4), .val (.int (1 : Int32)), .val (.double (FP.i2d p1)), .second, .val (.double (FP.i2d p2)), .second, .val (.double (FP.i2d p4)), .second, .val (.ref b95), .val (.int (0 : Int32)), .val (.double (FP.i2d p1)), .second, .val (.int (1 : Int32)), .val (.int (1 : Int32)), .unset] [(.int (2 : Int32)), (.ref b95)])) rfl rfl (hb hby at_172) _ k) ?_
      show own_G p e below _ (T100.setTop (mkF m 173 #[.val (.int p1), .val (.int p2), .val (.int p3), .val (.int p4), .val (.int (1 : Int32)), .val (.double (FP.i2d p1)), .second, .val (.double (FP.i2d p2)), .second, .val (.double (FP.i2d p4)), .second, .val (.ref b95), .val (.int (0 : Int32)), .val (.double (FP.i2d p1)), .second, .val (.int (1 : Int32)), .val (.int (1 : Int32)), .unset] [(.double (FP.i2d p4))]))
      refine own_via (fun t k => XS.dload X100.here hx rfl (hb hby at_173) rfl k) ?_
      show own_G p e below _ (T100.setTop (mkF m 175 #[.val (.int p1), .val (.int p2), .val (.int p3), .val (.int p4), .val (.int (1 : Int32)), .val (.double (FP.i2d p1)), .second, .val (.double (FP.i2d p2)), .second, .val (.double (FP.i2d p4)), .second, .val (.ref b95), .val (.int (0 : Int32)), .val (.double (FP.i2d p1)), .second, .val (.int (1 : Int32)), .val (.int (1 : Int32)), .unset] [(.double (FP.i2d p4)), (.double (FP.i2d p4))]))
      refine own_via (fun t k => XS.dcmpS X100.here hx rfl (hb hby at_175) rfl (own_dc_eq rfl _) k) ?_
      show own_G p e below _ (T100.setTop (mkF m 176 #[.val (.int p1), .val (.int p2), .val (.int p3), .val (.int p4), .val (.int (1 : Int32)), .val (.double (FP.i2d p1)), .second, .val (.double (FP.i2d p2)), .second, .val (.double (FP.i2d p4)), .second, .val (.ref b95), .val (.int (0 : Int32)), .val (.double (FP.i2d p1)), .second, .val (.int (1 : Int32)), .val (.int (1 : Int32)), .unset] [(.int (0 : Int32))]))
      refine own_via (fun t k => XS.ifNo X100.here hx rfl (hb hby at_176) rfl ((if0 _ _).trans (teq (by decide : (0 : Int32) = (0 : Int32))).2) k) ?_
      show own_G p e below _ (T100.setTop (mkF m 179 #[.val (.int p1), .val (.int p2), .val (.int p3), .val (.int p4), .val (.int (1 : Int32)), .val (.double (FP.i2d p1)), .second, .val (.double (FP.i2d p2)), .second, .val (.double (FP.i2d p4)), .second, .val (.ref b95), .val (.int (0 : Int32)), .val (.double (FP.i2d p1)), .second, .val (.int (1 : Int32)), .val (.int (1 : Int32)), .unset] []))
      refine own_via (fun t k => XS.iconst X100.here hx rfl (hb hby at_179) k) ?_
      show own_G p e below _ (T100.setTop (mkF m 180 #[.val (.int p1), .val (.int p2), .val (.int p3), .val (.int p4), .val (.int (1 : Int32)), .val (.double (FP.i2d p1)), .second, .val (.double (FP.i2d p2)), .second, .val (.double (FP.i2d p4)), .second, .val (.ref b95), .val (.int (0 : Int32)), .val (.double (FP.i2d p1)), .second, .val (.int (1 : Int32)), .val (.int (1 : Int32)), .unset] [(.int (1 : Int32))]))
      refine own_via (fun t k => XS.goto X100.here hx rfl (pc0 := 180) (pc' := 184) rfl (hb hby at_180) (by decide) (by decide) k) ?_
      show own_G p e below _ (T100.setTop (mkF m 184 #[.val (.int p1), .val (.int p2), .val (.int p3), .val (.int p4), .val (.int (1 : Int32)), .val (.double (FP.i2d p1)), .second, .val (.double (FP.i2d p2)), .second, .val (.double (FP.i2d p4)), .second, .val (.ref b95), .val (.int (0 : Int32)), .val (.double (FP.i2d p1)), .second, .val (.int (1 : Int32)), .val (.int (1 : Int32)), .unset] [(.int (1 : Int32))]))
      refine own_via (fun t k => XS.istore X100.here hx rfl (hb hby at_184) rfl (l' := #[.val (.int p1), .val (.int p2), .val (.int p3), .val (.int p4), .val (.int (1 : Int32)), .val (.double (FP.i2d p1)), .second, .val (.double (FP.i2d p2)), .second, .val (.double (FP.i2d p4)), .second, .val (.ref b95), .val (.int (0 : Int32)), .val (.double (FP.i2d p1)), .second, .val (.int (1 : Int32)), .val (.int (1 : Int32)), .val (.int (1 : Int32))]) rfl k) ?_
      show own_G p e below _ (T100.setTop (mkF m 186 #[.val (.int p1), .val (.int p2), .val (.int p3), .val (.int p4), .val (.int (1 : Int32)), .val (.double (FP.i2d p1)), .second, .val (.double (FP.i2d p2)), .second, .val (.double (FP.i2d p4)), .second, .val (.ref b95), .val (.int (0 : Int32)), .val (.double (FP.i2d p1)), .second, .val (.int (1 : Int32)), .val (.int (1 : Int32)), .val (.int (1 : Int32))] []))
      refine own_via (fun t k => XS.iload X100.here hx rfl (hb hby at_186) rfl k) ?_
      show own_G p e below _ (T100.setTop (mkF m 188 #[.val (.int p1), .val (.int p2), .val (.int p3), .val (.int p4), .val (.int (1 : Int32)), .val (.double (FP.i2d p1)), .second, .val (.double (FP.i2d p2)), .second, .val (.double (FP.i2d p4)), .second, .val (.ref b95), .val (.int (0 : Int32)), .val (.double (FP.i2d p1)), .second, .val (.int (1 : Int32)), .val (.int (1 : Int32)), .val (.int (1 : Int32))] [(.int (1 : Int32))]))
      refine own_via (fun t k => XS.ifNo X100.here hx rfl (hb hby at_188) rfl ((if0 _ _).trans (feq (by decide : ¬ ((1 : Int32) = (0 : Int32)))).1) k) ?_
      show own_G p e below _ (T100.setTop (mkF m 191 #[.val (.int p1), .val (.int p2), .val (.int p3), .val (.int p4), .val (.int (1 : Int32)), .val (.double (FP.i2d p1)), .second, .val (.double (FP.i2d p2)), .second, .val (.double (FP.i2d p4)), .second, .val (.ref b95), .val (.int (0 : Int32)), .val (.double (FP.i2d p1)), .second, .val (.int (1 : Int32)), .val (.int (1 : Int32)), .val (.int (1 : Int32))] []))
      refine own_via (fun t k => XS.iload X100.here hx rfl (hb hby at_191) rfl k) ?_
      show own_G p e below _ (T100.setTop (mkF m 193 #[.val (.int p1), .val (.int p2), .val (.int p3), .val (.int p4), .val (.int (1 : Int32)), .val (.double (FP.i2d p1)), .second, .val (.double (FP.i2d p2)), .second, .val (.double (FP.i2d p4)), .second, .val (.ref b95), .val (.int (0 : Int32)), .val (.double (FP.i2d p1)), .second, .val (.int (1 : Int32)), .val (.int (1 : Int32)), .val (.int (1 : Int32))] [(.int (1 : Int32))]))
      refine own_via (fun t k => XS.ifNo X100.here hx rfl (hb hby at_193) rfl ((if0 _ _).trans (feq (by decide : ¬ ((1 : Int32) = (0 : Int32)))).1) k) ?_
      show own_G p e below _ (T100.setTop (mkF m 196 #[.val (.int p1), .val (.int p2), .val (.int p3), .val (.int p4), .val (.int (1 : Int32)), .val (.double (FP.i2d p1)), .second, .val (.double (FP.i2d p2)), .second, .val (.double (FP.i2d p4)), .second, .val (.ref b95), .val (.int (0 : Int32)), .val (.double (FP.i2d p1)), .second, .val (.int (1 : Int32)), .val (.int (1 : Int32)), .val (.int (1 : Int32))] []))
      refine own_via (fun t k => XS.iload X100.here hx rfl (hb hby at_196) rfl k) ?_
      show own_G p e below _ (T100.setTop (mkF m 198 #[.val (.int p1), .val (.int p2), .val (.int p3), .val (.int p4), .val (.int (1 : Int32)), .val (.double (FP.i2d p1)), .second, .val (.double (FP.i2d p2)), .second, .val (.double (FP.i2d p4)), .second, .val (.ref b95), .val (.int (0 : Int32)), .val (.double (FP.i2d p1)), .second, .val (.int (1 : Int32)), .val (.int (1 : Int32)), .val (.int (1 : Int32))] [(.int (1 : Int32))]))
      refine own_via (fun t k => XS.ifNo X100.here hx rfl (hb hby at_198) rfl ((if0 _ _).trans (feq (by decide : ¬ ((1 : Int32) = (0 : Int32)))).1) k) ?_
      show own_G p e below _ (T100.setTop (mkF m 201 #[.val (.int p1), .val (.int p2), .val (.int p3), .val (.int p4), .val (.int (1 : Int32)), .val (.double (FP.i2d p1)), .second, .val (.double (FP.i2d p2)), .second, .val (.double (FP.i2d p4)), .second, .val (.ref b95), .val (.int (0 : Int32)), .val (.double (FP.i2d p1)), .second, .val (.int (1 : Int32)), .val (.int (1 : Int32)), .val (.int (1 : Int32))] []))
      refine own_via (fun t k => XS.iconst X100.here hx rfl (hb hby at_201) k) ?_
      show own_G p e below _ (T100.setTop (mkF m 202 #[.val (.int p1), .val (.int p2), .val (.int p3), .val (.int p4), .val (.int (1 : Int32)), .val (.double (FP.i2d p1)), .second, .val (.double (FP.i2d p2)), .second, .val (.double (FP.i2d p4)), .second, .val (.ref b95), .val (.int (0 : Int32)), .val (.double (FP.i2d p1)), .second, .val (.int (1 : Int32)), .val (.int (1 : Int32)), .val (.int (1 : Int32))] [(.int (1 : Int32))]))
      refine own_via (fun t k => XS.goto X100.here hx rfl (pc0 := 202) (pc' := 206) rfl (hb hby at_202) (by decide) (by decide) k) ?_
      show own_G p e below _ (T100.setTop (mkF m 206 #[.val (.int p1), .val (.int p2), .val (.int p3), .val (.int p4), .val (.int (1 : Int32)), .val (.double (FP.i2d p1)), .second, .val (.double (FP.i2d p2)), .second, .val (.double (FP.i2d p4)), .second, .val (.ref b95), .val (.int (0 : Int32)), .val (.double (FP.i2d p1)), .second, .val (.int (1 : Int32)), .val (.int (1 : Int32)), .val (.int (1 : Int32))] [(.int (1 : Int32))]))
      obtain ⟨fs, hr, hrun, hended, hW, hsame⟩ := X100.leave (v := some (.int (1 : Int32))) (fun h => by rw [Bd.returns] at h; cases h)
      refine ⟨_, _, retN X100 hx (t := .boolean) Bd.returns (by simp) (hb hby at_206) hr, hrun, hended, _, _, rfl, ?_, ⟨_, rfl⟩, hW, hsame.mono (by decide) (by decide)⟩
      show rm0_Q Z p1 p2 p3 p4 h0 n0 _ T100.heap _
      exact ⟨rfl, N100⟩
    · rw [hk]
      show own_G p e below _ (s₁.setTop (mkF m 6 #[.val (.int p1), .val (.int p2), .val (.int p3), .val (.int p4), .unset, .unset, .unset, .unset, .unset, .unset, .unset, .unset, .unset, .unset, .unset, .unset, .unset, .unset] [(.int (1 : Int32))]))
      refine own_via (fun t k => XS.istore X0.here hx rfl (hb hby at_6) rfl (l' := #[.val (.int p1), .val (.int p2), .val (.int p3), .val (.int p4), .val (.int (1 : Int32)), .unset, .unset, .unset, .unset, .unset, .unset, .unset, .unset, .unset, .unset, .unset, .unset, .unset]) rfl k) ?_
      show own_G p e below _ (s₁.setTop (mkF m 8 #[.val (.int p1), .val (.int p2), .val (.int p3), .val (.int p4), .val (.int (1 : Int32)), .unset, .unset, .unset, .unset, .unset, .unset, .unset, .unset, .unset, .unset, .unset, .unset, .unset] []))
      refine own_via (fun t k => XS.iloadN X0.here hx rfl (hb hby at_8) rfl k) ?_
      show own_G p e below _ (s₁.setTop (mkF m 9 #[.val (.int p1), .val (.int p2), .val (.int p3), .val (.int p4), .val (.int (1 : Int32)), .unset, .unset, .unset, .unset, .unset, .unset, .unset, .unset, .unset, .unset, .unset, .unset, .unset] [(.int p1)]))
      refine own_via (fun t k => XS.i2dS X0.here hx rfl (hb hby at_9) rfl rfl k) ?_
      show own_G p e below _ (s₁.setTop (mkF m 10 #[.val (.int p1), .val (.int p2), .val (.int p3), .val (.int p4), .val (.int (1 : Int32)), .unset, .unset, .unset, .unset, .unset, .unset, .unset, .unset, .unset, .unset, .unset, .unset, .unset] [(.double (FP.i2d p1))]))
      refine own_via (fun t k => XS.dstore X0.here hx rfl (hb hby at_10) rfl (l' := #[.val (.int p1), .val (.int p2), .val (.int p3), .val (.int p4), .val (.int (1 : Int32)), .val (.double (FP.i2d p1)), .second, .unset, .unset, .unset, .unset, .unset, .unset, .unset, .unset, .unset, .unset, .unset]) rfl k) ?_
      show own_G p e below _ (s₁.setTop (mkF m 12 #[.val (.int p1), .val (.int p2), .val (.int p3), .val (.int p4), .val (.int (1 : Int32)), .val (.double (FP.i2d p1)), .second, .unset, .unset, .unset, .unset, .unset, .unset, .unset, .unset, .unset, .unset, .unset] []))
      refine own_via (fun t k => XS.iloadN X0.here hx rfl (hb hby at_12) rfl k) ?_
      show own_G p e below _ (s₁.setTop (mkF m 13 #[.val (.int p1), .val (.int p2), .val (.int p3), .val (.int p4), .val (.int (1 : Int32)), .val (.double (FP.i2d p1)), .second, .unset, .unset, .unset, .unset, .unset, .unset, .unset, .unset, .unset, .unset, .unset] [(.int p2)]))
      refine own_via (fun t k => XS.i2dS X0.here hx rfl (hb hby at_13) rfl rfl k) ?_
      show own_G p e below _ (s₁.setTop (mkF m 14 #[.val (.int p1), .val (.int p2), .val (.int p3), .val (.int p4), .val (.int (1 : Int32)), .val (.double (FP.i2d p1)), .second, .unset, .unset, .unset, .unset, .unset, .unset, .unset, .unset, .unset, .unset, .unset] [(.double (FP.i2d p2))]))
      refine own_via (fun t k => XS.dstore X0.here hx rfl (hb hby at_14) rfl (l' := #[.val (.int p1), .val (.int p2), .val (.int p3), .val (.int p4), .val (.int (1 : Int32)), .val (.double (FP.i2d p1)), .second, .val (.double (FP.i2d p2)), .second, .unset, .unset, .unset, .unset, .unset, .unset, .unset, .unset, .unset]) rfl k) ?_
      show own_G p e below _ (s₁.setTop (mkF m 16 #[.val (.int p1), .val (.int p2), .val (.int p3), .val (.int p4), .val (.int (1 : Int32)), .val (.double (FP.i2d p1)), .second, .val (.double (FP.i2d p2)), .second, .unset, .unset, .unset, .unset, .unset, .unset, .unset, .unset, .unset] []))
      refine own_via (fun t k => XS.iloadN X0.here hx rfl (hb hby at_16) rfl k) ?_
      show own_G p e below _ (s₁.setTop (mkF m 17 #[.val (.int p1), .val (.int p2), .val (.int p3), .val (.int p4), .val (.int (1 : Int32)), .val (.double (FP.i2d p1)), .second, .val (.double (FP.i2d p2)), .second, .unset, .unset, .unset, .unset, .unset, .unset, .unset, .unset, .unset] [(.int p4)]))
      refine own_via (fun t k => XS.i2dS X0.here hx rfl (hb hby at_17) rfl rfl k) ?_
      show own_G p e below _ (s₁.setTop (mkF m 18 #[.val (.int p1), .val (.int p2), .val (.int p3), .val (.int p4), .val (.int (1 : Int32)), .val (.double (FP.i2d p1)), .second, .val (.double (FP.i2d p2)), .second, .unset, .unset, .unset, .unset, .unset, .unset, .unset, .unset, .unset] [(.double (FP.i2d p4))]))
      refine own_via (fun t k => XS.dstore X0.here hx rfl (hb hby at_18) rfl (l' := #[.val (.int p1), .val (.int p2), .val (.int p3), .val (.int p4), .val (.int (1 : Int32)), .val (.double (FP.i2d p1)), .second, .val (.double (FP.i2d p2)), .second, .val (.double (FP.i2d p4)), .second, .unset, .unset, .unset, .unset, .unset, .unset, .unset]) rfl k) ?_
      show own_G p e below _ (s₁.setTop (mkF m 20 #[.val (.int p1), .val (.int p2), .val (.int p3), .val (.int p4), .val (.int (1 : Int32)), .val (.double (FP.i2d p1)), .second, .val (.double (FP.i2d p2)), .second, .val (.double (FP.i2d p4)), .second, .unset, .unset, .unset, .unset, .unset, .unset, .unset] []))
      refine own_via (fun t k => XS.iconst X0.here hx rfl (hb hby at_20) k) ?_
      show own_G p e below _ (s₁.setTop (mkF m 21 #[.val (.int p1), .val (.int p2), .val (.int p3), .val (.int p4), .val (.int (1 : Int32)), .val (.double (FP.i2d p1)), .second, .val (.double (FP.i2d p2)), .second, .val (.double (FP.i2d p4)), .second, .unset, .unset, .unset, .unset, .unset, .unset, .unset] [(.int (3 : Int32))]))
      obtain ⟨T118, h118, k118, X118, e118, E118, A118, st118⟩ := newP X0 hx hZ (hw _ (List.mem_of_getElem? (i := 1) rfl)) e0 (g := (mkF m 21 #[.val (.int p1), .val (.int p2), .val (.int p3), .val (.int p4), .val (.int (1 : Int32)), .val (.double (FP.i2d p1)), .second, .val (.double (FP.i2d p2)), .second, .val (.double (FP.i2d p4)), .second, .unset, .unset, .unset, .unset, .unset, .unset, .unset] [(.int (3 : Int32))])) rfl (hb hby at_21) rfl (by decide) (cap := 3) (by decide) (by decide) (by decide) (by decide)
      obtain ⟨b118, g118⟩ : ∃ z, z = h0.size := ⟨_, rfl⟩
      rw [← g118] at A118 st118
      have gx_b118 : n0 ≤ b118 := Nat.le_trans Z0 (Nat.le_of_eq g118.symm)
      have Z118 : n0 ≤ h118.size := Nat.le_trans Z0 E118.1
      have V118 : Arv Z h118 b118 k118 .double (3 : Int32) [(.double (0 : UInt64)), (.double (0 : UInt64)), (.double (0 : UInt64))] (.double (0 : UInt64)) := (Arv.new A118 (by decide)).pad (pad_rep [] (.double (0 : UInt64)) 3)
      refine own_via st118 ?_
      show own_G p e below _ (T118.setTop (mkF m 23 #[.val (.int p1), .val (.int p2), .val (.int p3), .val (.int p4), .val (.int (1 : Int32)), .val (.double (FP.i2d p1)), .second, .val (.double (FP.i2d p2)), .second, .val (.double (FP.i2d p4)), .second, .unset, .unset, .unset, .unset, .unset, .unset, .unset] [(.ref b118)]))
      refine own_via (fun t k => XS.astore X118.here hx rfl (hb hby at_23) rfl rfl (l' := #[.val (.int p1), .val (.int p2), .val (.int p3), .val (.int p4), .val (.int (1 : Int32)), .val (.double (FP.i2d p1)), .second, .val (.double (FP.i2d p2)), .second, .val (.double (FP.i2d p4)), .second, .val (.ref b118), .unset, .unset, .unset, .unset, .unset, .unset]) rfl k) ?_
      show own_G p e below _ (T118.setTop (mkF m 25 #[.val (.int p1), .val (.int p2), .val (.int p3), .val (.int p4), .val (.int (1 : Int32)), .val (.double (FP.i2d p1)), .second, .val (.double (FP.i2d p2)), .second, .val (.double (FP.i2d p4)), .second, .val (.ref b118), .unset, .unset, .unset, .unset, .unset, .unset] []))
      refine own_via (fun t k => XS.aload X118.here hx rfl (hb hby at_25) rfl rfl k) ?_
      show own_G p e below _ (T118.setTop (mkF m 27 #[.val (.int p1), .val (.int p2), .val (.int p3), .val (.int p4), .val (.int (1 : Int32)), .val (.double (FP.i2d p1)), .second, .val (.double (FP.i2d p2)), .second, .val (.double (FP.i2d p4)), .second, .val (.ref b118), .unset, .unset, .unset, .unset, .unset, .unset] [(.ref b118)]))
      refine own_via (fun t k => XS.iconst X118.here hx rfl (hb hby at_27) k) ?_
      show own_G p e below _ (T118.setTop (mkF m 28 #[.val (.int p1), .val (.int p2), .val (.int p3), .val (.int p4), .val (.int (1 : Int32)), .val (.double (FP.i2d p1)), .second, .val (.double (FP.i2d p2)), .second, .val (.double (FP.i2d p4)), .second, .val (.ref b118), .unset, .unset, .unset, .unset, .unset, .unset] [(.int (0 : Int32)), (.ref b118)]))
      refine own_via (fun t k => XS.dload X118.here hx rfl (hb hby at_28) rfl k) ?_
      show own_G p e below _ (T118.setTop (mkF m 30 #[.val (.int p1), .val (.int p2), .val (.int p3), .val (.int p4), .val (.int (1 : Int32)), .val (.double (FP.i2d p1)), .second, .val (.double (FP.i2d p2)), .second, .val (.double (FP.i2d p4)), .second, .val (.ref b118), .unset, .unset, .unset, .unset, .unset, .unset] [(.double (FP.i2d p4)), (.int (0 : Int32)), (.ref b118)]))
      obtain ⟨cl119, Ar119, q119, S119, Ng119, Hs119, G119⟩ := id V118
      have hin119 : ¬ ((0 : Int32) < 0 ∨ cl119.slots.size ≤ ((0 : Int32)).toNatClampNeg) := inb_of S119 ⟨by decide, by decide⟩
      obtain ⟨T119, h119, X119, e119, W119, st119⟩ := stD X118 hx hZ e118 Ar119 (j := (0 : Int32)) hin119 (g := (mkF m 30 #[.val (.int p1), .val (.int p2), .val (.int p3), .val (.int p4), .val (.int (1 : Int32)), .val (.double (FP.i2d p1)), .second, .val (.double (FP.i2d p2)), .second, .val (.double (FP.i2d p4)), .second, .val (.ref b118), .unset, .unset, .unset, .unset, .unset, .unset] [(.double (FP.i2d p4)), (.int (0 : Int32)), (.ref b118)])) rfl rfl (hb hby at_30)
      have V119 : Arv Z h119 b118 k118 .double (3 : Int32) [(.double (FP.i2d p4)), (.double (0 : UInt64)), (.double (0 : UInt64))] (.double (0 : UInt64)) := Arv.set Ar119 q119 S119 Ng119 Hs119 G119 rfl W119 0 rfl (Nat.le_of_ble_eq_true rfl)
      have N119 := Fr.snoc X119 N0 gx_b118
      have Z119 : n0 ≤ h119.size := Nat.le_trans Z118 (Nat.le_of_eq W119.size.symm)
      refine own_via st119 ?_
      show own_G p e below _ (T119.setTop (mkF m 31 #[.val (.int p1), .val (.int p2), .val (.int p3), .val (.int p4), .val (.int (1 : Int32)), .val (.double (FP.i2d p1)), .second, .val (.double (FP.i2d p2)), .second, .val (.double (FP.i2d p4)), .second, .val (.ref b118), .unset, .unset, .unset, .unset, .unset, .unset] []))
      refine own_via (fun t k => XS.aload X119.here hx rfl (hb hby at_31) rfl rfl k) ?_
      show own_G p e below _ (T119.setTop (mkF m 33 #[.val (.int p1), .val (.int p2), .val (.int p3), .val (.int p4), .val (.int (1 : Int32)), .val (.double (FP.i2d p1)), .second, .val (.double (FP.i2d p2)), .second, .val (.double (FP.i2d p4)), .second, .val (.ref b118), .unset, .unset, .unset, .unset, .unset, .unset] [(.ref b118)]))
      refine own_via (fun t k => XS.iconst X119.here hx rfl (hb hby at_33) k) ?_
      show own_G p e below _ (T119.setTop (mkF m 34 #[.val (.int p1), .val (.int p2), .val (.int p3), .val (.int p4), .val (.int (1 : Int32)), .val (.double (FP.i2d p1)), .second, .val (.double (FP.i2d p2)), .second, .val (.double (FP.i2d p4)), .second, .val (.ref b118), .unset, .unset, .unset, .unset, .unset, .unset] [(.int (1 : Int32)), (.ref b118)]))
      refine own_via (fun t k => XS.dload X119.here hx rfl (hb hby at_34) rfl k) ?_
      show own_G p e below _ (T119.setTop (mkF m 36 #[.val (.int p1), .val (.int p2), .val (.int p3), .val (.int p4), .val (.int (1 : Int32)), .val (.double (FP.i2d p1)), .second, .val (.double (FP.i2d p2)), .second, .val (.double (FP.i2d p4)), .second, .val (.ref b118), .unset, .unset, .unset, .unset, .unset, .unset] [(.double (FP.i2d p4)), (.int (1 : Int32)), (.ref b118)]))
      obtain ⟨cl120, Ar120, q120, S120, Ng120, Hs120, G120⟩ := id V119
      have hin120 : ¬ ((1 : Int32) < 0 ∨ cl120.slots.size ≤ ((1 : Int32)).toNatClampNeg) := inb_of S120 ⟨by decide, by decide⟩
      obtain ⟨T120, h120, X120, e120, W120, st120⟩ := stD X119 hx hZ e119 Ar120 (j := (1 : Int32)) hin120 (g := (mkF m 36 #[.val (.int p1), .val (.int p2), .val (.int p3), .val (.int p4), .val (.int (1 : Int32)), .val (.double (FP.i2d p1)), .second, .val (.double (FP.i2d p2)), .second, .val (.double (FP.i2d p4)), .second, .val (.ref b118), .unset, .unset, .unset, .unset, .unset, .unset] [(.double (FP.i2d p4)), (.int (1 : Int32)), (.ref b118)])) rfl rfl (hb hby at_36)
      have V120 : Arv Z h120 b118 k118 .double (3 : Int32) [(.double (FP.i2d p4)), (.double (FP.i2d p4)), (.double (0 : UInt64))] (.double (0 : UInt64)) := Arv.set Ar120 q120 S120 Ng120 Hs120 G120 rfl W120 1 rfl (Nat.le_of_ble_eq_true rfl)
      have N120 := Fr.snoc X120 N119 gx_b118
      have Z120 : n0 ≤ h120.size := Nat.le_trans Z119 (Nat.le_of_eq W120.size.symm)
      refine own_via st120 ?_
      show own_G p e below _ (T120.setTop (mkF m 37 #[.val (.int p1), .val (.int p2), .val (.int p3), .val (.int p4), .val (.int (1 : Int32)), .val (.double (FP.i2d p1)), .second, .val (.double (FP.i2d p2)), .second, .val (.double (FP.i2d p4)), .second, .val (.ref b118), .unset, .unset, .unset, .unset, .unset, .unset] []))
      refine own_via (fun t k => XS.aload X120.here hx rfl (hb hby at_37) rfl rfl k) ?_
      show own_G p e below _ (T120.setTop (mkF m 39 #[.val (.int p1), .val (.int p2), .val (.int p3), .val (.int p4), .val (.int (1 : Int32)), .val (.double (FP.i2d p1)), .second, .val (.double (FP.i2d p2)), .second, .val (.double (FP.i2d p4)), .second, .val (.ref b118), .unset, .unset, .unset, .unset, .unset, .unset] [(.ref b118)]))
      refine own_via (fun t k => XS.iconst X120.here hx rfl (hb hby at_39) k) ?_
      show own_G p e below _ (T120.setTop (mkF m 40 #[.val (.int p1), .val (.int p2), .val (.int p3), .val (.int p4), .val (.int (1 : Int32)), .val (.double (FP.i2d p1)), .second, .val (.double (FP.i2d p2)), .second, .val (.double (FP.i2d p4)), .second, .val (.ref b118), .unset, .unset, .unset, .unset, .unset, .unset] [(.int (2 : Int32)), (.ref b118)]))
      refine own_via (fun t k => XS.dload X120.here hx rfl (hb hby at_40) rfl k) ?_
      show own_G p e below _ (T120.setTop (mkF m 42 #[.val (.int p1), .val (.int p2), .val (.int p3), .val (.int p4), .val (.int (1 : Int32)), .val (.double (FP.i2d p1)), .second, .val (.double (FP.i2d p2)), .second, .val (.double (FP.i2d p4)), .second, .val (.ref b118), .unset, .unset, .unset, .unset, .unset, .unset] [(.double (FP.i2d p4)), (.int (2 : Int32)), (.ref b118)]))
      obtain ⟨cl121, Ar121, q121, S121, Ng121, Hs121, G121⟩ := id V120
      have hin121 : ¬ ((2 : Int32) < 0 ∨ cl121.slots.size ≤ ((2 : Int32)).toNatClampNeg) := inb_of S121 ⟨by decide, by decide⟩
      obtain ⟨T121, h121, X121, e121, W121, st121⟩ := stD X120 hx hZ e120 Ar121 (j := (2 : Int32)) hin121 (g := (mkF m 42 #[.val (.int p1), .val (.int p2), .val (.int p3), .val (.int p4), .val (.int (1 : Int32)), .val (.double (FP.i2d p1)), .second, .val (.double (FP.i2d p2)), .second, .val (.double (FP.i2d p4)), .second, .val (.ref b118), .unset, .unset, .unset, .unset, .unset, .unset] [(.double (FP.i2d p4)), (.int (2 : Int32)), (.ref b118)])) rfl rfl (hb hby at_42)
      have V121 : Arv Z h121 b118 k118 .double (3 : Int32) [(.double (FP.i2d p4)), (.double (FP.i2d p4)), (.double (FP.i2d p4))] (.double (0 : UInt64)) := Arv.set Ar121 q121 S121 Ng121 Hs121 G121 rfl W121 2 rfl (Nat.le_of_ble_eq_true rfl)
      have N121 := Fr.snoc X121 N120 gx_b118
      have Z121 : n0 ≤ h121.size := Nat.le_trans Z120 (Nat.le_of_eq W121.size.symm)
      refine own_via st121 ?_
      show own_G p e below _ (T121.setTop (mkF m 43 #[.val (.int p1), .val (.int p2), .val (.int p3), .val (.int p4), .val (.int (1 : Int32)), .val (.double (FP.i2d p1)), .second, .val (.double (FP.i2d p2)), .second, .val (.double (FP.i2d p4)), .second, .val (.ref b118), .unset, .unset, .unset, .unset, .unset, .unset] []))
      refine own_via (fun t k => XS.aload X121.here hx rfl (hb hby at_43) rfl rfl k) ?_
      show own_G p e below _ (T121.setTop (mkF m 45 #[.val (.int p1), .val (.int p2), .val (.int p3), .val (.int p4), .val (.int (1 : Int32)), .val (.double (FP.i2d p1)), .second, .val (.double (FP.i2d p2)), .second, .val (.double (FP.i2d p4)), .second, .val (.ref b118), .unset, .unset, .unset, .unset, .unset, .unset] [(.ref b118)]))
      refine own_via (fun t k => XS.iload X121.here hx rfl (hb hby at_45) rfl k) ?_
      show own_G p e below _ (T121.setTop (mkF m 47 #[.val (.int p1), .val (.int p2), .val (.int p3), .val (.int p4), .val (.int (1 : Int32)), .val (.double (FP.i2d p1)), .second, .val (.double (FP.i2d p2)), .second, .val (.double (FP.i2d p4)), .second, .val (.ref b118), .unset, .unset, .unset, .unset, .unset, .unset] [(.int (1 : Int32)), (.ref b118)]))
      refine own_via (fun t k => XS.dload X121.here hx rfl (hb hby at_47) rfl k) ?_
      show own_G p e below _ (T121.setTop (mkF m 49 #[.val (.int p1), .val (.int p2), .val (.int p3), .val (.int p4), .val (.int (1 : Int32)), .val (.double (FP.i2d p1)), .second, .val (.double (FP.i2d p2)), .second, .val (.double (FP.i2d p4)), .second, .val (.ref b118), .unset, .unset, .unset, .unset, .unset, .unset] [(.double (FP.i2d p1)), (.int (1 : Int32)), (.ref b118)]))
      obtain ⟨cl122, Ar122, q122, S122, Ng122, Hs122, G122⟩ := id V121
      have hin122 : ¬ ((1 : Int32) < 0 ∨ cl122.slots.size ≤ ((1 : Int32)).toNatClampNeg) := inb_of S122 ⟨by decide, by decide⟩
      obtain ⟨T122, h122, X122, e122, W122, st122⟩ := stD X121 hx hZ e121 Ar122 (j := (1 : Int32)) hin122 (g := (mkF m 49 #[.val (.int p1), .val (.int p2), .val (.int p3), .val (.int p4), .val (.int (1 : Int32)), .val (.double (FP.i2d p1)), .second, .val (.double (FP.i2d p2)), .second, .val (.double (FP.i2d p4)), .second, .val (.ref b118), .unset, .unset, .unset, .unset, .unset, .unset] [(.double (FP.i2d p1)), (.int (1 : Int32)), (.ref b118)])) rfl rfl (hb hby at_49)
      have V122 : Arv Z h122 b118 k118 .double (3 : Int32) [(.double (FP.i2d p4)), (.double (FP.i2d p1)), (.double (FP.i2d p4))] (.double (0 : UInt64)) := Arv.set Ar122 q122 S122 Ng122 Hs122 G122 rfl W122 1 rfl (Nat.le_of_ble_eq_true rfl)
      have N122 := Fr.snoc X122 N121 gx_b118
      have Z122 : n0 ≤ h122.size := Nat.le_trans Z121 (Nat.le_of_eq W122.size.symm)
      refine own_via st122 ?_
      show own_G p e below _ (T122.setTop (mkF m 50 #[.val (.int p1), .val (.int p2), .val (.int p3), .val (.int p4), .val (.int (1 : Int32)), .val (.double (FP.i2d p1)), .second, .val (.double (FP.i2d p2)), .second, .val (.double (FP.i2d p4)), .second, .val (.ref b118), .unset, .unset, .unset, .unset, .unset, .unset] []))
      refine own_via (fun t k => XS.aload X122.here hx rfl (hb hby at_50) rfl rfl k) ?_
      show own_G p e below _ (T122.setTop (mkF m 52 #[.val (.int p1), .val (.int p2), .val (.int p3), .val (.int p4), .val (.int (1 : Int32)), .val (.double (FP.i2d p1)), .second, .val (.double (FP.i2d p2)), .second, .val (.double (FP.i2d p4)), .second, .val (.ref b118), .unset, .unset, .unset, .unset, .unset, .unset] [(.ref b118)]))
      refine own_via (fun t k => XS.iload X122.here hx rfl (hb hby at_52) rfl k) ?_
      show own_G p e below _ (T122.setTop (mkF m 54 #[.val (.int p1), .val (.int p2), .val (.int p3), .val (.int p4), .val (.int (1 : Int32)), .val (.double (FP.i2d p1)), .second, .val (.double (FP.i2d p2)), .second, .val (.double (FP.i2d p4)), .second, .val (.ref b118), .unset, .unset, .unset, .unset, .unset, .unset] [(.int (1 : Int32)), (.ref b118)]))
      refine own_via (fun t k => XS.dload X122.here hx rfl (hb hby at_54) rfl k) ?_
      show own_G p e below _ (T122.setTop (mkF m 56 #[.val (.int p1), .val (.int p2), .val (.int p3), .val (.int p4), .val (.int (1 : Int32)), .val (.double (FP.i2d p1)), .second, .val (.double (FP.i2d p2)), .second, .val (.double (FP.i2d p4)), .second, .val (.ref b118), .unset, .unset, .unset, .unset, .unset, .unset] [(.double (FP.i2d p2)), (.int (1 : Int32)), (.ref b118)]))
      obtain ⟨_, _, ⟨T123, L123, k123, n123⟩, -, X123, ⟨Lc123, hQ123, l123, y123, z123⟩, st123⟩ := Jvm.LawKit.callS X122 hx (y := (⟨"com/example/odds2/odds2/engine/Bounds", "tightenUpper", "([DID)Z"⟩ : MethodName)) hown (mvT hZ (hw _ (List.mem_of_getElem? (i := 2) rfl))) (mvT hZ (hw _ (List.mem_of_getElem? (i := 3) rfl))) (mvT hZ (hw _ (List.mem_of_getElem? (i := 4) rfl))) (mvT hZ (hw _ (List.mem_of_getElem? (i := 5) rfl))) (by decide) (backOf (W := 0) (rm1_1gt l Z a0 hw [] b118 p4 p1 p4 p2 k118 h122 n0 Z122 V122 gx_b118 hob) hZ (hw _ (List.mem_of_getElem? (i := 5) rfl)) (hw _ (List.mem_of_getElem? (i := 4) rfl)) (by decide) (by decide)) (g := (mkF m 56 #[.val (.int p1), .val (.int p2), .val (.int p3), .val (.int p4), .val (.int (1 : Int32)), .val (.double (FP.i2d p1)), .second, .val (.double (FP.i2d p2)), .second, .val (.double (FP.i2d p4)), .second, .val (.ref b118), .unset, .unset, .unset, .unset, .unset, .unset] [(.double (FP.i2d p2)), (.int (1 : Int32)), (.ref b118)])) rfl (by rw [hml]; rfl) (argsL := [(.ref b118), (.int (1 : Int32)), (.double (FP.i2d p2))]) (rest := []) (lenOf pd_rm0_0 rfl) rfl (by show 2 * 0 + _ ≤ _; exact Nat.le_of_eq rfl) (hb hby at_56) (fun _ _ => ⟨rfl, e122, (by decide : 1 + 0 ≤ _), (by decide : 3 + 0 ≤ _)⟩)
      dsimp only [Pt.U, Pt.locs, Pt.cells, Pt.slots] at X123 l123 y123 z123 st123 hQ123
      subst l123 y123 z123
      obtain ⟨rfl, N123q, K123, V123⟩ := hQ123
      have N123 := Fr.app N122 N123q
      have Z123 : n0 ≤ T123.heap.size := Nat.le_trans Z122 K123.1
      refine own_via st123 ?_
      show own_G p e below _ (T123.setTop (mkF m 59 #[.val (.int p1), .val (.int p2), .val (.int p3), .val (.int p4), .val (.int (1 : Int32)), .val (.double (FP.i2d p1)), .second, .val (.double (FP.i2d p2)), .second, .val (.double (FP.i2d p4)), .second, .val (.ref b118), .unset, .unset, .unset, .unset, .unset, .unset] [(.int (0 : Int32))]))
      refine own_via (fun t k => XS.istore X123.here hx rfl (hb hby at_59) rfl (l' := #[.val (.int p1), .val (.int p2), .val (.int p3), .val (.int p4), .val (.int (1 : Int32)), .val (.double (FP.i2d p1)), .second, .val (.double (FP.i2d p2)), .second, .val (.double (FP.i2d p4)), .second, .val (.ref b118), .val (.int (0 : Int32)), .unset, .unset, .unset, .unset, .unset]) rfl k) ?_
      show own_G p e below _ (T123.setTop (mkF m 61 #[.val (.int p1), .val (.int p2), .val (.int p3), .val (.int p4), .val (.int (1 : Int32)), .val (.double (FP.i2d p1)), .second, .val (.double (FP.i2d p2)), .second, .val (.double (FP.i2d p4)), .second, .val (.ref b118), .val (.int (0 : Int32)), .unset, .unset, .unset, .unset, .unset] []))
      refine own_via (fun t k => XS.aload X123.here hx rfl (hb hby at_61) rfl rfl k) ?_
      show own_G p e below _ (T123.setTop (mkF m 63 #[.val (.int p1), .val (.int p2), .val (.int p3), .val (.int p4), .val (.int (1 : Int32)), .val (.double (FP.i2d p1)), .second, .val (.double (FP.i2d p2)), .second, .val (.double (FP.i2d p4)), .second, .val (.ref b118), .val (.int (0 : Int32)), .unset, .unset, .unset, .unset, .unset] [(.ref b118)]))
      refine own_via (fun t k => XS.iload X123.here hx rfl (hb hby at_63) rfl k) ?_
      show own_G p e below _ (T123.setTop (mkF m 65 #[.val (.int p1), .val (.int p2), .val (.int p3), .val (.int p4), .val (.int (1 : Int32)), .val (.double (FP.i2d p1)), .second, .val (.double (FP.i2d p2)), .second, .val (.double (FP.i2d p4)), .second, .val (.ref b118), .val (.int (0 : Int32)), .unset, .unset, .unset, .unset, .unset] [(.int (1 : Int32)), (.ref b118)]))
      obtain ⟨cl125, Ar125, q125, S125, Ng125, Hs125, G125⟩ := id V123
      have hin125 : ¬ ((1 : Int32) < 0 ∨ cl125.slots.size ≤ ((1 : Int32)).toNatClampNeg) := inb_of S125 ⟨by decide, by decide⟩
      have hat125 : cl125.slots[((1 : Int32)).toNatClampNeg]? = some (.double (FP.i2d p1)) := Hs125.at hin125 rfl
      refine own_via (fun t k => X123.daload hx (j := (1 : Int32)) (v := (.double (FP.i2d p1))) Ar125.1 (State.isArrayOf_alike hZ.alike Ar125.2.1) Ar125.2.2 hin125 hat125 (g := (mkF m 65 #[.val (.int p1), .val (.int p2), .val (.int p3), .val (.int p4), .val (.int (1 : Int32)), .val (.double (FP.i2d p1)), .second, .val (.double (FP.i2d p2)), .second, .val (.double (FP.i2d p4)), .second, .val (.ref b118), .val (.int (0 : Int32)), .unset, .unset, .unset, .unset, .unset] [(.int (1 : Int32)), (.ref b118)])) rfl rfl (hb hby at_65) _ k) ?_
      show own_G p e below _ (T123.setTop (mkF m 66 #[.val (.int p1), .val (.int p2), .val (.int p3), .val (.int p4), .val (.int (1 : Int32)), .val (.double (FP.i2d p1)), .second, .val (.double (FP.i2d p2)), .second, .val (.double (FP.i2d p4)), .second, .val (.ref b118), .val (.int (0 : Int32)), .unset, .unset, .unset, .unset, .unset] [(.double (FP.i2d p1))]))
      refine own_via (fun t k => XS.dstore X123.here hx rfl (hb hby at_66) rfl (l' := #[.val (.int p1), .val (.int p2), .val (.int p3), .val (.int p4), .val (.int (1 : Int32)), .val (.double (FP.i2d p1)), .second, .val (.double (FP.i2d p2)), .second, .val (.double (FP.i2d p4)), .second, .val (.ref b118), .val (.int (0 : Int32)), .val (.double (FP.i2d p1)), .second, .unset, .unset, .unset]) rfl k) ?_
      show own_G p e below _ (T123.setTop (mkF m 68 #[.val (.int p1), .val (.int p2), .val (.int p3), .val (.int p4), .val (.int (1 : Int32)), .val (.double (FP.i2d p1)), .second, .val (.double (FP.i2d p2)), .second, .val (.double (FP.i2d p4)), .second, .val (.ref b118), .val (.int (0 : Int32)), .val (.double (FP.i2d p1)), .second, .unset, .unset, .unset] []))
      refine own_via (fun t k => XS.dload X123.here hx rfl (hb hby at_68) rfl k) ?_
      show own_G p e below _ (T123.setTop (mkF m 70 #[.val (.int p1), .val (.int p2), .val (.int p3), .val (.int p4), .val (.int (1 : Int32)), .val (.double (FP.i2d p1)), .second, .val (.double (FP.i2d p2)), .second, .val (.double (FP.i2d p4)), .second, .val (.ref b118), .val (.int (0 : Int32)), .val (.double (FP.i2d p1)), .second, .unset, .unset, .unset] [(.double (FP.i2d p1))]))
      refine own_via (fun t k => XS.dload X123.here hx rfl (hb hby at_70) rfl k) ?_
      show own_G p e below _ (T123.setTop (mkF m 72 #[.val (.int p1), .val (.int p2), .val (.int p3), .val (.int p4), .val (.int (1 : Int32)), .val (.double (FP.i2d p1)), .second, .val (.double (FP.i2d p2)), .second, .val (.double (FP.i2d p4)), .second, .val (.ref b118), .val (.int (0 : Int32)), .val (.double (FP.i2d p1)), .second, .unset, .unset, .unset] [(.double (FP.i2d p1)), (.double (FP.i2d p1))]))
      refine own_via (fun t k => XS.dcmpS X123.here hx rfl (hb hby at_72) rfl (own_dc_eq rfl _) k) ?_
      show own_G p e below _ (T123.setTop (mkF m 73 #[.val (.int p1), .val (.int p2), .val (.int p3), .val (.int p4), .val (.int (1 : Int32)), .val (.double (FP.i2d p1)), .second, .val (.double (FP.i2d p2)), .second, .val (.double (FP.i2d p4)), .second, .val (.ref b118), .val (.int (0 : Int32)), .val (.double (FP.i2d p1)), .second, .unset, .unset, .unset] [(.int (0 : Int32))]))
      refine own_via (fun t k => XS.ifNo X123.here hx rfl (hb hby at_73) rfl ((if0 _ _).trans (flt (by decide : ¬ ((0 : Int32) < (0 : Int32)))).1) k) ?_
      show own_G p e below _ (T123.setTop (mkF m 76 #[.val (.int p1), .val (.int p2), .val (.int p3), .val (.int p4), .val (.int (1 : Int32)), .val (.double (FP.i2d p1)), .second, .val (.double (FP.i2d p2)), .second, .val (.double (FP.i2d p4)), .second, .val (.ref b118), .val (.int (0 : Int32)), .val (.double (FP.i2d p1)), .second, .unset, .unset, .unset] []))
      refine own_via (fun t k => XS.dload X123.here hx rfl (hb hby at_76) rfl k) ?_
      show own_G p e below _ (T123.setTop (mkF m 78 #[.val (.int p1), .val (.int p2), .val (.int p3), .val (.int p4), .val (.int (1 : Int32)), .val (.double (FP.i2d p1)), .second, .val (.double (FP.i2d p2)), .second, .val (.double (FP.i2d p4)), .second, .val (.ref b118), .val (.int (0 : Int32)), .val (.double (FP.i2d p1)), .second, .unset, .unset, .unset] [(.double (FP.i2d p2))]))
      refine own_via (fun t k => XS.dload X123.here hx rfl (hb hby at_78) rfl k) ?_
      show own_G p e below _ (T123.setTop (mkF m 80 #[.val (.int p1), .val (.int p2), .val (.int p3), .val (.int p4), .val (.int (1 : Int32)), .val (.double (FP.i2d p1)), .second, .val (.double (FP.i2d p2)), .second, .val (.double (FP.i2d p4)), .second, .val (.ref b118), .val (.int (0 : Int32)), .val (.double (FP.i2d p1)), .second, .unset, .unset, .unset] [(.double (FP.i2d p1)), (.double (FP.i2d p2))]))
      refine own_via (fun t k => XS.dcmpS X123.here hx rfl (hb hby at_80) rfl (own_dc_gt hob _) k) ?_
      show own_G p e below _ (T123.setTop (mkF m 81 #[.val (.int p1), .val (.int p2), .val (.int p3), .val (.int p4), .val (.int (1 : Int32)), .val (.double (FP.i2d p1)), .second, .val (.double (FP.i2d p2)), .second, .val (.double (FP.i2d p4)), .second, .val (.ref b118), .val (.int (0 : Int32)), .val (.double (FP.i2d p1)), .second, .unset, .unset, .unset] [(.int (1 : Int32))]))
      refine own_via (fun t k => XS.ifNo X123.here hx rfl (hb hby at_81) rfl ((if0 _ _).trans (flt (by decide : ¬ ((1 : Int32) < (0 : Int32)))).1) k) ?_
      show own_G p e below _ (T123.setTop (mkF m 84 #[.val (.int p1), .val (.int p2), .val (.int p3), .val (.int p4), .val (.int (1 : Int32)), .val (.double (FP.i2d p1)), .second, .val (.double (FP.i2d p2)), .second, .val (.double (FP.i2d p4)), .second, .val (.ref b118), .val (.int (0 : Int32)), .val (.double (FP.i2d p1)), .second, .unset, .unset, .unset] []))
      refine own_via (fun t k => XS.dload X123.here hx rfl (hb hby at_84) rfl k) ?_
      show own_G p e below _ (T123.setTop (mkF m 86 #[.val (.int p1), .val (.int p2), .val (.int p3), .val (.int p4), .val (.int (1 : Int32)), .val (.double (FP.i2d p1)), .second, .val (.double (FP.i2d p2)), .second, .val (.double (FP.i2d p4)), .second, .val (.ref b118), .val (.int (0 : Int32)), .val (.double (FP.i2d p1)), .second, .unset, .unset, .unset] [(.double (FP.i2d p1))]))
      refine own_via (fun t k => XS.dload X123.here hx rfl (hb hby at_86) rfl k) ?_
      show own_G p e below _ (T123.setTop (mkF m 88 #[.val (.int p1), .val (.int p2), .val (.int p3), .val (.int p4), .val (.int (1 : Int32)), .val (.double (FP.i2d p1)), .second, .val (.double (FP.i2d p2)), .second, .val (.double (FP.i2d p4)), .second, .val (.ref b118), .val (.int (0 : Int32)), .val (.double (FP.i2d p1)), .second, .unset, .unset, .unset] [(.double (FP.i2d p1)), (.double (FP.i2d p1))]))
      refine own_via (fun t k => XS.dcmpS X123.here hx rfl (hb hby at_88) rfl (own_dc_eq rfl _) k) ?_
      show own_G p e below _ (T123.setTop (mkF m 89 #[.val (.int p1), .val (.int p2), .val (.int p3), .val (.int p4), .val (.int (1 : Int32)), .val (.double (FP.i2d p1)), .second, .val (.double (FP.i2d p2)), .second, .val (.double (FP.i2d p4)), .second, .val (.ref b118), .val (.int (0 : Int32)), .val (.double (FP.i2d p1)), .second, .unset, .unset, .unset] [(.int (0 : Int32))]))
      refine own_via (fun t k => XS.ifYes X123.here hx rfl (pc0 := 89) (pc' := 100) rfl (hb hby at_89) rfl ((if0 _ _).trans (teq (by decide : (0 : Int32) = (0 : Int32))).1) (by decide) (by decide) k) ?_
      show own_G p e below _ (T123.setTop (mkF m 100 #[.val (.int p1), .val (.int p2), .val (.int p3), .val (.int p4), .val (.int (1 : Int32)), .val (.double (FP.i2d p1)), .second, .val (.double (FP.i2d p2)), .second, .val (.double (FP.i2d p4)), .second, .val (.ref b118), .val (.int (0 : Int32)), .val (.double (FP.i2d p1)), .second, .unset, .unset, .unset] []))
      refine own_via (fun t k => XS.iconst X123.here hx rfl (hb hby at_100) k) ?_
      show own_G p e below _ (T123.setTop (mkF m 101 #[.val (.int p1), .val (.int p2), .val (.int p3), .val (.int p4), .val (.int (1 : Int32)), .val (.double (FP.i2d p1)), .second, .val (.double (FP.i2d p2)), .second, .val (.double (FP.i2d p4)), .second, .val (.ref b118), .val (.int (0 : Int32)), .val (.double (FP.i2d p1)), .second, .unset, .unset, .unset] [(.int (1 : Int32))]))
      refine own_via (fun t k => XS.goto X123.here hx rfl (pc0 := 101) (pc' := 105) rfl (hb hby at_101) (by decide) (by decide) k) ?_
      show own_G p e below _ (T123.setTop (mkF m 105 #[.val (.int p1), .val (.int p2), .val (.int p3), .val (.int p4), .val (.int (1 : Int32)), .val (.double (FP.i2d p1)), .second, .val (.double (FP.i2d p2)), .second, .val (.double (FP.i2d p4)), .second, .val (.ref b118), .val (.int (0 : Int32)), .val (.double (FP.i2d p1)), .second, .unset, .unset, .unset] [(.int (1 : Int32))]))
      refine own_via (fun t k => XS.istore X123.here hx rfl (hb hby at_105) rfl (l' := #[.val (.int p1), .val (.int p2), .val (.int p3), .val (.int p4), .val (.int (1 : Int32)), .val (.double (FP.i2d p1)), .second, .val (.double (FP.i2d p2)), .second, .val (.double (FP.i2d p4)), .second, .val (.ref b118), .val (.int (0 : Int32)), .val (.double (FP.i2d p1)), .second, .val (.int (1 : Int32)), .unset, .unset]) rfl k) ?_
      show own_G p e below _ (T123.setTop (mkF m 107 #[.val (.int p1), .val (.int p2), .val (.int p3), .val (.int p4), .val (.int (1 : Int32)), .val (.double (FP.i2d p1)), .second, .val (.double (FP.i2d p2)), .second, .val (.double (FP.i2d p4)), .second, .val (.ref b118), .val (.int (0 : Int32)), .val (.double (FP.i2d p1)), .second, .val (.int (1 : Int32)), .unset, .unset] []))
      refine own_via (fun t k => XS.iload X123.here hx rfl (hb hby at_107) rfl k) ?_
      show own_G p e below _ (T123.setTop (mkF m 109 #[.val (.int p1), .val (.int p2), .val (.int p3), .val (.int p4), .val (.int (1 : Int32)), .val (.double (FP.i2d p1)), .second, .val (.double (FP.i2d p2)), .second, .val (.double (FP.i2d p4)), .second, .val (.ref b118), .val (.int (0 : Int32)), .val (.double (FP.i2d p1)), .second, .val (.int (1 : Int32)), .unset, .unset] [(.int (0 : Int32))]))
      refine own_via (fun t k => XS.dload X123.here hx rfl (hb hby at_109) rfl k) ?_
      show own_G p e below _ (T123.setTop (mkF m 111 #[.val (.int p1), .val (.int p2), .val (.int p3), .val (.int p4), .val (.int (1 : Int32)), .val (.double (FP.i2d p1)), .second, .val (.double (FP.i2d p2)), .second, .val (.double (FP.i2d p4)), .second, .val (.ref b118), .val (.int (0 : Int32)), .val (.double (FP.i2d p1)), .second, .val (.int (1 : Int32)), .unset, .unset] [(.double (FP.i2d p2)), (.int (0 : Int32))]))
      refine own_via (fun t k => XS.dload X123.here hx rfl (hb hby at_111) rfl k) ?_
      show own_G p e below _ (T123.setTop (mkF m 113 #[.val (.int p1), .val (.int p2), .val (.int p3), .val (.int p4), .val (.int (1 : Int32)), .val (.double (FP.i2d p1)), .second, .val (.double (FP.i2d p2)), .second, .val (.double (FP.i2d p4)), .second, .val (.ref b118), .val (.int (0 : Int32)), .val (.double (FP.i2d p1)), .second, .val (.int (1 : Int32)), .unset, .unset] [(.double (FP.i2d p1)), (.double (FP.i2d p2)), (.int (0 : Int32))]))
      refine own_via (fun t k => XS.dcmpS X123.here hx rfl (hb hby at_113) rfl (own_dc_gt hob _) k) ?_
      show own_G p e below _ (T123.setTop (mkF m 114 #[.val (.int p1), .val (.int p2), .val (.int p3), .val (.int p4), .val (.int (1 : Int32)), .val (.double (FP.i2d p1)), .second, .val (.double (FP.i2d p2)), .second, .val (.double (FP.i2d p4)), .second, .val (.ref b118), .val (.int (0 : Int32)), .val (.double (FP.i2d p1)), .second, .val (.int (1 : Int32)), .unset, .unset] [(.int (1 : Int32)), (.int (0 : Int32))]))
      refine own_via (fun t k => XS.ifYes X123.here hx rfl (pc0 := 114) (pc' := 121) rfl (hb hby at_114) rfl ((if0 _ _).trans (flt (by decide : ¬ ((1 : Int32) < (0 : Int32)))).2.1) (by decide) (by decide) k) ?_
      show own_G p e below _ (T123.setTop (mkF m 121 #[.val (.int p1), .val (.int p2), .val (.int p3), .val (.int p4), .val (.int (1 : Int32)), .val (.double (FP.i2d p1)), .second, .val (.double (FP.i2d p2)), .second, .val (.double (FP.i2d p4)), .second, .val (.ref b118), .val (.int (0 : Int32)), .val (.double (FP.i2d p1)), .second, .val (.int (1 : Int32)), .unset, .unset] [(.int (0 : Int32))]))
      refine own_via (fun t k => XS.iconst X123.here hx rfl (hb hby at_121) k) ?_
      show own_G p e below _ (T123.setTop (mkF m 122 #[.val (.int p1), .val (.int p2), .val (.int p3), .val (.int p4), .val (.int (1 : Int32)), .val (.double (FP.i2d p1)), .second, .val (.double (FP.i2d p2)), .second, .val (.double (FP.i2d p4)), .second, .val (.ref b118), .val (.int (0 : Int32)), .val (.double (FP.i2d p1)), .second, .val (.int (1 : Int32)), .unset, .unset] [(.int (0 : Int32)), (.int (0 : Int32))]))
      refine own_via (fun t k => XS.icmpNo X123.here hx rfl (hb hby at_122) rfl (teq (by decide : (0 : Int32) = (0 : Int32))).2 k) ?_
      show own_G p e below _ (T123.setTop (mkF m 125 #[.val (.int p1), .val (.int p2), .val (.int p3), .val (.int p4), .val (.int (1 : Int32)), .val (.double (FP.i2d p1)), .second, .val (.double (FP.i2d p2)), .second, .val (.double (FP.i2d p4)), .second, .val (.ref b118), .val (.int (0 : Int32)), .val (.double (FP.i2d p1)), .second, .val (.int (1 : Int32)), .unset, .unset] []))
      refine own_via (fun t k => XS.iconst X123.here hx rfl (hb hby at_125) k) ?_
      show own_G p e below _ (T123.setTop (mkF m 126 #[.val (.int p1), .val (.int p2), .val (.int p3), .val (.int p4), .val (.int (1 : Int32)), .val (.double (FP.i2d p1)), .second, .val (.double (FP.i2d p2)), .second, .val (.double (FP.i2d p4)), .second, .val (.ref b118), .val (.int (0 : Int32)), .val (.double (FP.i2d p1)), .second, .val (.int (1 : Int32)), .unset, .unset] [(.int (1 : Int32))]))
      refine own_via (fun t k => XS.goto X123.here hx rfl (pc0 := 126) (pc' := 130) rfl (hb hby at_126) (by decide) (by decide) k) ?_
      show own_G p e below _ (T123.setTop (mkF m 130 #[.val (.int p1), .val (.int p2), .val (.int p3), .val (.int p4), .val (.int (1 : Int32)), .val (.double (FP.i2d p1)), .second, .val (.double (FP.i2d p2)), .second, .val (.double (FP.i2d p4)), .second, .val (.ref b118), .val (.int (0 : Int32)), .val (.double (FP.i2d p1)), .second, .val (.int (1 : Int32)), .unset, .unset] [(.int (1 : Int32))]))
      refine own_via (fun t k => XS.istore X123.here hx rfl (hb hby at_130) rfl (l' := #[.val (.int p1), .val (.int p2), .val (.int p3), .val (.int p4), .val (.int (1 : Int32)), .val (.double (FP.i2d p1)), .second, .val (.double (FP.i2d p2)), .second, .val (.double (FP.i2d p4)), .second, .val (.ref b118), .val (.int (0 : Int32)), .val (.double (FP.i2d p1)), .second, .val (.int (1 : Int32)), .val (.int (1 : Int32)), .unset]) rfl k) ?_
      show own_G p e below _ (T123.setTop (mkF m 132 #[.val (.int p1), .val (.int p2), .val (.int p3), .val (.int p4), .val (.int (1 : Int32)), .val (.double (FP.i2d p1)), .second, .val (.double (FP.i2d p2)), .second, .val (.double (FP.i2d p4)), .second, .val (.ref b118), .val (.int (0 : Int32)), .val (.double (FP.i2d p1)), .second, .val (.int (1 : Int32)), .val (.int (1 : Int32)), .unset] []))
      refine own_via (fun t k => XS.iload X123.here hx rfl (hb hby at_132) rfl k) ?_
      show own_G p e below _ (T123.setTop (mkF m 134 #[.val (.int p1), .val (.int p2), .val (.int p3), .val (.int p4), .val (.int (1 : Int32)), .val (.double (FP.i2d p1)), .second, .val (.double (FP.i2d p2)), .second, .val (.double (FP.i2d p4)), .second, .val (.ref b118), .val (.int (0 : Int32)), .val (.double (FP.i2d p1)), .second, .val (.int (1 : Int32)), .val (.int (1 : Int32)), .unset] [(.int (1 : Int32))]))
      refine own_via (fun t k => XS.ifNo X123.here hx rfl (hb hby at_134) rfl ((if0 _ _).trans (feq (by decide : ¬ ((1 : Int32) = (0 : Int32)))).1) k) ?_
      show own_G p e below _ (T123.setTop (mkF m 137 #[.val (.int p1), .val (.int p2), .val (.int p3), .val (.int p4), .val (.int (1 : Int32)), .val (.double (FP.i2d p1)), .second, .val (.double (FP.i2d p2)), .second, .val (.double (FP.i2d p4)), .second, .val (.ref b118), .val (.int (0 : Int32)), .val (.double (FP.i2d p1)), .second, .val (.int (1 : Int32)), .val (.int (1 : Int32)), .unset] []))
      refine own_via (fun t k => XS.aload X123.here hx rfl (hb hby at_137) rfl rfl k) ?_
      show own_G p e below _ (T123.setTop (mkF m 139 #[.val (.int p1), .val (.int p2), .val (.int p3), .val (.int p4), .val (.int (1 : Int32)), .val (.double (FP.i2d p1)), .second, .val (.double (FP.i2d p2)), .second, .val (.double (FP.i2d p4)), .second, .val (.ref b118), .val (.int (0 : Int32)), .val (.double (FP.i2d p1)), .second, .val (.int (1 : Int32)), .val (.int (1 : Int32)), .unset] [(.ref b118)]))
      refine own_via (fun t k => XS.iconst X123.here hx rfl (hb hby at_139) k) ?_
      show own_G p e below _ (T123.setTop (mkF m 140 #[.val (.int p1), .val (.int p2), .val (.int p3), .val (.int p4), .val (.int (1 : Int32)), .val (.double (FP.i2d p1)), .second, .val (.double (FP.i2d p2)), .second, .val (.double (FP.i2d p4)), .second, .val (.ref b118), .val (.int (0 : Int32)), .val (.double (FP.i2d p1)), .second, .val (.int (1 : Int32)), .val (.int (1 : Int32)), .unset] [(.int (0 : Int32)), (.ref b118)]))
      obtain ⟨cl132, Ar132, q132, S132, Ng132, Hs132, G132⟩ := id V123
      have hin132 : ¬ ((0 : Int32) < 0 ∨ cl132.slots.size ≤ ((0 : Int32)).toNatClampNeg) := inb_of S132 ⟨by decide, by decide⟩
      have hat132 : cl132.slots[((0 : Int32)).toNatClampNeg]? = some (.double (FP.i2d p4)) := Hs132.at hin132 rfl
      refine own_via (fun t k => X123.daload hx (j := (0 : Int32)) (v := (.double (FP.i2d p4))) Ar132.1 (State.isArrayOf_alike hZ.alike Ar132.2.1) Ar132.2.2 hin132 hat132 (g := (mkF m 140 #[.val (.int p1), .val (.int p2), .val (.int p3), .val (.int p4), .val (.int (1 : Int32)), .val (.double (FP.i2d p1)), .second, .val (.double (FP.i2d p2)), .second, .val (.double (FP.i2d p4)), .second, .val (.ref b118), .val (.int (0 : Int32)), .val (.double (FP.i2d p1)), .second, .val (.int (1 : Int32)), .val (.int (1 : Int32)), .unset] [(.int (0 : Int32)), (.ref b118)])) rfl rfl (hb hby at_140) _ k) ?_
      show own_G p e below _ (T123.setTop (mkF m 141 #[.val (.int p1), .val (.int p2), .val (.int p3), .val (.int p4), .val (.int (1 : Int32)), .val (.double (FP.i2d p1)), .second, .val (.double (FP.i2d p2)), .second, .val (.double (FP.i2d p4)), .second, .val (.ref b118), .val (.int (0 : Int32)), .val (.double (FP.i2d p1)), .second, .val (.int (1 : Int32)), .val (.int (1 : Int32)), .unset] [(.double (FP.i2d p4))]))
      refine own_via (fun t k => XS.dload X123.here hx rfl (hb hby at_141) rfl k) ?_
      show own_G p e below _ (T123.setTop (mkF m 143 #[.val (.int p1), .val (.int p2), .val (.int p3), .val (.int p4), .val (.int (1 : Int32)), .val (.double (FP.i2d p1)), .second, .val (.double (FP.i2d p2)), .second, .val (.double (FP.i2d p4)), .second, .val (.ref b118), .val (.int (0 : Int32)), .val (.double (FP.i2d p1)), .second, .val (.int (1 : Int32)), .val (.int (1 : Int32)), .unset] [(.double (FP.i2d p4)), (.double (FP.i2d p4))]))
      refine own_via (fun t k => XS.dcmpS X123.here hx rfl (hb hby at_143) rfl (own_dc_eq rfl _) k) ?_
      show own_G p e below _ (T123.setTop (mkF m 144 #[.val (.int p1), .val (.int p2), .val (.int p3), .val (.int p4), .val (.int (1 : Int32)), .val (.double (FP.i2d p1)), .second, .val (.double (FP.i2d p2)), .second, .val (.double (FP.i2d p4)), .second, .val (.ref b118), .val (.int (0 : Int32)), .val (.double (FP.i2d p1)), .second, .val (.int (1 : Int32)), .val (.int (1 : Int32)), .unset] [(.int (0 : Int32))]))
      refine own_via (fun t k => XS.ifNo X123.here hx rfl (hb hby at_144) rfl ((if0 _ _).trans (teq (by decide : (0 : Int32) = (0 : Int32))).2) k) ?_
      show own_G p e below _ (T123.setTop (mkF m 147 #[.val (.int p1), .val (.int p2), .val (.int p3), .val (.int p4), .val (.int (1 : Int32)), .val (.double (FP.i2d p1)), .second, .val (.double (FP.i2d p2)), .second, .val (.double (FP.i2d p4)), .second, .val (.ref b118), .val (.int (0 : Int32)), .val (.double (FP.i2d p1)), .second, .val (.int (1 : Int32)), .val (.int (1 : Int32)), .unset] []))
      refine own_via (fun t k => XS.iload X123.here hx rfl (hb hby at_147) rfl k) ?_
      show own_G p e below _ (T123.setTop (mkF m 149 #[.val (.int p1), .val (.int p2), .val (.int p3), .val (.int p4), .val (.int (1 : Int32)), .val (.double (FP.i2d p1)), .second, .val (.double (FP.i2d p2)), .second, .val (.double (FP.i2d p4)), .second, .val (.ref b118), .val (.int (0 : Int32)), .val (.double (FP.i2d p1)), .second, .val (.int (1 : Int32)), .val (.int (1 : Int32)), .unset] [(.int (1 : Int32))]))
      refine own_via (fun t k => XS.iconst X123.here hx rfl (hb hby at_149) k) ?_
      show own_G p e below _ (T123.setTop (mkF m 150 #[.val (.int p1), .val (.int p2), .val (.int p3), .val (.int p4), .val (.int (1 : Int32)), .val (.double (FP.i2d p1)), .second, .val (.double (FP.i2d p2)), .second, .val (.double (FP.i2d p4)), .second, .val (.ref b118), .val (.int (0 : Int32)), .val (.double (FP.i2d p1)), .second, .val (.int (1 : Int32)), .val (.int (1 : Int32)), .unset] [(.int (1 : Int32)), (.int (1 : Int32))]))
      refine own_via (fun t k => XS.icmpYes X123.here hx rfl (pc0 := 150) (pc' := 163) rfl (hb hby at_150) rfl (teq (by decide : (1 : Int32) = (1 : Int32))).1 (by decide) (by decide) k) ?_
      show own_G p e below _ (T123.setTop (mkF m 163 #[.val (.int p1), .val (.int p2), .val (.int p3), .val (.int p4), .val (.int (1 : Int32)), .val (.double (FP.i2d p1)), .second, .val (.double (FP.i2d p2)), .second, .val (.double (FP.i2d p4)), .second, .val (.ref b118), .val (.int (0 : Int32)), .val (.double (FP.i2d p1)), .second, .val (.int (1 : Int32)), .val (.int (1 : Int32)), .unset] []))
      refine own_via (fun t k => XS.iload X123.here hx rfl (hb hby at_163) rfl k) ?_
      show own_G p e below _ (T123.setTop (mkF m 165 #[.val (.int p1), .val (.int p2), .val (.int p3), .val (.int p4), .val (.int (1 : Int32)), .val (.double (FP.i2d p1)), .second, .val (.double (FP.i2d p2)), .second, .val (.double (FP.i2d p4)), .second, .val (.ref b118), .val (.int (0 : Int32)), .val (.double (FP.i2d p1)), .second, .val (.int (1 : Int32)), .val (.int (1 : Int32)), .unset] [(.int (1 : Int32))]))
      refine own_via (fun t k => XS.iconst X123.here hx rfl (hb hby at_165) k) ?_
      show own_G p e below _ (T123.setTop (mkF m 166 #[.val (.int p1), .val (.int p2), .val (.int p3), .val (.int p4), .val (.int (1 : Int32)), .val (.double (FP.i2d p1)), .second, .val (.double (FP.i2d p2)), .second, .val (.double (FP.i2d p4)), .second, .val (.ref b118), .val (.int (0 : Int32)), .val (.double (FP.i2d p1)), .second, .val (.int (1 : Int32)), .val (.int (1 : Int32)), .unset] [(.int (2 : Int32)), (.int (1 : Int32))]))
      refine own_via (fun t k => XS.icmpNo X123.here hx rfl (hb hby at_166) rfl (feq (by decide : ¬ ((1 : Int32) = (2 : Int32)))).1 k) ?_
      show own_G p e below _ (T123.setTop (mkF m 169 #[.val (.int p1), .val (.int p2), .val (.int p3), .val (.int p4), .val (.int (1 : Int32)), .val (.double (FP.i2d p1)), .second, .val (.double (FP.i2d p2)), .second, .val (.double (FP.i2d p4)), .second, .val (.ref b118), .val (.int (0 : Int32)), .val (.double (FP.i2d p1)), .second, .val (.int (1 : Int32)), .val (.int (1 : Int32)), .unset] []))
      refine own_via (fun t k => XS.aload X123.here hx rfl (hb hby at_169) rfl rfl k) ?_
      show own_G p e below _ (T123.setTop (mkF m 171 #[.val (.int p1), .val (.int p2), .val (.int p3), .val (.int p4), .val (.int (1 : Int32)), .val (.double (FP.i2d p1)), .second, .val (.double (FP.i2d p2)), .second, .val (.double (FP.i2d p4)), .second, .val (.ref b118), .val (.int (0 : Int32)), .val (.double (FP.i2d p1)), .second, .val (.int (1 : Int32)), .val (.int (1 : Int32)), .unset] [(.ref b118)]))
      refine own_via (fun t k => XS.iconst X123.here hx rfl (hb hby at_171) k) ?_
      show own_G p e below _ (T123.setTop (mkF m 172 #[.val (.int p1), .val (.int p2), .val (.int p3), .val (.int p4), .val (.int (1 : Int32)), .val (.double (FP.i2d p1)), .second, .val (.double (FP.i2d p2)), .second, .val (.double (FP.i2d p4)), .second, .val (.ref b118), .val (.int (0 : Int32)), .val (.double (FP.i2d p1)), .second, .val (.int (1 : Int32)), .val (.int (1 : Int32)), .unset] [(.int (2 : Int32)), (.ref b118)]))
      obtain ⟨cl136, Ar136, q136, S136, Ng136, Hs136, G136⟩ := id V123
      have hin136 : ¬ ((2 : Int32) < 0 ∨ cl136.slots.size ≤ ((2 : Int32)).toNatClampNeg) := inb_of S136 ⟨by decide, by decide⟩
      have hat136 : cl136.slots[((2 : Int32)).toNatClampNeg]? = some (.double (FP.i2d p4)) := Hs136.at hin136 rfl
      refine own_via (fun t k => X123.daload hx (j := (2 : Int32)) (v := (.double (FP.i2d p4))) Ar136.1 (State.isArrayOf_alike hZ.alike Ar136.2.1) Ar136.2.2 hin136 hat136 (g := (mkF m 172 #[.val (.int p1), .val (.int p2), .val (.int p3), .val (.int p4), .val (.int (1 : Int32)), .val (.double (FP.i2d p1)), .second, .val (.double (FP.i2d p2)), .second, .val (.double (FP.i2d p4)), .second, .val (.ref b118), .val (.int (0 : Int32)), .val (.double (FP.i2d p1)), .second, .val (.int (1 : Int32)), .val (.int (1 : Int32)), .unset] [(.int (2 : Int32)), (.ref b118)])) rfl rfl (hb hby at_172) _ k) ?_
      show own_G p e below _ (T123.setTop (mkF m 173 #[.val (.int p1), .val (.int p2), .val (.int p3), .val (.int p4), .val (.int (1 : Int32)), .val (.double (FP.i2d p1)), .second, .val (.double (FP.i2d p2)), .second, .val (.double (FP.i2d p4)), .second, .val (.ref b118), .val (.int (0 : Int32)), .val (.double (FP.i2d p1)), .second, .val (.int (1 : Int32)), .val (.int (1 : Int32)), .unset] [(.double (FP.i2d p4))]))
      refine own_via (fun t k => XS.dload X123.here hx rfl (hb hby at_173) rfl k) ?_
      show own_G p e below _ (T123.setTop (mkF m 175 #[.val (.int p1), .val (.int p2), .val (.int p3), .val (.int p4), .val (.int (1 : Int32)), .val (.double (FP.i2d p1)), .second, .val (.double (FP.i2d p2)), .second, .val (.double (FP.i2d p4)), .second, .val (.ref b118), .val (.int (0 : Int32)), .val (.double (FP.i2d p1)), .second, .val (.int (1 : Int32)), .val (.int (1 : Int32)), .unset] [(.double (FP.i2d p4)), (.double (FP.i2d p4))]))
      refine own_via (fun t k => XS.dcmpS X123.here hx rfl (hb hby at_175) rfl (own_dc_eq rfl _) k) ?_
      show own_G p e below _ (T123.setTop (mkF m 176 #[.val (.int p1), .val (.int p2), .val (.int p3), .val (.int p4), .val (.int (1 : Int32)), .val (.double (FP.i2d p1)), .second, .val (.double (FP.i2d p2)), .second, .val (.double (FP.i2d p4)), .second, .val (.ref b118), .val (.int (0 : Int32)), .val (.double (FP.i2d p1)), .second, .val (.int (1 : Int32)), .val (.int (1 : Int32)), .unset] [(.int (0 : Int32))]))
      refine own_via (fun t k => XS.ifNo X123.here hx rfl (hb hby at_176) rfl ((if0 _ _).trans (teq (by decide : (0 : Int32) = (0 : Int32))).2) k) ?_
      show own_G p e below _ (T123.setTop (mkF m 179 #[.val (.int p1), .val (.int p2), .val (.int p3), .val (.int p4), .val (.int (1 : Int32)), .val (.double (FP.i2d p1)), .second, .val (.double (FP.i2d p2)), .second, .val (.double (FP.i2d p4)), .second, .val (.ref b118), .val (.int (0 : Int32)), .val (.double (FP.i2d p1)), .second, .val (.int (1 : Int32)), .val (.int (1 : Int32)), .unset] []))
      refine own_via (fun t k => XS.iconst X123.here hx rfl (hb hby at_179) k) ?_
      show own_G p e below _ (T123.setTop (mkF m 180 #[.val (.int p1), .val (.int p2), .val (.int p3), .val (.int p4), .val (.int (1 : Int32)), .val (.double (FP.i2d p1)), .second, .val (.double (FP.i2d p2)), .second, .val (.double (FP.i2d p4)), .second, .val (.ref b118), .val (.int (0 : Int32)), .val (.double (FP.i2d p1)), .second, .val (.int (1 : Int32)), .val (.int (1 : Int32)), .unset] [(.int (1 : Int32))]))
      refine own_via (fun t k => XS.goto X123.here hx rfl (pc0 := 180) (pc' := 184) rfl (hb hby at_180) (by decide) (by decide) k) ?_
      show own_G p e below _ (T123.setTop (mkF m 184 #[.val (.int p1), .val (.int p2), .val (.int p3), .val (.int p4), .val (.int (1 : Int32)), .val (.double (FP.i2d p1)), .second, .val (.double (FP.i2d p2)), .second, .val (.double (FP.i2d p4)), .second, .val (.ref b118), .val (.int (0 : Int32)), .val (.double (FP.i2d p1)), .second, .val (.int (1 : Int32)), .val (.int (1 : Int32)), .unset] [(.int (1 : Int32))]))
      refine own_via (fun t k => XS.istore X123.here hx rfl (hb hby at_184) rfl (l' := #[.val (.int p1), .val (.int p2), .val (.int p3), .val (.int p4), .val (.int (1 : Int32)), .val (.double (FP.i2d p1)), .second, .val (.double (FP.i2d p2)), .second, .val (.double (FP.i2d p4)), .second, .val (.ref b118), .val (.int (0 : Int32)), .val (.double (FP.i2d p1)), .second, .val (.int (1 : Int32)), .val (.int (1 : Int32)), .val (.int (1 : Int32))]) rfl k) ?_
      show own_G p e below _ (T123.setTop (mkF m 186 #[.val (.int p1), .val (.int p2), .val (.int p3), .val (.int p4), .val (.int (1 : Int32)), .val (.double (FP.i2d p1)), .second, .val (.double (FP.i2d p2)), .second, .val (.double (FP.i2d p4)), .second, .val (.ref b118), .val (.int (0 : Int32)), .val (.double (FP.i2d p1)), .second, .val (.int (1 : Int32)), .val (.int (1 : Int32)), .val (.int (1 : Int32))] []))
      refine own_via (fun t k => XS.iload X123.here hx rfl (hb hby at_186) rfl k) ?_
      show own_G p e below _ (T123.setTop (mkF m 188 #[.val (.int p1), .val (.int p2), .val (.int p3), .val (.int p4), .val (.int (1 : Int32)), .val (.double (FP.i2d p1)), .second, .val (.double (FP.i2d p2)), .second, .val (.double (FP.i2d p4)), .second, .val (.ref b118), .val (.int (0 : Int32)), .val (.double (FP.i2d p1)), .second, .val (.int (1 : Int32)), .val (.int (1 : Int32)), .val (.int (1 : Int32))] [(.int (1 : Int32))]))
      refine own_via (fun t k => XS.ifNo X123.here hx rfl (hb hby at_188) rfl ((if0 _ _).trans (feq (by decide : ¬ ((1 : Int32) = (0 : Int32)))).1) k) ?_
      show own_G p e below _ (T123.setTop (mkF m 191 #[.val (.int p1), .val (.int p2), .val (.int p3), .val (.int p4), .val (.int (1 : Int32)), .val (.double (FP.i2d p1)), .second, .val (.double (FP.i2d p2)), .second, .val (.double (FP.i2d p4)), .second, .val (.ref b118), .val (.int (0 : Int32)), .val (.double (FP.i2d p1)), .second, .val (.int (1 : Int32)), .val (.int (1 : Int32)), .val (.int (1 : Int32))] []))
      refine own_via (fun t k => XS.iload X123.here hx rfl (hb hby at_191) rfl k) ?_
      show own_G p e below _ (T123.setTop (mkF m 193 #[.val (.int p1), .val (.int p2), .val (.int p3), .val (.int p4), .val (.int (1 : Int32)), .val (.double (FP.i2d p1)), .second, .val (.double (FP.i2d p2)), .second, .val (.double (FP.i2d p4)), .second, .val (.ref b118), .val (.int (0 : Int32)), .val (.double (FP.i2d p1)), .second, .val (.int (1 : Int32)), .val (.int (1 : Int32)), .val (.int (1 : Int32))] [(.int (1 : Int32))]))
      refine own_via (fun t k => XS.ifNo X123.here hx rfl (hb hby at_193) rfl ((if0 _ _).trans (feq (by decide : ¬ ((1 : Int32) = (0 : Int32)))).1) k) ?_
      show own_G p e below _ (T123.setTop (mkF m 196 #[.val (.int p1), .val (.int p2), .val (.int p3), .val (.int p4), .val (.int (1 : Int32)), .val (.double (FP.i2d p1)), .second, .val (.double (FP.i2d p2)), .second, .val (.double (FP.i2d p4)), .second, .val (.ref b118), .val (.int (0 : Int32)), .val (.double (FP.i2d p1)), .second, .val (.int (1 : Int32)), .val (.int (1 : Int32)), .val (.int (1 : Int32))] []))
      refine own_via (fun t k => XS.iload X123.here hx rfl (hb hby at_196) rfl k) ?_
      show own_G p e below _ (T123.setTop (mkF m 198 #[.val (.int p1), .val (.int p2), .val (.int p3), .val (.int p4), .val (.int (1 : Int32)), .val (.double (FP.i2d p1)), .second, .val (.double (FP.i2d p2)), .second, .val (.double (FP.i2d p4)), .second, .val (.ref b118), .val (.int (0 : Int32)), .val (.double (FP.i2d p1)), .second, .val (.int (1 : Int32)), .val (.int (1 : Int32)), .val (.int (1 : Int32))] [(.int (1 : Int32))]))
      refine own_via (fun t k => XS.ifNo X123.here hx rfl (hb hby at_198) rfl ((if0 _ _).trans (feq (by decide : ¬ ((1 : Int32) = (0 : Int32)))).1) k) ?_
      show own_G p e below _ (T123.setTop (mkF m 201 #[.val (.int p1), .val (.int p2), .val (.int p3), .val (.int p4), .val (.int (1 : Int32)), .val (.double (FP.i2d p1)), .second, .val (.double (FP.i2d p2)), .second, .val (.double (FP.i2d p4)), .second, .val (.ref b118), .val (.int (0 : Int32)), .val (.double (FP.i2d p1)), .second, .val (.int (1 : Int32)), .val (.int (1 : Int32)), .val (.int (1 : Int32))] []))
      refine own_via (fun t k => XS.iconst X123.here hx rfl (hb hby at_201) k) ?_
      show own_G p e below _ (T123.setTop (mkF m 202 #[.val (.int p1), .val (.int p2), .val (.int p3), .val (.int p4), .val (.int (1 : Int32)), .val (.double (FP.i2d p1)), .second, .val (.double (FP.i2d p2)), .second, .val (.double (FP.i2d p4)), .second, .val (.ref b118), .val (.int (0 : Int32)), .val (.double (FP.i2d p1)), .second, .val (.int (1 : Int32)), .val (.int (1 : Int32)), .val (.int (1 : Int32))] [(.int (1 : Int32))]))
      refine own_via (fun t k => XS.goto X123.here hx rfl (pc0 := 202) (pc' := 206) rfl (hb hby at_202) (by decide) (by decide) k) ?_
      show own_G p e below _ (T123.setTop (mkF m 206 #[.val (.int p1), .val (.int p2), .val (.int p3), .val (.int p4), .val (.int (1 : Int32)), .val (.double (FP.i2d p1)), .second, .val (.double (FP.i2d p2)), .second, .val (.double (FP.i2d p4)), .second, .val (.ref b118), .val (.int (0 : Int32)), .val (.double (FP.i2d p1)), .second, .val (.int (1 : Int32)), .val (.int (1 : Int32)), .val (.int (1 : Int32))] [(.int (1 : Int32))]))
      obtain ⟨fs, hr, hrun, hended, hW, hsame⟩ := X123.leave (v := some (.int (1 : Int32))) (fun h => by rw [Bd.returns] at h; cases h)
      refine ⟨_, _, retN X123 hx (t := .boolean) Bd.returns (by simp) (hb hby at_206) hr, hrun, hended, _, _, rfl, ?_, ⟨_, rfl⟩, hW, hsame.mono (by decide) (by decide)⟩
      show rm0_Q Z p1 p2 p3 p4 h0 n0 _ T123.heap _
      exact ⟨rfl, N123⟩
  · rcases own_tri p2 p1 with hob | hob | hob
    · rw [hk]
      show own_G p e below _ (s₁.setTop (mkF m 6 #[.val (.int p1), .val (.int p2), .val (.int p3), .val (.int p4), .unset, .unset, .unset, .unset, .unset, .unset, .unset, .unset, .unset, .unset, .unset, .unset, .unset, .unset] [(.int (2 : Int32))]))
      refine own_via (fun t k => XS.istore X0.here hx rfl (hb hby at_6) rfl (l' := #[.val (.int p1), .val (.int p2), .val (.int p3), .val (.int p4), .val (.int (2 : Int32)), .unset, .unset, .unset, .unset, .unset, .unset, .unset, .unset, .unset, .unset, .unset, .unset, .unset]) rfl k) ?_
      show own_G p e below _ (s₁.setTop (mkF m 8 #[.val (.int p1), .val (.int p2), .val (.int p3), .val (.int p4), .val (.int (2 : Int32)), .unset, .unset, .unset, .unset, .unset, .unset, .unset, .unset, .unset, .unset, .unset, .unset, .unset] []))
      refine own_via (fun t k => XS.iloadN X0.here hx rfl (hb hby at_8) rfl k) ?_
      show own_G p e below _ (s₁.setTop (mkF m 9 #[.val (.int p1), .val (.int p2), .val (.int p3), .val (.int p4), .val (.int (2 : Int32)), .unset, .unset, .unset, .unset, .unset, .unset, .unset, .unset, .unset, .unset, .unset, .unset, .unset] [(.int p1)]))
      refine own_via (fun t k => XS.i2dS X0.here hx rfl (hb hby at_9) rfl rfl k) ?_
      show own_G p e below _ (s₁.setTop (mkF m 10 #[.val (.int p1), .val (.int p2), .val (.int p3), .val (.int p4), .val (.int (2 : Int32)), .unset, .unset, .unset, .unset, .unset, .unset, .unset, .unset, .unset, .unset, .unset, .unset, .unset] [(.double (FP.i2d p1))]))
      refine own_via (fun t k => XS.dstore X0.here hx rfl (hb hby at_10) rfl (l' := #[.val (.int p1), .val (.int p2), .val (.int p3), .val (.int p4), .val (.int (2 : Int32)), .val (.double (FP.i2d p1)), .second, .unset, .unset, .unset, .unset, .unset, .unset, .unset, .unset, .unset, .unset, .unset]) rfl k) ?_
      show own_G p e below _ (s₁.setTop (mkF m 12 #[.val (.int p1), .val (.int p2), .val (.int p3), .val (.int p4), .val (.int (2 : Int32)), .val (.double (FP.i2d p1)), .second, .unset, .unset, .unset, .unset, .unset, .unset, .unset, .unset, .unset, .unset, .unset] []))
      refine own_via (fun t k => XS.iloadN X0.here hx rfl (hb hby at_12) rfl k) ?_
      show own_G p e below _ (s₁.setTop (mkF m 13 #[.val (.int p1), .val (.int p2), .val (.int p3), .val (.int p4), .val (.int (2 : Int32)), .val (.double (FP.i2d p1)), .second, .unset, .unset, .unset, .unset, .unset, .unset, .unset, .unset, .unset, .unset, .unset] [(.int p2)]))
      refine own_via (fun t k => XS.i2dS X0.here hx rfl (hb hby at_13) rfl rfl k) ?_
      show own_G p e below _ (s₁.setTop (mkF m 14 #[.val (.int p1), .val (.int p2), .val (.int p3), .val (.int p4), .val (.int (2 : Int32)), .val (.double (FP.i2d p1)), .second, .unset, .unset, .unset, .unset, .unset, .unset, .unset, .unset, .unset, .unset, .unset] [(.double (FP.i2d p2))]))
      refine own_via (fun t k => XS.dstore X0.here hx rfl (hb hby at_14) rfl (l' := #[.val (.int p1), .val (.int p2), .val (.int p3), .val (.int p4), .val (.int (2 : Int32)), .val (.double (FP.i2d p1)), .second, .val (.double (FP.i2d p2)), .second, .unset, .unset, .unset, .unset, .unset, .unset, .unset, .unset, .unset]) rfl k) ?_
      show own_G p e below _ (s₁.setTop (mkF m 16 #[.val (.int p1), .val (.int p2), .val (.int p3), .val (.int p4), .val (.int (2 : Int32)), .val (.double (FP.i2d p1)), .second, .val (.double (FP.i2d p2)), .second, .unset, .unset, .unset, .unset, .unset, .unset, .unset, .unset, .unset] []))
      refine own_via (fun t k => XS.iloadN X0.here hx rfl (hb hby at_16) rfl k) ?_
      show own_G p e below _ (s₁.setTop (mkF m 17 #[.val (.int p1), .val (.int p2), .val (.int p3), .val (.int p4), .val (.int (2 : Int32)), .val (.double (FP.i2d p1)), .second, .val (.double (FP.i2d p2)), .second, .unset, .unset, .unset, .unset, .unset, .unset, .unset, .unset, .unset] [(.int p4)]))
      refine own_via (fun t k => XS.i2dS X0.here hx rfl (hb hby at_17) rfl rfl k) ?_
      show own_G p e below _ (s₁.setTop (mkF m 18 #[.val (.int p1), .val (.int p2), .val (.int p3), .val (.int p4), .val (.int (2 : Int32)), .val (.double (FP.i2d p1)), .second, .val (.double (FP.i2d p2)), .second, .unset, .unset, .unset, .unset, .unset, .unset, .unset, .unset, .unset] [(.double (FP.i2d p4))]))
      refine own_via (fun t k => XS.dstore X0.here hx rfl (hb hby at_18) rfl (l' := #[.val (.int p1), .val (.int p2), .val (.int p3), .val (.int p4), .val (.int (2 : Int32)), .val (.double (FP.i2d p1)), .second, .val (.double (FP.i2d p2)), .second, .val (.double (FP.i2d p4)), .second, .unset, .unset, .unset, .unset, .unset, .unset, .unset]) rfl k) ?_
      show own_G p e below _ (s₁.setTop (mkF m 20 #[.val (.int p1), .val (.int p2), .val (.int p3), .val (.int p4), .val (.int (2 : Int32)), .val (.double (FP.i2d p1)), .second, .val (.double (FP.i2d p2)), .second, .val (.double (FP.i2d p4)), .second, .unset, .unset, .unset, .unset, .unset, .unset, .unset] []))
      refine own_via (fun t k => XS.iconst X0.here hx rfl (hb hby at_20) k) ?_
      show own_G p e below _ (s₁.setTop (mkF m 21 #[.val (.int p1), .val (.int p2), .val (.int p3), .val (.int p4), .val (.int (2 : Int32)), .val (.double (FP.i2d p1)), .second, .val (.double (FP.i2d p2)), .second, .val (.double (FP.i2d p4)), .second, .unset, .unset, .unset, .unset, .unset, .unset, .unset] [(.int (3 : Int32))]))
      obtain ⟨T141, h141, k141, X141, e141, E141, A141, st141⟩ := newP X0 hx hZ (hw _ (List.mem_of_getElem? (i := 1) rfl)) e0 (g := (mkF m 21 #[.val (.int p1), .val (.int p2), .val (.int p3), .val (.int p4), .val (.int (2 : Int32)), .val (.double (FP.i2d p1)), .second, .val (.double (FP.i2d p2)), .second, .val (.double (FP.i2d p4)), .second, .unset, .unset, .unset, .unset, .unset, .unset, .unset] [(.int (3 : Int32))])) rfl (hb hby at_21) rfl (by decide) (cap := 3) (by decide) (by decide) (by decide) (by decide)
      obtain ⟨b141, g141⟩ : ∃ z, z = h0.size := ⟨_, rfl⟩
      rw [← g141] at A141 st141
      have gx_b141 : n0 ≤ b141 := Nat.le_trans Z0 (Nat.le_of_eq g141.symm)
      have Z141 : n0 ≤ h141.size := Nat.le_trans Z0 E141.1
      have V141 : Arv Z h141 b141 k141 .double (3 : Int32) [(.double (0 : UInt64)), (.double (0 : UInt64)), (.double (0 : UInt64))] (.double (0 : UInt64)) := (Arv.new A141 (by decide)).pad (pad_rep [] (.double (0 : UInt64)) 3)
      refine own_via st141 ?_
      show own_G p e below _ (T141.setTop (mkF m 23 #[.val (.int p1), .val (.int p2), .val (.int p3), .val (.int p4), .val (.int (2 : Int32)), .val (.double (FP.i2d p1)), .second, .val (.double (FP.i2d p2)), .second, .val (.double (FP.i2d p4)), .second, .unset, .unset, .unset, .unset, .unset, .unset, .unset] [(.ref b141)]))
      refine own_via (fun t k => XS.astore X141.here hx rfl (hb hby at_23) rfl rfl (l' := #[.val (.int p1), .val (.int p2), .val (.int p3), .val (.int p4), .val (.int (2 : Int32)), .val (.double (FP.i2d p1)), .second, .val (.double (FP.i2d p2)), .second, .val (.double (FP.i2d p4)), .second, .val (.ref b141), .unset, .unset, .unset, .unset, .unset, .unset]) rfl k) ?_
      show own_G p e below _ (T141.setTop (mkF m 25 #[.val (.int p1), .val (.int p2), .val (.int p3), .val (.int p4), .val (.int (2 : Int32)), .val (.double (FP.i2d p1)), .second, .val (.double (FP.i2d p2)), .second, .val (.double (FP.i2d p4)), .second, .val (.ref b141), .unset, .unset, .unset, .unset, .unset, .unset] []))
      refine own_via (fun t k => XS.aload X141.here hx rfl (hb hby at_25) rfl rfl k) ?_
      show own_G p e below _ (T141.setTop (mkF m 27 #[.val (.int p1), .val (.int p2), .val (.int p3), .val (.int p4), .val (.int (2 : Int32)), .val (.double (FP.i2d p1)), .second, .val (.double (FP.i2d p2)), .second, .val (.double (FP.i2d p4)), .second, .val (.ref b141), .unset, .unset, .unset, .unset, .unset, .unset] [(.ref b141)]))
      refine own_via (fun t k => XS.iconst X141.here hx rfl (hb hby at_27) k) ?_
      show own_G p e below _ (T141.setTop (mkF m 28 #[.val (.int p1), .val (.int p2), .val (.int p3), .val (.int p4), .val (.int (2 : Int32)), .val (.double (FP.i2d p1)), .second, .val (.double (FP.i2d p2)), .second, .val (.double (FP.i2d p4)), .second, .val (.ref b141), .unset, .unset, .unset, .unset, .unset, .unset] [(.int (0 : Int32)), (.ref b141)]))
      refine own_via (fun t k => XS.dload X141.here hx rfl (hb hby at_28) rfl k) ?_
      show own_G p e below _ (T141.setTop (mkF m 30 #[.val (.int p1), .val (.int p2), .val (.int p3), .val (.int p4), .val (.int (2 : Int32)), .val (.double (FP.i2d p1)), .second, .val (.double (FP.i2d p2)), .second, .val (.double (FP.i2d p4)), .second, .val (.ref b141), .unset, .unset, .unset, .unset, .unset, .unset] [(.double (FP.i2d p4)), (.int (0 : Int32)), (.ref b141)]))
      obtain ⟨cl142, Ar142, q142, S142, Ng142, Hs142, G142⟩ := id V141
      have hin142 : ¬ ((0 : Int32) < 0 ∨ cl142.slots.size ≤ ((0 : Int32)).toNatClampNeg) := inb_of S142 ⟨by decide, by decide⟩
      obtain ⟨T142, h142, X142, e142, W142, st142⟩ := stD X141 hx hZ e141 Ar142 (j := (0 : Int32)) hin142 (g := (mkF m 30 #[.val (.int p1), .val (.int p2), .val (.int p3), .val (.int p4), .val (.int (2 : Int32)), .val (.double (FP.i2d p1)), .second, .val (.double (FP.i2d p2)), .second, .val (.double (FP.i2d p4)), .second, .val (.ref b141), .unset, .unset, .unset, .unset, .unset, .unset] [(.double (FP.i2d p4)), (.int (0 : Int32)), (.ref b141)])) rfl rfl (hb hby at_30)
      have V142 : Arv Z h142 b141 k141 .double (3 : Int32) [(.double (FP.i2d p4)), (.double (0 : UInt64)), (.double (0 : UInt64))] (.double (0 : UInt64)) := Arv.set Ar142 q142 S142 Ng142 Hs142 G142 rfl W142 0 rfl (Nat.le_of_ble_eq_true rfl)
      have N142 := Fr.snoc X142 N0 gx_b141
      have Z142 : n0 ≤ h142.size := Nat.le_trans Z141 (Nat.le_of_eq W142.size.symm)
      refine own_via st142 ?_
      show own_G p e below _ (T142.setTop (mkF m 31 #[.val (.int p1), .val (.int p2), .val (.int p3), .val (.int p4), .val (.int (2 : Int32)), .val (.double (FP.i2d p1)), .second, .val (.double (FP.i2d p2)), .second, .val (.double (FP.i2d p4)), .second, .val (.ref b141), .unset, .unset, .unset, .unset, .unset, .unset] []))
      refine own_via (fun t k => XS.aload X142.here hx rfl (hb hby at_31) rfl rfl k) ?_
      show own_G p e below _ (T142.setTop (mkF m 33 #[.val (.int p1), .val (.int p2), .val (.int p3), .val (.int p4), .val (.int (2 : Int32)), .val (.double (FP.i2d p1)), .second, .val (.double (FP.i2d p2)), .second, .val (.double (FP.i2d p4)), .second, .val (.ref b141), .unset, .unset, .unset, .unset, .unset, .unset] [(.ref b141)]))
      refine own_via (fun t k => XS.iconst X142.here hx rfl (hb hby at_33) k) ?_
      show own_G p e below _ (T142.setTop (mkF m 34 #[.val (.int p1), .val (.int p2), .val (.int p3), .val (.int p4), .val (.int (2 : Int32)), .val (.double (FP.i2d p1)), .second, .val (.double (FP.i2d p2)), .second, .val (.double (FP.i2d p4)), .second, .val (.ref b141), .unset, .unset, .unset, .unset, .unset, .unset] [(.int (1 : Int32)), (.ref b141)]))
      refine own_via (fun t k => XS.dload X142.here hx rfl (hb hby at_34) rfl k) ?_
      show own_G p e below _ (T142.setTop (mkF m 36 #[.val (.int p1), .val (.int p2), .val (.int p3), .val (.int p4), .val (.int (2 : Int32)), .val (.double (FP.i2d p1)), .second, .val (.double (FP.i2d p2)), .second, .val (.double (FP.i2d p4)), .second, .val (.ref b141), .unset, .unset, .unset, .unset, .unset, .unset] [(.double (FP.i2d p4)), (.int (1 : Int32)), (.ref b141)]))
      obtain ⟨cl143, Ar143, q143, S143, Ng143, Hs143, G143⟩ := id V142
      have hin143 : ¬ ((1 : Int32) < 0 ∨ cl143.slots.size ≤ ((1 : Int32)).toNatClampNeg) := inb_of S143 ⟨by decide, by decide⟩
      obtain ⟨T143, h143, X143, e143, W143, st143⟩ := stD X142 hx hZ e142 Ar143 (j := (1 : Int32)) hin143 (g := (mkF m 36 #[.val (.int p1), .val (.int p2), .val (.int p3), .val (.int p4), .val (.int (2 : Int32)), .val (.double (FP.i2d p1)), .second, .val (.double (FP.i2d p2)), .second, .val (.double (FP.i2d p4)), .second, .val (.ref b141), .unset, .unset, .unset, .unset, .unset, .unset] [(.double (FP.i2d p4)), (.int (1 : Int32)), (.ref b141)])) rfl rfl (hb hby at_36)
      have V143 : Arv Z h143 b141 k141 .double (3 : Int32) [(.double (FP.i2d p4)), (.double (FP.i2d p4)), (.double (0 : UInt64))] (.double (0 : UInt64)) := Arv.set Ar143 q143 S143 Ng143 Hs143 G143 rfl W143 1 rfl (Nat.le_of_ble_eq_true rfl)
      have N143 := Fr.snoc X143 N142 gx_b141
      have Z143 : n0 ≤ h143.size := Nat.le_trans Z142 (Nat.le_of_eq W143.size.symm)
      refine own_via st143 ?_
      show own_G p e below _ (T143.setTop (mkF m 37 #[.val (.int p1), .val (.int p2), .val (.int p3), .val (.int p4), .val (.int (2 : Int32)), .val (.double (FP.i2d p1)), .second, .val (.double (FP.i2d p2)), .second, .val (.double (FP.i2d p4)), .second, .val (.ref b141), .unset, .unset, .unset, .unset, .unset, .unset] []))
      refine own_via (fun t k => XS.aload X143.here hx rfl (hb hby at_37) rfl rfl k) ?_
      show own_G p e below _ (T143.setTop (mkF m 39 #[.val (.int p1), .val (.int p2), .val (.int p3), .val (.int p4), .val (.int (2 : Int32)), .val (.double (FP.i2d p1)), .second, .val (.double (FP.i2d p2)), .second, .val (.double (FP.i2d p4)), .second, .val (.ref b141), .unset, .unset, .unset, .unset, .unset, .unset] [(.ref b141)]))
      refine own_via (fun t k => XS.iconst X143.here hx rfl (hb hby at_39) k) ?_
      show own_G p e below _ (T143.setTop (mkF m 40 #[.val (.int p1), .val (.int p2), .val (.int p3), .val (.int p4), .val (.int (2 : Int32)), .val (.double (FP.i2d p1)), .second, .val (.double (FP.i2d p2)), .second, .val (.double (FP.i2d p4)), .second, .val (.ref b141), .unset, .unset, .unset, .unset, .unset, .unset] [(.int (2 : Int32)), (.ref b141)]))
      refine own_via (fun t k => XS.dload X143.here hx rfl (hb hby at_40) rfl k) ?_
      show own_G p e below _ (T143.setTop (mkF m 42 #[.val (.int p1), .val (.int p2), .val (.int p3), .val (.int p4), .val (.int (2 : Int32)), .val (.double (FP.i2d p1)), .second, .val (.double (FP.i2d p2)), .second, .val (.double (FP.i2d p4)), .second, .val (.ref b141), .unset, .unset, .unset, .unset, .unset, .unset] [(.double (FP.i2d p4)), (.int (2 : Int32)), (.ref b141)]))
      obtain ⟨cl144, Ar144, q144, S144, Ng144, Hs144, G144⟩ := id V143
      have hin144 : ¬ ((2 : Int32) < 0 ∨ cl144.slots.size ≤ ((2 : Int32)).toNatClampNeg) := inb_of S144 ⟨by decide, by decide⟩
      obtain ⟨T144, h144, X144, e144, W144, st144⟩ := stD X143 hx hZ e143 Ar144 (j := (2 : Int32)) hin144 (g := (mkF m 42 #[.val (.int p1), .val (.int p2), .val (.int p3), .val (.int p4), .val (.int (2 : Int32)), .val (.double (FP.i2d p1)), .second, .val (.double (FP.i2d p2)), .second, .val (.double (FP.i2d p4)), .second, .val (.ref b141), .unset, .unset, .unset, .unset, .unset, .unset] [(.double (FP.i2d p4)), (.int (2 : Int32)), (.ref b141)])) rfl rfl (hb hby at_42)
      have V144 : Arv Z h144 b141 k141 .double (3 : Int32) [(.double (FP.i2d p4)), (.double (FP.i2d p4)), (.double (FP.i2d p4))] (.double (0 : UInt64)) := Arv.set Ar144 q144 S144 Ng144 Hs144 G144 rfl W144 2 rfl (Nat.le_of_ble_eq_true rfl)
      have N144 := Fr.snoc X144 N143 gx_b141
      have Z144 : n0 ≤ h144.size := Nat.le_trans Z143 (Nat.le_of_eq W144.size.symm)
      refine own_via st144 ?_
      show own_G p e below _ (T144.setTop (mkF m 43 #[.val (.int p1), .val (.int p2), .val (.int p3), .val (.int p4), .val (.int (2 : Int32)), .val (.double (FP.i2d p1)), .second, .val (.double (FP.i2d p2)), .second, .val (.double (FP.i2d p4)), .second, .val (.ref b141), .unset, .unset, .unset, .unset, .unset, .unset] []))
      refine own_via (fun t k => XS.aload X144.here hx rfl (hb hby at_43) rfl rfl k) ?_
      show own_G p e below _ (T144.setTop (mkF m 45 #[.val (.int p1), .val (.int p2), .val (.int p3), .val (.int p4), .val (.int (2 : Int32)), .val (.double (FP.i2d p1)), .second, .val (.double (FP.i2d p2)), .second, .val (.double (FP.i2d p4)), .second, .val (.ref b141), .unset, .unset, .unset, .unset, .unset, .unset] [(.ref b141)]))
      refine own_via (fun t k => XS.iload X144.here hx rfl (hb hby at_45) rfl k) ?_
      show own_G p e below _ (T144.setTop (mkF m 47 #[.val (.int p1), .val (.int p2), .val (.int p3), .val (.int p4), .val (.int (2 : Int32)), .val (.double (FP.i2d p1)), .second, .val (.double (FP.i2d p2)), .second, .val (.double (FP.i2d p4)), .second, .val (.ref b141), .unset, .unset, .unset, .unset, .unset, .unset] [(.int (2 : Int32)), (.ref b141)]))
      refine own_via (fun t k => XS.dload X144.here hx rfl (hb hby at_47) rfl k) ?_
      show own_G p e below _ (T144.setTop (mkF m 49 #[.val (.int p1), .val (.int p2), .val (.int p3), .val (.int p4), .val (.int (2 : Int32)), .val (.double (FP.i2d p1)), .second, .val (.double (FP.i2d p2)), .second, .val (.double (FP.i2d p4)), .second, .val (.ref b141), .unset, .unset, .unset, .unset, .unset, .unset] [(.double (FP.i2d p1)), (.int (2 : Int32)), (.ref b141)]))
      obtain ⟨cl145, Ar145, q145, S145, Ng145, Hs145, G145⟩ := id V144
      have hin145 : ¬ ((2 : Int32) < 0 ∨ cl145.slots.size ≤ ((2 : Int32)).toNatClampNeg) := inb_of S145 ⟨by decide, by decide⟩
      obtain ⟨T145, h145, X145, e145, W145, st145⟩ := stD X144 hx hZ e144 Ar145 (j := (2 : Int32)) hin145 (g := (mkF m 49 #[.val (.int p1), .val (.int p2), .val (.int p3), .val (.int p4), .val (.int (2 : Int32)), .val (.double (FP.i2d p1)), .second, .val (.double (FP.i2d p2)), .second, .val (.double (FP.i2d p4)), .second, .val (.ref b141), .unset, .unset, .unset, .unset, .unset, .unset] [(.double (FP.i2d p1)), (.int (2 : Int32)), (.ref b141)])) rfl rfl (hb hby at_49)
      have V145 : Arv Z h145 b141 k141 .double (3 : Int32) [(.double (FP.i2d p4)), (.double (FP.i2d p4)), (.double (FP.i2d p1))] (.double (0 : UInt64)) := Arv.set Ar145 q145 S145 Ng145 Hs145 G145 rfl W145 2 rfl (Nat.le_of_ble_eq_true rfl)
      have N145 := Fr.snoc X145 N144 gx_b141
      have Z145 : n0 ≤ h145.size := Nat.le_trans Z144 (Nat.le_of_eq W145.size.symm)
      refine own_via st145 ?_
      show own_G p e below _ (T145.setTop (mkF m 50 #[.val (.int p1), .val (.int p2), .val (.int p3), .val (.int p4), .val (.int (2 : Int32)), .val (.double (FP.i2d p1)), .second, .val (.double (FP.i2d p2)), .second, .val (.double (FP.i2d p4)), .second, .val (.ref b141), .unset, .unset, .unset, .unset, .unset, .unset] []))
      refine own_via (fun t k => XS.aload X145.here hx rfl (hb hby at_50) rfl rfl k) ?_
      show own_G p e below _ (T145.setTop (mkF m 52 #[.val (.int p1), .val (.int p2), .val (.int p3), .val (.int p4), .val (.int (2 : Int32)), .val (.double (FP.i2d p1)), .second, .val (.double (FP.i2d p2)), .second, .val (.double (FP.i2d p4)), .second, .val (.ref b141), .unset, .unset, .unset, .unset, .unset, .unset] [(.ref b141)]))
      refine own_via (fun t k => XS.iload X145.here hx rfl (hb hby at_52) rfl k) ?_
      show own_G p e below _ (T145.setTop (mkF m 54 #[.val (.int p1), .val (.int p2), .val (.int p3), .val (.int p4), .val (.int (2 : Int32)), .val (.double (FP.i2d p1)), .second, .val (.double (FP.i2d p2)), .second, .val (.double (FP.i2d p4)), .second, .val (.ref b141), .unset, .unset, .unset, .unset, .unset, .unset] [(.int (2 : Int32)), (.ref b141)]))
      refine own_via (fun t k => XS.dload X145.here hx rfl (hb hby at_54) rfl k) ?_
      show own_G p e below _ (T145.setTop (mkF m 56 #[.val (.int p1), .val (.int p2), .val (.int p3), .val (.int p4), .val (.int (2 : Int32)), .val (.double (FP.i2d p1)), .second, .val (.double (FP.i2d p2)), .second, .val (.double (FP.i2d p4)), .second, .val (.ref b141), .unset, .unset, .unset, .unset, .unset, .unset] [(.double (FP.i2d p2)), (.int (2 : Int32)), (.ref b141)]))
      obtain ⟨_, _, ⟨T146, L146, k146, n146⟩, -, X146, ⟨Lc146, hQ146, l146, y146, z146⟩, st146⟩ := Jvm.LawKit.callS X145 hx (y := (⟨"com/example/odds2/odds2/engine/Bounds", "tightenUpper", "([DID)Z"⟩ : MethodName)) hown (mvT hZ (hw _ (List.mem_of_getElem? (i := 2) rfl))) (mvT hZ (hw _ (List.mem_of_getElem? (i := 3) rfl))) (mvT hZ (hw _ (List.mem_of_getElem? (i := 4) rfl))) (mvT hZ (hw _ (List.mem_of_getElem? (i := 5) rfl))) (by decide) (backOf (W := 0) (rm1_2lt l Z a0 hw [] b141 p4 p4 p1 p2 k141 h145 n0 Z145 V145 gx_b141 hob) hZ (hw _ (List.mem_of_getElem? (i := 5) rfl)) (hw _ (List.mem_of_getElem? (i := 4) rfl)) (by decide) (by decide)) (g := (mkF m 56 #[.val (.int p1), .val (.int p2), .val (.int p3), .val (.int p4), .val (.int (2 : Int32)), .val (.double (FP.i2d p1)), .second, .val (.double (FP.i2d p2)), .second, .val (.double (FP.i2d p4)), .second, .val (.ref b141), .unset, .unset, .unset, .unset, .unset, .unset] [(.double (FP.i2d p2)), (.int (2 : Int32)), (.ref b141)])) rfl (by rw [hml]; rfl) (argsL := [(.ref b141), (.int (2 : Int32)), (.double (FP.i2d p2))]) (rest := []) (lenOf pd_rm0_0 rfl) rfl (by show 2 * 0 + _ ≤ _; exact Nat.le_of_eq rfl) (hb hby at_56) (fun _ _ => ⟨rfl, e145, (by decide : 1 + 0 ≤ _), (by decide : 3 + 0 ≤ _)⟩)
      dsimp only [Pt.U, Pt.locs, Pt.cells, Pt.slots] at X146 l146 y146 z146 st146 hQ146
      subst l146 y146 z146
      obtain ⟨rfl, N146q, K146, V146⟩ := hQ146
      have N146 := Fr.app N145 N146q
      have Z146 : n0 ≤ T146.heap.size := Nat.le_trans Z145 K146.1
      refine own_via st146 ?_
      show own_G p e below _ (T146.setTop (mkF m 59 #[.val (.int p1), .val (.int p2), .val (.int p3), .val (.int p4), .val (.int (2 : Int32)), .val (.double (FP.i2d p1)), .second, .val (.double (FP.i2d p2)), .second, .val (.double (FP.i2d p4)), .second, .val (.ref b141), .unset, .unset, .unset, .unset, .unset, .unset] [(.int (1 : Int32))]))
      refine own_via (fun t k => XS.istore X146.here hx rfl (hb hby at_59) rfl (l' := #[.val (.int p1), .val (.int p2), .val (.int p3), .val (.int p4), .val (.int (2 : Int32)), .val (.double (FP.i2d p1)), .second, .val (.double (FP.i2d p2)), .second, .val (.double (FP.i2d p4)), .second, .val (.ref b141), .val (.int (1 : Int32)), .unset, .unset, .unset, .unset, .unset]) rfl k) ?_
      show own_G p e below _ (T146.setTop (mkF m 61 #[.val (.int p1), .val (.int p2), .val (.int p3), .val (.int p4), .val (.int (2 : Int32)), .val (.double (FP.i2d p1)), .second, .val (.double (FP.i2d p2)), .second, .val (.double (FP.i2d p4)), .second, .val (.ref b141), .val (.int (1 : Int32)), .unset, .unset, .unset, .unset, .unset] []))
      refine own_via (fun t k => XS.aload X146.here hx rfl (hb hby at_61) rfl rfl k) ?_
      show own_G p e below _ (T146.setTop (mkF m 63 #[.val (.int p1), .val (.int p2), .val (.int p3), .val (.int p4), .val (.int (2 : Int32)), .val (.double (FP.i2d p1)), .second, .val (.double (FP.i2d p2)), .second, .val (.double (FP.i2d p4)), .second, .val (.ref b141), .val (.int (1 : Int32)), .unset, .unset, .unset, .unset, .unset] [(.ref b141)]))
      refine own_via (fun t k => XS.iload X146.here hx rfl (hb hby at_63) rfl k) ?_
      show own_G p e below _ (T146.setTop (mkF m 65 #[.val (.int p1), .val (.int p2), .val (.int p3), .val (.int p4), .val (.int (2 : Int32)), .val (.double (FP.i2d p1)), .second, .val (.double (FP.i2d p2)), .second, .val (.double (FP.i2d p4)), .second, .val (.ref b141), .val (.int (1 : Int32)), .unset, .unset, .unset, .unset, .unset] [(.int (2 : Int32)), (.ref b141)]))
      obtain ⟨cl148, Ar148, q148, S148, Ng148, Hs148, G148⟩ := id V146
      have hin148 : ¬ ((2 : Int32) < 0 ∨ cl148.slots.size ≤ ((2 : Int32)).toNatClampNeg) := inb_of S148 ⟨by decide, by decide⟩
      have hat148 : cl148.slots[((2 : Int32)).toNatClampNeg]? = some (.double (FP.i2d p2)) := Hs148.at hin148 rfl
      refine own_via (fun t k => X146.daload hx (j := (2 : Int32)) (v := (.double (FP.i2d p2))) Ar148.1 (State.isArrayOf_alike hZ.alike Ar148.2.1) Ar148.2.2 hin148 hat148 (g := (mkF m 65 #[.val (.int p1), .val (.int p2), .val (.int p3), .val (.int p4), .val (.int (2 : Int32)), .val (.double (FP.i2d p1)), .second, .val (.double (FP.i2d p2)), .second, .val (.double (FP.i2d p4)), .second, .val (.ref b141), .val (.int (1 : Int32)), .unset, .unset, .unset, .unset, .unset] [(.int (2 : Int32)), (.ref b141)])) rfl rfl (hb hby at_65) _ k) ?_
      show own_G p e below _ (T146.setTop (mkF m 66 #[.val (.int p1), .val (.int p2), .val (.int p3), .val (.int p4), .val (.int (2 : Int32)), .val (.double (FP.i2d p1)), .second, .val (.double (FP.i2d p2)), .second, .val (.double (FP.i2d p4)), .second, .val (.ref b141), .val (.int (1 : Int32)), .unset, .unset, .unset, .unset, .unset] [(.double (FP.i2d p2))]))
      refine own_via (fun t k => XS.dstore X146.here hx rfl (hb hby at_66) rfl (l' := #[.val (.int p1), .val (.int p2), .val (.int p3), .val (.int p4), .val (.int (2 : Int32)), .val (.double (FP.i2d p1)), .second, .val (.double (FP.i2d p2)), .second, .val (.double (FP.i2d p4)), .second, .val (.ref b141), .val (.int (1 : Int32)), .val (.double (FP.i2d p2)), .second, .unset, .unset, .unset]) rfl k) ?_
      show own_G p e below _ (T146.setTop (mkF m 68 #[.val (.int p1), .val (.int p2), .val (.int p3), .val (.int p4), .val (.int (2 : Int32)), .val (.double (FP.i2d p1)), .second, .val (.double (FP.i2d p2)), .second, .val (.double (FP.i2d p4)), .second, .val (.ref b141), .val (.int (1 : Int32)), .val (.double (FP.i2d p2)), .second, .unset, .unset, .unset] []))
      refine own_via (fun t k => XS.dload X146.here hx rfl (hb hby at_68) rfl k) ?_
      show own_G p e below _ (T146.setTop (mkF m 70 #[.val (.int p1), .val (.int p2), .val (.int p3), .val (.int p4), .val (.int (2 : Int32)), .val (.double (FP.i2d p1)), .second, .val (.double (FP.i2d p2)), .second, .val (.double (FP.i2d p4)), .second, .val (.ref b141), .val (.int (1 : Int32)), .val (.double (FP.i2d p2)), .second, .unset, .unset, .unset] [(.double (FP.i2d p1))]))
      refine own_via (fun t k => XS.dload X146.here hx rfl (hb hby at_70) rfl k) ?_
      show own_G p e below _ (T146.setTop (mkF m 72 #[.val (.int p1), .val (.int p2), .val (.int p3), .val (.int p4), .val (.int (2 : Int32)), .val (.double (FP.i2d p1)), .second, .val (.double (FP.i2d p2)), .second, .val (.double (FP.i2d p4)), .second, .val (.ref b141), .val (.int (1 : Int32)), .val (.double (FP.i2d p2)), .second, .unset, .unset, .unset] [(.double (FP.i2d p2)), (.double (FP.i2d p1))]))
      refine own_via (fun t k => XS.dcmpS X146.here hx rfl (hb hby at_72) rfl (own_dc_gt hob _) k) ?_
      show own_G p e below _ (T146.setTop (mkF m 73 #[.val (.int p1), .val (.int p2), .val (.int p3), .val (.int p4), .val (.int (2 : Int32)), .val (.double (FP.i2d p1)), .second, .val (.double (FP.i2d p2)), .second, .val (.double (FP.i2d p4)), .second, .val (.ref b141), .val (.int (1 : Int32)), .val (.double (FP.i2d p2)), .second, .unset, .unset, .unset] [(.int (1 : Int32))]))
      refine own_via (fun t k => XS.ifNo X146.here hx rfl (hb hby at_73) rfl ((if0 _ _).trans (flt (by decide : ¬ ((1 : Int32) < (0 : Int32)))).1) k) ?_
      show own_G p e below _ (T146.setTop (mkF m 76 #[.val (.int p1), .val (.int p2), .val (.int p3), .val (.int p4), .val (.int (2 : Int32)), .val (.double (FP.i2d p1)), .second, .val (.double (FP.i2d p2)), .second, .val (.double (FP.i2d p4)), .second, .val (.ref b141), .val (.int (1 : Int32)), .val (.double (FP.i2d p2)), .second, .unset, .unset, .unset] []))
      refine own_via (fun t k => XS.dload X146.here hx rfl (hb hby at_76) rfl k) ?_
      show own_G p e below _ (T146.setTop (mkF m 78 #[.val (.int p1), .val (.int p2), .val (.int p3), .val (.int p4), .val (.int (2 : Int32)), .val (.double (FP.i2d p1)), .second, .val (.double (FP.i2d p2)), .second, .val (.double (FP.i2d p4)), .second, .val (.ref b141), .val (.int (1 : Int32)), .val (.double (FP.i2d p2)), .second, .unset, .unset, .unset] [(.double (FP.i2d p2))]))
      refine own_via (fun t k => XS.dload X146.here hx rfl (hb hby at_78) rfl k) ?_
      show own_G p e below _ (T146.setTop (mkF m 80 #[.val (.int p1), .val (.int p2), .val (.int p3), .val (.int p4), .val (.int (2 : Int32)), .val (.double (FP.i2d p1)), .second, .val (.double (FP.i2d p2)), .second, .val (.double (FP.i2d p4)), .second, .val (.ref b141), .val (.int (1 : Int32)), .val (.double (FP.i2d p2)), .second, .unset, .unset, .unset] [(.double (FP.i2d p2)), (.double (FP.i2d p2))]))
      refine own_via (fun t k => XS.dcmpS X146.here hx rfl (hb hby at_80) rfl (own_dc_eq rfl _) k) ?_
      show own_G p e below _ (T146.setTop (mkF m 81 #[.val (.int p1), .val (.int p2), .val (.int p3), .val (.int p4), .val (.int (2 : Int32)), .val (.double (FP.i2d p1)), .second, .val (.double (FP.i2d p2)), .second, .val (.double (FP.i2d p4)), .second, .val (.ref b141), .val (.int (1 : Int32)), .val (.double (FP.i2d p2)), .second, .unset, .unset, .unset] [(.int (0 : Int32))]))
      refine own_via (fun t k => XS.ifNo X146.here hx rfl (hb hby at_81) rfl ((if0 _ _).trans (flt (by decide : ¬ ((0 : Int32) < (0 : Int32)))).1) k) ?_
      show own_G p e below _ (T146.setTop (mkF m 84 #[.val (.int p1), .val (.int p2), .val (.int p3), .val (.int p4), .val (.int (2 : Int32)), .val (.double (FP.i2d p1)), .second, .val (.double (FP.i2d p2)), .second, .val (.double (FP.i2d p4)), .second, .val (.ref b141), .val (.int (1 : Int32)), .val (.double (FP.i2d p2)), .second, .unset, .unset, .unset] []))
      refine own_via (fun t k => XS.dload X146.here hx rfl (hb hby at_84) rfl k) ?_
      show own_G p e below _ (T146.setTop (mkF m 86 #[.val (.int p1), .val (.int p2), .val (.int p3), .val (.int p4), .val (.int (2 : Int32)), .val (.double (FP.i2d p1)), .second, .val (.double (FP.i2d p2)), .second, .val (.double (FP.i2d p4)), .second, .val (.ref b141), .val (.int (1 : Int32)), .val (.double (FP.i2d p2)), .second, .unset, .unset, .unset] [(.double (FP.i2d p2))]))
      refine own_via (fun t k => XS.dload X146.here hx rfl (hb hby at_86) rfl k) ?_
      show own_G p e below _ (T146.setTop (mkF m 88 #[.val (.int p1), .val (.int p2), .val (.int p3), .val (.int p4), .val (.int (2 : Int32)), .val (.double (FP.i2d p1)), .second, .val (.double (FP.i2d p2)), .second, .val (.double (FP.i2d p4)), .second, .val (.ref b141), .val (.int (1 : Int32)), .val (.double (FP.i2d p2)), .second, .unset, .unset, .unset] [(.double (FP.i2d p1)), (.double (FP.i2d p2))]))
      refine own_via (fun t k => XS.dcmpS X146.here hx rfl (hb hby at_88) rfl (own_dc_lt hob _) k) ?_
      show own_G p e below _ (T146.setTop (mkF m 89 #[.val (.int p1), .val (.int p2), .val (.int p3), .val (.int p4), .val (.int (2 : Int32)), .val (.double (FP.i2d p1)), .second, .val (.double (FP.i2d p2)), .second, .val (.double (FP.i2d p4)), .second, .val (.ref b141), .val (.int (1 : Int32)), .val (.double (FP.i2d p2)), .second, .unset, .unset, .unset] [(.int (-1 : Int32))]))
      refine own_via (fun t k => XS.ifNo X146.here hx rfl (hb hby at_89) rfl ((if0 _ _).trans (feq (by decide : ¬ ((-1 : Int32) = (0 : Int32)))).1) k) ?_
      show own_G p e below _ (T146.setTop (mkF m 92 #[.val (.int p1), .val (.int p2), .val (.int p3), .val (.int p4), .val (.int (2 : Int32)), .val (.double (FP.i2d p1)), .second, .val (.double (FP.i2d p2)), .second, .val (.double (FP.i2d p4)), .second, .val (.ref b141), .val (.int (1 : Int32)), .val (.double (FP.i2d p2)), .second, .unset, .unset, .unset] []))
      refine own_via (fun t k => XS.dload X146.here hx rfl (hb hby at_92) rfl k) ?_
      show own_G p e below _ (T146.setTop (mkF m 94 #[.val (.int p1), .val (.int p2), .val (.int p3), .val (.int p4), .val (.int (2 : Int32)), .val (.double (FP.i2d p1)), .second, .val (.double (FP.i2d p2)), .second, .val (.double (FP.i2d p4)), .second, .val (.ref b141), .val (.int (1 : Int32)), .val (.double (FP.i2d p2)), .second, .unset, .unset, .unset] [(.double (FP.i2d p2))]))
      refine own_via (fun t k => XS.dload X146.here hx rfl (hb hby at_94) rfl k) ?_
      show own_G p e below _ (T146.setTop (mkF m 96 #[.val (.int p1), .val (.int p2), .val (.int p3), .val (.int p4), .val (.int (2 : Int32)), .val (.double (FP.i2d p1)), .second, .val (.double (FP.i2d p2)), .second, .val (.double (FP.i2d p4)), .second, .val (.ref b141), .val (.int (1 : Int32)), .val (.double (FP.i2d p2)), .second, .unset, .unset, .unset] [(.double (FP.i2d p2)), (.double (FP.i2d p2))]))
      refine own_via (fun t k => XS.dcmpS X146.here hx rfl (hb hby at_96) rfl (own_dc_eq rfl _) k) ?_
      show own_G p e below _ (T146.setTop (mkF m 97 #[.val (.int p1), .val (.int p2), .val (.int p3), .val (.int p4), .val (.int (2 : Int32)), .val (.double (FP.i2d p1)), .second, .val (.double (FP.i2d p2)), .second, .val (.double (FP.i2d p4)), .second, .val (.ref b141), .val (.int (1 : Int32)), .val (.double (FP.i2d p2)), .second, .unset, .unset, .unset] [(.int (0 : Int32))]))
      refine own_via (fun t k => XS.ifNo X146.here hx rfl (hb hby at_97) rfl ((if0 _ _).trans (teq (by decide : (0 : Int32) = (0 : Int32))).2) k) ?_
      show own_G p e below _ (T146.setTop (mkF m 100 #[.val (.int p1), .val (.int p2), .val (.int p3), .val (.int p4), .val (.int (2 : Int32)), .val (.double (FP.i2d p1)), .second, .val (.double (FP.i2d p2)), .second, .val (.double (FP.i2d p4)), .second, .val (.ref b141), .val (.int (1 : Int32)), .val (.double (FP.i2d p2)), .second, .unset, .unset, .unset] []))
      refine own_via (fun t k => XS.iconst X146.here hx rfl (hb hby at_100) k) ?_
      show own_G p e below _ (T146.setTop (mkF m 101 #[.val (.int p1), .val (.int p2), .val (.int p3), .val (.int p4), .val (.int (2 : Int32)), .val (.double (FP.i2d p1)), .second, .val (.double (FP.i2d p2)), .second, .val (.double (FP.i2d p4)), .second, .val (.ref b141), .val (.int (1 : Int32)), .val (.double (FP.i2d p2)), .second, .unset, .unset, .unset] [(.int (1 : Int32))]))
      refine own_via (fun t k => XS.goto X146.here hx rfl (pc0 := 101) (pc' := 105) rfl (hb hby at_101) (by decide) (by decide) k) ?_
      show own_G p e below _ (T146.setTop (mkF m 105 #[.val (.int p1), .val (.int p2), .val (.int p3), .val (.int p4), .val (.int (2 : Int32)), .val (.double (FP.i2d p1)), .second, .val (.double (FP.i2d p2)), .second, .val (.double (FP.i2d p4)), .second, .val (.ref b141), .val (.int (1 : Int32)), .val (.double (FP.i2d p2)), .second, .unset, .unset, .unset] [(.int (1 : Int32))]))
      refine own_via (fun t k => XS.istore X146.here hx rfl (hb hby at_105) rfl (l' := #[.val (.int p1), .val (.int p2), .val (.int p3), .val (.int p4), .val (.int (2 : Int32)), .val (.double (FP.i2d p1)), .second, .val (.double (FP.i2d p2)), .second, .val (.double (FP.i2d p4)), .second, .val (.ref b141), .val (.int (1 : Int32)), .val (.double (FP.i2d p2)), .second, .val (.int (1 : Int32)), .unset, .unset]) rfl k) ?_
      show own_G p e below _ (T146.setTop (mkF m 107 #[.val (.int p1), .val (.int p2), .val (.int p3), .val (.int p4), .val (.int (2 : Int32)), .val (.double (FP.i2d p1)), .second, .val (.double (FP.i2d p2)), .second, .val (.double (FP.i2d p4)), .second, .val (.ref b141), .val (.int (1 : Int32)), .val (.double (FP.i2d p2)), .second, .val (.int (1 : Int32)), .unset, .unset] []))
      refine own_via (fun t k => XS.iload X146.here hx rfl (hb hby at_107) rfl k) ?_
      show own_G p e below _ (T146.setTop (mkF m 109 #[.val (.int p1), .val (.int p2), .val (.int p3), .val (.int p4), .val (.int (2 : Int32)), .val (.double (FP.i2d p1)), .second, .val (.double (FP.i2d p2)), .second, .val (.double (FP.i2d p4)), .second, .val (.ref b141), .val (.int (1 : Int32)), .val (.double (FP.i2d p2)), .second, .val (.int (1 : Int32)), .unset, .unset] [(.int (1 : Int32))]))
      refine own_via (fun t k => XS.dload X146.here hx rfl (hb hby at_109) rfl k) ?_
      show own_G p e below _ (T146.setTop (mkF m 111 #[.val (.int p1), .val (.int p2), .val (.int p3), .val (.int p4), .val (.int (2 : Int32)), .val (.double (FP.i2d p1)), .second, .val (.double (FP.i2d p2)), .second, .val (.double (FP.i2d p4)), .second, .val (.ref b141), .val (.int (1 : Int32)), .val (.double (FP.i2d p2)), .second, .val (.int (1 : Int32)), .unset, .unset] [(.double (FP.i2d p2)), (.int (1 : Int32))]))
      refine own_via (fun t k => XS.dload X146.here hx rfl (hb hby at_111) rfl k) ?_
      show own_G p e below _ (T146.setTop (mkF m 113 #[.val (.int p1), .val (.int p2), .val (.int p3), .val (.int p4), .val (.int (2 : Int32)), .val (.double (FP.i2d p1)), .second, .val (.double (FP.i2d p2)), .second, .val (.double (FP.i2d p4)), .second, .val (.ref b141), .val (.int (1 : Int32)), .val (.double (FP.i2d p2)), .second, .val (.int (1 : Int32)), .unset, .unset] [(.double (FP.i2d p1)), (.double (FP.i2d p2)), (.int (1 : Int32))]))
      refine own_via (fun t k => XS.dcmpS X146.here hx rfl (hb hby at_113) rfl (own_dc_lt hob _) k) ?_
      show own_G p e below _ (T146.setTop (mkF m 114 #[.val (.int p1), .val (.int p2), .val (.int p3), .val (.int p4), .val (.int (2 : Int32)), .val (.double (FP.i2d p1)), .second, .val (.double (FP.i2d p2)), .second, .val (.double (FP.i2d p4)), .second, .val (.ref b141), .val (.int (1 : Int32)), .val (.double (FP.i2d p2)), .second, .val (.int (1 : Int32)), .unset, .unset] [(.int (-1 : Int32)), (.int (1 : Int32))]))
      refine own_via (fun t k => XS.ifNo X146.here hx rfl (hb hby at_114) rfl ((if0 _ _).trans (tlt (by decide : (-1 : Int32) < (0 : Int32))).2.1) k) ?_
      show own_G p e below _ (T146.setTop (mkF m 117 #[.val (.int p1), .val (.int p2), .val (.int p3), .val (.int p4), .val (.int (2 : Int32)), .val (.double (FP.i2d p1)), .second, .val (.double (FP.i2d p2)), .second, .val (.double (FP.i2d p4)), .second, .val (.ref b141), .val (.int (1 : Int32)), .val (.double (FP.i2d p2)), .second, .val (.int (1 : Int32)), .unset, .unset] [(.int (1 : Int32))]))
      refine own_via (fun t k => XS.iconst X146.here hx rfl (hb hby at_117) k) ?_
      show own_G p e below _ (T146.setTop (mkF m 118 #[.val (.int p1), .val (.int p2), .val (.int p3), .val (.int p4), .val (.int (2 : Int32)), .val (.double (FP.i2d p1)), .second, .val (.double (FP.i2d p2)), .second, .val (.double (FP.i2d p4)), .second, .val (.ref b141), .val (.int (1 : Int32)), .val (.double (FP.i2d p2)), .second, .val (.int (1 : Int32)), .unset, .unset] [(.int (1 : Int32)), (.int (1 : Int32))]))
      refine own_via (fun t k => XS.goto X146.here hx rfl (pc0 := 118) (pc' := 122) rfl (hb hby at_118) (by decide) (by decide) k) ?_
      show own_G p e below _ (T146.setTop (mkF m 122 #[.val (.int p1), .val (.int p2), .val (.int p3), .val (.int p4), .val (.int (2 : Int32)), .val (.double (FP.i2d p1)), .second, .val (.double (FP.i2d p2)), .second, .val (.double (FP.i2d p4)), .second, .val (.ref b141), .val (.int (1 : Int32)), .val (.double (FP.i2d p2)), .second, .val (.int (1 : Int32)), .unset, .unset] [(.int (1 : Int32)), (.int (1 : Int32))]))
      refine own_via (fun t k => XS.icmpNo X146.here hx rfl (hb hby at_122) rfl (teq (by decide : (1 : Int32) = (1 : Int32))).2 k) ?_
      show own_G p e below _ (T146.setTop (mkF m 125 #[.val (.int p1), .val (.int p2), .val (.int p3), .val (.int p4), .val (.int (2 : Int32)), .val (.double (FP.i2d p1)), .second, .val (.double (FP.i2d p2)), .second, .val (.double (FP.i2d p4)), .second, .val (.ref b141), .val (.int (1 : Int32)), .val (.double (FP.i2d p2)), .second, .val (.int (1 : Int32)), .unset, .unset] []))
      refine own_via (fun t k => XS.iconst X146.here hx rfl (hb hby at_125) k) ?_
      show own_G p e below _ (T146.setTop (mkF m 126 #[.val (.int p1), .val (.int p2), .val (.int p3), .val (.int p4), .val (.int (2 : Int32)), .val (.double (FP.i2d p1)), .second, .val (.double (FP.i2d p2)), .second, .val (.double (FP.i2d p4)), .second, .val (.ref b141), .val (.int (1 : Int32)), .val (.double (FP.i2d p2)), .second, .val (.int (1 : Int32)), .unset, .unset] [(.int (1 : Int32))]))
      refine own_via (fun t k => XS.goto X146.here hx rfl (pc0 := 126) (pc' := 130) rfl (hb hby at_126) (by decide) (by decide) k) ?_
      show own_G p e below _ (T146.setTop (mkF m 130 #[.val (.int p1), .val (.int p2), .val (.int p3), .val (.int p4), .val (.int (2 : Int32)), .val (.double (FP.i2d p1)), .second, .val (.double (FP.i2d p2)), .second, .val (.double (FP.i2d p4)), .second, .val (.ref b141), .val (.int (1 : Int32)), .val (.double (FP.i2d p2)), .second, .val (.int (1 : Int32)), .unset, .unset] [(.int (1 : Int32))]))
      refine own_via (fun t k => XS.istore X146.here hx rfl (hb hby at_130) rfl (l' := #[.val (.int p1), .val (.int p2), .val (.int p3), .val (.int p4), .val (.int (2 : Int32)), .val (.double (FP.i2d p1)), .second, .val (.double (FP.i2d p2)), .second, .val (.double (FP.i2d p4)), .second, .val (.ref b141), .val (.int (1 : Int32)), .val (.double (FP.i2d p2)), .second, .val (.int (1 : Int32)), .val (.int (1 : Int32)), .unset]) rfl k) ?_
      show own_G p e below _ (T146.setTop (mkF m 132 #[.val (.int p1), .val (.int p2), .val (.int p3), .val (.int p4), .val (.int (2 : Int32)), .val (.double (FP.i2d p1)), .second, .val (.double (FP.i2d p2)), .second, .val (.double (FP.i2d p4)), .second, .val (.ref b141), .val (.int (1 : Int32)), .val (.double (FP.i2d p2)), .second, .val (.int (1 : Int32)), .val (.int (1 : Int32)), .unset] []))
      refine own_via (fun t k => XS.iload X146.here hx rfl (hb hby at_132) rfl k) ?_
      show own_G p e below _ (T146.setTop (mkF m 134 #[.val (.int p1), .val (.int p2), .val (.int p3), .val (.int p4), .val (.int (2 : Int32)), .val (.double (FP.i2d p1)), .second, .val (.double (FP.i2d p2)), .second, .val (.double (FP.i2d p4)), .second, .val (.ref b141), .val (.int (1 : Int32)), .val (.double (FP.i2d p2)), .second, .val (.int (1 : Int32)), .val (.int (1 : Int32)), .unset] [(.int (2 : Int32))]))
      refine own_via (fun t k => XS.ifNo X146.here hx rfl (hb hby at_134) rfl ((if0 _ _).trans (feq (by decide : ¬ ((2 : Int32) = (0 : Int32)))).1) k) ?_
      show own_G p e below _ (T146.setTop (mkF m 137 #[.val (.int p1), .val (.int p2), .val (.int p3), .val (.int p4), .val (.int (2 : Int32)), .val (.double (FP.i2d p1)), .second, .val (.double (FP.i2d p2)), .second, .val (.double (FP.i2d p4)), .second, .val (.ref b141), .val (.int (1 : Int32)), .val (.double (FP.i2d p2)), .second, .val (.int (1 : Int32)), .val (.int (1 : Int32)), .unset] []))
      refine own_via (fun t k => XS.aload X146.here hx rfl (hb hby at_137) rfl rfl k) ?_
      show own_G p e below _ (T146.setTop (mkF m 139 #[.val (.int p1), .val (.int p2), .val (.int p3), .val (.int p4), .val (.int (2 : Int32)), .val (.double (FP.i2d p1)), .second, .val (.double (FP.i2d p2)), .second, .val (.double (FP.i2d p4)), .second, .val (.ref b141), .val (.int (1 : Int32)), .val (.double (FP.i2d p2)), .second, .val (.int (1 : Int32)), .val (.int (1 : Int32)), .unset] [(.ref b141)]))
      refine own_via (fun t k => XS.iconst X146.here hx rfl (hb hby at_139) k) ?_
      show own_G p e below _ (T146.setTop (mkF m 140 #[.val (.int p1), .val (.int p2), .val (.int p3), .val (.int p4), .val (.int (2 : Int32)), .val (.double (FP.i2d p1)), .second, .val (.double (FP.i2d p2)), .second, .val (.double (FP.i2d p4)), .second, .val (.ref b141), .val (.int (1 : Int32)), .val (.double (FP.i2d p2)), .second, .val (.int (1 : Int32)), .val (.int (1 : Int32)), .unset] [(.int (0 : Int32)), (.ref b141)]))
      obtain ⟨cl156, Ar156, q156, S156, Ng156, Hs156, G156⟩ := id V146
      have hin156 : ¬ ((0 : Int32) < 0 ∨ cl156.slots.size ≤ ((0 : Int32)).toNatClampNeg) := inb_of S156 ⟨by decide, by decide⟩
      have hat156 : cl156.slots[((0 : Int32)).toNatClampNeg]? = some (.double (FP.i2d p4)) := Hs156.at hin156 rfl
      refine own_via (fun t k => X146.daload hx (j := (0 : Int32)) (v := (.double (FP.i2d p4))) Ar156.1 (State.isArrayOf_alike hZ.alike Ar156.2.1) Ar156.2.2 hin156 hat156 (g := (mkF m 140 #[.val (.int p1), .val (.int p2), .val (.int p3), .val (.int p4), .val (.int (2 : Int32)), .val (.double (FP.i2d p1)), .second, .val (.double (FP.i2d p2)), .second, .val (.double (FP.i2d p4)), .second, .val (.ref b141), .val (.int (1 : Int32)), .val (.double (FP.i2d p2)), .second, .val (.int (1 : Int32)), .val (.int (1 : Int32)), .unset] [(.int (0 : Int32)), (.ref b141)])) rfl rfl (hb hby at_140) _ k) ?_
      show own_G p e below _ (T146.setTop (mkF m 141 #[.val (.int p1), .val (.int p2), .val (.int p3), .val (.int p4), .val (.int (2 : Int32)), .val (.double (FP.i2d p1)), .second, .val (.double (FP.i2d p2)), .second, .val (.double (FP.i2d p4)), .second, .val (.ref b141), .val (.int (1 : Int32)), .val (.double (FP.i2d p2)), .second, .val (.int (1 : Int32)), .val (.int (1 : Int32)), .unset] [(.double (FP.i2d p4))]))
      refine own_via (fun t k => XS.dload X146.here hx rfl (hb hby at_141) rfl k) ?_
      show own_G p e below _ (T146.setTop (mkF m 143 #[.val (.int p1), .val (.int p2), .val (.int p3), .val (.int p4), .val (.int (2 : Int32)), .val (.double (FP.i2d p1)), .second, .val (.double (FP.i2d p2)), .second, .val (.double (FP.i2d p4)), .second, .val (.ref b141), .val (.int (1 : Int32)), .val (.double (FP.i2d p2)), .second, .val (.int (1 : Int32)), .val (.int (1 : Int32)), .unset] [(.double (FP.i2d p4)), (.double (FP.i2d p4))]))
      refine own_via (fun t k => XS.dcmpS X146.here hx rfl (hb hby at_143) rfl (own_dc_eq rfl _) k) ?_
      show own_G p e below _ (T146.setTop (mkF m 144 #[.val (.int p1), .val (.int p2), .val (.int p3), .val (.int p4), .val (.int (2 : Int32)), .val (.double (FP.i2d p1)), .second, .val (.double (FP.i2d p2)), .second, .val (.double (FP.i2d p4)), .second, .val (.ref b141), .val (.int (1 : Int32)), .val (.double (FP.i2d p2)), .second, .val (.int (1 : Int32)), .val (.int (1 : Int32)), .unset] [(.int (0 : Int32))]))
      refine own_via (fun t k => XS.ifNo X146.here hx rfl (hb hby at_144) rfl ((if0 _ _).trans (teq (by decide : (0 : Int32) = (0 : Int32))).2) k) ?_
      show own_G p e below _ (T146.setTop (mkF m 147 #[.val (.int p1), .val (.int p2), .val (.int p3), .val (.int p4), .val (.int (2 : Int32)), .val (.double (FP.i2d p1)), .second, .val (.double (FP.i2d p2)), .second, .val (.double (FP.i2d p4)), .second, .val (.ref b141), .val (.int (1 : Int32)), .val (.double (FP.i2d p2)), .second, .val (.int (1 : Int32)), .val (.int (1 : Int32)), .unset] []))
      refine own_via (fun t k => XS.iload X146.here hx rfl (hb hby at_147) rfl k) ?_
      show own_G p e below _ (T146.setTop (mkF m 149 #[.val (.int p1), .val (.int p2), .val (.int p3), .val (.int p4), .val (.int (2 : Int32)), .val (.double (FP.i2d p1)), .second, .val (.double (FP.i2d p2)), .second, .val (.double (FP.i2d p4)), .second, .val (.ref b141), .val (.int (1 : Int32)), .val (.double (FP.i2d p2)), .second, .val (.int (1 : Int32)), .val (.int (1 : Int32)), .unset] [(.int (2 : Int32))]))
      refine own_via (fun t k => XS.iconst X146.here hx rfl (hb hby at_149) k) ?_
      show own_G p e below _ (T146.setTop (mkF m 150 #[.val (.int p1), .val (.int p2), .val (.int p3), .val (.int p4), .val (.int (2 : Int32)), .val (.double (FP.i2d p1)), .second, .val (.double (FP.i2d p2)), .second, .val (.double (FP.i2d p4)), .second, .val (.ref b141), .val (.int (1 : Int32)), .val (.double (FP.i2d p2)), .second, .val (.int (1 : Int32)), .val (.int (1 : Int32)), .unset] [(.int (1 : Int32)), (.int (2 : Int32))]))
      refine own_via (fun t k => XS.icmpNo X146.here hx rfl (hb hby at_150) rfl (feq (by decide : ¬ ((2 : Int32) = (1 : Int32)))).1 k) ?_
      show own_G p e below _ (T146.setTop (mkF m 153 #[.val (.int p1), .val (.int p2), .val (.int p3), .val (.int p4), .val (.int (2 : Int32)), .val (.double (FP.i2d p1)), .second, .val (.double (FP.i2d p2)), .second, .val (.double (FP.i2d p4)), .second, .val (.ref b141), .val (.int (1 : Int32)), .val (.double (FP.i2d p2)), .second, .val (.int (1 : Int32)), .val (.int (1 : Int32)), .unset] []))
      refine own_via (fun t k => XS.aload X146.here hx rfl (hb hby at_153) rfl rfl k) ?_
      show own_G p e below _ (T146.setTop (mkF m 155 #[.val (.int p1), .val (.int p2), .val (.int p3), .val (.int p4), .val (.int (2 : Int32)), .val (.double (FP.i2d p1)), .second, .val (.double (FP.i2d p2)), .second, .val (.double (FP.i2d p4)), .second, .val (.ref b141), .val (.int (1 : Int32)), .val (.double (FP.i2d p2)), .second, .val (.int (1 : Int32)), .val (.int (1 : Int32)), .unset] [(.ref b141)]))
      refine own_via (fun t k => XS.iconst X146.here hx rfl (hb hby at_155) k) ?_
      show own_G p e below _ (T146.setTop (mkF m 156 #[.val (.int p1), .val (.int p2), .val (.int p3), .val (.int p4), .val (.int (2 : Int32)), .val (.double (FP.i2d p1)), .second, .val (.double (FP.i2d p2)), .second, .val (.double (FP.i2d p4)), .second, .val (.ref b141), .val (.int (1 : Int32)), .val (.double (FP.i2d p2)), .second, .val (.int (1 : Int32)), .val (.int (1 : Int32)), .unset] [(.int (1 : Int32)), (.ref b141)]))
      obtain ⟨cl159, Ar159, q159, S159, Ng159, Hs159, G159⟩ := id V146
      have hin159 : ¬ ((1 : Int32) < 0 ∨ cl159.slots.size ≤ ((1 : Int32)).toNatClampNeg) := inb_of S159 ⟨by decide, by decide⟩
      have hat159 : cl159.slots[((1 : Int32)).toNatClampNeg]? = some (.double (FP.i2d p4)) := Hs159.at hin159 rfl
      refine own_via (fun t k => X146.daload hx (j := (1 : Int32)) (v := (.double (FP.i2d p4))) Ar159.1 (State.isArrayOf_alike hZ.alike Ar159.2.1) Ar159.2.2 hin159 hat159 (g := (mkF m 156 #[.val (.int p1), .val (.int p2), .val (.int p3), .val (.int p4), .val (.int (2 : Int32)), .val (.double (FP.i2d p1)), .second, .val (.double (FP.i2d p2)), .second, .val (.double (FP.i2d p4)), .second, .val (.ref b141), .val (.int (1 : Int32)), .val (.double (FP.i2d p2)), .second, .val (.int (1 : Int32)), .val (.int (1 : Int32)), .unset] [(.int (1 : Int32)), (.ref b141)])) rfl rfl (hb hby at_156) _ k) ?_
      show own_G p e below _ (T146.setTop (mkF m 157 #[.val (.int p1), .val (.int p2), .val (.int p3), .val (.int p4), .val (.int (2 : Int32)), .val (.double (FP.i2d p1)), .second, .val (.double (FP.i2d p2)), .second, .val (.double (FP.i2d p4)), .second, .val (.ref b141), .val (.int (1 : Int32)), .val (.double (FP.i2d p2)), .second, .val (.int (1 : Int32)), .val (.int (1 : Int32)), .unset] [(.double (FP.i2d p4))]))
      refine own_via (fun t k => XS.dload X146.here hx rfl (hb hby at_157) rfl k) ?_
      show own_G p e below _ (T146.setTop (mkF m 159 #[.val (.int p1), .val (.int p2), .val (.int p3), .val (.int p4), .val (.int (2 : Int32)), .val (.double (FP.i2d p1)), .second, .val (.double (FP.i2d p2)), .second, .val (.double (FP.i2d p4)), .second, .val (.ref b141), .val (.int (1 : Int32)), .val (.double (FP.i2d p2)), .second, .val (.int (1 : Int32)), .val (.int (1 : Int32)), .unset] [(.double (FP.i2d p4)), (.double (FP.i2d p4))]))
      refine own_via (fun t k => XS.dcmpS X146.here hx rfl (hb hby at_159) rfl (own_dc_eq rfl _) k) ?_
      show own_G p e below _ (T146.setTop (mkF m 160 #[.val (.int p1), .val (.int p2), .val (.int p3), .val (.int p4), .val (.int (2 : Int32)), .val (.double (FP.i2d p1)), .second, .val (.double (FP.i2d p2)), .second, .val (.double (FP.i2d p4)), .second, .val (.ref b141), .val (.int (1 : Int32)), .val (.double (FP.i2d p2)), .second, .val (.int (1 : Int32)), .val (.int (1 : Int32)), .unset] [(.int (0 : Int32))]))
      refine own_via (fun t k => XS.ifNo X146.here hx rfl (hb hby at_160) rfl ((if0 _ _).trans (teq (by decide : (0 : Int32) = (0 : Int32))).2) k) ?_
      show own_G p e below _ (T146.setTop (mkF m 163 #[.val (.int p1), .val (.int p2), .val (.int p3), .val (.int p4), .val (.int (2 : Int32)), .val (.double (FP.i2d p1)), .second, .val (.double (FP.i2d p2)), .second, .val (.double (FP.i2d p4)), .second, .val (.ref b141), .val (.int (1 : Int32)), .val (.double (FP.i2d p2)), .second, .val (.int (1 : Int32)), .val (.int (1 : Int32)), .unset] []))
      refine own_via (fun t k => XS.iload X146.here hx rfl (hb hby at_163) rfl k) ?_
      show own_G p e below _ (T146.setTop (mkF m 165 #[.val (.int p1), .val (.int p2), .val (.int p3), .val (.int p4), .val (.int (2 : Int32)), .val (.double (FP.i2d p1)), .second, .val (.double (FP.i2d p2)), .second, .val (.double (FP.i2d p4)), .second, .val (.ref b141), .val (.int (1 : Int32)), .val (.double (FP.i2d p2)), .second, .val (.int (1 : Int32)), .val (.int (1 : Int32)), .unset] [(.int (2 : Int32))]))
      refine own_via (fun t k => XS.iconst X146.here hx rfl (hb hby at_165) k) ?_
      show own_G p e below _ (T146.setTop (mkF m 166 #[.val (.int p1), .val (.int p2), .val (.int p3), .val (.int p4), .val (.int (2 : Int32)), .val (.double (FP.i2d p1)), .second, .val (.double (FP.i2d p2)), .second, .val (.double (FP.i2d p4)), .second, .val (.ref b141), .val (.int (1 : Int32)), .val (.double (FP.i2d p2)), .second, .val (.int (1 : Int32)), .val (.int (1 : Int32)), .unset] [(.int (2 : Int32)), (.int (2 : Int32))]))
      refine own_via (fun t k => XS.icmpYes X146.here hx rfl (pc0 := 166) (pc' := 179) rfl (hb hby at_166) rfl (teq (by decide : (2 : Int32) = (2 : Int32))).1 (by decide) (by decide) k) ?_
      show own_G p e below _ (T146.setTop (mkF m 179 #[.val (.int p1), .val (.int p2), .val (.int p3), .val (.int p4), .val (.int (2 : Int32)), .val (.double (FP.i2d p1)), .second, .val (.double (FP.i2d p2)), .second, .val (.double (FP.i2d p4)), .second, .val (.ref b141), .val (.int (1 : Int32)), .val (.double (FP.i2d p2)), .second, .val (.int (1 : Int32)), .val (.int (1 : Int32)), .unset] []))
      refine own_via (fun t k => XS.iconst X146.here hx rfl (hb hby at_179) k) ?_
      show own_G p e below _ (T146.setTop (mkF m 180 #[.val (.int p1), .val (.int p2), .val (.int p3), .val (.int p4), .val (.int (2 : Int32)), .val (.double (FP.i2d p1)), .second, .val (.double (FP.i2d p2)), .second, .val (.double (FP.i2d p4)), .second, .val (.ref b141), .val (.int (1 : Int32)), .val (.double (FP.i2d p2)), .second, .val (.int (1 : Int32)), .val (.int (1 : Int32)), .unset] [(.int (1 : Int32))]))
      refine own_via (fun t k => XS.goto X146.here hx rfl (pc0 := 180) (pc' := 184) rfl (hb hby at_180) (by decide) (by decide) k) ?_
      show own_G p e below _ (T146.setTop (mkF m 184 #[.val (.int p1), .val (.int p2), .val (.int p3), .val (.int p4), .val (.int (2 : Int32)), .val (.double (FP.i2d p1)), .second, .val (.double (FP.i2d p2)), .second, .val (.double (FP.i2d p4)), .second, .val (.ref b141), .val (.int (1 : Int32)), .val (.double (FP.i2d p2)), .second, .val (.int (1 : Int32)), .val (.int (1 : Int32)), .unset] [(.int (1 : Int32))]))
      refine own_via (fun t k => XS.istore X146.here hx rfl (hb hby at_184) rfl (l' := #[.val (.int p1), .val (.int p2), .val (.int p3), .val (.int p4), .val (.int (2 : Int32)), .val (.double (FP.i2d p1)), .second, .val (.double (FP.i2d p2)), .second, .val (.double (FP.i2d p4)), .second, .val (.ref b141), .val (.int (1 : Int32)), .val (.double (FP.i2d p2)), .second, .val (.int (1 : Int32)), .val (.int (1 : Int32)), .val (.int (1 : Int32))]) rfl k) ?_
      show own_G p e below _ (T146.setTop (mkF m 186 #[.val (.int p1), .val (.int p2), .val (.int p3), .val (.int p4), .val (.int (2 : Int32)), .val (.double (FP.i2d p1)), .second, .val (.double (FP.i2d p2)), .second, .val (.double (FP.i2d p4)), .second, .val (.ref b141), .val (.int (1 : Int32)), .val (.double (FP.i2d p2)), .second, .val (.int (1 : Int32)), .val (.int (1 : Int32)), .val (.int (1 : Int32))] []))
      refine own_via (fun t k => XS.iload X146.here hx rfl (hb hby at_186) rfl k) ?_
      show own_G p e below _ (T146.setTop (mkF m 188 #[.val (.int p1), .val (.int p2), .val (.int p3), .val (.int p4), .val (.int (2 : Int32)), .val (.double (FP.i2d p1)), .second, .val (.double (FP.i2d p2)), .second, .val (.double (FP.i2d p4)), .second, .val (.ref b141), .val (.int (1 : Int32)), .val (.double (FP.i2d p2)), .second, .val (.int (1 : Int32)), .val (.int (1 : Int32)), .val (.int (1 : Int32))] [(.int (1 : Int32))]))
      refine own_via (fun t k => XS.ifNo X146.here hx rfl (hb hby at_188) rfl ((if0 _ _).trans (feq (by decide : ¬ ((1 : Int32) = (0 : Int32)))).1) k) ?_
      show own_G p e below _ (T146.setTop (mkF m 191 #[.val (.int p1), .val (.int p2), .val (.int p3), .val (.int p4), .val (.int (2 : Int32)), .val (.double (FP.i2d p1)), .second, .val (.double (FP.i2d p2)), .second, .val (.double (FP.i2d p4)), .second, .val (.ref b141), .val (.int (1 : Int32)), .val (.double (FP.i2d p2)), .second, .val (.int (1 : Int32)), .val (.int (1 : Int32)), .val (.int (1 : Int32))] []))
      refine own_via (fun t k => XS.iload X146.here hx rfl (hb hby at_191) rfl k) ?_
      show own_G p e below _ (T146.setTop (mkF m 193 #[.val (.int p1), .val (.int p2), .val (.int p3), .val (.int p4), .val (.int (2 : Int32)), .val (.double (FP.i2d p1)), .second, .val (.double (FP.i2d p2)), .second, .val (.double (FP.i2d p4)), .second, .val (.ref b141), .val (.int (1 : Int32)), .val (.double (FP.i2d p2)), .second, .val (.int (1 : Int32)), .val (.int (1 : Int32)), .val (.int (1 : Int32))] [(.int (1 : Int32))]))
      refine own_via (fun t k => XS.ifNo X146.here hx rfl (hb hby at_193) rfl ((if0 _ _).trans (feq (by decide : ¬ ((1 : Int32) = (0 : Int32)))).1) k) ?_
      show own_G p e below _ (T146.setTop (mkF m 196 #[.val (.int p1), .val (.int p2), .val (.int p3), .val (.int p4), .val (.int (2 : Int32)), .val (.double (FP.i2d p1)), .second, .val (.double (FP.i2d p2)), .second, .val (.double (FP.i2d p4)), .second, .val (.ref b141), .val (.int (1 : Int32)), .val (.double (FP.i2d p2)), .second, .val (.int (1 : Int32)), .val (.int (1 : Int32)), .val (.int (1 : Int32))] []))
      refine own_via (fun t k => XS.iload X146.here hx rfl (hb hby at_196) rfl k) ?_
      show own_G p e below _ (T146.setTop (mkF m 198 #[.val (.int p1), .val (.int p2), .val (.int p3), .val (.int p4), .val (.int (2 : Int32)), .val (.double (FP.i2d p1)), .second, .val (.double (FP.i2d p2)), .second, .val (.double (FP.i2d p4)), .second, .val (.ref b141), .val (.int (1 : Int32)), .val (.double (FP.i2d p2)), .second, .val (.int (1 : Int32)), .val (.int (1 : Int32)), .val (.int (1 : Int32))] [(.int (1 : Int32))]))
      refine own_via (fun t k => XS.ifNo X146.here hx rfl (hb hby at_198) rfl ((if0 _ _).trans (feq (by decide : ¬ ((1 : Int32) = (0 : Int32)))).1) k) ?_
      show own_G p e below _ (T146.setTop (mkF m 201 #[.val (.int p1), .val (.int p2), .val (.int p3), .val (.int p4), .val (.int (2 : Int32)), .val (.double (FP.i2d p1)), .second, .val (.double (FP.i2d p2)), .second, .val (.double (FP.i2d p4)), .second, .val (.ref b141), .val (.int (1 : Int32)), .val (.double (FP.i2d p2)), .second, .val (.int (1 : Int32)), .val (.int (1 : Int32)), .val (.int (1 : Int32))] []))
      refine own_via (fun t k => XS.iconst X146.here hx rfl (hb hby at_201) k) ?_
      show own_G p e below _ (T146.setTop (mkF m 202 #[.val (.int p1), .val (.int p2), .val (.int p3), .val (.int p4), .val (.int (2 : Int32)), .val (.double (FP.i2d p1)), .second, .val (.double (FP.i2d p2)), .second, .val (.double (FP.i2d p4)), .second, .val (.ref b141), .val (.int (1 : Int32)), .val (.double (FP.i2d p2)), .second, .val (.int (1 : Int32)), .val (.int (1 : Int32)), .val (.int (1 : Int32))] [(.int (1 : Int32))]))
      refine own_via (fun t k => XS.goto X146.here hx rfl (pc0 := 202) (pc' := 206) rfl (hb hby at_202) (by decide) (by decide) k) ?_
      show own_G p e below _ (T146.setTop (mkF m 206 #[.val (.int p1), .val (.int p2), .val (.int p3), .val (.int p4), .val (.int (2 : Int32)), .val (.double (FP.i2d p1)), .second, .val (.double (FP.i2d p2)), .second, .val (.double (FP.i2d p4)), .second, .val (.ref b141), .val (.int (1 : Int32)), .val (.double (FP.i2d p2)), .second, .val (.int (1 : Int32)), .val (.int (1 : Int32)), .val (.int (1 : Int32))] [(.int (1 : Int32))]))
      obtain ⟨fs, hr, hrun, hended, hW, hsame⟩ := X146.leave (v := some (.int (1 : Int32))) (fun h => by rw [Bd.returns] at h; cases h)
      refine ⟨_, _, retN X146 hx (t := .boolean) Bd.returns (by simp) (hb hby at_206) hr, hrun, hended, _, _, rfl, ?_, ⟨_, rfl⟩, hW, hsame.mono (by decide) (by decide)⟩
      show rm0_Q Z p1 p2 p3 p4 h0 n0 _ T146.heap _
      exact ⟨rfl, N146⟩
    · rw [hk]
      show own_G p e below _ (s₁.setTop (mkF m 6 #[.val (.int p1), .val (.int p2), .val (.int p3), .val (.int p4), .unset, .unset, .unset, .unset, .unset, .unset, .unset, .unset, .unset, .unset, .unset, .unset, .unset, .unset] [(.int (2 : Int32))]))
      refine own_via (fun t k => XS.istore X0.here hx rfl (hb hby at_6) rfl (l' := #[.val (.int p1), .val (.int p2), .val (.int p3), .val (.int p4), .val (.int (2 : Int32)), .unset, .unset, .unset, .unset, .unset, .unset, .unset, .unset, .unset, .unset, .unset, .unset, .unset]) rfl k) ?_
      show own_G p e below _ (s₁.setTop (mkF m 8 #[.val (.int p1), .val (.int p2), .val (.int p3), .val (.int p4), .val (.int (2 : Int32)), .unset, .unset, .unset, .unset, .unset, .unset, .unset, .unset, .unset, .unset, .unset, .unset, .unset] []))
      refine own_via (fun t k => XS.iloadN X0.here hx rfl (hb hby at_8) rfl k) ?_
      show own_G p e below _ (s₁.setTop (mkF m 9 #[.val (.int p1), .val (.int p2), .val (.int p3), .val (.int p4), .val (.int (2 : Int32)), .unset, .unset, .unset, .unset, .unset, .unset, .unset, .unset, .unset, .unset, .unset, .unset, .unset] [(.int p1)]))
      refine own_via (fun t k => XS.i2dS X0.here hx rfl (hb hby at_9) rfl rfl k) ?_
      show own_G p e below _ (s₁.setTop (mkF m 10 #[.val (.int p1), .val (.int p2), .val (.int p3), .val (.int p4), .val (.int (2 : Int32)), .unset, .unset, .unset, .unset, .unset, .unset, .unset, .unset, .unset, .unset, .unset, .unset, .unset] [(.double (FP.i2d p1))]))
      refine own_via (fun t k => XS.dstore X0.here hx rfl (hb hby at_10) rfl (l' := #[.val (.int p1), .val (.int p2), .val (.int p3), .val (.int p4), .val (.int (2 : Int32)), .val (.double (FP.i2d p1)), .second, .unset, .unset, .unset, .unset, .unset, .unset, .unset, .unset, .unset, .unset, .unset]) rfl k) ?_
      show own_G p e below _ (s₁.setTop (mkF m 12 #[.val (.int p1), .val (.int p2), .val (.int p3), .val (.int p4), .val (.int (2 : Int32)), .val (.double (FP.i2d p1)), .second, .unset, .unset, .unset, .unset, .unset, .unset, .unset, .unset, .unset, .unset, .unset] []))
      refine own_via (fun t k => XS.iloadN X0.here hx rfl (hb hby at_12) rfl k) ?_
      show own_G p e below _ (s₁.setTop (mkF m 13 #[.val (.int p1), .val (.int p2), .val (.int p3), .val (.int p4), .val (.int (2 : Int32)), .val (.double (FP.i2d p1)), .second, .unset, .unset, .unset, .unset, .unset, .unset, .unset, .unset, .unset, .unset, .unset] [(.int p2)]))
      refine own_via (fun t k => XS.i2dS X0.here hx rfl (hb hby at_13) rfl rfl k) ?_
      show own_G p e below _ (s₁.setTop (mkF m 14 #[.val (.int p1), .val (.int p2), .val (.int p3), .val (.int p4), .val (.int (2 : Int32)), .val (.double (FP.i2d p1)), .second, .unset, .unset, .unset, .unset, .unset, .unset, .unset, .unset, .unset, .unset, .unset] [(.double (FP.i2d p2))]))
      refine own_via (fun t k => XS.dstore X0.here hx rfl (hb hby at_14) rfl (l' := #[.val (.int p1), .val (.int p2), .val (.int p3), .val (.int p4), .val (.int (2 : Int32)), .val (.double (FP.i2d p1)), .second, .val (.double (FP.i2d p2)), .second, .unset, .unset, .unset, .unset, .unset, .unset, .unset, .unset, .unset]) rfl k) ?_
      show own_G p e below _ (s₁.setTop (mkF m 16 #[.val (.int p1), .val (.int p2), .val (.int p3), .val (.int p4), .val (.int (2 : Int32)), .val (.double (FP.i2d p1)), .second, .val (.double (FP.i2d p2)), .second, .unset, .unset, .unset, .unset, .unset, .unset, .unset, .unset, .unset] []))
      refine own_via (fun t k => XS.iloadN X0.here hx rfl (hb hby at_16) rfl k) ?_
      show own_G p e below _ (s₁.setTop (mkF m 17 #[.val (.int p1), .val (.int p2), .val (.int p3), .val (.int p4), .val (.int (2 : Int32)), .val (.double (FP.i2d p1)), .second, .val (.double (FP.i2d p2)), .second, .unset, .unset, .unset, .unset, .unset, .unset, .unset, .unset, .unset] [(.int p4)]))
      refine own_via (fun t k => XS.i2dS X0.here hx rfl (hb hby at_17) rfl rfl k) ?_
      show own_G p e below _ (s₁.setTop (mkF m 18 #[.val (.int p1), .val (.int p2), .val (.int p3), .val (.int p4), .val (.int (2 : Int32)), .val (.double (FP.i2d p1)), .second, .val (.double (FP.i2d p2)), .second, .unset, .unset, .unset, .unset, .unset, .unset, .unset, .unset, .unset] [(.double (FP.i2d p4))]))
      refine own_via (fun t k => XS.dstore X0.here hx rfl (hb hby at_18) rfl (l' := #[.val (.int p1), .val (.int p2), .val (.int p3), .val (.int p4), .val (.int (2 : Int32)), .val (.double (FP.i2d p1)), .second, .val (.double (FP.i2d p2)), .second, .val (.double (FP.i2d p4)), .second, .unset, .unset, .unset, .unset, .unset, .unset, .unset]) rfl k) ?_
      show own_G p e below _ (s₁.setTop (mkF m 20 #[.val (.int p1), .val (.int p2), .val (.int p3), .val (.int p4), .val (.int (2 : Int32)), .val (.double (FP.i2d p1)), .second, .val (.double (FP.i2d p2)), .second, .val (.double (FP.i2d p4)), .second, .unset, .unset, .unset, .unset, .unset, .unset, .unset] []))
      refine own_via (fun t k => XS.iconst X0.here hx rfl (hb hby at_20) k) ?_
      show own_G p e below _ (s₁.setTop (mkF m 21 #[.val (.int p1), .val (.int p2), .val (.int p3), .val (.int p4), .val (.int (2 : Int32)), .val (.double (FP.i2d p1)), .second, .val (.double (FP.i2d p2)), .second, .val (.double (FP.i2d p4)), .second, .unset, .unset, .unset, .unset, .unset, .unset, .unset] [(.int (3 : Int32))]))
      obtain ⟨T165, h165, k165, X165, e165, E165, A165, st165⟩ := newP X0 hx hZ (hw _ (List.mem_of_getElem? (i := 1) rfl)) e0 (g := (mkF m 21 #[.val (.int p1), .val (.int p2), .val (.int p3), .val (.int p4), .val (.int (2 : Int32)), .val (.double (FP.i2d p1)), .second, .val (.double (FP.i2d p2)), .second, .val (.double (FP.i2d p4)), .second, .unset, .unset, .unset, .unset, .unset, .unset, .unset] [(.int (3 : Int32))])) rfl (hb hby at_21) rfl (by decide) (cap := 3) (by decide) (by decide) (by decide) (by decide)
      obtain ⟨b165, g165⟩ : ∃ z, z = h0.size := ⟨_, rfl⟩
      rw [← g165] at A165 st165
      have gx_b165 : n0 ≤ b165 := Nat.le_trans Z0 (Nat.le_of_eq g165.symm)
      have Z165 : n0 ≤ h165.size := Nat.le_trans Z0 E165.1
      have V165 : Arv Z h165 b165 k165 .double (3 : Int32) [(.double (0 : UInt64)), (.double (0 : UInt64)), (.double (0 : UInt64))] (.double (0 : UInt64)) := (Arv.new A165 (by decide)).pad (pad_rep [] (.double (0 : UInt64)) 3)
      refine own_via st165 ?_
      show own_G p e below _ (T165.setTop (mkF m 23 #[.val (.int p1), .val (.int p2), .val (.int p3), .val (.int p4), .val (.int (2 : Int32)), .val (.double (FP.i2d p1)), .second, .val (.double (FP.i2d p2)), .second, .val (.double (FP.i2d p4)), .second, .unset, .unset, .unset, .unset, .unset, .unset, .unset] [(.ref b165)]))
      refine own_via (fun t k => XS.astore X165.here hx rfl (hb hby at_23) rfl rfl (l' := #[.val (.int p1), .val (.int p2), .val (.int p3), .val (.int p4), .val (.int (2 : Int32)), .val (.double (FP.i2d p1)), .second, .val (.double (FP.i2d p2)), .second, .val (.double (FP.i2d p4)), .second, .val (.ref b165), .unset, .unset, .unset, .unset, .unset, .unset]) rfl k) ?_
      show own_G p e below _ (T165.setTop (mkF m 25 #[.val (.int p1), .val (.int p2), .val (.int p3), .val (.int p4), .val (.int (2 : Int32)), .val (.double (FP.i2d p1)), .second, .val (.double (FP.i2d p2)), .second, .val (.double (FP.i2d p4)), .second, .val (.ref b165), .unset, .unset, .unset, .unset, .unset, .unset] []))
      refine own_via (fun t k => XS.aload X165.here hx rfl (hb hby at_25) rfl rfl k) ?_
      show own_G p e below _ (T165.setTop (mkF m 27 #[.val (.int p1), .val (.int p2), .val (.int p3), .val (.int p4), .val (.int (2 : Int32)), .val (.double (FP.i2d p1)), .second, .val (.double (FP.i2d p2)), .second, .val (.double (FP.i2d p4)), .second, .val (.ref b165), .unset, .unset, .unset, .unset, .unset, .unset] [(.ref b165)]))
      refine own_via (fun t k => XS.iconst X165.here hx rfl (hb hby at_27) k) ?_
      show own_G p e below _ (T165.setTop (mkF m 28 #[.val (.int p1), .val (.int p2), .val (.int p3), .val (.int p4), .val (.int (2 : Int32)), .val (.double (FP.i2d p1)), .second, .val (.double (FP.i2d p2)), .second, .val (.double (FP.i2d p4)), .second, .val (.ref b165), .unset, .unset, .unset, .unset, .unset, .unset] [(.int (0 : Int32)), (.ref b165)]))
      refine own_via (fun t k => XS.dload X165.here hx rfl (hb hby at_28) rfl k) ?_
      show own_G p e below _ (T165.setTop (mkF m 30 #[.val (.int p1), .val (.int p2), .val (.int p3), .val (.int p4), .val (.int (2 : Int32)), .val (.double (FP.i2d p1)), .second, .val (.double (FP.i2d p2)), .second, .val (.double (FP.i2d p4)), .second, .val (.ref b165), .unset, .unset, .unset, .unset, .unset, .unset] [(.double (FP.i2d p4)), (.int (0 : Int32)), (.ref b165)]))
      obtain ⟨cl166, Ar166, q166, S166, Ng166, Hs166, G166⟩ := id V165
      have hin166 : ¬ ((0 : Int32) < 0 ∨ cl166.slots.size ≤ ((0 : Int32)).toNatClampNeg) := inb_of S166 ⟨by decide, by decide⟩
      obtain ⟨T166, h166, X166, e166, W166, st166⟩ := stD X165 hx hZ e165 Ar166 (j := (0 : Int32)) hin166 (g := (mkF m 30 #[.val (.int p1), .val (.int p2), .val (.int p3), .val (.int p4), .val (.int (2 : Int32)), .val (.double (FP.i2d p1)), .second, .val (.double (FP.i2d p2)), .second, .val (.double (FP.i2d p4)), .second, .val (.ref b165), .unset, .unset, .unset, .unset, .unset, .unset] [(.double (FP.i2d p4)), (.int (0 : Int32)), (.ref b165)])) rfl rfl (hb hby at_30)
      have V166 : Arv Z h166 b165 k165 .double (3 : Int32) [(.double (FP.i2d p4)), (.double (0 : UInt64)), (.double (0 : UInt64))] (.double (0 : UInt64)) := Arv.set Ar166 q166 S166 Ng166 Hs166 G166 rfl W166 0 rfl (Nat.le_of_ble_eq_true rfl)
      have N166 := Fr.snoc X166 N0 gx_b165
      have Z166 : n0 ≤ h166.size := Nat.le_trans Z165 (Nat.le_of_eq W166.size.symm)
      refine own_via st166 ?_
      show own_G p e below _ (T166.setTop (mkF m 31 #[.val (.int p1), .val (.int p2), .val (.int p3), .val (.int p4), .val (.int (2 : Int32)), .val (.double (FP.i2d p1)), .second, .val (.double (FP.i2d p2)), .second, .val (.double (FP.i2d p4)), .second, .val (.ref b165), .unset, .unset, .unset, .unset, .unset, .unset] []))
      refine own_via (fun t k => XS.aload X166.here hx rfl (hb hby at_31) rfl rfl k) ?_
      show own_G p e below _ (T166.setTop (mkF m 33 #[.val (.int p1), .val (.int p2), .val (.int p3), .val (.int p4), .val (.int (2 : Int32)), .val (.double (FP.i2d p1)), .second, .val (.double (FP.i2d p2)), .second, .val (.double (FP.i2d p4)), .second, .val (.ref b165), .unset, .unset, .unset, .unset, .unset, .unset] [(.ref b165)]))
      refine own_via (fun t k => XS.iconst X166.here hx rfl (hb hby at_33) k) ?_
      show own_G p e below _ (T166.setTop (mkF m 34 #[.val (.int p1), .val (.int p2), .val (.int p3), .val (.int p4), .val (.int (2 : Int32)), .val (.double (FP.i2d p1)), .second, .val (.double (FP.i2d p2)), .second, .val (.double (FP.i2d p4)), .second, .val (.ref b165), .unset, .unset, .unset, .unset, .unset, .unset] [(.int (1 : Int32)), (.ref b165)]))
      refine own_via (fun t k => XS.dload X166.here hx rfl (hb hby at_34) rfl k) ?_
      show own_G p e below _ (T166.setTop (mkF m 36 #[.val (.int p1), .val (.int p2), .val (.int p3), .val (.int p4), .val (.int (2 : Int32)), .val (.double (FP.i2d p1)), .second, .val (.double (FP.i2d p2)), .second, .val (.double (FP.i2d p4)), .second, .val (.ref b165), .unset, .unset, .unset, .unset, .unset, .unset] [(.double (FP.i2d p4)), (.int (1 : Int32)), (.ref b165)]))
      obtain ⟨cl167, Ar167, q167, S167, Ng167, Hs167, G167⟩ := id V166
      have hin167 : ¬ ((1 : Int32) < 0 ∨ cl167.slots.size ≤ ((1 : Int32)).toNatClampNeg) := inb_of S167 ⟨by decide, by decide⟩
      obtain ⟨T167, h167, X167, e167, W167, st167⟩ := stD X166 hx hZ e166 Ar167 (j := (1 : Int32)) hin167 (g := (mkF m 36 #[.val (.int p1), .val (.int p2), .val (.int p3), .val (.int p4), .val (.int (2 : Int32)), .val (.double (FP.i2d p1)), .second, .val (.double (FP.i2d p2)), .second, .val (.double (FP.i2d p4)), .second, .val (.ref b165), .unset, .unset, .unset, .unset, .unset, .unset] [(.double (FP.i2d p4)), (.int (1 : Int32)), (.ref b165)])) rfl rfl (hb hby at_36)
      have V167 : Arv Z h167 b165 k165 .double (3 : Int32) [(.double (FP.i2d p4)), (.double (FP.i2d p4)), (.double (0 : UInt64))] (.double (0 : UInt64)) := Arv.set Ar167 q167 S167 Ng167 Hs167 G167 rfl W167 1 rfl (Nat.le_of_ble_eq_true rfl)
      have N167 := Fr.snoc X167 N166 gx_b165
      have Z167 : n0 ≤ h167.size := Nat.le_trans Z166 (Nat.le_of_eq W167.size.symm)
      refine own_via st167 ?_
      show own_G p e below _ (T167.setTop (mkF m 37 #[.val (.int p1), .val (.int p2), .val (.int p3), .val (.int p4), .val (.int (2 : Int32)), .val (.double (FP.i2d p1)), .second, .val (.double (FP.i2d p2)), .second, .val (.double (FP.i2d p4)), .second, .val (.ref b165), .unset, .unset, .unset, .unset, .unset, .unset] []))
      refine own_via (fun t k => XS.aload X167.here hx rfl (hb hby at_37) rfl rfl k) ?_
      show own_G p e below _ (T167.setTop (mkF m 39 #[.val (.int p1), .val (.int p2), .val (.int p3), .val (.int p4), .val (.int (2 : Int32)), .val (.double (FP.i2d p1)), .second, .val (.double (FP.i2d p2)), .second, .val (.double (FP.i2d p4)), .second, .val (.ref b165), .unset, .unset, .unset, .unset, .unset, .unset] [(.ref b165)]))
      refine own_via (fun t k => XS.iconst X167.here hx rfl (hb hby at_39) k) ?_
      show own_G p e below _ (T167.setTop (mkF m 40 #[.val (.int p1), .val (.int p2), .val (.int p3), .val (.int p4), .val (.int (2 : Int32)), .val (.double (FP.i2d p1)), .second, .val (.double (FP.i2d p2)), .second, .val (.double (FP.i2d p4)), .second, .val (.ref b165), .unset, .unset, .unset, .unset, .unset, .unset] [(.int (2 : Int32)), (.ref b165)]))
      refine own_via (fun t k => XS.dload X167.here hx rfl (hb hby at_40) rfl k) ?_
      show own_G p e below _ (T167.setTop (mkF m 42 #[.val (.int p1), .val (.int p2), .val (.int p3), .val (.int p4), .val (.int (2 : Int32)), .val (.double (FP.i2d p1)), .second, .val (.double (FP.i2d p2)), .second, .val (.double (FP.i2d p4)), .second, .val (.ref b165), .unset, .unset, .unset, .unset, .unset, .unset] [(.double (FP.i2d p4)), (.int (2 : Int32)), (.ref b165)]))
      obtain ⟨cl168, Ar168, q168, S168, Ng168, Hs168, G168⟩ := id V167
      have hin168 : ¬ ((2 : Int32) < 0 ∨ cl168.slots.size ≤ ((2 : Int32)).toNatClampNeg) := inb_of S168 ⟨by decide, by decide⟩
      obtain ⟨T168, h168, X168, e168, W168, st168⟩ := stD X167 hx hZ e167 Ar168 (j := (2 : Int32)) hin168 (g := (mkF m 42 #[.val (.int p1), .val (.int p2), .val (.int p3), .val (.int p4), .val (.int (2 : Int32)), .val (.double (FP.i2d p1)), .second, .val (.double (FP.i2d p2)), .second, .val (.double (FP.i2d p4)), .second, .val (.ref b165), .unset, .unset, .unset, .unset, .unset, .unset] [(.double (FP.i2d p4)), (.int (2 : Int32)), (.ref b165)])) rfl rfl (hb hby at_42)
      have V168 : Arv Z h168 b165 k165 .double (3 : Int32) [(.double (FP.i2d p4)), (.double (FP.i2d p4)), (.double (FP.i2d p4))] (.double (0 : UInt64)) := Arv.set Ar168 q168 S168 Ng168 Hs168 G168 rfl W168 2 rfl (Nat.le_of_ble_eq_true rfl)
      have N168 := Fr.snoc X168 N167 gx_b165
      have Z168 : n0 ≤ h168.size := Nat.le_trans Z167 (Nat.le_of_eq W168.size.symm)
      refine own_via st168 ?_
      show own_G p e below _ (T168.setTop (mkF m 43 #[.val (.int p1), .val (.int p2), .val (.int p3), .val (.int p4), .val (.int (2 : Int32)), .val (.double (FP.i2d p1)), .second, .val (.double (FP.i2d p2)), .second, .val (.double (FP.i2d p4)), .second, .val (.ref b165), .unset, .unset, .unset, .unset, .unset, .unset] []))
      refine own_via (fun t k => XS.aload X168.here hx rfl (hb hby at_43) rfl rfl k) ?_
      show own_G p e below _ (T168.setTop (mkF m 45 #[.val (.int p1), .val (.int p2), .val (.int p3), .val (.int p4), .val (.int (2 : Int32)), .val (.double (FP.i2d p1)), .second, .val (.double (FP.i2d p2)), .second, .val (.double (FP.i2d p4)), .second, .val (.ref b165), .unset, .unset, .unset, .unset, .unset, .unset] [(.ref b165)]))
      refine own_via (fun t k => XS.iload X168.here hx rfl (hb hby at_45) rfl k) ?_
      show own_G p e below _ (T168.setTop (mkF m 47 #[.val (.int p1), .val (.int p2), .val (.int p3), .val (.int p4), .val (.int (2 : Int32)), .val (.double (FP.i2d p1)), .second, .val (.double (FP.i2d p2)), .second, .val (.double (FP.i2d p4)), .second, .val (.ref b165), .unset, .unset, .unset, .unset, .unset, .unset] [(.int (2 : Int32)), (.ref b165)]))
      refine own_via (fun t k => XS.dload X168.here hx rfl (hb hby at_47) rfl k) ?_
      show own_G p e below _ (T168.setTop (mkF m 49 #[.val (.int p1), .val (.int p2), .val (.int p3), .val (.int p4), .val (.int (2 : Int32)), .val (.double (FP.i2d p1)), .second, .val (.double (FP.i2d p2)), .second, .val (.double (FP.i2d p4)), .second, .val (.ref b165), .unset, .unset, .unset, .unset, .unset, .unset] [(.double (FP.i2d p1)), (.int (2 : Int32)), (.ref b165)]))
      obtain ⟨cl169, Ar169, q169, S169, Ng169, Hs169, G169⟩ := id V168
      have hin169 : ¬ ((2 : Int32) < 0 ∨ cl169.slots.size ≤ ((2 : Int32)).toNatClampNeg) := inb_of S169 ⟨by decide, by decide⟩
      obtain ⟨T169, h169, X169, e169, W169, st169⟩ := stD X168 hx hZ e168 Ar169 (j := (2 : Int32)) hin169 (g := (mkF m 49 #[.val (.int p1), .val (.int p2), .val (.int p3), .val (.int p4), .val (.int (2 : Int32)), .val (.double (FP.i2d p1)), .second, .val (.double (FP.i2d p2)), .second, .val (.double (FP.i2d p4)), .second, .val (.ref b165), .unset, .unset, .unset, .unset, .unset, .unset] [(.double (FP.i2d p1)), (.int (2 : Int32)), (.ref b165)])) rfl rfl (hb hby at_49)
      have V169 : Arv Z h169 b165 k165 .double (3 : Int32) [(.double (FP.i2d p4)), (.double (FP.i2d p4)), (.double (FP.i2d p1))] (.double (0 : UInt64)) := Arv.set Ar169 q169 S169 Ng169 Hs169 G169 rfl W169 2 rfl (Nat.le_of_ble_eq_true rfl)
      have N169 := Fr.snoc X169 N168 gx_b165
      have Z169 : n0 ≤ h169.size := Nat.le_trans Z168 (Nat.le_of_eq W169.size.symm)
      refine own_via st169 ?_
      show own_G p e below _ (T169.setTop (mkF m 50 #[.val (.int p1), .val (.int p2), .val (.int p3), .val (.int p4), .val (.int (2 : Int32)), .val (.double (FP.i2d p1)), .second, .val (.double (FP.i2d p2)), .second, .val (.double (FP.i2d p4)), .second, .val (.ref b165), .unset, .unset, .unset, .unset, .unset, .unset] []))
      refine own_via (fun t k => XS.aload X169.here hx rfl (hb hby at_50) rfl rfl k) ?_
      show own_G p e below _ (T169.setTop (mkF m 52 #[.val (.int p1), .val (.int p2), .val (.int p3), .val (.int p4), .val (.int (2 : Int32)), .val (.double (FP.i2d p1)), .second, .val (.double (FP.i2d p2)), .second, .val (.double (FP.i2d p4)), .second, .val (.ref b165), .unset, .unset, .unset, .unset, .unset, .unset] [(.ref b165)]))
      refine own_via (fun t k => XS.iload X169.here hx rfl (hb hby at_52) rfl k) ?_
      show own_G p e below _ (T169.setTop (mkF m 54 #[.val (.int p1), .val (.int p2), .val (.int p3), .val (.int p4), .val (.int (2 : Int32)), .val (.double (FP.i2d p1)), .second, .val (.double (FP.i2d p2)), .second, .val (.double (FP.i2d p4)), .second, .val (.ref b165), .unset, .unset, .unset, .unset, .unset, .unset] [(.int (2 : Int32)), (.ref b165)]))
      refine own_via (fun t k => XS.dload X169.here hx rfl (hb hby at_54) rfl k) ?_
      show own_G p e below _ (T169.setTop (mkF m 56 #[.val (.int p1), .val (.int p2), .val (.int p3), .val (.int p4), .val (.int (2 : Int32)), .val (.double (FP.i2d p1)), .second, .val (.double (FP.i2d p2)), .second, .val (.double (FP.i2d p4)), .second, .val (.ref b165), .unset, .unset, .unset, .unset, .unset, .unset] [(.double (FP.i2d p2)), (.int (2 : Int32)), (.ref b165)]))
      obtain ⟨_, _, ⟨T170, L170, k170, n170⟩, -, X170, ⟨Lc170, hQ170, l170, y170, z170⟩, st170⟩ := Jvm.LawKit.callS X169 hx (y := (⟨"com/example/odds2/odds2/engine/Bounds", "tightenUpper", "([DID)Z"⟩ : MethodName)) hown (mvT hZ (hw _ (List.mem_of_getElem? (i := 2) rfl))) (mvT hZ (hw _ (List.mem_of_getElem? (i := 3) rfl))) (mvT hZ (hw _ (List.mem_of_getElem? (i := 4) rfl))) (mvT hZ (hw _ (List.mem_of_getElem? (i := 5) rfl))) (by decide) (backOf (W := 0) (rm1_2eq l Z a0 hw [] b165 p4 p4 p1 p2 k165 h169 n0 Z169 V169 gx_b165 hob) hZ (hw _ (List.mem_of_getElem? (i := 5) rfl)) (hw _ (List.mem_of_getElem? (i := 4) rfl)) (by decide) (by decide)) (g := (mkF m 56 #[.val (.int p1), .val (.int p2), .val (.int p3), .val (.int p4), .val (.int (2 : Int32)), .val (.double (FP.i2d p1)), .second, .val (.double (FP.i2d p2)), .second, .val (.double (FP.i2d p4)), .second, .val (.ref b165), .unset, .unset, .unset, .unset, .unset, .unset] [(.double (FP.i2d p2)), (.int (2 : Int32)), (.ref b165)])) rfl (by rw [hml]; rfl) (argsL := [(.ref b165), (.int (2 : Int32)), (.double (FP.i2d p2))]) (rest := []) (lenOf pd_rm0_0 rfl) rfl (by show 2 * 0 + _ ≤ _; exact Nat.le_of_eq rfl) (hb hby at_56) (fun _ _ => ⟨rfl, e169, (by decide : 1 + 0 ≤ _), (by decide : 3 + 0 ≤ _)⟩)
      dsimp only [Pt.U, Pt.locs, Pt.cells, Pt.slots] at X170 l170 y170 z170 st170 hQ170
      subst l170 y170 z170
      obtain ⟨rfl, N170q, K170, V170⟩ := hQ170
      have N170 := Fr.app N169 N170q
      have Z170 : n0 ≤ T170.heap.size := Nat.le_trans Z169 K170.1
      refine own_via st170 ?_
      show own_G p e below _ (T170.setTop (mkF m 59 #[.val (.int p1), .val (.int p2), .val (.int p3), .val (.int p4), .val (.int (2 : Int32)), .val (.double (FP.i2d p1)), .second, .val (.double (FP.i2d p2)), .second, .val (.double (FP.i2d p4)), .second, .val (.ref b165), .unset, .unset, .unset, .unset, .unset, .unset] [(.int (0 : Int32))]))
      refine own_via (fun t k => XS.istore X170.here hx rfl (hb hby at_59) rfl (l' := #[.val (.int p1), .val (.int p2), .val (.int p3), .val (.int p4), .val (.int (2 : Int32)), .val (.double (FP.i2d p1)), .second, .val (.double (FP.i2d p2)), .second, .val (.double (FP.i2d p4)), .second, .val (.ref b165), .val (.int (0 : Int32)), .unset, .unset, .unset, .unset, .unset]) rfl k) ?_
      show own_G p e below _ (T170.setTop (mkF m 61 #[.val (.int p1), .val (.int p2), .val (.int p3), .val (.int p4), .val (.int (2 : Int32)), .val (.double (FP.i2d p1)), .second, .val (.double (FP.i2d p2)), .second, .val (.double (FP.i2d p4)), .second, .val (.ref b165), .val (.int (0 : Int32)), .unset, .unset, .unset, .unset, .unset] []))
      refine own_via (fun t k => XS.aload X170.here hx rfl (hb hby at_61) rfl rfl k) ?_
      show own_G p e below _ (T170.setTop (mkF m 63 #[.val (.int p1), .val (.int p2), .val (.int p3), .val (.int p4), .val (.int (2 : Int32)), .val (.double (FP.i2d p1)), .second, .val (.double (FP.i2d p2)), .second, .val (.double (FP.i2d p4)), .second, .val (.ref b165), .val (.int (0 : Int32)), .unset, .unset, .unset, .unset, .unset] [(.ref b165)]))
      refine own_via (fun t k => XS.iload X170.here hx rfl (hb hby at_63) rfl k) ?_
      show own_G p e below _ (T170.setTop (mkF m 65 #[.val (.int p1), .val (.int p2), .val (.int p3), .val (.int p4), .val (.int (2 : Int32)), .val (.double (FP.i2d p1)), .second, .val (.double (FP.i2d p2)), .second, .val (.double (FP.i2d p4)), .second, .val (.ref b165), .val (.int (0 : Int32)), .unset, .unset, .unset, .unset, .unset] [(.int (2 : Int32)), (.ref b165)]))
      obtain ⟨cl172, Ar172, q172, S172, Ng172, Hs172, G172⟩ := id V170
      have hin172 : ¬ ((2 : Int32) < 0 ∨ cl172.slots.size ≤ ((2 : Int32)).toNatClampNeg) := inb_of S172 ⟨by decide, by decide⟩
      have hat172 : cl172.slots[((2 : Int32)).toNatClampNeg]? = some (.double (FP.i2d p1)) := Hs172.at hin172 rfl
      refine own_via (fun t k => X170.daload hx (j := (2 : Int32)) (v := (.double (FP.i2d p1))) Ar172.1 (State.isArrayOf_alike hZ.alike Ar172.2.1) Ar172.2.2 hin172 hat172 (g := (mkF m 65 #[.val (.int p1), .val (.int p2), .val (.int p3), .val (.int p4), .val (.int (2 : Int32)), .val (.double (FP.i2d p1)), .second, .val (.double (FP.i2d p2)), .second, .val (.double (FP.i2d p4)), .second, .val (.ref b165), .val (.int (0 : Int32)), .unset, .unset, .unset, .unset, .unset] [(.int (2 : Int32)), (.ref b165)])) rfl rfl (hb hby at_65) _ k) ?_
      show own_G p e below _ (T170.setTop (mkF m 66 #[.val (.int p1), .val (.int p2), .val (.int p3), .val (.int p4), .val (.int (2 : Int32)), .val (.double (FP.i2d p1)), .second, .val (.double (FP.i2d p2)), .second, .val (.double (FP.i2d p4)), .second, .val (.ref b165), .val (.int (0 : Int32)), .unset, .unset, .unset, .unset, .unset] [(.double (FP.i2d p1))]))
      refine own_via (fun t k => XS.dstore X170.here hx rfl (hb hby at_66) rfl (l' := #[.val (.int p1), .val (.int p2), .val (.int p3), .val (.int p4), .val (.int (2 : Int32)), .val (.double (FP.i2d p1)), .second, .val (.double (FP.i2d p2)), .second, .val (.double (FP.i2d p4)), .second, .val (.ref b165), .val (.int (0 : Int32)), .val (.double (FP.i2d p1)), .second, .unset, .unset, .unset]) rfl k) ?_
      show own_G p e below _ (T170.setTop (mkF m 68 #[.val (.int p1), .val (.int p2), .val (.int p3), .val (.int p4), .val (.int (2 : Int32)), .val (.double (FP.i2d p1)), .second, .val (.double (FP.i2d p2)), .second, .val (.double (FP.i2d p4)), .second, .val (.ref b165), .val (.int (0 : Int32)), .val (.double (FP.i2d p1)), .second, .unset, .unset, .unset] []))
      refine own_via (fun t k => XS.dload X170.here hx rfl (hb hby at_68) rfl k) ?_
      show own_G p e below _ (T170.setTop (mkF m 70 #[.val (.int p1), .val (.int p2), .val (.int p3), .val (.int p4), .val (.int (2 : Int32)), .val (.double (FP.i2d p1)), .second, .val (.double (FP.i2d p2)), .second, .val (.double (FP.i2d p4)), .second, .val (.ref b165), .val (.int (0 : Int32)), .val (.double (FP.i2d p1)), .second, .unset, .unset, .unset] [(.double (FP.i2d p1))]))
      refine own_via (fun t k => XS.dload X170.here hx rfl (hb hby at_70) rfl k) ?_
      show own_G p e below _ (T170.setTop (mkF m 72 #[.val (.int p1), .val (.int p2), .val (.int p3), .val (.int p4), .val (.int (2 : Int32)), .val (.double (FP.i2d p1)), .second, .val (.double (FP.i2d p2)), .second, .val (.double (FP.i2d p4)), .second, .val (.ref b165), .val (.int (0 : Int32)), .val (.double (FP.i2d p1)), .second, .unset, .unset, .unset] [(.double (FP.i2d p1)), (.double (FP.i2d p1))]))
      refine own_via (fun t k => XS.dcmpS X170.here hx rfl (hb hby at_72) rfl (own_dc_eq rfl _) k) ?_
      show own_G p e below _ (T170.setTop (mkF m 73 #[.val (.int p1), .val (.int p2), .val (.int p3), .val (.int p4), .val (.int (2 : Int32)), .val (.double (FP.i2d p1)), .second, .val (.double (FP.i2d p2)), .second, .val (.double (FP.i2d p4)), .second, .val (.ref b165), .val (.int (0 : Int32)), .val (.double (FP.i2d p1)), .second, .unset, .unset, .unset] [(.int (0 : Int32))]))
      refine own_via (fun t k => XS.ifNo X170.here hx rfl (hb hby at_73) rfl ((if0 _ _).trans (flt (by decide : ¬ ((0 : Int32) < (0 : Int32)))).1) k) ?_
      show own_G p e below _ (T170.setTop (mkF m 76 #[.val (.int p1), .val (.int p2), .val (.int p3), .val (.int p4), .val (.int (2 : Int32)), .val (.double (FP.i2d p1)), .second, .val (.double (FP.i2d p2)), .second, .val (.double (FP.i2d p4)), .second, .val (.ref b165), .val (.int (0 : Int32)), .val (.double (FP.i2d p1)), .second, .unset, .unset, .unset] []))
      refine own_via (fun t k => XS.dload X170.here hx rfl (hb hby at_76) rfl k) ?_
      show own_G p e below _ (T170.setTop (mkF m 78 #[.val (.int p1), .val (.int p2), .val (.int p3), .val (.int p4), .val (.int (2 : Int32)), .val (.double (FP.i2d p1)), .second, .val (.double (FP.i2d p2)), .second, .val (.double (FP.i2d p4)), .second, .val (.ref b165), .val (.int (0 : Int32)), .val (.double (FP.i2d p1)), .second, .unset, .unset, .unset] [(.double (FP.i2d p2))]))
      refine own_via (fun t k => XS.dload X170.here hx rfl (hb hby at_78) rfl k) ?_
      show own_G p e below _ (T170.setTop (mkF m 80 #[.val (.int p1), .val (.int p2), .val (.int p3), .val (.int p4), .val (.int (2 : Int32)), .val (.double (FP.i2d p1)), .second, .val (.double (FP.i2d p2)), .second, .val (.double (FP.i2d p4)), .second, .val (.ref b165), .val (.int (0 : Int32)), .val (.double (FP.i2d p1)), .second, .unset, .unset, .unset] [(.double (FP.i2d p1)), (.double (FP.i2d p2))]))
      refine own_via (fun t k => XS.dcmpS X170.here hx rfl (hb hby at_80) rfl (own_dc_eq hob _) k) ?_
      show own_G p e below _ (T170.setTop (mkF m 81 #[.val (.int p1), .val (.int p2), .val (.int p3), .val (.int p4), .val (.int (2 : Int32)), .val (.double (FP.i2d p1)), .second, .val (.double (FP.i2d p2)), .second, .val (.double (FP.i2d p4)), .second, .val (.ref b165), .val (.int (0 : Int32)), .val (.double (FP.i2d p1)), .second, .unset, .unset, .unset] [(.int (0 : Int32))]))
      refine own_via (fun t k => XS.ifNo X170.here hx rfl (hb hby at_81) rfl ((if0 _ _).trans (flt (by decide : ¬ ((0 : Int32) < (0 : Int32)))).1) k) ?_
      show own_G p e below _ (T170.setTop (mkF m 84 #[.val (.int p1), .val (.int p2), .val (.int p3), .val (.int p4), .val (.int (2 : Int32)), .val (.double (FP.i2d p1)), .second, .val (.double (FP.i2d p2)), .second, .val (.double (FP.i2d p4)), .second, .val (.ref b165), .val (.int (0 : Int32)), .val (.double (FP.i2d p1)), .second, .unset, .unset, .unset] []))
      refine own_via (fun t k => XS.dload X170.here hx rfl (hb hby at_84) rfl k) ?_
      show own_G p e below _ (T170.setTop (mkF m 86 #[.val (.int p1), .val (.int p2), .val (.int p3), .val (.int p4), .val (.int (2 : Int32)), .val (.double (FP.i2d p1)), .second, .val (.double (FP.i2d p2)), .second, .val (.double (FP.i2d p4)), .second, .val (.ref b165), .val (.int (0 : Int32)), .val (.double (FP.i2d p1)), .second, .unset, .unset, .unset] [(.double (FP.i2d p1))]))
      refine own_via (fun t k => XS.dload X170.here hx rfl (hb hby at_86) rfl k) ?_
      show own_G p e below _ (T170.setTop (mkF m 88 #[.val (.int p1), .val (.int p2), .val (.int p3), .val (.int p4), .val (.int (2 : Int32)), .val (.double (FP.i2d p1)), .second, .val (.double (FP.i2d p2)), .second, .val (.double (FP.i2d p4)), .second, .val (.ref b165), .val (.int (0 : Int32)), .val (.double (FP.i2d p1)), .second, .unset, .unset, .unset] [(.double (FP.i2d p1)), (.double (FP.i2d p1))]))
      refine own_via (fun t k => XS.dcmpS X170.here hx rfl (hb hby at_88) rfl (own_dc_eq rfl _) k) ?_
      show own_G p e below _ (T170.setTop (mkF m 89 #[.val (.int p1), .val (.int p2), .val (.int p3), .val (.int p4), .val (.int (2 : Int32)), .val (.double (FP.i2d p1)), .second, .val (.double (FP.i2d p2)), .second, .val (.double (FP.i2d p4)), .second, .val (.ref b165), .val (.int (0 : Int32)), .val (.double (FP.i2d p1)), .second, .unset, .unset, .unset] [(.int (0 : Int32))]))
      refine own_via (fun t k => XS.ifYes X170.here hx rfl (pc0 := 89) (pc' := 100) rfl (hb hby at_89) rfl ((if0 _ _).trans (teq (by decide : (0 : Int32) = (0 : Int32))).1) (by decide) (by decide) k) ?_
      show own_G p e below _ (T170.setTop (mkF m 100 #[.val (.int p1), .val (.int p2), .val (.int p3), .val (.int p4), .val (.int (2 : Int32)), .val (.double (FP.i2d p1)), .second, .val (.double (FP.i2d p2)), .second, .val (.double (FP.i2d p4)), .second, .val (.ref b165), .val (.int (0 : Int32)), .val (.double (FP.i2d p1)), .second, .unset, .unset, .unset] []))
      refine own_via (fun t k => XS.iconst X170.here hx rfl (hb hby at_100) k) ?_
      show own_G p e below _ (T170.setTop (mkF m 101 #[.val (.int p1), .val (.int p2), .val (.int p3), .val (.int p4), .val (.int (2 : Int32)), .val (.double (FP.i2d p1)), .second, .val (.double (FP.i2d p2)), .second, .val (.double (FP.i2d p4)), .second, .val (.ref b165), .val (.int (0 : Int32)), .val (.double (FP.i2d p1)), .second, .unset, .unset, .unset] [(.int (1 : Int32))]))
      refine own_via (fun t k => XS.goto X170.here hx rfl (pc0 := 101) (pc' := 105) rfl (hb hby at_101) (by decide) (by decide) k) ?_
      show own_G p e below _ (T170.setTop (mkF m 105 #[.val (.int p1), .val (.int p2), .val (.int p3), .val (.int p4), .val (.int (2 : Int32)), .val (.double (FP.i2d p1)), .second, .val (.double (FP.i2d p2)), .second, .val (.double (FP.i2d p4)), .second, .val (.ref b165), .val (.int (0 : Int32)), .val (.double (FP.i2d p1)), .second, .unset, .unset, .unset] [(.int (1 : Int32))]))
      refine own_via (fun t k => XS.istore X170.here hx rfl (hb hby at_105) rfl (l' := #[.val (.int p1), .val (.int p2), .val (.int p3), .val (.int p4), .val (.int (2 : Int32)), .val (.double (FP.i2d p1)), .second, .val (.double (FP.i2d p2)), .second, .val (.double (FP.i2d p4)), .second, .val (.ref b165), .val (.int (0 : Int32)), .val (.double (FP.i2d p1)), .second, .val (.int (1 : Int32)), .unset, .unset]) rfl k) ?_
      show own_G p e below _ (T170.setTop (mkF m 107 #[.val (.int p1), .val (.int p2), .val (.int p3), .val (.int p4), .val (.int (2 : Int32)), .val (.double (FP.i2d p1)), .second, .val (.double (FP.i2d p2)), .second, .val (.double (FP.i2d p4)), .second, .val (.ref b165), .val (.int (0 : Int32)), .val (.double (FP.i2d p1)), .second, .val (.int (1 : Int32)), .unset, .unset] []))
      refine own_via (fun t k => XS.iload X170.here hx rfl (hb hby at_107) rfl k) ?_
      show own_G p e below _ (T170.setTop (mkF m 109 #[.val (.int p1), .val (.int p2), .val (.int p3), .val (.int p4), .val (.int (2 : Int32)), .val (.double (FP.i2d p1)), .second, .val (.double (FP.i2d p2)), .second, .val (.double (FP.i2d p4)), .second, .val (.ref b165), .val (.int (0 : Int32)), .val (.double (FP.i2d p1)), .second, .val (.int (1 : Int32)), .unset, .unset] [(.int (0 : Int32))]))
      refine own_via (fun t k => XS.dload X170.here hx rfl (hb hby at_109) rfl k) ?_
      show own_G p e below _ (T170.setTop (mkF m 111 #[.val (.int p1), .val (.int p2), .val (.int p3), .val (.int p4), .val (.int (2 : Int32)), .val (.double (FP.i2d p1)), .second, .val (.double (FP.i2d p2)), .second, .val (.double (FP.i2d p4)), .second, .val (.ref b165), .val (.int (0 : Int32)), .val (.double (FP.i2d p1)), .second, .val (.int (1 : Int32)), .unset, .unset] [(.double (FP.i2d p2)), (.int (0 : Int32))]))
      refine own_via (fun t k => XS.dload X170.here hx rfl (hb hby at_111) rfl k) ?_
      show own_G p e below _ (T170.setTop (mkF m 113 #[.val (.int p1), .val (.int p2), .val (.int p3), .val (.int p4), .val (.int (2 : Int32)), .val (.double (FP.i2d p1)), .second, .val (.double (FP.i2d p2)), .second, .val (.double (FP.i2d p4)), .second, .val (.ref b165), .val (.int (0 : Int32)), .val (.double (FP.i2d p1)), .second, .val (.int (1 : Int32)), .unset, .unset] [(.double (FP.i2d p1)), (.double (FP.i2d p2)), (.int (0 : Int32))]))
      refine own_via (fun t k => XS.dcmpS X170.here hx rfl (hb hby at_113) rfl (own_dc_eq hob _) k) ?_
      show own_G p e below _ (T170.setTop (mkF m 114 #[.val (.int p1), .val (.int p2), .val (.int p3), .val (.int p4), .val (.int (2 : Int32)), .val (.double (FP.i2d p1)), .second, .val (.double (FP.i2d p2)), .second, .val (.double (FP.i2d p4)), .second, .val (.ref b165), .val (.int (0 : Int32)), .val (.double (FP.i2d p1)), .second, .val (.int (1 : Int32)), .unset, .unset] [(.int (0 : Int32)), (.int (0 : Int32))]))
      refine own_via (fun t k => XS.ifYes X170.here hx rfl (pc0 := 114) (pc' := 121) rfl (hb hby at_114) rfl ((if0 _ _).trans (flt (by decide : ¬ ((0 : Int32) < (0 : Int32)))).2.1) (by decide) (by decide) k) ?_
      show own_G p e below _ (T170.setTop (mkF m 121 #[.val (.int p1), .val (.int p2), .val (.int p3), .val (.int p4), .val (.int (2 : Int32)), .val (.double (FP.i2d p1)), .second, .val (.double (FP.i2d p2)), .second, .val (.double (FP.i2d p4)), .second, .val (.ref b165), .val (.int (0 : Int32)), .val (.double (FP.i2d p1)), .second, .val (.int (1 : Int32)), .unset, .unset] [(.int (0 : Int32))]))
      refine own_via (fun t k => XS.iconst X170.here hx rfl (hb hby at_121) k) ?_
      show own_G p e below _ (T170.setTop (mkF m 122 #[.val (.int p1), .val (.int p2), .val (.int p3), .val (.int p4), .val (.int (2 : Int32)), .val (.double (FP.i2d p1)), .second, .val (.double (FP.i2d p2)), .second, .val (.double (FP.i2d p4)), .second, .val (.ref b165), .val (.int (0 : Int32)), .val (.double (FP.i2d p1)), .second, .val (.int (1 : Int32)), .unset, .unset] [(.int (0 : Int32)), (.int (0 : Int32))]))
      refine own_via (fun t k => XS.icmpNo X170.here hx rfl (hb hby at_122) rfl (teq (by decide : (0 : Int32) = (0 : Int32))).2 k) ?_
      show own_G p e below _ (T170.setTop (mkF m 125 #[.val (.int p1), .val (.int p2), .val (.int p3), .val (.int p4), .val (.int (2 : Int32)), .val (.double (FP.i2d p1)), .second, .val (.double (FP.i2d p2)), .second, .val (.double (FP.i2d p4)), .second, .val (.ref b165), .val (.int (0 : Int32)), .val (.double (FP.i2d p1)), .second, .val (.int (1 : Int32)), .unset, .unset] []))
      refine own_via (fun t k => XS.iconst X170.here hx rfl (hb hby at_125) k) ?_
      show own_G p e below _ (T170.setTop (mkF m 126 #[.val (.int p1), .val (.int p2), .val (.int p3), .val (.int p4), .val (.int (2 : Int32)), .val (.double (FP.i2d p1)), .second, .val (.double (FP.i2d p2)), .second, .val (.double (FP.i2d p4)), .second, .val (.ref b165), .val (.int (0 : Int32)), .val (.double (FP.i2d p1)), .second, .val (.int (1 : Int32)), .unset, .unset] [(.int (1 : Int32))]))
      refine own_via (fun t k => XS.goto X170.here hx rfl (pc0 := 126) (pc' := 130) rfl (hb hby at_126) (by decide) (by decide) k) ?_
      show own_G p e below _ (T170.setTop (mkF m 130 #[.val (.int p1), .val (.int p2), .val (.int p3), .val (.int p4), .val (.int (2 : Int32)), .val (.double (FP.i2d p1)), .second, .val (.double (FP.i2d p2)), .second, .val (.double (FP.i2d p4)), .second, .val (.ref b165), .val (.int (0 : Int32)), .val (.double (FP.i2d p1)), .second, .val (.int (1 : Int32)), .unset, .unset] [(.int (1 : Int32))]))
      refine own_via (fun t k => XS.istore X170.here hx rfl (hb hby at_130) rfl (l' := #[.val (.int p1), .val (.int p2), .val (.int p3), .val (.int p4), .val (.int (2 : Int32)), .val (.double (FP.i2d p1)), .second, .val (.double (FP.i2d p2)), .second, .val (.double (FP.i2d p4)), .second, .val (.ref b165), .val (.int (0 : Int32)), .val (.double (FP.i2d p1)), .second, .val (.int (1 : Int32)), .val (.int (1 : Int32)), .unset]) rfl k) ?_
      show own_G p e below _ (T170.setTop (mkF m 132 #[.val (.int p1), .val (.int p2), .val (.int p3), .val (.int p4), .val (.int (2 : Int32)), .val (.double (FP.i2d p1)), .second, .val (.double (FP.i2d p2)), .second, .val (.double (FP.i2d p4)), .second, .val (.ref b165), .val (.int (0 : Int32)), .val (.double (FP.i2d p1)), .second, .val (.int (1 : Int32)), .val (.int (1 : Int32)), .unset] []))
      refine own_via (fun t k => XS.iload X170.here hx rfl (hb hby at_132) rfl k) ?_
      show own_G p e below _ (T170.setTop (mkF m 134 #[.val (.int p1), .val (.int p2), .val (.int p3), .val (.int p4), .val (.int (2 : Int32)), .val (.double (FP.i2d p1)), .second, .val (.double (FP.i2d p2)), .second, .val (.double (FP.i2d p4)), .second, .val (.ref b165), .val (.int (0 : Int32)), .val (.double (FP.i2d p1)), .second, .val (.int (1 : Int32)), .val (.int (1 : Int32)), .unset] [(.int (2 : Int32))]))
      refine own_via (fun t k => XS.ifNo X170.here hx rfl (hb hby at_134) rfl ((if0 _ _).trans (feq (by decide : ¬ ((2 : Int32) = (0 : Int32)))).1) k) ?_
      show own_G p e below _ (T170.setTop (mkF m 137 #[.val (.int p1), .val (.int p2), .val (.int p3), .val (.int p4), .val (.int (2 : Int32)), .val (.double (FP.i2d p1)), .second, .val (.double (FP.i2d p2)), .second, .val (.double (FP.i2d p4)), .second, .val (.ref b165), .val (.int (0 : Int32)), .val (.double (FP.i2d p1)), .second, .val (.int (1 : Int32)), .val (.int (1 : Int32)), .unset] []))
      refine own_via (fun t k => XS.aload X170.here hx rfl (hb hby at_137) rfl rfl k) ?_
      show own_G p e below _ (T170.setTop (mkF m 139 #[.val (.int p1), .val (.int p2), .val (.int p3), .val (.int p4), .val (.int (2 : Int32)), .val (.double (FP.i2d p1)), .second, .val (.double (FP.i2d p2)), .second, .val (.double (FP.i2d p4)), .second, .val (.ref b165), .val (.int (0 : Int32)), .val (.double (FP.i2d p1)), .second, .val (.int (1 : Int32)), .val (.int (1 : Int32)), .unset] [(.ref b165)]))
      refine own_via (fun t k => XS.iconst X170.here hx rfl (hb hby at_139) k) ?_
      show own_G p e below _ (T170.setTop (mkF m 140 #[.val (.int p1), .val (.int p2), .val (.int p3), .val (.int p4), .val (.int (2 : Int32)), .val (.double (FP.i2d p1)), .second, .val (.double (FP.i2d p2)), .second, .val (.double (FP.i2d p4)), .second, .val (.ref b165), .val (.int (0 : Int32)), .val (.double (FP.i2d p1)), .second, .val (.int (1 : Int32)), .val (.int (1 : Int32)), .unset] [(.int (0 : Int32)), (.ref b165)]))
      obtain ⟨cl179, Ar179, q179, S179, Ng179, Hs179, G179⟩ := id V170
      have hin179 : ¬ ((0 : Int32) < 0 ∨ cl179.slots.size ≤ ((0 : Int32)).toNatClampNeg) := inb_of S179 ⟨by decide, by decide⟩
      have hat179 : cl179.slots[((0 : Int32)).toNatClampNeg]? = some (.double (FP.i2d p4)) := Hs179.at hin179 rfl
      refine own_via (fun t k => X170.daload hx (j := (0 : Int32)) (v := (.double (FP.i2d p4))) Ar179.1 (State.isArrayOf_alike hZ.alike Ar179.2.1) Ar179.2.2 hin179 hat179 (g := (mkF m 140 #[.val (.int p1), .val (.int p2), .val (.int p3), .val (.int p4), .val (.int (2 : Int32)), .val (.double (FP.i2d p1)), .second, .val (.double (FP.i2d p2)), .second, .val (.double (FP.i2d p4)), .second, .val (.ref b165), .val (.int (0 : Int32)), .val (.double (FP.i2d p1)), .second, .val (.int (1 : Int32)), .val (.int (1 : Int32)), .unset] [(.int (0 : Int32)), (.ref b165)])) rfl rfl (hb hby at_140) _ k) ?_
      show own_G p e below _ (T170.setTop (mkF m 141 #[.val (.int p1), .val (.int p2), .val (.int p3), .val (.int p4), .val (.int (2 : Int32)), .val (.double (FP.i2d p1)), .second, .val (.double (FP.i2d p2)), .second, .val (.double (FP.i2d p4)), .second, .val (.ref b165), .val (.int (0 : Int32)), .val (.double (FP.i2d p1)), .second, .val (.int (1 : Int32)), .val (.int (1 : Int32)), .unset] [(.double (FP.i2d p4))]))
      refine own_via (fun t k => XS.dload X170.here hx rfl (hb hby at_141) rfl k) ?_
      show own_G p e below _ (T170.setTop (mkF m 143 #[.val (.int p1), .val (.int p2), .val (.int p3), .val (.int p4), .val (.int (2 : Int32)), .val (.double (FP.i2d p1)), .second, .val (.double (FP.i2d p2)), .second, .val (.double (FP.i2d p4)), .second, .val (.ref b165), .val (.int (0 : Int32)), .val (.double (FP.i2d p1)), .second, .val (.int (1 : Int32)), .val (.int (1 : Int32)), .unset] [(.double (FP.i2d p4)), (.double (FP.i2d p4))]))
      refine own_via (fun t k => XS.dcmpS X170.here hx rfl (hb hby at_143) rfl (own_dc_eq rfl _) k) ?_
      show own_G p e below _ (T170.setTop (mkF m 144 #[.val (.int p1), .val (.int p2), .val (.int p3), .val (.int p4), .val (.int (2 : Int32)), .val (.double (FP.i2d p1)), .second, .val (.double (FP.i2d p2)), .second, .val (.double (FP.i2d p4)), .second, .val (.ref b165), .val (.int (0 : Int32)), .val (.double (FP.i2d p1)), .second, .val (.int (1 : Int32)), .val (.int (1 : Int32)), .unset] [(.int (0 : Int32))]))
      refine own_via (fun t k => XS.ifNo X170.here hx rfl (hb hby at_144) rfl ((if0 _ _).trans (teq (by decide : (0 : Int32) = (0 : Int32))).2) k) ?_
      show own_G p e below _ (T170.setTop (mkF m 147 #[.val (.int p1), .val (.int p2), .val (.int p3), .val (.int p4), .val (.int (2 : Int32)), .val (.double (FP.i2d p1)), .second, .val (.double (FP.i2d p2)), .second, .val (.double (FP.i2d p4)), .second, .val (.ref b165), .val (.int (0 : Int32)), .val (.double (FP.i2d p1)), .second, .val (.int (1 : Int32)), .val (.int (1 : Int32)), .unset] []))
      refine own_via (fun t k => XS.iload X170.here hx rfl (hb hby at_147) rfl k) ?_
      show own_G p e below _ (T170.setTop (mkF m 149 #[.val (.int p1), .val (.int p2), .val (.int p3), .val (.int p4), .val (.int (2 : Int32)), .val (.double (FP.i2d p1)), .second, .val (.double (FP.i2d p2)), .second, .val (.double (FP.i2d p4)), .second, .val (.ref b165), .val (.int (0 : Int32)), .val (.double (FP.i2d p1)), .second, .val (.int (1 : Int32)), .val (.int (1 : Int32)), .unset] [(.int (2 : Int32))]))
      refine own_via (fun t k => XS.iconst X170.here hx rfl (hb hby at_149) k) ?_
      show own_G p e below _ (T170.setTop (mkF m 150 #[.val (.int p1), .val (.int p2), .val (.int p3), .val (.int p4), .val (.int (2 : Int32)), .val (.double (FP.i2d p1)), .second, .val (.double (FP.i2d p2)), .second, .val (.double (FP.i2d p4)), .second, .val (.ref b165), .val (.int (0 : Int32)), .val (.double (FP.i2d p1)), .second, .val (.int (1 : Int32)), .val (.int (1 : Int32)), .unset] [(.int (1 : Int32)), (.int (2 : Int32))]))
      refine own_via (fun t k => XS.icmpNo X170.here hx rfl (hb hby at_150) rfl (feq (by decide : ¬ ((2 : Int32) = (1 : Int32)))).1 k) ?_
      show own_G p e below _ (T170.setTop (mkF m 153 #[.val (.int p1), .val (.int p2), .val (.int p3), .val (.int p4), .val (.int (2 : Int32)), .val (.double (FP.i2d p1)), .second, .val (.double (FP.i2d p2)), .second, .val (.double (FP.i2d p4)), .second, .val (.ref b165), .val (.int (0 : Int32)), .val (.double (FP.i2d p1)), .second, .val (.int (1 : Int32)), .val (.int (1 : Int32)), .unset] []))
      refine own_via (fun t k => XS.aload X170.here hx rfl (hb hby at_153) rfl rfl k) ?_
      show own_G p e below _ (T170.setTop (mkF m 155 #[.val (.int p1), .val (.int p2), .val (.int p3), .val (.int p4), .val (.int (2 : Int32)), .val (.double (FP.i2d p1)), .second, .val (.double (FP.i2d p2)), .second, .val (.double (FP.i2d p4)), .second, .val (.ref b165), .val (.int (0 : Int32)), .val (.double (FP.i2d p1)), .second, .val (.int (1 : Int32)), .val (.int (1 : Int32)), .unset] [(.ref b165)]))
      refine own_via (fun t k => XS.iconst X170.here hx rfl (hb hby at_155) k) ?_
      show own_G p e below _ (T170.setTop (mkF m 156 #[.val (.int p1), .val (.int p2), .val (.int p3), .val (.int p4), .val (.int (2 : Int32)), .val (.double (FP.i2d p1)), .second, .val (.double (FP.i2d p2)), .second, .val (.double (FP.i2d p4)), .second, .val (.ref b165), .val (.int (0 : Int32)), .val (.double (FP.i2d p1)), .second, .val (.int (1 : Int32)), .val (.int (1 : Int32)), .unset] [(.int (1 : Int32)), (.ref b165)]))
      obtain ⟨cl182, Ar182, q182, S182, Ng182, Hs182, G182⟩ := id V170
      have hin182 : ¬ ((1 : Int32) < 0 ∨ cl182.slots.size ≤ ((1 : Int32)).toNatClampNeg) := inb_of S182 ⟨by decide, by decide⟩
      have hat182 : cl182.slots[((1 : Int32)).toNatClampNeg]? = some (.double (FP.i2d p4)) := Hs182.at hin182 rfl
      refine own_via (fun t k => X170.daload hx (j := (1 : Int32)) (v := (.double (FP.i2d p4))) Ar182.1 (State.isArrayOf_alike hZ.alike Ar182.2.1) Ar182.2.2 hin182 hat182 (g := (mkF m 156 #[.val (.int p1), .val (.int p2), .val (.int p3), .val (.int p4), .val (.int (2 : Int32)), .val (.double (FP.i2d p1)), .second, .val (.double (FP.i2d p2)), .second, .val (.double (FP.i2d p4)), .second, .val (.ref b165), .val (.int (0 : Int32)), .val (.double (FP.i2d p1)), .second, .val (.int (1 : Int32)), .val (.int (1 : Int32)), .unset] [(.int (1 : Int32)), (.ref b165)])) rfl rfl (hb hby at_156) _ k) ?_
      show own_G p e below _ (T170.setTop (mkF m 157 #[.val (.int p1), .val (.int p2), .val (.int p3), .val (.int p4), .val (.int (2 : Int32)), .val (.double (FP.i2d p1)), .second, .val (.double (FP.i2d p2)), .second, .val (.double (FP.i2d p4)), .second, .val (.ref b165), .val (.int (0 : Int32)), .val (.double (FP.i2d p1)), .second, .val (.int (1 : Int32)), .val (.int (1 : Int32)), .unset] [(.double (FP.i2d p4))]))
      refine own_via (fun t k => XS.dload X170.here hx rfl (hb hby at_157) rfl k) ?_
      show own_G p e below _ (T170.setTop (mkF m 159 #[.val (.int p1), .val (.int p2), .val (.int p3), .val (.int p4), .val (.int (2 : Int32)), .val (.double (FP.i2d p1)), .second, .val (.double (FP.i2d p2)), .second, .val (.double (FP.i2d p4)), .second, .val (.ref b165), .val (.int (0 : Int32)), .val (.double (FP.i2d p1)), .second, .val (.int (1 : Int32)), .val (.int (1 : Int32)), .unset] [(.double (FP.i2d p4)), (.double (FP.i2d p4))]))
      refine own_via (fun t k => XS.dcmpS X170.here hx rfl (hb hby at_159) rfl (own_dc_eq rfl _) k) ?_
      show own_G p e below _ (T170.setTop (mkF m 160 #[.val (.int p1), .val (.int p2), .val (.int p3), .val (.int p4), .val (.int (2 : Int32)), .val (.double (FP.i2d p1)), .second, .val (.double (FP.i2d p2)), .second, .val (.double (FP.i2d p4)), .second, .val (.ref b165), .val (.int (0 : Int32)), .val (.double (FP.i2d p1)), .second, .val (.int (1 : Int32)), .val (.int (1 : Int32)), .unset] [(.int (0 : Int32))]))
      refine own_via (fun t k => XS.ifNo X170.here hx rfl (hb hby at_160) rfl ((if0 _ _).trans (teq (by decide : (0 : Int32) = (0 : Int32))).2) k) ?_
      show own_G p e below _ (T170.setTop (mkF m 163 #[.val (.int p1), .val (.int p2), .val (.int p3), .val (.int p4), .val (.int (2 : Int32)), .val (.double (FP.i2d p1)), .second, .val (.double (FP.i2d p2)), .second, .val (.double (FP.i2d p4)), .second, .val (.ref b165), .val (.int (0 : Int32)), .val (.double (FP.i2d p1)), .second, .val (.int (1 : Int32)), .val (.int (1 : Int32)), .unset] []))
      refine own_via (fun t k => XS.iload X170.here hx rfl (hb hby at_163) rfl k) ?_
      show own_G p e below _ (T170.setTop (mkF m 165 #[.val (.int p1), .val (.int p2), .val (.int p3), .val (.int p4), .val (.int (2 : Int32)), .val (.double (FP.i2d p1)), .second, .val (.double (FP.i2d p2)), .second, .val (.double (FP.i2d p4)), .second, .val (.ref b165), .val (.int (0 : Int32)), .val (.double (FP.i2d p1)), .second, .val (.int (1 : Int32)), .val (.int (1 : Int32)), .unset] [(.int (2 : Int32))]))
      refine own_via (fun t k => XS.iconst X170.here hx rfl (hb hby at_165) k) ?_
      show own_G p e below _ (T170.setTop (mkF m 166 #[.val (.int p1), .val (.int p2), .val (.int p3), .val (.int p4), .val (.int (2 : Int32)), .val (.double (FP.i2d p1)), .second, .val (.double (FP.i2d p2)), .second, .val (.double (FP.i2d p4)), .second, .val (.ref b165), .val (.int (0 : Int32)), .val (.double (FP.i2d p1)), .second, .val (.int (1 : Int32)), .val (.int (1 : Int32)), .unset] [(.int (2 : Int32)), (.int (2 : Int32))]))
      refine own_via (fun t k => XS.icmpYes X170.here hx rfl (pc0 := 166) (pc' := 179) rfl (hb hby at_166) rfl (teq (by decide : (2 : Int32) = (2 : Int32))).1 (by decide) (by decide) k) ?_
      show own_G p e below _ (T170.setTop (mkF m 179 #[.val (.int p1), .val (.int p2), .val (.int p3), .val (.int p4), .val (.int (2 : Int32)), .val (.double (FP.i2d p1)), .second, .val (.double (FP.i2d p2)), .second, .val (.double (FP.i2d p4)), .second, .val (.ref b165), .val (.int (0 : Int32)), .val (.double (FP.i2d p1)), .second, .val (.int (1 : Int32)), .val (.int (1 : Int32)), .unset] []))
      refine own_via (fun t k => XS.iconst X170.here hx rfl (hb hby at_179) k) ?_
      show own_G p e below _ (T170.setTop (mkF m 180 #[.val (.int p1), .val (.int p2), .val (.int p3), .val (.int p4), .val (.int (2 : Int32)), .val (.double (FP.i2d p1)), .second, .val (.double (FP.i2d p2)), .second, .val (.double (FP.i2d p4)), .second, .val (.ref b165), .val (.int (0 : Int32)), .val (.double (FP.i2d p1)), .second, .val (.int (1 : Int32)), .val (.int (1 : Int32)), .unset] [(.int (1 : Int32))]))
      refine own_via (fun t k => XS.goto X170.here hx rfl (pc0 := 180) (pc' := 184) rfl (hb hby at_180) (by decide) (by decide) k) ?_
      show own_G p e below _ (T170.setTop (mkF m 184 #[.val (.int p1), .val (.int p2), .val (.int p3), .val (.int p4), .val (.int (2 : Int32)), .val (.double (FP.i2d p1)), .second, .val (.double (FP.i2d p2)), .second, .val (.double (FP.i2d p4)), .second, .val (.ref b165), .val (.int (0 : Int32)), .val (.double (FP.i2d p1)), .second, .val (.int (1 : Int32)), .val (.int (1 : Int32)), .unset] [(.int (1 : Int32))]))
      refine own_via (fun t k => XS.istore X170.here hx rfl (hb hby at_184) rfl (l' := #[.val (.int p1), .val (.int p2), .val (.int p3), .val (.int p4), .val (.int (2 : Int32)), .val (.double (FP.i2d p1)), .second, .val (.double (FP.i2d p2)), .second, .val (.double (FP.i2d p4)), .second, .val (.ref b165), .val (.int (0 : Int32)), .val (.double (FP.i2d p1)), .second, .val (.int (1 : Int32)), .val (.int (1 : Int32)), .val (.int (1 : Int32))]) rfl k) ?_
      show own_G p e below _ (T170.setTop (mkF m 186 #[.val (.int p1), .val (.int p2), .val (.int p3), .val (.int p4), .val (.int (2 : Int32)), .val (.double (FP.i2d p1)), .second, .val (.double (FP.i2d p2)), .second, .val (.double (FP.i2d p4)), .second, .val (.ref b165), .val (.int (0 : Int32)), .val (.double (FP.i2d p1)), .second, .val (.int (1 : Int32)), .val (.int (1 : Int32)), .val (.int (1 : Int32))] []))
      refine own_via (fun t k => XS.iload X170.here hx rfl (hb hby at_186) rfl k) ?_
      show own_G p e below _ (T170.setTop (mkF m 188 #[.val (.int p1), .val (.int p2), .val (.int p3), .val (.int p4), .val (.int (2 : Int32)), .val (.double (FP.i2d p1)), .second, .val (.double (FP.i2d p2)), .second, .val (.double (FP.i2d p4)), .second, .val (.ref b165), .val (.int (0 : Int32)), .val (.double (FP.i2d p1)), .second, .val (.int (1 : Int32)), .val (.int (1 : Int32)), .val (.int (1 : Int32))] [(.int (1 : Int32))]))
      refine own_via (fun t k => XS.ifNo X170.here hx rfl (hb hby at_188) rfl ((if0 _ _).trans (feq (by decide : ¬ ((1 : Int32) = (0 : Int32)))).1) k) ?_
      show own_G p e below _ (T170.setTop (mkF m 191 #[.val (.int p1), .val (.int p2), .val (.int p3), .val (.int p4), .val (.int (2 : Int32)), .val (.double (FP.i2d p1)), .second, .val (.double (FP.i2d p2)), .second, .val (.double (FP.i2d p4)), .second, .val (.ref b165), .val (.int (0 : Int32)), .val (.double (FP.i2d p1)), .second, .val (.int (1 : Int32)), .val (.int (1 : Int32)), .val (.int (1 : Int32))] []))
      refine own_via (fun t k => XS.iload X170.here hx rfl (hb hby at_191) rfl k) ?_
      show own_G p e below _ (T170.setTop (mkF m 193 #[.val (.int p1), .val (.int p2), .val (.int p3), .val (.int p4), .val (.int (2 : Int32)), .val (.double (FP.i2d p1)), .second, .val (.double (FP.i2d p2)), .second, .val (.double (FP.i2d p4)), .second, .val (.ref b165), .val (.int (0 : Int32)), .val (.double (FP.i2d p1)), .second, .val (.int (1 : Int32)), .val (.int (1 : Int32)), .val (.int (1 : Int32))] [(.int (1 : Int32))]))
      refine own_via (fun t k => XS.ifNo X170.here hx rfl (hb hby at_193) rfl ((if0 _ _).trans (feq (by decide : ¬ ((1 : Int32) = (0 : Int32)))).1) k) ?_
      show own_G p e below _ (T170.setTop (mkF m 196 #[.val (.int p1), .val (.int p2), .val (.int p3), .val (.int p4), .val (.int (2 : Int32)), .val (.double (FP.i2d p1)), .second, .val (.double (FP.i2d p2)), .second, .val (.double (FP.i2d p4)), .second, .val (.ref b165), .val (.int (0 : Int32)), .val (.double (FP.i2d p1)), .second, .val (.int (1 : Int32)), .val (.int (1 : Int32)), .val (.int (1 : Int32))] []))
      refine own_via (fun t k => XS.iload X170.here hx rfl (hb hby at_196) rfl k) ?_
      show own_G p e below _ (T170.setTop (mkF m 198 #[.val (.int p1), .val (.int p2), .val (.int p3), .val (.int p4), .val (.int (2 : Int32)), .val (.double (FP.i2d p1)), .second, .val (.double (FP.i2d p2)), .second, .val (.double (FP.i2d p4)), .second, .val (.ref b165), .val (.int (0 : Int32)), .val (.double (FP.i2d p1)), .second, .val (.int (1 : Int32)), .val (.int (1 : Int32)), .val (.int (1 : Int32))] [(.int (1 : Int32))]))
      refine own_via (fun t k => XS.ifNo X170.here hx rfl (hb hby at_198) rfl ((if0 _ _).trans (feq (by decide : ¬ ((1 : Int32) = (0 : Int32)))).1) k) ?_
      show own_G p e below _ (T170.setTop (mkF m 201 #[.val (.int p1), .val (.int p2), .val (.int p3), .val (.int p4), .val (.int (2 : Int32)), .val (.double (FP.i2d p1)), .second, .val (.double (FP.i2d p2)), .second, .val (.double (FP.i2d p4)), .second, .val (.ref b165), .val (.int (0 : Int32)), .val (.double (FP.i2d p1)), .second, .val (.int (1 : Int32)), .val (.int (1 : Int32)), .val (.int (1 : Int32))] []))
      refine own_via (fun t k => XS.iconst X170.here hx rfl (hb hby at_201) k) ?_
      show own_G p e below _ (T170.setTop (mkF m 202 #[.val (.int p1), .val (.int p2), .val (.int p3), .val (.int p4), .val (.int (2 : Int32)), .val (.double (FP.i2d p1)), .second, .val (.double (FP.i2d p2)), .second, .val (.double (FP.i2d p4)), .second, .val (.ref b165), .val (.int (0 : Int32)), .val (.double (FP.i2d p1)), .second, .val (.int (1 : Int32)), .val (.int (1 : Int32)), .val (.int (1 : Int32))] [(.int (1 : Int32))]))
      refine own_via (fun t k => XS.goto X170.here hx rfl (pc0 := 202) (pc' := 206) rfl (hb hby at_202) (by decide) (by decide) k) ?_
      show own_G p e below _ (T170.setTop (mkF m 206 #[.val (.int p1), .val (.int p2), .val (.int p3), .val (.int p4), .val (.int (2 : Int32)), .val (.double (FP.i2d p1)), .second, .val (.double (FP.i2d p2)), .second, .val (.double (FP.i2d p4)), .second, .val (.ref b165), .val (.int (0 : Int32)), .val (.double (FP.i2d p1)), .second, .val (.int (1 : Int32)), .val (.int (1 : Int32)), .val (.int (1 : Int32))] [(.int (1 : Int32))]))
      obtain ⟨fs, hr, hrun, hended, hW, hsame⟩ := X170.leave (v := some (.int (1 : Int32))) (fun h => by rw [Bd.returns] at h; cases h)
      refine ⟨_, _, retN X170 hx (t := .boolean) Bd.returns (by simp) (hb hby at_206) hr, hrun, hended, _, _, rfl, ?_, ⟨_, rfl⟩, hW, hsame.mono (by decide) (by decide)⟩
      show rm0_Q Z p1 p2 p3 p4 h0 n0 _ T170.heap _
      exact ⟨rfl, N170⟩
    · rw [hk]
      show own_G p e below _ (s₁.setTop (mkF m 6 #[.val (.int p1), .val (.int p2), .val (.int p3), .val (.int p4), .unset, .unset, .unset, .unset, .unset, .unset, .unset, .unset, .unset, .unset, .unset, .unset, .unset, .unset] [(.int (2 : Int32))]))
      refine own_via (fun t k => XS.istore X0.here hx rfl (hb hby at_6) rfl (l' := #[.val (.int p1), .val (.int p2), .val (.int p3), .val (.int p4), .val (.int (2 : Int32)), .unset, .unset, .unset, .unset, .unset, .unset, .unset, .unset, .unset, .unset, .unset, .unset, .unset]) rfl k) ?_
      show own_G p e below _ (s₁.setTop (mkF m 8 #[.val (.int p1), .val (.int p2), .val (.int p3), .val (.int p4), .val (.int (2 : Int32)), .unset, .unset, .unset, .unset, .unset, .unset, .unset, .unset, .unset, .unset, .unset, .unset, .unset] []))
      refine own_via (fun t k => XS.iloadN X0.here hx rfl (hb hby at_8) rfl k) ?_
      show own_G p e below _ (s₁.setTop (mkF m 9 #[.val (.int p1), .val (.int p2), .val (.int p3), .val (.int p4), .val (.int (2 : Int32)), .unset, .unset, .unset, .unset, .unset, .unset, .unset, .unset, .unset, .unset, .unset, .unset, .unset] [(.int p1)]))
      refine own_via (fun t k => XS.i2dS X0.here hx rfl (hb hby at_9) rfl rfl k) ?_
      show own_G p e below _ (s₁.setTop (mkF m 10 #[.val (.int p1), .val (.int p2), .val (.int p3), .val (.int p4), .val (.int (2 : Int32)), .unset, .unset, .unset, .unset, .unset, .unset, .unset, .unset, .unset, .unset, .unset, .unset, .unset] [(.double (FP.i2d p1))]))
      refine own_via (fun t k => XS.dstore X0.here hx rfl (hb hby at_10) rfl (l' := #[.val (.int p1), .val (.int p2), .val (.int p3), .val (.int p4), .val (.int (2 : Int32)), .val (.double (FP.i2d p1)), .second, .unset, .unset, .unset, .unset, .unset, .unset, .unset, .unset, .unset, .unset, .unset]) rfl k) ?_
      show own_G p e below _ (s₁.setTop (mkF m 12 #[.val (.int p1), .val (.int p2), .val (.int p3), .val (.int p4), .val (.int (2 : Int32)), .val (.double (FP.i2d p1)), .second, .unset, .unset, .unset, .unset, .unset, .unset, .unset, .unset, .unset, .unset, .unset] []))
      refine own_via (fun t k => XS.iloadN X0.here hx rfl (hb hby at_12) rfl k) ?_
      show own_G p e below _ (s₁.setTop (mkF m 13 #[.val (.int p1), .val (.int p2), .val (.int p3), .val (.int p4), .val (.int (2 : Int32)), .val (.double (FP.i2d p1)), .second, .unset, .unset, .unset, .unset, .unset, .unset, .unset, .unset, .unset, .unset, .unset] [(.int p2)]))
      refine own_via (fun t k => XS.i2dS X0.here hx rfl (hb hby at_13) rfl rfl k) ?_
      show own_G p e below _ (s₁.setTop (mkF m 14 #[.val (.int p1), .val (.int p2), .val (.int p3), .val (.int p4), .val (.int (2 : Int32)), .val (.double (FP.i2d p1)), .second, .unset, .unset, .unset, .unset, .unset, .unset, .unset, .unset, .unset, .unset, .unset] [(.double (FP.i2d p2))]))
      refine own_via (fun t k => XS.dstore X0.here hx rfl (hb hby at_14) rfl (l' := #[.val (.int p1), .val (.int p2), .val (.int p3), .val (.int p4), .val (.int (2 : Int32)), .val (.double (FP.i2d p1)), .second, .val (.double (FP.i2d p2)), .second, .unset, .unset, .unset, .unset, .unset, .unset, .unset, .unset, .unset]) rfl k) ?_
      show own_G p e below _ (s₁.setTop (mkF m 16 #[.val (.int p1), .val (.int p2), .val (.int p3), .val (.int p4), .val (.int (2 : Int32)), .val (.double (FP.i2d p1)), .second, .val (.double (FP.i2d p2)), .second, .unset, .unset, .unset, .unset, .unset, .unset, .unset, .unset, .unset] []))
      refine own_via (fun t k => XS.iloadN X0.here hx rfl (hb hby at_16) rfl k) ?_
      show own_G p e below _ (s₁.setTop (mkF m 17 #[.val (.int p1), .val (.int p2), .val (.int p3), .val (.int p4), .val (.int (2 : Int32)), .val (.double (FP.i2d p1)), .second, .val (.double (FP.i2d p2)), .second, .unset, .unset, .unset, .unset, .unset, .unset, .unset, .unset, .unset] [(.int p4)]))
      refine own_via (fun t k => XS.i2dS X0.here hx rfl (hb hby at_17) rfl rfl k) ?_
      show own_G p e below _ (s₁.setTop (mkF m 18 #[.val (.int p1), .val (.int p2), .val (.int p3), .val (.int p4), .val (.int (2 : Int32)), .val (.double (FP.i2d p1)), .second, .val (.double (FP.i2d p2)), .second, .unset, .unset, .unset, .unset, .unset, .unset, .unset, .unset, .unset] [(.double (FP.i2d p4))]))
      refine own_via (fun t k => XS.dstore X0.here hx rfl (hb hby at_18) rfl (l' := #[.val (.int p1), .val (.int p2), .val (.int p3), .val (.int p4), .val (.int (2 : Int32)), .val (.double (FP.i2d p1)), .second, .val (.double (FP.i2d p2)), .second, .val (.double (FP.i2d p4)), .second, .unset, .unset, .unset, .unset, .unset, .unset, .unset]) rfl k) ?_
      show own_G p e below _ (s₁.setTop (mkF m 20 #[.val (.int p1), .val (.int p2), .val (.int p3), .val (.int p4), .val (.int (2 : Int32)), .val (.double (FP.i2d p1)), .second, .val (.double (FP.i2d p2)), .second, .val (.double (FP.i2d p4)), .second, .unset, .unset, .unset, .unset, .unset, .unset, .unset] []))
      refine own_via (fun t k => XS.iconst X0.here hx rfl (hb hby at_20) k) ?_
      show own_G p e below _ (s₁.setTop (mkF m 21 #[.val (.int p1), .val (.int p2), .val (.int p3), .val (.int p4), .val (.int (2 : Int32)), .val (.double (FP.i2d p1)), .second, .val (.double (FP.i2d p2)), .second, .val (.double (FP.i2d p4)), .second, .unset, .unset, .unset, .unset, .unset, .unset, .unset] [(.int (3 : Int32))]))
      obtain ⟨T188, h188, k188, X188, e188, E188, A188, st188⟩ := newP X0 hx hZ (hw _ (List.mem_of_getElem? (i := 1) rfl)) e0 (g := (mkF m 21 #[.val (.int p1), .val (.int p2), .val (.int p3), .val (.int p4), .val (.int (2 : Int32)), .val (.double (FP.i2d p1)), .second, .val (.double (FP.i2d p2)), .second, .val (.double (FP.i2d p4)), .second, .unset, .unset, .unset, .unset, .unset, .unset, .unset] [(.int (3 : Int32))])) rfl (hb hby at_21) rfl (by decide) (cap := 3) (by decide) (by decide) (by decide) (by decide)
      obtain ⟨b188, g188⟩ : ∃ z, z = h0.size := ⟨_, rfl⟩
      rw [← g188] at A188 st188
      have gx_b188 : n0 ≤ b188 := Nat.le_trans Z0 (Nat.le_of_eq g188.symm)
      have Z188 : n0 ≤ h188.size := Nat.le_trans Z0 E188.1
      have V188 : Arv Z h188 b188 k188 .double (3 : Int32) [(.double (0 : UInt64)), (.double (0 : UInt64)), (.double (0 : UInt64))] (.double (0 : UInt64)) := (Arv.new A188 (by decide)).pad (pad_rep [] (.double (0 : UInt64)) 3)
      refine own_via st188 ?_
      show own_G p e below _ (T188.setTop (mkF m 23 #[.val (.int p1), .val (.int p2), .val (.int p3), .val (.int p4), .val (.int (2 : Int32)), .val (.double (FP.i2d p1)), .second, .val (.double (FP.i2d p2)), .second, .val (.double (FP.i2d p4)), .second, .unset, .unset, .unset, .unset, .unset, .unset, .unset] [(.ref b188)]))
      refine own_via (fun t k => XS.astore X188.here hx rfl (hb hby at_23) rfl rfl (l' := #[.val (.int p1), .val (.int p2), .val (.int p3), .val (.int p4), .val (.int (2 : Int32)), .val (.double (FP.i2d p1)), .second, .val (.double (FP.i2d p2)), .second, .val (.double (FP.i2d p4)), .second, .val (.ref b188), .unset, .unset, .unset, .unset, .unset, .unset]) rfl k) ?_
      show own_G p e below _ (T188.setTop (mkF m 25 #[.val (.int p1), .val (.int p2), .val (.int p3), .val (.int p4), .val (.int (2 : Int32)), .val (.double (FP.i2d p1)), .second, .val (.double (FP.i2d p2)), .second, .val (.double (FP.i2d p4)), .second, .val (.ref b188), .unset, .unset, .unset, .unset, .unset, .unset] []))
      refine own_via (fun t k => XS.aload X188.here hx rfl (hb hby at_25) rfl rfl k) ?_
      show own_G p e below _ (T188.setTop (mkF m 27 #[.val (.int p1), .val (.int p2), .val (.int p3), .val (.int p4), .val (.int (2 : Int32)), .val (.double (FP.i2d p1)), .second, .val (.double (FP.i2d p2)), .second, .val (.double (FP.i2d p4)), .second, .val (.ref b188), .unset, .unset, .unset, .unset, .unset, .unset] [(.ref b188)]))
      refine own_via (fun t k => XS.iconst X188.here hx rfl (hb hby at_27) k) ?_
      show own_G p e below _ (T188.setTop (mkF m 28 #[.val (.int p1), .val (.int p2), .val (.int p3), .val (.int p4), .val (.int (2 : Int32)), .val (.double (FP.i2d p1)), .second, .val (.double (FP.i2d p2)), .second, .val (.double (FP.i2d p4)), .second, .val (.ref b188), .unset, .unset, .unset, .unset, .unset, .unset] [(.int (0 : Int32)), (.ref b188)]))
      refine own_via (fun t k => XS.dload X188.here hx rfl (hb hby at_28) rfl k) ?_
      show own_G p e below _ (T188.setTop (mkF m 30 #[.val (.int p1), .val (.int p2), .val (.int p3), .val (.int p4), .val (.int (2 : Int32)), .val (.double (FP.i2d p1)), .second, .val (.double (FP.i2d p2)), .second, .val (.double (FP.i2d p4)), .second, .val (.ref b188), .unset, .unset, .unset, .unset, .unset, .unset] [(.double (FP.i2d p4)), (.int (0 : Int32)), (.ref b188)]))
      obtain ⟨cl189, Ar189, q189, S189, Ng189, Hs189, G189⟩ := id V188
      have hin189 : ¬ ((0 : Int32) < 0 ∨ cl189.slots.size ≤ ((0 : Int32)).toNatClampNeg) := inb_of S189 ⟨by decide, by decide⟩
      obtain ⟨T189, h189, X189, e189, W189, st189⟩ := stD X188 hx hZ e188 Ar189 (j := (0 : Int32)) hin189 (g := (mkF m 30 #[.val (.int p1), .val (.int p2), .val (.int p3), .val (.int p4), .val (.int (2 : Int32)), .val (.double (FP.i2d p1)), .second, .val (.double (FP.i2d p2)), .second, .val (.double (FP.i2d p4)), .second, .val (.ref b188), .unset, .unset, .unset, .unset, .unset, .unset] [(.double (FP.i2d p4)), (.int (0 : Int32)), (.ref b188)])) rfl rfl (hb hby at_30)
      have V189 : Arv Z h189 b188 k188 .double (3 : Int32) [(.double (FP.i2d p4)), (.double (0 : UInt64)), (.double (0 : UInt64))] (.double (0 : UInt64)) := Arv.set Ar189 q189 S189 Ng189 Hs189 G189 rfl W189 0 rfl (Nat.le_of_ble_eq_true rfl)
      have N189 := Fr.snoc X189 N0 gx_b188
      have Z189 : n0 ≤ h189.size := Nat.le_trans Z188 (Nat.le_of_eq W189.size.symm)
      refine own_via st189 ?_
      show own_G p e below _ (T189.setTop (mkF m 31 #[.val (.int p1), .val (.int p2), .val (.int p3), .val (.int p4), .val (.int (2 : Int32)), .val (.double (FP.i2d p1)), .second, .val (.double (FP.i2d p2)), .second, .val (.double (FP.i2d p4)), .second, .val (.ref b188), .unset, .unset, .unset, .unset, .unset, .unset] []))
      refine own_via (fun t k => XS.aload X189.here hx rfl (hb hby at_31) rfl rfl k) ?_
      show own_G p e below _ (T189.setTop (mkF m 33 #[.val (.int p1), .val (.int p2), .val (.int p3), .val (.int p4), .val (.int (2 : Int32)), .val (.double (FP.i2d p1)), .second, .val (.double (FP.i2d p2)), .second, .val (.double (FP.i2d p4)), .second, .val (.ref b188), .unset, .unset, .unset, .unset, .unset, .unset] [(.ref b188)]))
      refine own_via (fun t k => XS.iconst X189.here hx rfl (hb hby at_33) k) ?_
      show own_G p e below _ (T189.setTop (mkF m 34 #[.val (.int p1), .val (.int p2), .val (.int p3), .val (.int p4), .val (.int (2 : Int32)), .val (.double (FP.i2d p1)), .second, .val (.double (FP.i2d p2)), .second, .val (.double (FP.i2d p4)), .second, .val (.ref b188), .unset, .unset, .unset, .unset, .unset, .unset] [(.int (1 : Int32)), (.ref b188)]))
      refine own_via (fun t k => XS.dload X189.here hx rfl (hb hby at_34) rfl k) ?_
      show own_G p e below _ (T189.setTop (mkF m 36 #[.val (.int p1), .val (.int p2), .val (.int p3), .val (.int p4), .val (.int (2 : Int32)), .val (.double (FP.i2d p1)), .second, .val (.double (FP.i2d p2)), .second, .val (.double (FP.i2d p4)), .second, .val (.ref b188), .unset, .unset, .unset, .unset, .unset, .unset] [(.double (FP.i2d p4)), (.int (1 : Int32)), (.ref b188)]))
      obtain ⟨cl190, Ar190, q190, S190, Ng190, Hs190, G190⟩ := id V189
      have hin190 : ¬ ((1 : Int32) < 0 ∨ cl190.slots.size ≤ ((1 : Int32)).toNatClampNeg) := inb_of S190 ⟨by decide, by decide⟩
      obtain ⟨T190, h190, X190, e190, W190, st190⟩ := stD X189 hx hZ e189 Ar190 (j := (1 : Int32)) hin190 (g := (mkF m 36 #[.val (.int p1), .val (.int p2), .val (.int p3), .val (.int p4), .val (.int (2 : Int32)), .val (.double (FP.i2d p1)), .second, .val (.double (FP.i2d p2)), .second, .val (.double (FP.i2d p4)), .second, .val (.ref b188), .unset, .unset, .unset, .unset, .unset, .unset] [(.double (FP.i2d p4)), (.int (1 : Int32)), (.ref b188)])) rfl rfl (hb hby at_36)
      have V190 : Arv Z h190 b188 k188 .double (3 : Int32) [(.double (FP.i2d p4)), (.double (FP.i2d p4)), (.double (0 : UInt64))] (.double (0 : UInt64)) := Arv.set Ar190 q190 S190 Ng190 Hs190 G190 rfl W190 1 rfl (Nat.le_of_ble_eq_true rfl)
      have N190 := Fr.snoc X190 N189 gx_b188
      have Z190 : n0 ≤ h190.size := Nat.le_trans Z189 (Nat.le_of_eq W190.size.symm)
      refine own_via st190 ?_
      show own_G p e below _ (T190.setTop (mkF m 37 #[.val (.int p1), .val (.int p2), .val (.int p3), .val (.int p4), .val (.int (2 : Int32)), .val (.double (FP.i2d p1)), .second, .val (.double (FP.i2d p2)), .second, .val (.double (FP.i2d p4)), .second, .val (.ref b188), .unset, .unset, .unset, .unset, .unset, .unset] []))
      refine own_via (fun t k => XS.aload X190.here hx rfl (hb hby at_37) rfl rfl k) ?_
      show own_G p e below _ (T190.setTop (mkF m 39 #[.val (.int p1), .val (.int p2), .val (.int p3), .val (.int p4), .val (.int (2 : Int32)), .val (.double (FP.i2d p1)), .second, .val (.double (FP.i2d p2)), .second, .val (.double (FP.i2d p4)), .second, .val (.ref b188), .unset, .unset, .unset, .unset, .unset, .unset] [(.ref b188)]))
      refine own_via (fun t k => XS.iconst X190.here hx rfl (hb hby at_39) k) ?_
      show own_G p e below _ (T190.setTop (mkF m 40 #[.val (.int p1), .val (.int p2), .val (.int p3), .val (.int p4), .val (.int (2 : Int32)), .val (.double (FP.i2d p1)), .second, .val (.double (FP.i2d p2)), .second, .val (.double (FP.i2d p4)), .second, .val (.ref b188), .unset, .unset, .unset, .unset, .unset, .unset] [(.int (2 : Int32)), (.ref b188)]))
      refine own_via (fun t k => XS.dload X190.here hx rfl (hb hby at_40) rfl k) ?_
      show own_G p e below _ (T190.setTop (mkF m 42 #[.val (.int p1), .val (.int p2), .val (.int p3), .val (.int p4), .val (.int (2 : Int32)), .val (.double (FP.i2d p1)), .second, .val (.double (FP.i2d p2)), .second, .val (.double (FP.i2d p4)), .second, .val (.ref b188), .unset, .unset, .unset, .unset, .unset, .unset] [(.double (FP.i2d p4)), (.int (2 : Int32)), (.ref b188)]))
      obtain ⟨cl191, Ar191, q191, S191, Ng191, Hs191, G191⟩ := id V190
      have hin191 : ¬ ((2 : Int32) < 0 ∨ cl191.slots.size ≤ ((2 : Int32)).toNatClampNeg) := inb_of S191 ⟨by decide, by decide⟩
      obtain ⟨T191, h191, X191, e191, W191, st191⟩ := stD X190 hx hZ e190 Ar191 (j := (2 : Int32)) hin191 (g := (mkF m 42 #[.val (.int p1), .val (.int p2), .val (.int p3), .val (.int p4), .val (.int (2 : Int32)), .val (.double (FP.i2d p1)), .second, .val (.double (FP.i2d p2)), .second, .val (.double (FP.i2d p4)), .second, .val (.ref b188), .unset, .unset, .unset, .unset, .unset, .unset] [(.double (FP.i2d p4)), (.int (2 : Int32)), (.ref b188)])) rfl rfl (hb hby at_42)
      have V191 : Arv Z h191 b188 k188 .double (3 : Int32) [(.double (FP.i2d p4)), (.double (FP.i2d p4)), (.double (FP.i2d p4))] (.double (0 : UInt64)) := Arv.set Ar191 q191 S191 Ng191 Hs191 G191 rfl W191 2 rfl (Nat.le_of_ble_eq_true rfl)
      have N191 := Fr.snoc X191 N190 gx_b188
      have Z191 : n0 ≤ h191.size := Nat.le_trans Z190 (Nat.le_of_eq W191.size.symm)
      refine own_via st191 ?_
      show own_G p e below _ (T191.setTop (mkF m 43 #[.val (.int p1), .val (.int p2), .val (.int p3), .val (.int p4), .val (.int (2 : Int32)), .val (.double (FP.i2d p1)), .second, .val (.double (FP.i2d p2)), .second, .val (.double (FP.i2d p4)), .second, .val (.ref b188), .unset, .unset, .unset, .unset, .unset, .unset] []))
      refine own_via (fun t k => XS.aload X191.here hx rfl (hb hby at_43) rfl rfl k) ?_
      show own_G p e below _ (T191.setTop (mkF m 45 #[.val (.int p1), .val (.int p2), .val (.int p3), .val (.int p4), .val (.int (2 : Int32)), .val (.double (FP.i2d p1)), .second, .val (.double (FP.i2d p2)), .second, .val (.double (FP.i2d p4)), .second, .val (.ref b188), .unset, .unset, .unset, .unset, .unset, .unset] [(.ref b188)]))
      refine own_via (fun t k => XS.iload X191.here hx rfl (hb hby at_45) rfl k) ?_
      show own_G p e below _ (T191.setTop (mkF m 47 #[.val (.int p1), .val (.int p2), .val (.int p3), .val (.int p4), .val (.int (2 : Int32)), .val (.double (FP.i2d p1)), .second, .val (.double (FP.i2d p2)), .second, .val (.double (FP.i2d p4)), .second, .val (.ref b188), .unset, .unset, .unset, .unset, .unset, .unset] [(.int (2 : Int32)), (.ref b188)]))
      refine own_via (fun t k => XS.dload X191.here hx rfl (hb hby at_47) rfl k) ?_
      show own_G p e below _ (T191.setTop (mkF m 49 #[.val (.int p1), .val (.int p2), .val (.int p3), .val (.int p4), .val (.int (2 : Int32)), .val (.double (FP.i2d p1)), .second, .val (.double (FP.i2d p2)), .second, .val (.double (FP.i2d p4)), .second, .val (.ref b188), .unset, .unset, .unset, .unset, .unset, .unset] [(.double (FP.i2d p1)), (.int (2 : Int32)), (.ref b188)]))
      obtain ⟨cl192, Ar192, q192, S192, Ng192, Hs192, G192⟩ := id V191
      have hin192 : ¬ ((2 : Int32) < 0 ∨ cl192.slots.size ≤ ((2 : Int32)).toNatClampNeg) := inb_of S192 ⟨by decide, by decide⟩
      obtain ⟨T192, h192, X192, e192, W192, st192⟩ := stD X191 hx hZ e191 Ar192 (j := (2 : Int32)) hin192 (g := (mkF m 49 #[.val (.int p1), .val (.int p2), .val (.int p3), .val (.int p4), .val (.int (2 : Int32)), .val (.double (FP.i2d p1)), .second, .val (.double (FP.i2d p2)), .second, .val (.double (FP.i2d p4)), .second, .val (.ref b188), .unset, .unset, .unset, .unset, .unset, .unset] [(.double (FP.i2d p1)), (.int (2 : Int32)), (.ref b188)])) rfl rfl (hb hby at_49)
      have V192 : Arv Z h192 b188 k188 .double (3 : Int32) [(.double (FP.i2d p4)), (.double (FP.i2d p4)), (.double (FP.i2d p1))] (.double (0 : UInt64)) := Arv.set Ar192 q192 S192 Ng192 Hs192 G192 rfl W192 2 rfl (Nat.le_of_ble_eq_true rfl)
      have N192 := Fr.snoc X192 N191 gx_b188
      have Z192 : n0 ≤ h192.size := Nat.le_trans Z191 (Nat.le_of_eq W192.size.symm)
      refine own_via st192 ?_
      show own_G p e below _ (T192.setTop (mkF m 50 #[.val (.int p1), .val (.int p2), .val (.int p3), .val (.int p4), .val (.int (2 : Int32)), .val (.double (FP.i2d p1)), .second, .val (.double (FP.i2d p2)), .second, .val (.double (FP.i2d p4)), .second, .val (.ref b188), .unset, .unset, .unset, .unset, .unset, .unset] []))
      refine own_via (fun t k => XS.aload X192.here hx rfl (hb hby at_50) rfl rfl k) ?_
      show own_G p e below _ (T192.setTop (mkF m 52 #[.val (.int p1), .val (.int p2), .val (.int p3), .val (.int p4), .val (.int (2 : Int32)), .val (.double (FP.i2d p1)), .second, .val (.double (FP.i2d p2)), .second, .val (.double (FP.i2d p4)), .second, .val (.ref b188), .unset, .unset, .unset, .unset, .unset, .unset] [(.ref b188)]))
      refine own_via (fun t k => XS.iload X192.here hx rfl (hb hby at_52) rfl k) ?_
      show own_G p e below _ (T192.setTop (mkF m 54 #[.val (.int p1), .val (.int p2), .val (.int p3), .val (.int p4), .val (.int (2 : Int32)), .val (.double (FP.i2d p1)), .second, .val (.double (FP.i2d p2)), .second, .val (.double (FP.i2d p4)), .second, .val (.ref b188), .unset, .unset, .unset, .unset, .unset, .unset] [(.int (2 : Int32)), (.ref b188)]))
      refine own_via (fun t k => XS.dload X192.here hx rfl (hb hby at_54) rfl k) ?_
      show own_G p e below _ (T192.setTop (mkF m 56 #[.val (.int p1), .val (.int p2), .val (.int p3), .val (.int p4), .val (.int (2 : Int32)), .val (.double (FP.i2d p1)), .second, .val (.double (FP.i2d p2)), .second, .val (.double (FP.i2d p4)), .second, .val (.ref b188), .unset, .unset, .unset, .unset, .unset, .unset] [(.double (FP.i2d p2)), (.int (2 : Int32)), (.ref b188)]))
      obtain ⟨_, _, ⟨T193, L193, k193, n193⟩, -, X193, ⟨Lc193, hQ193, l193, y193, z193⟩, st193⟩ := Jvm.LawKit.callS X192 hx (y := (⟨"com/example/odds2/odds2/engine/Bounds", "tightenUpper", "([DID)Z"⟩ : MethodName)) hown (mvT hZ (hw _ (List.mem_of_getElem? (i := 2) rfl))) (mvT hZ (hw _ (List.mem_of_getElem? (i := 3) rfl))) (mvT hZ (hw _ (List.mem_of_getElem? (i := 4) rfl))) (mvT hZ (hw _ (List.mem_of_getElem? (i := 5) rfl))) (by decide) (backOf (W := 0) (rm1_2gt l Z a0 hw [] b188 p4 p4 p1 p2 k188 h192 n0 Z192 V192 gx_b188 hob) hZ (hw _ (List.mem_of_getElem? (i := 5) rfl)) (hw _ (List.mem_of_getElem? (i := 4) rfl)) (by decide) (by decide)) (g := (mkF m 56 #[.val (.int p1), .val (.int p2), .val (.int p3), .val (.int p4), .val (.int (2 : Int32)), .val (.double (FP.i2d p1)), .second, .val (.double (FP.i2d p2)), .second, .val (.double (FP.i2d p4)), .second, .val (.ref b188), .unset, .unset, .unset, .unset, .unset, .unset] [(.double (FP.i2d p2)), (.int (2 : Int32)), (.ref b188)])) rfl (by rw [hml]; rfl) (argsL := [(.ref b188), (.int (2 : Int32)), (.double (FP.i2d p2))]) (rest := []) (lenOf pd_rm0_0 rfl) rfl (by show 2 * 0 + _ ≤ _; exact Nat.le_of_eq rfl) (hb hby at_56) (fun _ _ => ⟨rfl, e192, (by decide : 1 + 0 ≤ _), (by decide : 3 + 0 ≤ _)⟩)
      dsimp only [Pt.U, Pt.locs, Pt.cells, Pt.slots] at X193 l193 y193 z193 st193 hQ193
      subst l193 y193 z193
      obtain ⟨rfl, N193q, K193, V193⟩ := hQ193
      have N193 := Fr.app N192 N193q
      have Z193 : n0 ≤ T193.heap.size := Nat.le_trans Z192 K193.1
      refine own_via st193 ?_
      show own_G p e below _ (T193.setTop (mkF m 59 #[.val (.int p1), .val (.int p2), .val (.int p3), .val (.int p4), .val (.int (2 : Int32)), .val (.double (FP.i2d p1)), .second, .val (.double (FP.i2d p2)), .second, .val (.double (FP.i2d p4)), .second, .val (.ref b188), .unset, .unset, .unset, .unset, .unset, .unset] [(.int (0 : Int32))]))
      refine own_via (fun t k => XS.istore X193.here hx rfl (hb hby at_59) rfl (l' := #[.val (.int p1), .val (.int p2), .val (.int p3), .val (.int p4), .val (.int (2 : Int32)), .val (.double (FP.i2d p1)), .second, .val (.double (FP.i2d p2)), .second, .val (.double (FP.i2d p4)), .second, .val (.ref b188), .val (.int (0 : Int32)), .unset, .unset, .unset, .unset, .unset]) rfl k) ?_
      show own_G p e below _ (T193.setTop (mkF m 61 #[.val (.int p1), .val (.int p2), .val (.int p3), .val (.int p4), .val (.int (2 : Int32)), .val (.double (FP.i2d p1)), .second, .val (.double (FP.i2d p2)), .second, .val (.double (FP.i2d p4)), .second, .val (.ref b188), .val (.int (0 : Int32)), .unset, .unset, .unset, .unset, .unset] []))
      refine own_via (fun t k => XS.aload X193.here hx rfl (hb hby at_61) rfl rfl k) ?_
      show own_G p e below _ (T193.setTop (mkF m 63 #[.val (.int p1), .val (.int p2), .val (.int p3), .val (.int p4), .val (.int (2 : Int32)), .val (.double (FP.i2d p1)), .second, .val (.double (FP.i2d p2)), .second, .val (.double (FP.i2d p4)), .second, .val (.ref b188), .val (.int (0 : Int32)), .unset, .unset, .unset, .unset, .unset] [(.ref b188)]))
      refine own_via (fun t k => XS.iload X193.here hx rfl (hb hby at_63) rfl k) ?_
      show own_G p e below _ (T193.setTop (mkF m 65 #[.val (.int p1), .val (.int p2), .val (.int p3), .val (.int p4), .val (.int (2 : Int32)), .val (.double (FP.i2d p1)), .second, .val (.double (FP.i2d p2)), .second, .val (.double (FP.i2d p4)), .second, .val (.ref b188), .val (.int (0 : Int32)), .unset, .unset, .unset, .unset, .unset] [(.int (2 : Int32)), (.ref b188)]))
      obtain ⟨cl195, Ar195, q195, S195, Ng195, Hs195, G195⟩ := id V193
      have hin195 : ¬ ((2 : Int32) < 0 ∨ cl195.slots.size ≤ ((2 : Int32)).toNatClampNeg) := inb_of S195 ⟨by decide, by decide⟩
      have hat195 : cl195.slots[((2 : Int32)).toNatClampNeg]? = some (.double (FP.i2d p1)) := Hs195.at hin195 rfl
      refine own_via (fun t k => X193.daload hx (j := (2 : Int32)) (v := (.double (FP.i2d p1))) Ar195.1 (State.isArrayOf_alike hZ.alike Ar195.2.1) Ar195.2.2 hin195 hat195 (g := (mkF m 65 #[.val (.int p1), .val (.int p2), .val (.int p3), .val (.int p4), .val (.int (2 : Int32)), .val (.double (FP.i2d p1)), .second, .val (.double (FP.i2d p2)), .second, .val (.double (FP.i2d p4)), .second, .val (.ref b188), .val (.int (0 : Int32)), .unset, .unset, .unset, .unset, .unset] [(.int (2 : Int32)), (.ref b188)])) rfl rfl (hb hby at_65) _ k) ?_
      show own_G p e below _ (T193.setTop (mkF m 66 #[.val (.int p1), .val (.int p2), .val (.int p3), .val (.int p4), .val (.int (2 : Int32)), .val (.double (FP.i2d p1)), .second, .val (.double (FP.i2d p2)), .second, .val (.double (FP.i2d p4)), .second, .val (.ref b188), .val (.int (0 : Int32)), .unset, .unset, .unset, .unset, .unset] [(.double (FP.i2d p1))]))
      refine own_via (fun t k => XS.dstore X193.here hx rfl (hb hby at_66) rfl (l' := #[.val (.int p1), .val (.int p2), .val (.int p3), .val (.int p4), .val (.int (2 : Int32)), .val (.double (FP.i2d p1)), .second, .val (.double (FP.i2d p2)), .second, .val (.double (FP.i2d p4)), .second, .val (.ref b188), .val (.int (0 : Int32)), .val (.double (FP.i2d p1)), .second, .unset, .unset, .unset]) rfl k) ?_
      show own_G p e below _ (T193.setTop (mkF m 68 #[.val (.int p1), .val (.int p2), .val (.int p3), .val (.int p4), .val (.int (2 : Int32)), .val (.double (FP.i2d p1)), .second, .val (.double (FP.i2d p2)), .second, .val (.double (FP.i2d p4)), .second, .val (.ref b188), .val (.int (0 : Int32)), .val (.double (FP.i2d p1)), .second, .unset, .unset, .unset] []))
      refine own_via (fun t k => XS.dload X193.here hx rfl (hb hby at_68) rfl k) ?_
      show own_G p e below _ (T193.setTop (mkF m 70 #[.val (.int p1), .val (.int p2), .val (.int p3), .val (.int p4), .val (.int (2 : Int32)), .val (.double (FP.i2d p1)), .second, .val (.double (FP.i2d p2)), .second, .val (.double (FP.i2d p4)), .second, .val (.ref b188), .val (.int (0 : Int32)), .val (.double (FP.i2d p1)), .second, .unset, .unset, .unset] [(.double (FP.i2d p1))]))
      refine own_via (fun t k => XS.dload X193.here hx rfl (hb hby at_70) rfl k) ?_
      show own_G p e below _ (T193.setTop (mkF m 72 #[.val (.int p1), .val (.int p2), .val (.int p3), .val (.int p4), .val (.int (2 : Int32)), .val (.double (FP.i2d p1)), .second, .val (.double (FP.i2d p2)), .second, .val (.double (FP.i2d p4)), .second, .val (.ref b188), .val (.int (0 : Int32)), .val (.double (FP.i2d p1)), .second, .unset, .unset, .unset] [(.double (FP.i2d p1)), (.double (FP.i2d p1))]))
      refine own_via (fun t k => XS.dcmpS X193.here hx rfl (hb hby at_72) rfl (own_dc_eq rfl _) k) ?_
      show own_G p e below _ (T193.setTop (mkF m 73 #[.val (.int p1), .val (.int p2), .val (.int p3), .val (.int p4), .val (.int (2 : Int32)), .val (.double (FP.i2d p1)), .second, .val (.double (FP.i2d p2)), .second, .val (.double (FP.i2d p4)), .second, .val (.ref b188), .val (.int (0 : Int32)), .val (.double (FP.i2d p1)), .second, .unset, .unset, .unset] [(.int (0 : Int32))]))
      refine own_via (fun t k => XS.ifNo X193.here hx rfl (hb hby at_73) rfl ((if0 _ _).trans (flt (by decide : ¬ ((0 : Int32) < (0 : Int32)))).1) k) ?_
      show own_G p e below _ (T193.setTop (mkF m 76 #[.val (.int p1), .val (.int p2), .val (.int p3), .val (.int p4), .val (.int (2 : Int32)), .val (.double (FP.i2d p1)), .second, .val (.double (FP.i2d p2)), .second, .val (.double (FP.i2d p4)), .second, .val (.ref b188), .val (.int (0 : Int32)), .val (.double (FP.i2d p1)), .second, .unset, .unset, .unset] []))
      refine own_via (fun t k => XS.dload X193.here hx rfl (hb hby at_76) rfl k) ?_
      show own_G p e below _ (T193.setTop (mkF m 78 #[.val (.int p1), .val (.int p2), .val (.int p3), .val (.int p4), .val (.int (2 : Int32)), .val (.double (FP.i2d p1)), .second, .val (.double (FP.i2d p2)), .second, .val (.double (FP.i2d p4)), .second, .val (.ref b188), .val (.int (0 : Int32)), .val (.double (FP.i2d p1)), .second, .unset, .unset, .unset] [(.double (FP.i2d p2))]))
      refine own_via (fun t k => XS.dload X193.here hx rfl (hb hby at_78) rfl k) ?_
      show own_G p e below _ (T193.setTop (mkF m 80 #[.val (.int p1), .val (.int p2), .val (.int p3), .val (.int p4), .val (.int (2 : Int32)), .val (.double (FP.i2d p1)), .second, .val (.double (FP.i2d p2)), .second, .val (.double (FP.i2d p4)), .second, .val (.ref b188), .val (.int (0 : Int32)), .val (.double (FP.i2d p1)), .second, .unset, .unset, .unset] [(.double (FP.i2d p1)), (.double (FP.i2d p2))]))
      refine own_via (fun t k => XS.dcmpS X193.here hx rfl (hb hby at_80) rfl (own_dc_gt hob _) k) ?_
      show own_G p e below _ (T193.setTop (mkF m 81 #[.val (.int p1), .val (.int p2), .val (.int p3), .val (.int p4), .val (.int (2 : Int32)), .val (.double (FP.i2d p1)), .second, .val (.double (FP.i2d p2)), .second, .val (.double (FP.i2d p4)), .second, .val (.ref b188), .val (.int (0 : Int32)), .val (.double (FP.i2d p1)), .second, .unset, .unset, .unset] [(.int (1 : Int32))]))
      refine own_via (fun t k => XS.ifNo X193.here hx rfl (hb hby at_81) rfl ((if0 _ _).trans (flt (by decide : ¬ ((1 : Int32) < (0 : Int32)))).1) k) ?_
      show own_G p e below _ (T193.setTop (mkF m 84 #[.val (.int p1), .val (.int p2), .val (.int p3), .val (.int p4), .val (.int (2 : Int32)), .val (.double (FP.i2d p1)), .second, .val (.double (FP.i2d p2)), .second, .val (.double (FP.i2d p4)), .second, .val (.ref b188), .val (.int (0 : Int32)), .val (.double (FP.i2d p1)), .second, .unset, .unset, .unset] []))
      refine own_via (fun t k => XS.dload X193.here hx rfl (hb hby at_84) rfl k) ?_
      show own_G p e below _ (T193.setTop (mkF m 86 #[.val (.int p1), .val (.int p2), .val (.int p3), .val (.int p4), .val (.int (2 : Int32)), .val (.double (FP.i2d p1)), .second, .val (.double (FP.i2d p2)), .second, .val (.double (FP.i2d p4)), .second, .val (.ref b188), .val (.int (0 : Int32)), .val (.double (FP.i2d p1)), .second, .unset, .unset, .unset] [(.double (FP.i2d p1))]))
      refine own_via (fun t k => XS.dload X193.here hx rfl (hb hby at_86) rfl k) ?_
      show own_G p e below _ (T193.setTop (mkF m 88 #[.val (.int p1), .val (.int p2), .val (.int p3), .val (.int p4), .val (.int (2 : Int32)), .val (.double (FP.i2d p1)), .second, .val (.double (FP.i2d p2)), .second, .val (.double (FP.i2d p4)), .second, .val (.ref b188), .val (.int (0 : Int32)), .val (.double (FP.i2d p1)), .second, .unset, .unset, .unset] [(.double (FP.i2d p1)), (.double (FP.i2d p1))]))
      refine own_via (fun t k => XS.dcmpS X193.here hx rfl (hb hby at_88) rfl (own_dc_eq rfl _) k) ?_
      show own_G p e below _ (T193.setTop (mkF m 89 #[.val (.int p1), .val (.int p2), .val (.int p3), .val (.int p4), .val (.int (2 : Int32)), .val (.double (FP.i2d p1)), .second, .val (.double (FP.i2d p2)), .second, .val (.double (FP.i2d p4)), .second, .val (.ref b188), .val (.int (0 : Int32)), .val (.double (FP.i2d p1)), .second, .unset, .unset, .unset] [(.int (0 : Int32))]))
      refine own_via (fun t k => XS.ifYes X193.here hx rfl (pc0 := 89) (pc' := 100) rfl (hb hby at_89) rfl ((if0 _ _).trans (teq (by decide : (0 : Int32) = (0 : Int32))).1) (by decide) (by decide) k) ?_
      show own_G p e below _ (T193.setTop (mkF m 100 #[.val (.int p1), .val (.int p2), .val (.int p3), .val (.int p4), .val (.int (2 : Int32)), .val (.double (FP.i2d p1)), .second, .val (.double (FP.i2d p2)), .second, .val (.double (FP.i2d p4)), .second, .val (.ref b188), .val (.int (0 : Int32)), .val (.double (FP.i2d p1)), .second, .unset, .unset, .unset] []))
      refine own_via (fun t k => XS.iconst X193.here hx rfl (hb hby at_100) k) ?_
      show own_G p e below _ (T193.setTop (mkF m 101 #[.val (.int p1), .val (.int p2), .val (.int p3), .val (.int p4), .val (.int (2 : Int32)), .val (.double (FP.i2d p1)), .second, .val (.double (FP.i2d p2)), .second, .val (.double (FP.i2d p4)), .second, .val (.ref b188), .val (.int (0 : Int32)), .val (.double (FP.i2d p1)), .second, .unset, .unset, .unset] [(.int (1 : Int32))]))
      refine own_via (fun t k => XS.goto X193.here hx rfl (pc0 := 101) (pc' := 105) rfl (hb hby at_101) (by decide) (by decide) k) ?_
      show own_G p e below _ (T193.setTop (mkF m 105 #[.val (.int p1), .val (.int p2), .val (.int p3), .val (.int p4), .val (.int (2 : Int32)), .val (.double (FP.i2d p1)), .second, .val (.double (FP.i2d p2)), .second, .val (.double (FP.i2d p4)), .second, .val (.ref b188), .val (.int (0 : Int32)), .val (.double (FP.i2d p1)), .second, .unset, .unset, .unset] [(.int (1 : Int32))]))
      refine own_via (fun t k => XS.istore X193.here hx rfl (hb hby at_105) rfl (l' := #[.val (.int p1), .val (.int p2), .val (.int p3), .val (.int p4), .val (.int (2 : Int32)), .val (.double (FP.i2d p1)), .second, .val (.double (FP.i2d p2)), .second, .val (.double (FP.i2d p4)), .second, .val (.ref b188), .val (.int (0 : Int32)), .val (.double (FP.i2d p1)), .second, .val (.int (1 : Int32)), .unset, .unset]) rfl k) ?_
      show own_G p e below _ (T193.setTop (mkF m 107 #[.val (.int p1), .val (.int p2), .val (.int p3), .val (.int p4), .val (.int (2 : Int32)), .val (.double (FP.i2d p1)), .second, .val (.double (FP.i2d p2)), .second, .val (.double (FP.i2d p4)), .second, .val (.ref b188), .val (.int (0 : Int32)), .val (.double (FP.i2d p1)), .second, .val (.int (1 : Int32)), .unset, .unset] []))
      refine own_via (fun t k => XS.iload X193.here hx rfl (hb hby at_107) rfl k) ?_
      show own_G p e below _ (T193.setTop (mkF m 109 #[.val (.int p1), .val (.int p2), .val (.int p3), .val (.int p4), .val (.int (2 : Int32)), .val (.double (FP.i2d p1)), .second, .val (.double (FP.i2d p2)), .second, .val (.double (FP.i2d p4)), .second, .val (.ref b188), .val (.int (0 : Int32)), .val (.double (FP.i2d p1)), .second, .val (.int (1 : Int32)), .unset, .unset] [(.int (0 : Int32))]))
      refine own_via (fun t k => XS.dload X193.here hx rfl (hb hby at_109) rfl k) ?_
      show own_G p e below _ (T193.setTop (mkF m 111 #[.val (.int p1), .val (.int p2), .val (.int p3), .val (.int p4), .val (.int (2 : Int32)), .val (.double (FP.i2d p1)), .second, .val (.double (FP.i2d p2)), .second, .val (.double (FP.i2d p4)), .second, .val (.ref b188), .val (.int (0 : Int32)), .val (.double (FP.i2d p1)), .second, .val (.int (1 : Int32)), .unset, .unset] [(.double (FP.i2d p2)), (.int (0 : Int32))]))
      refine own_via (fun t k => XS.dload X193.here hx rfl (hb hby at_111) rfl k) ?_
      show own_G p e below _ (T193.setTop (mkF m 113 #[.val (.int p1), .val (.int p2), .val (.int p3), .val (.int p4), .val (.int (2 : Int32)), .val (.double (FP.i2d p1)), .second, .val (.double (FP.i2d p2)), .second, .val (.double (FP.i2d p4)), .second, .val (.ref b188), .val (.int (0 : Int32)), .val (.double (FP.i2d p1)), .second, .val (.int (1 : Int32)), .unset, .unset] [(.double (FP.i2d p1)), (.double (FP.i2d p2)), (.int (0 : Int32))]))
      refine own_via (fun t k => XS.dcmpS X193.here hx rfl (hb hby at_113) rfl (own_dc_gt hob _) k) ?_
      show own_G p e below _ (T193.setTop (mkF m 114 #[.val (.int p1), .val (.int p2), .val (.int p3), .val (.int p4), .val (.int (2 : Int32)), .val (.double (FP.i2d p1)), .second, .val (.double (FP.i2d p2)), .second, .val (.double (FP.i2d p4)), .second, .val (.ref b188), .val (.int (0 : Int32)), .val (.double (FP.i2d p1)), .second, .val (.int (1 : Int32)), .unset, .unset] [(.int (1 : Int32)), (.int (0 : Int32))]))
      refine own_via (fun t k => XS.ifYes X193.here hx rfl (pc0 := 114) (pc' := 121) rfl (hb hby at_114) rfl ((if0 _ _).trans (flt (by decide : ¬ ((1 : Int32) < (0 : Int32)))).2.1) (by decide) (by decide) k) ?_
      show own_G p e below _ (T193.setTop (mkF m 121 #[.val (.int p1), .val (.int p2), .val (.int p3), .val (.int p4), .val (.int (2 : Int32)), .val (.double (FP.i2d p1)), .second, .val (.double (FP.i2d p2)), .second, .val (.double (FP.i2d p4)), .second, .val (.ref b188), .val (.int (0 : Int32)), .val (.double (FP.i2d p1)), .second, .val (.int (1 : Int32)), .unset, .unset] [(.int (0 : Int32))]))
      refine own_via (fun t k => XS.iconst X193.here hx rfl (hb hby at_121) k) ?_
      show own_G p e below _ (T193.setTop (mkF m 122 #[.val (.int p1), .val (.int p2), .val (.int p3), .val (.int p4), .val (.int (2 : Int32)), .val (.double (FP.i2d p1)), .second, .val (.double (FP.i2d p2)), .second, .val (.double (FP.i2d p4)), .second, .val (.ref b188), .val (.int (0 : Int32)), .val (.double (FP.i2d p1)), .second, .val (.int (1 : Int32)), .unset, .unset] [(.int (0 : Int32)), (.int (0 : Int32))]))
      refine own_via (fun t k => XS.icmpNo X193.here hx rfl (hb hby at_122) rfl (teq (by decide : (0 : Int32) = (0 : Int32))).2 k) ?_
      show own_G p e below _ (T193.setTop (mkF m 125 #[.val (.int p1), .val (.int p2), .val (.int p3), .val (.int p4), .val (.int (2 : Int32)), .val (.double (FP.i2d p1)), .second, .val (.double (FP.i2d p2)), .second, .val (.double (FP.i2d p4)), .second, .val (.ref b188), .val (.int (0 : Int32)), .val (.double (FP.i2d p1)), .second, .val (.int (1 : Int32)), .unset, .unset] []))
      refine own_via (fun t k => XS.iconst X193.here hx rfl (hb hby at_125) k) ?_
      show own_G p e below _ (T193.setTop (mkF m 126 #[.val (.int p1), .val (.int p2), .val (.int p3), .val (.int p4), .val (.int (2 : Int32)), .val (.double (FP.i2d p1)), .second, .val (.double (FP.i2d p2)), .second, .val (.double (FP.i2d p4)), .second, .val (.ref b188), .val (.int (0 : Int32)), .val (.double (FP.i2d p1)), .second, .val (.int (1 : Int32)), .unset, .unset] [(.int (1 : Int32))]))
      refine own_via (fun t k => XS.goto X193.here hx rfl (pc0 := 126) (pc' := 130) rfl (hb hby at_126) (by decide) (by decide) k) ?_
      show own_G p e below _ (T193.setTop (mkF m 130 #[.val (.int p1), .val (.int p2), .val (.int p3), .val (.int p4), .val (.int (2 : Int32)), .val (.double (FP.i2d p1)), .second, .val (.double (FP.i2d p2)), .second, .val (.double (FP.i2d p4)), .second, .val (.ref b188), .val (.int (0 : Int32)), .val (.double (FP.i2d p1)), .second, .val (.int (1 : Int32)), .unset, .unset] [(.int (1 : Int32))]))
      refine own_via (fun t k => XS.istore X193.here hx rfl (hb hby at_130) rfl (l' := #[.val (.int p1), .val (.int p2), .val (.int p3), .val (.int p4), .val (.int (2 : Int32)), .val (.double (FP.i2d p1)), .second, .val (.double (FP.i2d p2)), .second, .val (.double (FP.i2d p4)), .second, .val (.ref b188), .val (.int (0 : Int32)), .val (.double (FP.i2d p1)), .second, .val (.int (1 : Int32)), .val (.int (1 : Int32)), .unset]) rfl k) ?_
      show own_G p e below _ (T193.setTop (mkF m 132 #[.val (.int p1), .val (.int p2), .val (.int p3), .val (.int p4), .val (.int (2 : Int32)), .val (.double (FP.i2d p1)), .second, .val (.double (FP.i2d p2)), .second, .val (.double (FP.i2d p4)), .second, .val (.ref b188), .val (.int (0 : Int32)), .val (.double (FP.i2d p1)), .second, .val (.int (1 : Int32)), .val (.int (1 : Int32)), .unset] []))
      refine own_via (fun t k => XS.iload X193.here hx rfl (hb hby at_132) rfl k) ?_
      show own_G p e below _ (T193.setTop (mkF m 134 #[.val (.int p1), .val (.int p2), .val (.int p3), .val (.int p4), .val (.int (2 : Int32)), .val (.double (FP.i2d p1)), .second, .val (.double (FP.i2d p2)), .second, .val (.double (FP.i2d p4)), .second, .val (.ref b188), .val (.int (0 : Int32)), .val (.double (FP.i2d p1)), .second, .val (.int (1 : Int32)), .val (.int (1 : Int32)), .unset] [(.int (2 : Int32))]))
      refine own_via (fun t k => XS.ifNo X193.here hx rfl (hb hby at_134) rfl ((if0 _ _).trans (feq (by decide : ¬ ((2 : Int32) = (0 : Int32)))).1) k) ?_
      show own_G p e below _ (T193.setTop (mkF m 137 #[.val (.int p1), .val (.int p2), .val (.int p3), .val (.int p4), .val (.int (2 : Int32)), .val (.double (FP.i2d p1)), .second, .val (.double (FP.i2d p2)), .second, .val (.double (FP.i2d p4)), .second, .val (.ref b188), .val (.int (0 : Int32)), .val (.double (FP.i2d p1)), .second, .val (.int (1 : Int32)), .val (.int (1 : Int32)), .unset] []))
      refine own_via (fun t k => XS.aload X193.here hx rfl (hb hby at_137) rfl rfl k) ?_
      show own_G p e below _ (T193.setTop (mkF m 139 #[.val (.int p1), .val (.int p2), .val (.int p3), .val (.int p4), .val (.int (2 : Int32)), .val (.double (FP.i2d p1)), .second, .val (.double (FP.i2d p2)), .second, .val (.double (FP.i2d p4)), .second, .val (.ref b188), .val (.int (0 : Int32)), .val (.double (FP.i2d p1)), .second, .val (.int (1 : Int32)), .val (.int (1 : Int32)), .unset] [(.ref b188)]))
      refine own_via (fun t k => XS.iconst X193.here hx rfl (hb hby at_139) k) ?_
      show own_G p e below _ (T193.setTop (mkF m 140 #[.val (.int p1), .val (.int p2), .val (.int p3), .val (.int p4), .val (.int (2 : Int32)), .val (.double (FP.i2d p1)), .second, .val (.double (FP.i2d p2)), .second, .val (.double (FP.i2d p4)), .second, .val (.ref b188), .val (.int (0 : Int32)), .val (.double (FP.i2d p1)), .second, .val (.int (1 : Int32)), .val (.int (1 : Int32)), .unset] [(.int (0 : Int32)), (.ref b188)]))
      obtain ⟨cl202, Ar202, q202, S202, Ng202, Hs202, G202⟩ := id V193
      have hin202 : ¬ ((0 : Int32) < 0 ∨ cl202.slots.size ≤ ((0 : Int32)).toNatClampNeg) := inb_of S202 ⟨by decide, by decide⟩
      have hat202 : cl202.slots[((0 : Int32)).toNatClampNeg]? = some (.double (FP.i2d p4)) := Hs202.at hin202 rfl
      refine own_via (fun t k => X193.daload hx (j := (0 : Int32)) (v := (.double (FP.i2d p4))) Ar202.1 (State.isArrayOf_alike hZ.alike Ar202.2.1) Ar202.2.2 hin202 hat202 (g := (mkF m 140 #[.val (.int p1), .val (.int p2), .val (.int p3), .val (.int p4), .val (.int (2 : Int32)), .val (.double (FP.i2d p1)), .second, .val (.double (FP.i2d p2)), .second, .val (.double (FP.i2d p4)), .second, .val (.ref b188), .val (.int (0 : Int32)), .val (.double (FP.i2d p1)), .second, .val (.int (1 : Int32)), .val (.int (1 : Int32)), .unset] [(.int (0 : Int32)), (.ref b188)])) rfl rfl (hb hby at_140) _ k) ?_
      show own_G p e below _ (T193.setTop (mkF m 141 #[.val (.int p1), .val (.int p2), .val (.int p3), .val (.int p4), .val (.int (2 : Int32)), .val (.double (FP.i2d p1)), .second, .val (.double (FP.i2d p2)), .second, .val (.double (FP.i2d p4)), .second, .val (.ref b188), .val (.int (0 : Int32)), .val (.double (FP.i2d p1)), .second, .val (.int (1 : Int32)), .val (.int (1 : Int32)), .unset] [(.double (FP.i2d p4))]))
      refine own_via (fun t k => XS.dload X193.here hx rfl (hb hby at_141) rfl k) ?_
      show own_G p e below _ (T193.setTop (mkF m 143 #[.val (.int p1), .val (.int p2), .val (.int p3), .val (.int p4), .val (.int (2 : Int32)), .val (.double (FP.i2d p1)), .second, .val (.double (FP.i2d p2)), .second, .val (.double (FP.i2d p4)), .second, .val (.ref b188), .val (.int (0 : Int32)), .val (.double (FP.i2d p1)), .second, .val (.int (1 : Int32)), .val (.int (1 : Int32)), .unset] [(.double (FP.i2d p4)), (.double (FP.i2d p4))]))
      refine own_via (fun t k => XS.dcmpS X193.here hx rfl (hb hby at_143) rfl (own_dc_eq rfl _) k) ?_
      show own_G p e below _ (T193.setTop (mkF m 144 #[.val (.int p1), .val (.int p2), .val (.int p3), .val (.int p4), .val (.int (2 : Int32)), .val (.double (FP.i2d p1)), .second, .val (.double (FP.i2d p2)), .second, .val (.double (FP.i2d p4)), .second, .val (.ref b188), .val (.int (0 : Int32)), .val (.double (FP.i2d p1)), .second, .val (.int (1 : Int32)), .val (.int (1 : Int32)), .unset] [(.int (0 : Int32))]))
      refine own_via (fun t k => XS.ifNo X193.here hx rfl (hb hby at_144) rfl ((if0 _ _).trans (teq (by decide : (0 : Int32) = (0 : Int32))).2) k) ?_
      show own_G p e below _ (T193.setTop (mkF m 147 #[.val (.int p1), .val (.int p2), .val (.int p3), .val (.int p4), .val (.int (2 : Int32)), .val (.double (FP.i2d p1)), .second, .val (.double (FP.i2d p2)), .second, .val (.double (FP.i2d p4)), .second, .val (.ref b188), .val (.int (0 : Int32)), .val (.double (FP.i2d p1)), .second, .val (.int (1 : Int32)), .val (.int (1 : Int32)), .unset] []))
      refine own_via (fun t k => XS.iload X193.here hx rfl (hb hby at_147) rfl k) ?_
      show own_G p e below _ (T193.setTop (mkF m 149 #[.val (.int p1), .val (.int p2), .val (.int p3), .val (.int p4), .val (.int (2 : Int32)), .val (.double (FP.i2d p1)), .second, .val (.double (FP.i2d p2)), .second, .val (.double (FP.i2d p4)), .second, .val (.ref b188), .val (.int (0 : Int32)), .val (.double (FP.i2d p1)), .second, .val (.int (1 : Int32)), .val (.int (1 : Int32)), .unset] [(.int (2 : Int32))]))
      refine own_via (fun t k => XS.iconst X193.here hx rfl (hb hby at_149) k) ?_
      show own_G p e below _ (T193.setTop (mkF m 150 #[.val (.int p1), .val (.int p2), .val (.int p3), .val (.int p4), .val (.int (2 : Int32)), .val (.double (FP.i2d p1)), .second, .val (.double (FP.i2d p2)), .second, .val (.double (FP.i2d p4)), .second, .val (.ref b188), .val (.int (0 : Int32)), .val (.double (FP.i2d p1)), .second, .val (.int (1 : Int32)), .val (.int (1 : Int32)), .unset] [(.int (1 : Int32)), (.int (2 : Int32))]))
      refine own_via (fun t k => XS.icmpNo X193.here hx rfl (hb hby at_150) rfl (feq (by decide : ¬ ((2 : Int32) = (1 : Int32)))).1 k) ?_
      show own_G p e below _ (T193.setTop (mkF m 153 #[.val (.int p1), .val (.int p2), .val (.int p3), .val (.int p4), .val (.int (2 : Int32)), .val (.double (FP.i2d p1)), .second, .val (.double (FP.i2d p2)), .second, .val (.double (FP.i2d p4)), .second, .val (.ref b188), .val (.int (0 : Int32)), .val (.double (FP.i2d p1)), .second, .val (.int (1 : Int32)), .val (.int (1 : Int32)), .unset] []))
      refine own_via (fun t k => XS.aload X193.here hx rfl (hb hby at_153) rfl rfl k) ?_
      show own_G p e below _ (T193.setTop (mkF m 155 #[.val (.int p1), .val (.int p2), .val (.int p3), .val (.int p4), .val (.int (2 : Int32)), .val (.double (FP.i2d p1)), .second, .val (.double (FP.i2d p2)), .second, .val (.double (FP.i2d p4)), .second, .val (.ref b188), .val (.int (0 : Int32)), .val (.double (FP.i2d p1)), .second, .val (.int (1 : Int32)), .val (.int (1 : Int32)), .unset] [(.ref b188)]))
      refine own_via (fun t k => XS.iconst X193.here hx rfl (hb hby at_155) k) ?_
      show own_G p e below _ (T193.setTop (mkF m 156 #[.val (.int p1), .val (.int p2), .val (.int p3), .val (.int p4), .val (.int (2 : Int32)), .val (.double (FP.i2d p1)), .second, .val (.double (FP.i2d p2)), .second, .val (.double (FP.i2d p4)), .second, .val (.ref b188), .val (.int (0 : Int32)), .val (.double (FP.i2d p1)), .second, .val (.int (1 : Int32)), .val (.int (1 : Int32)), .unset] [(.int (1 : Int32)), (.ref b188)]))
      obtain ⟨cl205, Ar205, q205, S205, Ng205, Hs205, G205⟩ := id V193
      have hin205 : ¬ ((1 : Int32) < 0 ∨ cl205.slots.size ≤ ((1 : Int32)).toNatClampNeg) := inb_of S205 ⟨by decide, by decide⟩
      have hat205 : cl205.slots[((1 : Int32)).toNatClampNeg]? = some (.double (FP.i2d p4)) := Hs205.at hin205 rfl
      refine own_via (fun t k => X193.daload hx (j := (1 : Int32)) (v := (.double (FP.i2d p4))) Ar205.1 (State.isArrayOf_alike hZ.alike Ar205.2.1) Ar205.2.2 hin205 hat205 (g := (mkF m 156 #[.val (.int p1), .val (.int p2), .val (.int p3), .val (.int p4), .val (.int (2 : Int32)), .val (.double (FP.i2d p1)), .second, .val (.double (FP.i2d p2)), .second, .val (.double (FP.i2d p4)), .second, .val (.ref b188), .val (.int (0 : Int32)), .val (.double (FP.i2d p1)), .second, .val (.int (1 : Int32)), .val (.int (1 : Int32)), .unset] [(.int (1 : Int32)), (.ref b188)])) rfl rfl (hb hby at_156) _ k) ?_
      show own_G p e below _ (T193.setTop (mkF m 157 #[.val (.int p1), .val (.int p2), .val (.int p3), .val (.int p4), .val (.int (2 : Int32)), .val (.double (FP.i2d p1)), .second, .val (.double (FP.i2d p2)), .second, .val (.double (FP.i2d p4)), .second, .val (.ref b188), .val (.int (0 : Int32)), .val (.double (FP.i2d p1)), .second, .val (.int (1 : Int32)), .val (.int (1 : Int32)), .unset] [(.double (FP.i2d p4))]))
      refine own_via (fun t k => XS.dload X193.here hx rfl (hb hby at_157) rfl k) ?_
      show own_G p e below _ (T193.setTop (mkF m 159 #[.val (.int p1), .val (.int p2), .val (.int p3), .val (.int p4), .val (.int (2 : Int32)), .val (.double (FP.i2d p1)), .second, .val (.double (FP.i2d p2)), .second, .val (.double (FP.i2d p4)), .second, .val (.ref b188), .val (.int (0 : Int32)), .val (.double (FP.i2d p1)), .second, .val (.int (1 : Int32)), .val (.int (1 : Int32)), .unset] [(.double (FP.i2d p4)), (.double (FP.i2d p4))]))
      refine own_via (fun t k => XS.dcmpS X193.here hx rfl (hb hby at_159) rfl (own_dc_eq rfl _) k) ?_
      show own_G p e below _ (T193.setTop (mkF m 160 #[.val (.int p1), .val (.int p2), .val (.int p3), .val (.int p4), .val (.int (2 : Int32)), .val (.double (FP.i2d p1)), .second, .val (.double (FP.i2d p2)), .second, .val (.double (FP.i2d p4)), .second, .val (.ref b188), .val (.int (0 : Int32)), .val (.double (FP.i2d p1)), .second, .val (.int (1 : Int32)), .val (.int (1 : Int32)), .unset] [(.int (0 : Int32))]))
      refine own_via (fun t k => XS.ifNo X193.here hx rfl (hb hby at_160) rfl ((if0 _ _).trans (teq (by decide : (0 : Int32) = (0 : Int32))).2) k) ?_
      show own_G p e below _ (T193.setTop (mkF m 163 #[.val (.int p1), .val (.int p2), .val (.int p3), .val (.int p4), .val (.int (2 : Int32)), .val (.double (FP.i2d p1)), .second, .val (.double (FP.i2d p2)), .second, .val (.double (FP.i2d p4)), .second, .val (.ref b188), .val (.int (0 : Int32)), .val (.double (FP.i2d p1)), .second, .val (.int (1 : Int32)), .val (.int (1 : Int32)), .unset] []))
      refine own_via (fun t k => XS.iload X193.here hx rfl (hb hby at_163) rfl k) ?_
      show own_G p e below _ (T193.setTop (mkF m 165 #[.val (.int p1), .val (.int p2), .val (.int p3), .val (.int p4), .val (.int (2 : Int32)), .val (.double (FP.i2d p1)), .second, .val (.double (FP.i2d p2)), .second, .val (.double (FP.i2d p4)), .second, .val (.ref b188), .val (.int (0 : Int32)), .val (.double (FP.i2d p1)), .second, .val (.int (1 : Int32)), .val (.int (1 : Int32)), .unset] [(.int (2 : Int32))]))
      refine own_via (fun t k => XS.iconst X193.here hx rfl (hb hby at_165) k) ?_
      show own_G p e below _ (T193.setTop (mkF m 166 #[.val (.int p1), .val (.int p2), .val (.int p3), .val (.int p4), .val (.int (2 : Int32)), .val (.double (FP.i2d p1)), .second, .val (.double (FP.i2d p2)), .second, .val (.double (FP.i2d p4)), .second, .val (.ref b188), .val (.int (0 : Int32)), .val (.double (FP.i2d p1)), .second, .val (.int (1 : Int32)), .val (.int (1 : Int32)), .unset] [(.int (2 : Int32)), (.int (2 : Int32))]))
      refine own_via (fun t k => XS.icmpYes X193.here hx rfl (pc0 := 166) (pc' := 179) rfl (hb hby at_166) rfl (teq (by decide : (2 : Int32) = (2 : Int32))).1 (by decide) (by decide) k) ?_
      show own_G p e below _ (T193.setTop (mkF m 179 #[.val (.int p1), .val (.int p2), .val (.int p3), .val (.int p4), .val (.int (2 : Int32)), .val (.double (FP.i2d p1)), .second, .val (.double (FP.i2d p2)), .second, .val (.double (FP.i2d p4)), .second, .val (.ref b188), .val (.int (0 : Int32)), .val (.double (FP.i2d p1)), .second, .val (.int (1 : Int32)), .val (.int (1 : Int32)), .unset] []))
      refine own_via (fun t k => XS.iconst X193.here hx rfl (hb hby at_179) k) ?_
      show own_G p e below _ (T193.setTop (mkF m 180 #[.val (.int p1), .val (.int p2), .val (.int p3), .val (.int p4), .val (.int (2 : Int32)), .val (.double (FP.i2d p1)), .second, .val (.double (FP.i2d p2)), .second, .val (.double (FP.i2d p4)), .second, .val (.ref b188), .val (.int (0 : Int32)), .val (.double (FP.i2d p1)), .second, .val (.int (1 : Int32)), .val (.int (1 : Int32)), .unset] [(.int (1 : Int32))]))
      refine own_via (fun t k => XS.goto X193.here hx rfl (pc0 := 180) (pc' := 184) rfl (hb hby at_180) (by decide) (by decide) k) ?_
      show own_G p e below _ (T193.setTop (mkF m 184 #[.val (.int p1), .val (.int p2), .val (.int p3), .val (.int p4), .val (.int (2 : Int32)), .val (.double (FP.i2d p1)), .second, .val (.double (FP.i2d p2)), .second, .val (.double (FP.i2d p4)), .second, .val (.ref b188), .val (.int (0 : Int32)), .val (.double (FP.i2d p1)), .second, .val (.int (1 : Int32)), .val (.int (1 : Int32)), .unset] [(.int (1 : Int32))]))
      refine own_via (fun t k => XS.istore X193.here hx rfl (hb hby at_184) rfl (l' := #[.val (.int p1), .val (.int p2), .val (.int p3), .val (.int p4), .val (.int (2 : Int32)), .val (.double (FP.i2d p1)), .second, .val (.double (FP.i2d p2)), .second, .val (.double (FP.i2d p4)), .second, .val (.ref b188), .val (.int (0 : Int32)), .val (.double (FP.i2d p1)), .second, .val (.int (1 : Int32)), .val (.int (1 : Int32)), .val (.int (1 : Int32))]) rfl k) ?_
      show own_G p e below _ (T193.setTop (mkF m 186 #[.val (.int p1), .val (.int p2), .val (.int p3), .val (.int p4), .val (.int (2 : Int32)), .val (.double (FP.i2d p1)), .second, .val (.double (FP.i2d p2)), .second, .val (.double (FP.i2d p4)), .second, .val (.ref b188), .val (.int (0 : Int32)), .val (.double (FP.i2d p1)), .second, .val (.int (1 : Int32)), .val (.int (1 : Int32)), .val (.int (1 : Int32))] []))
      refine own_via (fun t k => XS.iload X193.here hx rfl (hb hby at_186) rfl k) ?_
      show own_G p e below _ (T193.setTop (mkF m 188 #[.val (.int p1), .val (.int p2), .val (.int p3), .val (.int p4), .val (.int (2 : Int32)), .val (.double (FP.i2d p1)), .second, .val (.double (FP.i2d p2)), .second, .val (.double (FP.i2d p4)), .second, .val (.ref b188), .val (.int (0 : Int32)), .val (.double (FP.i2d p1)), .second, .val (.int (1 : Int32)), .val (.int (1 : Int32)), .val (.int (1 : Int32))] [(.int (1 : Int32))]))
      refine own_via (fun t k => XS.ifNo X193.here hx rfl (hb hby at_188) rfl ((if0 _ _).trans (feq (by decide : ¬ ((1 : Int32) = (0 : Int32)))).1) k) ?_
      show own_G p e below _ (T193.setTop (mkF m 191 #[.val (.int p1), .val (.int p2), .val (.int p3), .val (.int p4), .val (.int (2 : Int32)), .val (.double (FP.i2d p1)), .second, .val (.double (FP.i2d p2)), .second, .val (.double (FP.i2d p4)), .second, .val (.ref b188), .val (.int (0 : Int32)), .val (.double (FP.i2d p1)), .second, .val (.int (1 : Int32)), .val (.int (1 : Int32)), .val (.int (1 : Int32))] []))
      refine own_via (fun t k => XS.iload X193.here hx rfl (hb hby at_191) rfl k) ?_
      show own_G p e below _ (T193.setTop (mkF m 193 #[.val (.int p1), .val (.int p2), .val (.int p3), .val (.int p4), .val (.int (2 : Int32)), .val (.double (FP.i2d p1)), .second, .val (.double (FP.i2d p2)), .second, .val (.double (FP.i2d p4)), .second, .val (.ref b188), .val (.int (0 : Int32)), .val (.double (FP.i2d p1)), .second, .val (.int (1 : Int32)), .val (.int (1 : Int32)), .val (.int (1 : Int32))] [(.int (1 : Int32))]))
      refine own_via (fun t k => XS.ifNo X193.here hx rfl (hb hby at_193) rfl ((if0 _ _).trans (feq (by decide : ¬ ((1 : Int32) = (0 : Int32)))).1) k) ?_
      show own_G p e below _ (T193.setTop (mkF m 196 #[.val (.int p1), .val (.int p2), .val (.int p3), .val (.int p4), .val (.int (2 : Int32)), .val (.double (FP.i2d p1)), .second, .val (.double (FP.i2d p2)), .second, .val (.double (FP.i2d p4)), .second, .val (.ref b188), .val (.int (0 : Int32)), .val (.double (FP.i2d p1)), .second, .val (.int (1 : Int32)), .val (.int (1 : Int32)), .val (.int (1 : Int32))] []))
      refine own_via (fun t k => XS.iload X193.here hx rfl (hb hby at_196) rfl k) ?_
      show own_G p e below _ (T193.setTop (mkF m 198 #[.val (.int p1), .val (.int p2), .val (.int p3), .val (.int p4), .val (.int (2 : Int32)), .val (.double (FP.i2d p1)), .second, .val (.double (FP.i2d p2)), .second, .val (.double (FP.i2d p4)), .second, .val (.ref b188), .val (.int (0 : Int32)), .val (.double (FP.i2d p1)), .second, .val (.int (1 : Int32)), .val (.int (1 : Int32)), .val (.int (1 : Int32))] [(.int (1 : Int32))]))
      refine own_via (fun t k => XS.ifNo X193.here hx rfl (hb hby at_198) rfl ((if0 _ _).trans (feq (by decide : ¬ ((1 : Int32) = (0 : Int32)))).1) k) ?_
      show own_G p e below _ (T193.setTop (mkF m 201 #[.val (.int p1), .val (.int p2), .val (.int p3), .val (.int p4), .val (.int (2 : Int32)), .val (.double (FP.i2d p1)), .second, .val (.double (FP.i2d p2)), .second, .val (.double (FP.i2d p4)), .second, .val (.ref b188), .val (.int (0 : Int32)), .val (.double (FP.i2d p1)), .second, .val (.int (1 : Int32)), .val (.int (1 : Int32)), .val (.int (1 : Int32))] []))
      refine own_via (fun t k => XS.iconst X193.here hx rfl (hb hby at_201) k) ?_
      show own_G p e below _ (T193.setTop (mkF m 202 #[.val (.int p1), .val (.int p2), .val (.int p3), .val (.int p4), .val (.int (2 : Int32)), .val (.double (FP.i2d p1)), .second, .val (.double (FP.i2d p2)), .second, .val (.double (FP.i2d p4)), .second, .val (.ref b188), .val (.int (0 : Int32)), .val (.double (FP.i2d p1)), .second, .val (.int (1 : Int32)), .val (.int (1 : Int32)), .val (.int (1 : Int32))] [(.int (1 : Int32))]))
      refine own_via (fun t k => XS.goto X193.here hx rfl (pc0 := 202) (pc' := 206) rfl (hb hby at_202) (by decide) (by decide) k) ?_
      show own_G p e below _ (T193.setTop (mkF m 206 #[.val (.int p1), .val (.int p2), .val (.int p3), .val (.int p4), .val (.int (2 : Int32)), .val (.double (FP.i2d p1)), .second, .val (.double (FP.i2d p2)), .second, .val (.double (FP.i2d p4)), .second, .val (.ref b188), .val (.int (0 : Int32)), .val (.double (FP.i2d p1)), .second, .val (.int (1 : Int32)), .val (.int (1 : Int32)), .val (.int (1 : Int32))] [(.int (1 : Int32))]))
      obtain ⟨fs, hr, hrun, hended, hW, hsame⟩ := X193.leave (v := some (.int (1 : Int32))) (fun h => by rw [Bd.returns] at h; cases h)
      refine ⟨_, _, retN X193 hx (t := .boolean) Bd.returns (by simp) (hb hby at_206) hr, hrun, hended, _, _, rfl, ?_, ⟨_, rfl⟩, hW, hsame.mono (by decide) (by decide)⟩
      show rm0_Q Z p1 p2 p3 p4 h0 n0 _ T193.heap _
      exact ⟨rfl, N193⟩

set_option maxRecDepth 65536 in
set_option maxHeartbeats 40000000 in
theorem comes_1 {Post : Tables → Env → Array Value → State → Outcome → State → Prop} (hpost : ∀ tb e args s v u, (limb_1_1.after args s (.returned v) u = true ∧ limb_1_2.after args s (.returned v) u = true ∧ True) → FrameEnd s (.returned v) u (Jvm.fieldLocs frame_1_writes args s ++ Jvm.arrayLocs frame_1_arrays args s ++ Jvm.staticLocs frame_1_statics s) 16 128 → Post tb e args s (.returned v) u) :
    ArmFor flags0 classFile x code maxLocals ret World_1 tables_1 room_1 Calls_1 rest_1 Pre_1 Post := by
  intro l hfl _ _ p e ha hc hk s m args below hf hA hF happ hP
  obtain ⟨hcalls, hrest, hpre⟩ := hP
  obtain ⟨-, -, -, hnamed, -, -, -, hat⟩ := (Spec.applies_iff hf).mp happ
  obtain ⟨hg, hn⟩ := and_e (Cond.before_iff.mp (show (Jvm.Cond.and given_1 narrow_1).before args s = true from hpre))
  obtain ⟨gg1, gg2⟩ := and_e hg
  obtain ⟨gg3, gg4⟩ := and_e gg2
  obtain ⟨gg5, gg6⟩ := and_e gg4
  obtain ⟨gg7, gg8⟩ := and_e gg6
  obtain ⟨w0, w1, w2, w3, rfl⟩ : ∃ w0 w1 w2 w3 : Value, args = #[w0, w1, w2, w3] := by
    have hs : args.size = 4 := by simpa [Cond.value, given_1] using gg1
    obtain ⟨L⟩ := args
    match L, hs with
    | [w0, w1, w2, w3], _ => exact ⟨w0, w1, w2, w3, rfl⟩
  have hw := fun d (hd : d ∈ tables_1) => atoms_spec (ws := Jvm.Cond.code x code maxLocals ret :: tables_1) hat d (List.mem_cons_of_mem _ hd)
  obtain ⟨i0, ei0⟩ := is_v gg3
  obtain rfl : w0 = (.int i0) := Option.some.inj ei0
  obtain ⟨i1, ei1⟩ := is_v gg5
  obtain rfl : w1 = (.int i1) := Option.some.inj ei1
  obtain ⟨i2, ei2⟩ := is_v gg7
  obtain rfl : w2 = (.int i2) := Option.some.inj ei2
  obtain ⟨i3, ei3⟩ := is_v gg8
  obtain rfl : w3 = (.int i3) := Option.some.inj ei3
  obtain ⟨n, o, h1, h2, h3, _, L, rfl, ⟨rfl, N⟩, hq⟩ := rm0 l s _ hw tables_1 i0 i1 i2 i3 s.heap s.heap.size (Nat.le_refl _) p e ha hc hk s m _ below hf ((Spec.applies_iff_loose hf).mp happ).1 ⟨rfl, State.Warmed39.refl s, rfl⟩ trivial
  refine ⟨n, _, h1, h2, h3, hpost _ _ _ _ _ _ ⟨Cond.after_iff.mpr rfl, Cond.after_iff.mpr (eq_i res_at (Term.int_eval (1)) rfl), trivial⟩ ⟨hq.1, hq.2.1, (hq.2.2.sift fun y hy => Or.inr (N y hy)).mono (by decide) (by decide)⟩⟩
theorem main_1_1 : Claimed_1_1 := comes_1 fun _ _ _ _ _ _ h hF => ⟨h.1, hF⟩
theorem main_1_2 : Claimed_1_2 := comes_1 fun _ _ _ _ _ _ h hF => ⟨h.2.1, hF⟩

end Jvm.Pilot.@@N@@
namespace Jvm.Pilot.@@N@@
open Jvm Jvm.ClassFile Sem Op Lib Jvm.Free Jvm.Stand Jvm.Pilot.@@N@@.Jvm.D
/-! MADE BY PROGRAM (witnessworld.py) out of the Statement's table words and the real class files: 11 classes; the members and pool entries that the words name. The judged class is class 1, her method 1. -/
namespace start1
open Jvm.ClassFile
def u (s : String) : CpInfo := .utf8 (stringToUtf16 s)
/-- a pool by its gaps: so many unusable entries, then the entry; so many at the end -/
def gap : Nat → List CpInfo → List CpInfo
  | 0, r => r
  | n + 1, r => .unusable :: gap n r
def poolList (es : List (Nat × CpInfo)) (last : Nat) : List CpInfo := es.foldr (fun e r => gap e.1 (e.2 :: r)) (gap last [])
def pool (es : List (Nat × CpInfo)) (last : Nat) : Array CpInfo := ⟨poolList es last⟩
def fileOf (pool : Array CpInfo) (this : Nat) (attrs : Array Attribute := #[]) (ms : Array MethodInfo := #[]) (fl : Nat := 33) (sup : Nat := 0) (ifs : Array Nat := #[]) (fds : Array FieldInfo := #[]) : ClassFile where
  minorVersion := 0
  majorVersion := 65
  constantPool := pool
  accessFlags := fl
  thisClass := this
  superClass := sup
  interfaces := ifs
  fields := fds
  methods := ms
  attributes := attrs
def plain (name : String) (sup : Option ClassId) : Class where
  name := name
  kind := .ordinary
  loader := none
  accessFlags := 33
  super := sup
  interfaces := #[]
  cf := none
  fields := #[]
  methods := #[]
  instanceTypes := #[]
  staticTypes := #[]
  resolved := #[]
  callSites := []
  init := .initialized
  statics := none
  mirror := none

def pool0 : Array CpInfo := pool [(5, u "<init>"), (0, u "()V"), (1, .class_ 10), (1, u "java/lang/Object")] 113

def k0m0 : Method := { name := "<init>", desc := "()V", sig := { parameters := [], returnType := none }, accessFlags := 1, code := none }
/-- java/lang/Object -/
def k0 : Class := { plain "java/lang/Object" none with
  accessFlags := 33
  interfaces := #[]
  cf := some (fileOf pool0 8 #[] #[{ accessFlags := 1, nameIndex := 5, descriptorIndex := 6, attributes := #[] }] 33 0 #[] #[])
  fields := #[]
  methods := #[k0m0]
  instanceTypes := #[]
  staticTypes := #[]
  resolved := Array.replicate 124 none
  statics := none }

def pool1 : Array CpInfo := pool [(2, .class_ 4), (1, u "java/lang/Object"), (0, u "<init>"), (0, u "()V"), (0, .integer 2147483647), (0, .methodref 9 10), (0, .class_ 11), (0, .nameAndType 12 13), (0, u "com/example/odds2/odds2/engine/Bounds"), (0, u "tightenUpper"), (0, u "([DID)Z"), (0, .class_ 15), (0, u "com/example/odds2/odds2/engine/BoundsTightenUpperPinLaw"), (2, u "law"), (0, u "(IIII)Z")] 5

def k1m0 : Method := { name := "<init>", desc := "()V", sig := { parameters := [], returnType := none }, accessFlags := 1, code := none }
def k1c1 : Code := { maxStack := 5, maxLocals := 18, code := code, exceptionTable := #[], attributes := #[] }
def k1m1 : Method := { name := "law", desc := "(IIII)Z", sig := { parameters := [.int, .int, .int, .int], returnType := some .boolean }, accessFlags := 9, code := some k1c1 }
/-- com/example/odds2/odds2/engine/BoundsTightenUpperPinLaw -/
def k1 : Class := { plain "com/example/odds2/odds2/engine/BoundsTightenUpperPinLaw" (some 0) with
  accessFlags := 49
  interfaces := #[]
  cf := some (fileOf pool1 14 #[] #[{ accessFlags := 1, nameIndex := 5, descriptorIndex := 6, attributes := #[] }, { accessFlags := 9, nameIndex := 18, descriptorIndex := 19, attributes := #[] }] 49 2 #[] #[])
  fields := #[]
  methods := #[k1m0, k1m1]
  instanceTypes := #[]
  staticTypes := #[]
  resolved := Array.replicate 25 none
  statics := none }

def pool2 : Array CpInfo := pool [(2, .class_ 4), (1, u "java/lang/Object"), (19, .class_ 26), (1, u "com/example/odds2/odds2/engine/Bounds"), (0, u "lower"), (0, u "D"), (2, u "upper"), (44, u "([DID)Z"), (0, u "tightenUpper")] 21

def k2c0 : Code := { maxStack := 4, maxLocals := 5, code := prog_7_method_7_code, exceptionTable := #[], attributes := #[] }
def k2m0 : Method := { name := "tightenUpper", desc := "([DID)Z", sig := { parameters := [(.array .double), .int, .double], returnType := some .boolean }, accessFlags := 8, code := some k2c0 }
/-- com/example/odds2/odds2/engine/Bounds -/
def k2 : Class := { plain "com/example/odds2/odds2/engine/Bounds" (some 0) with
  accessFlags := 49
  interfaces := #[]
  cf := some (fileOf pool2 24 #[] #[{ accessFlags := 8, nameIndex := 77, descriptorIndex := 76, attributes := #[] }] 49 2 #[] #[{ accessFlags := 18, nameIndex := 27, descriptorIndex := 28, attributes := #[] }, { accessFlags := 18, nameIndex := 31, descriptorIndex := 28, attributes := #[] }])
  fields := #[{ name := "lower", type := .double, accessFlags := 18, slot := 0, constantValue := 0 }, { name := "upper", type := .double, accessFlags := 18, slot := 1, constantValue := 0 }]
  methods := #[k2m0]
  instanceTypes := #[.double, .double]
  staticTypes := #[]
  resolved := Array.replicate 99 none
  statics := none }

def pool3 : Array CpInfo := pool [(1, u "java/lang/Cloneable"), (0, .class_ 1), (0, u "java/lang/Object"), (0, .class_ 3)] 3

/-- java/lang/Cloneable -/
def k3 : Class := { plain "java/lang/Cloneable" (some 0) with
  accessFlags := 1537
  interfaces := #[]
  cf := some (fileOf pool3 2 #[] #[] 1537 4 #[] #[])
  fields := #[]
  methods := #[]
  instanceTypes := #[]
  staticTypes := #[]
  resolved := Array.replicate 8 none
  statics := none }

def pool4 : Array CpInfo := pool [(1, u "java/io/Serializable"), (0, .class_ 1), (0, u "java/lang/Object"), (0, .class_ 3)] 3

/-- java/io/Serializable -/
def k4 : Class := { plain "java/io/Serializable" (some 0) with
  accessFlags := 1537
  interfaces := #[]
  cf := some (fileOf pool4 2 #[] #[] 1537 4 #[] #[])
  fields := #[]
  methods := #[]
  instanceTypes := #[]
  staticTypes := #[]
  resolved := Array.replicate 8 none
  statics := none }

/-- the primitive byte -/
def k5 : Class := { plain "byte" none with kind := .primitive 'B', accessFlags := 0x411 }
/-- [B -/
def k6 : Class := { plain "[B" (some 0) with kind := .array 5 .byte, interfaces := #[3, 4], accessFlags := 1041 }

/-- the primitive double -/
def k7 : Class := { plain "double" none with kind := .primitive 'D', accessFlags := 0x411 }
/-- [D -/
def k8 : Class := { plain "[D" (some 0) with kind := .array 7 .double, interfaces := #[3, 4], accessFlags := 1041 }

/-- the primitive int -/
def k9 : Class := { plain "int" none with kind := .primitive 'I', accessFlags := 0x411 }
/-- [I -/
def k10 : Class := { plain "[I" (some 0) with kind := .array 9 .int, interfaces := #[3, 4], accessFlags := 1041 }

def heap : Heap := #[]
def classes : Array Class := #[k0, k1, k2, k3, k4, k5, k6, k7, k8, k9, k10]
def interned : List (Array UInt16 × Addr) := []
def slotsUsed : Nat := 0
def theMethod : MethodId := ⟨1, 1⟩
def args0 : Array Value := #[.int 1, .int 2, .int 3, .int 4]
def aboutOver (below : List Frame) : State where
  vm := { classes := classes, interned := interned.toArray }
  heap := heap
  slotsUsed := slotsUsed
  threads := #[{ frames := .invoking theMethod args0 :: below }]
def below0 : List Frame := [.native { method := ⟨0, 0⟩, args := #[] }]
def about1 : State := aboutOver below0
def p0 : Program := .bare "" "" ""
def e0 : Env := launch0.env 0 0 0
theorem w_frames : about1.frames = Frame.invoking theMethod args0 :: below0 := rfl
set_option maxRecDepth 65536 in
theorem w_args : argsFit about1.vm theMethod args0 = true := by decide +kernel
set_option maxRecDepth 65536 in
theorem w_heap : heapFits about1 = true := by decide +kernel
set_option maxRecDepth 65536 in
theorem w_runnable : about1.curStatus? = some .runnable := by decide +kernel
set_option maxRecDepth 65536 in
theorem w_alone : about1.alone = true := by decide +kernel
set_option maxRecDepth 65536 in
theorem w_named : about1.methodNamed? x = some theMethod := by decide +kernel
set_option maxRecDepth 65536 in
theorem w_hears : about1.hears theMethod below0 = true := by decide +kernel
set_option maxRecDepth 65536 in
theorem w_ripe : about1.ripe theMethod args0 below0 = true := by decide +kernel
theorem w_running : about1.status = .running := rfl
set_option maxRecDepth 65536 in
theorem w_room : about1.hasRoom e0.platform room_1 = true :=
  launch0.hasRoom_least _ room_1 (by decide +kernel) (by decide +kernel) (by decide +kernel) (by decide +kernel) (by decide +kernel) (by decide +kernel)
theorem allAtoms_all (ts : List Jvm.Cond) (a : Array Jvm.Value) (st : Jvm.State) : (allAtoms ts).before a st = ts.all (fun c => c.before a st) := by
  induction ts with
  | nil => rfl
  | cons c t ih =>
    show (Jvm.Cond.and c (allAtoms t)).before a st = _
    rw [Jvm.Cond.before_and, ih, List.all_cons]
def words1 : List Jvm.Cond := Jvm.Cond.code x code maxLocals ret :: tables_1
/-- a 'code' word, met by the world's own term for the bytes: nothing is compared byte by byte -/
theorem code_word {y : MethodName} {bytes : ByteArray} {mx : Nat} {rt : Option FieldType} {a : Array Value} {s : State} {m : MethodId} {meth : Method} {c : Code} (h1 : s.methodNamed? y = some m) (h2 : s.vm.method? m = some meth) (h3 : meth.code = some c) (h4 : c.code = bytes)
    (h5 : (c.maxLocals == mx && c.exceptionTable.isEmpty && decide (c.maxStack ≤ mostOperands) && decide (meth.sig.returnType = rt) && !meth.locks && decide (parseMethodDescriptor y.desc = some meth.sig)) = true) : (Jvm.Cond.code y bytes mx rt).before a s = true := by
  simp only [Bool.and_eq_true, beq_iff_eq, Bool.not_eq_true', decide_eq_true_eq] at h5
  obtain ⟨⟨⟨⟨⟨g1, g2⟩, g3⟩, g4⟩, g5⟩, g6⟩ := h5
  simp [Cond.before, Cond.holds, Cond.value, h1, h2, h3, h4, g1, g2, g3, g4, g5, g6]
def isCode : Jvm.Cond → Bool
  | .code _ _ _ _ => true
  | _ => false
theorem all_split {L : List Jvm.Cond} {P : Jvm.Cond → Bool} (h1 : L.all (fun c => isCode c || P c) = true) (h2 : ∀ c ∈ L.filter isCode, P c = true) : L.all P = true := by
  refine List.all_eq_true.mpr fun c hc => ?_
  have h := List.all_eq_true.mp h1 c hc
  rcases Bool.eq_false_or_eq_true (isCode c) with hi | hi
  · exact h2 c (List.mem_filter.mpr ⟨hc, hi⟩)
  · simpa [hi] using h
set_option maxRecDepth 65536 in
theorem w_c0 : (Jvm.Cond.code x code maxLocals ret).before args0 about1 = true := code_word (m := ⟨1, 1⟩) (meth := k1m1) (c := k1c1) (by decide +kernel) rfl rfl rfl (by decide +kernel)
set_option maxRecDepth 65536 in
theorem w_c1 : (Jvm.Cond.code ({ cls := "com/example/odds2/odds2/engine/Bounds", name := "tightenUpper", desc := "([DID)Z" } : Jvm.MethodName) prog_7_method_7_code (5 : Nat) (Option.some Jvm.ClassFile.FieldType.boolean)).before args0 about1 = true := code_word (m := ⟨2, 0⟩) (meth := k2m0) (c := k2c0) (by decide +kernel) rfl rfl rfl (by decide +kernel)
def codes1 : List Jvm.Cond := [Jvm.Cond.code x code maxLocals ret, Jvm.Cond.code ({ cls := "com/example/odds2/odds2/engine/Bounds", name := "tightenUpper", desc := "([DID)Z" } : Jvm.MethodName) prog_7_method_7_code (5 : Nat) (Option.some Jvm.ClassFile.FieldType.boolean)]
set_option maxRecDepth 65536 in
theorem codes_eq : words1.filter isCode = codes1 := rfl
theorem w_codes : ∀ c ∈ words1.filter isCode, c.before args0 about1 = true := by
  rw [codes_eq]
  intro c hc
  simp only [codes1, List.mem_cons, List.not_mem_nil, or_false] at hc
  rcases hc with rfl | rfl
  · exact w_c0
  · exact w_c1
set_option maxRecDepth 65536 in
theorem w_t1 : words1.all (fun c => isCode c || c.before args0 about1) = true := by decide +kernel
theorem w_tables : (allAtoms (Jvm.Cond.code x code maxLocals ret :: tables_1)).before args0 about1 = true := by
  rw [allAtoms_all]
  show words1.all (fun c => c.before args0 about1) = true
  refine all_split ?_ w_codes
  rw [w_t1]
set_option maxRecDepth 65536 in
theorem w_case : (Jvm.Cond.and given_1 narrow_1).before args0 about1 = true := by decide +kernel
theorem w_applies : (headSpec (Jvm.Cond.code x code maxLocals ret :: tables_1) room_1).applies x e0.platform about1 = true :=
  (Spec.applies_iff w_frames).mpr ⟨w_running, w_runnable, w_alone, w_named, w_hears, w_ripe, w_room, w_tables⟩
theorem atStart : AtStart classFile x code maxLocals ret World_1 tables_1 room_1 Calls_1 rest_1 Pre_1 launch0 p0 e0 about1 theMethod args0 below0 :=
  ⟨lists_1, trivial, launch0.admits_env _ _ _, launch0.least_env, fairChoices_fair.cas, fairChoices_fair.clock, w_frames, w_args, w_heap, w_applies, trivial, trivial, w_case⟩
end start1
theorem witness_1 : WitnessClaimed_1 := ⟨start1.p0, start1.e0, start1.about1, start1.theMethod, start1.args0, start1.below0, start1.atStart⟩
end Jvm.Pilot.@@N@@
