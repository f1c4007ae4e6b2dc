import JvmDerived
import JvmDerived.Pilot.@@N@@Statement
import JvmDerived.Pilot.@@N@@Code
set_option linter.unusedVariables false
set_option linter.unusedSimpArgs false
@@BLOCK:NumsL.lean.txt@@
namespace Jvm.Pilot.@@N@@
open Jvm Jvm.ClassFile Sem Op Lib Jvm.Free Jvm.Stand Jvm.LawKit Jvm.RoadKit Bundle Jvm.Pilot.@@N@@.Jvm.D

def own_G (p : Program) (e : Env) (below : List Frame) (B : State → Outcome → Prop) (U : State) : Prop := ∃ t o, Steps p.tables e below U t ∧ t.status = .running ∧ Ended t below o ∧ B t o
theorem own_via {p : Program} {e : Env} {below : List Frame} {B : State → Outcome → Prop} {U U' : State} (h : ∀ t, Steps p.tables e below U' t → Steps p.tables e below U t) (k : own_G p e below B U') : own_G p e below B U := by
  obtain ⟨t, o, a, r⟩ := k
  exact ⟨t, o, h t a, r⟩
theorem own_start {p : Program} {e : Env} {below : List Frame} {B : State → Outcome → Prop} {U : State} (k : own_G p e below B U) : ∃ t o, Steps p.tables e below U t ∧ t.status = .running ∧ Ended t below o ∧ B t o := k

theorem own_b53 (a : Int32) : B53 a.toInt64 := by
  unfold B53; rw [Int32.toInt_toInt64]
  have := a.toInt_lt; have := a.le_toInt
  omega
theorem own_dc (a b : Int32) (o : CmpOp) : cmpValue (FP.dcmp (FP.i2d a) (FP.i2d b)) o = lcmpV a.toInt64 b.toInt64 := by rw [i2d_w, i2d_w, dcmpV_w (own_b53 a) (own_b53 b) o, lcW]
theorem own_i64lt {a b : Int32} : a.toInt64 < b.toInt64 ↔ a < b := by rw [Int64.lt_iff_toInt_lt, Int32.lt_iff_toInt_lt, Int32.toInt_toInt64, Int32.toInt_toInt64]
theorem own_dc_eq {a b : Int32} (h : a = b) (o : CmpOp) : cmpValue (FP.dcmp (FP.i2d a) (FP.i2d b)) o = (0 : Int32) := by rw [own_dc, lc_eq, h]
theorem own_dc_gt {a b : Int32} (h : b < a) (o : CmpOp) : cmpValue (FP.dcmp (FP.i2d a) (FP.i2d b)) o = (1 : Int32) := by
  rw [own_dc]; unfold lcmpV; rw [if_pos (own_i64lt.mpr h)]
theorem own_dc_lt {a b : Int32} (h : a < b) (o : CmpOp) : cmpValue (FP.dcmp (FP.i2d a) (FP.i2d b)) o = (-1 : Int32) := by
  rw [own_dc]; unfold lcmpV
  have q := own_i64lt.mpr h
  have q1 : ¬ (a.toInt64 > b.toInt64) := fun z => Int64.lt_irrefl (Int64.lt_trans q z)
  have q2 : ¬ (a.toInt64 = b.toInt64) := fun z => Int64.lt_irrefl (z ▸ q)
  rw [if_neg q1]; simp [q2]
theorem own_mod3 (p : Int32) : (p &&& (2147483647 : Int32)) % (3 : Int32) = 0 ∨ (p &&& (2147483647 : Int32)) % (3 : Int32) = 1 ∨ (p &&& (2147483647 : Int32)) % (3 : Int32) = 2 := by
  have e : (p &&& 2147483647).toInt = p.toInt % 2 ^ 31 := Jvm.Kit.i32_mask p 2147483647 (k := 31) (by decide) (by decide)
  have r := Jvm.Kit.i32_rem_nonneg (x := p &&& 2147483647) (y := 3) (by rw [e]; omega)
  generalize (p &&& 2147483647) % 3 = y at *
  have q : ∀ k : Int32, (y = k) ↔ (y.toInt = k.toInt) := fun k => Int32.toInt_inj.symm
  simp only [q]
  rw [show (0 : Int32).toInt = 0 from by decide, show (1 : Int32).toInt = 1 from by decide, show (2 : Int32).toInt = 2 from by decide]
  rw [show (3 : Int32).toInt = 3 from by decide] at r
  omega
theorem own_tri (a b : Int32) : a < b ∨ a = b ∨ b < a := by
  rw [Int32.lt_iff_toInt_lt, Int32.lt_iff_toInt_lt, ← Int32.toInt_inj]; omega
def own_max (a b : Int32) : Int32 := if a < b then b else a

theorem d1_0 : decode prog_7_method_6_code 0 = .ok (.dload_n 2, 1) := by decide +kernel
theorem d1_1 : decode prog_7_method_6_code 1 = .ok (.aload_n 0, 1) := by decide +kernel
theorem d1_2 : decode prog_7_method_6_code 2 = .ok (.iload_n 1, 1) := by decide +kernel
theorem d1_3 : decode prog_7_method_6_code 3 = .ok (.daload, 1) := by decide +kernel
theorem d1_4 : decode prog_7_method_6_code 4 = .ok (.dcmp .l, 1) := by decide +kernel
theorem d1_5 : decode prog_7_method_6_code 5 = .ok (.ifCond .le 7, 3) := by decide +kernel
theorem d1_8 : decode prog_7_method_6_code 8 = .ok (.iconst 1, 1) := by decide +kernel
theorem d1_9 : decode prog_7_method_6_code 9 = .ok (.goto 4, 3) := by decide +kernel
theorem d1_12 : decode prog_7_method_6_code 12 = .ok (.iconst 0, 1) := by decide +kernel
theorem d1_13 : decode prog_7_method_6_code 13 = .ok (.istore 4, 2) := by decide +kernel
theorem d1_15 : decode prog_7_method_6_code 15 = .ok (.iload 4, 2) := by decide +kernel
theorem d1_17 : decode prog_7_method_6_code 17 = .ok (.ifCond .eq 7, 3) := by decide +kernel
theorem d1_20 : decode prog_7_method_6_code 20 = .ok (.aload_n 0, 1) := by decide +kernel
theorem d1_21 : decode prog_7_method_6_code 21 = .ok (.iload_n 1, 1) := by decide +kernel
theorem d1_22 : decode prog_7_method_6_code 22 = .ok (.dload_n 2, 1) := by decide +kernel
theorem d1_23 : decode prog_7_method_6_code 23 = .ok (.dastore, 1) := by decide +kernel
theorem d1_24 : decode prog_7_method_6_code 24 = .ok (.iload 4, 2) := by decide +kernel
theorem d1_26 : decode prog_7_method_6_code 26 = .ok (.ireturn, 1) := by decide +kernel
theorem rm1_0lt_pn : plainName "com/example/odds2/odds2/engine/Bounds" = true := by first | (simp [plainName, overriddenIn]; done) | decide +kernel
theorem rm1_0lt_ef (m : MethodId) (z0 : Addr) (z1 : Int32) (z2 : UInt64) : entryFrame m #[(.ref z0), (.int z1), (.double z2)] 5 = mkF m 0 #[.val (.ref z0), .val (.int z1), .val (.double z2), .second, .unset] [] := by first | (simp [entryFrame, mkF, argsToLocals, Value.category]; done) | rfl
def rm1_0lt_Q (Z : State) (a1 : Addr) (x0 : Int32) (x1 : Int32) (x2 : Int32) (b : Int32) (kc : ClassId) (h0 : Heap) (n0 : Nat) (v : Option Value) (h : Heap) (L : List Loc) : Prop := v = some (.int (0 : Int32)) ∧ Fr n0 L ∧ Keep h0 h [a1] ∧ Arv Z h a1 kc .double (3 : Int32) [(.double (FP.i2d x0)), (.double (FP.i2d x1)), (.double (FP.i2d x2))] (.double (0 : UInt64))
set_option maxRecDepth 65536 in
set_option maxHeartbeats 40000000 in
theorem rm1_0lt (l : Launch) (Z : State) (a0 : Array Value) (hw : ∀ d ∈ tables_1, d.before a0 Z = true) (ws : List Jvm.Cond) (a1 : Addr) (x0 : Int32) (x1 : Int32) (x2 : Int32) (b : Int32) (kc : ClassId) (h0 : Heap) (n0 : Nat) (Z0 : n0 ≤ h0.size) (V0 : Arv Z h0 a1 kc .double (3 : Int32) [(.double (FP.i2d x0)), (.double (FP.i2d x1)), (.double (FP.i2d x2))] (.double (0 : UInt64))) (gx_a1 : n0 ≤ a1) (hob : b < x0) :
    MetFree l (⟨"com/example/odds2/odds2/engine/Bounds", "tightenLower", "([DID)Z"⟩ : MethodName) (head1 (Jvm.Cond.code (⟨"com/example/odds2/odds2/engine/Bounds", "tightenLower", "([DID)Z"⟩ : MethodName) prog_7_method_6_code 5 (some .boolean) :: ws) ({ frames := 0, cells := 0, slots := 0, locals := 0 } : Room)) (fun a U => a = #[(.ref a1), (.int (0 : Int32)), (.double (FP.i2d b))] ∧ Z.Warmed39 U.vm ∧ U.heap = h0) (fun _ _ _ _ _ => True) (fun _ U o U' => ∃ v L, o = .returned v ∧ rm1_0lt_Q Z a1 x0 x1 x2 b kc h0 n0 v U'.heap L ∧ FrameEnd U o U' L ({ frames := 0, cells := 0, slots := 0, locals := 0 } : Room).cells ({ frames := 0, cells := 0, slots := 0, locals := 0 } : Room).slots) := by
  refine MetFree.of_bodySF (plainFor_of_name rm1_0lt_pn) hisR ?_
  intro p e s m args below meth c s₁ Bd hml0 hP hK
  obtain ⟨rfl, hZ, hh⟩ := hP
  have hx := Bd.exec
  have hby := Bd.bytes
  have hml : c.maxLocals = 5 := hml0
  have hown : s.vm.findClass "com/example/odds2/odds2/engine/Bounds" = some m.cls := findClass_of_methodNamed Bd.named
  have hnm := (name_of_methodNamed Bd.named Bd.method).1
  have X0 : Stand p l e ({ frames := 0, cells := 0, slots := 0, locals := 0 } : Room) s m #[(.ref a1), (.int (0 : Int32)), (.double (FP.i2d b))] below meth c s₁ [] 0 0 := Stand.of_body Bd
  have e0 : s₁.heap = h0 := by rw [← hh, Bd.state]; rfl
  have N0 := Fr.nil n0
  refine own_via (fun t k => castTop (rm1_0lt_ef m a1 (0 : Int32) (FP.i2d b)) k) ?_
  have K0 := Keep.refl h0 [a1]
  show own_G p e below _ (s₁.setTop (mkF m 0 #[.val (.ref a1), .val (.int (0 : Int32)), .val (.double (FP.i2d b)), .second, .unset] []))
  refine own_via (fun t k => XS.dloadN X0.here hx rfl (hb hby d1_0) rfl k) ?_
  show own_G p e below _ (s₁.setTop (mkF m 1 #[.val (.ref a1), .val (.int (0 : Int32)), .val (.double (FP.i2d b)), .second, .unset] [(.double (FP.i2d b))]))
  refine own_via (fun t k => XS.aloadN X0.here hx rfl (hb hby d1_1) rfl rfl k) ?_
  show own_G p e below _ (s₁.setTop (mkF m 2 #[.val (.ref a1), .val (.int (0 : Int32)), .val (.double (FP.i2d b)), .second, .unset] [(.ref a1), (.double (FP.i2d b))]))
  refine own_via (fun t k => XS.iloadN X0.here hx rfl (hb hby d1_2) rfl k) ?_
  show own_G p e below _ (s₁.setTop (mkF m 3 #[.val (.ref a1), .val (.int (0 : Int32)), .val (.double (FP.i2d b)), .second, .unset] [(.int (0 : Int32)), (.ref a1), (.double (FP.i2d b))]))
  obtain ⟨cl1, Ar1, q1, S1, Ng1, Hs1, G1⟩ := id V0
  have hin1 : ¬ ((0 : Int32) < 0 ∨ cl1.slots.size ≤ ((0 : Int32)).toNatClampNeg) := inb_of S1 ⟨by decide, by decide⟩
  have hat1 : cl1.slots[((0 : Int32)).toNatClampNeg]? = some (.double (FP.i2d x0)) := Hs1.at hin1 rfl
  refine own_via (fun t k => X0.daload hx (j := (0 : Int32)) (v := (.double (FP.i2d x0))) (by rw [e0]; exact Ar1.1) (State.isArrayOf_alike hZ.alike Ar1.2.1) Ar1.2.2 hin1 hat1 (g := (mkF m 3 #[.val (.ref a1), .val (.int (0 : Int32)), .val (.double (FP.i2d b)), .second, .unset] [(.int (0 : Int32)), (.ref a1), (.double (FP.i2d b))])) rfl rfl (hb hby d1_3) _ k) ?_
  show own_G p e below _ (s₁.setTop (mkF m 4 #[.val (.ref a1), .val (.int (0 : Int32)), .val (.double (FP.i2d b)), .second, .unset] [(.double (FP.i2d x0)), (.double (FP.i2d b))]))
  refine own_via (fun t k => XS.dcmpS X0.here hx rfl (hb hby d1_4) rfl (own_dc_lt hob _) k) ?_
  show own_G p e below _ (s₁.setTop (mkF m 5 #[.val (.ref a1), .val (.int (0 : Int32)), .val (.double (FP.i2d b)), .second, .unset] [(.int (-1 : Int32))]))
  refine own_via (fun t k => XS.ifYes X0.here hx rfl (pc0 := 5) (pc' := 12) rfl (hb hby d1_5) rfl ((if0 _ _).trans (flt (by decide : ¬ ((0 : Int32) < (-1 : Int32)))).2.2.2) (by decide) (by decide) k) ?_
  show own_G p e below _ (s₁.setTop (mkF m 12 #[.val (.ref a1), .val (.int (0 : Int32)), .val (.double (FP.i2d b)), .second, .unset] []))
  refine own_via (fun t k => XS.iconst X0.here hx rfl (hb hby d1_12) k) ?_
  show own_G p e below _ (s₁.setTop (mkF m 13 #[.val (.ref a1), .val (.int (0 : Int32)), .val (.double (FP.i2d b)), .second, .unset] [(.int (0 : Int32))]))
  refine own_via (fun t k => XS.istore X0.here hx rfl (hb hby d1_13) rfl (l' := #[.val (.ref a1), .val (.int (0 : Int32)), .val (.double (FP.i2d b)), .second, .val (.int (0 : Int32))]) rfl k) ?_
  show own_G p e below _ (s₁.setTop (mkF m 15 #[.val (.ref a1), .val (.int (0 : Int32)), .val (.double (FP.i2d b)), .second, .val (.int (0 : Int32))] []))
  refine own_via (fun t k => XS.iload X0.here hx rfl (hb hby d1_15) rfl k) ?_
  show own_G p e below _ (s₁.setTop (mkF m 17 #[.val (.ref a1), .val (.int (0 : Int32)), .val (.double (FP.i2d b)), .second, .val (.int (0 : Int32))] [(.int (0 : Int32))]))
  refine own_via (fun t k => XS.ifYes X0.here hx rfl (pc0 := 17) (pc' := 24) rfl (hb hby d1_17) rfl ((if0 _ _).trans (teq (by decide : (0 : Int32) = (0 : Int32))).1) (by decide) (by decide) k) ?_
  show own_G p e below _ (s₁.setTop (mkF m 24 #[.val (.ref a1), .val (.int (0 : Int32)), .val (.double (FP.i2d b)), .second, .val (.int (0 : Int32))] []))
  refine own_via (fun t k => XS.iload X0.here hx rfl (hb hby d1_24) rfl k) ?_
  show own_G p e below _ (s₁.setTop (mkF m 26 #[.val (.ref a1), .val (.int (0 : Int32)), .val (.double (FP.i2d b)), .second, .val (.int (0 : Int32))] [(.int (0 : Int32))]))
  obtain ⟨fs, hr, hrun, hended, hW, hsame⟩ := X0.leave (v := some (.int (0 : Int32))) (fun h => by rw [Bd.returns] at h; cases h)
  refine ⟨_, _, retN X0 hx (t := .boolean) Bd.returns (by simp) (hb hby d1_26) hr, hrun, hended, _, _, rfl, ?_, ⟨_, rfl⟩, hW, hsame.mono (by decide) (by decide)⟩
  show rm1_0lt_Q Z a1 x0 x1 x2 b kc h0 n0 _ s₁.heap _
  rw [e0]
  exact ⟨rfl, N0, K0, V0⟩

theorem rm1_0eq_pn : plainName "com/example/odds2/odds2/engine/Bounds" = true := by first | (simp [plainName, overriddenIn]; done) | decide +kernel
theorem rm1_0eq_ef (m : MethodId) (z0 : Addr) (z1 : Int32) (z2 : UInt64) : entryFrame m #[(.ref z0), (.int z1), (.double z2)] 5 = mkF m 0 #[.val (.ref z0), .val (.int z1), .val (.double z2), .second, .unset] [] := by first | (simp [entryFrame, mkF, argsToLocals, Value.category]; done) | rfl
def rm1_0eq_Q (Z : State) (a1 : Addr) (x0 : Int32) (x1 : Int32) (x2 : Int32) (b : Int32) (kc : ClassId) (h0 : Heap) (n0 : Nat) (v : Option Value) (h : Heap) (L : List Loc) : Prop := v = some (.int (0 : Int32)) ∧ Fr n0 L ∧ Keep h0 h [a1] ∧ Arv Z h a1 kc .double (3 : Int32) [(.double (FP.i2d x0)), (.double (FP.i2d x1)), (.double (FP.i2d x2))] (.double (0 : UInt64))
set_option maxRecDepth 65536 in
set_option maxHeartbeats 40000000 in
theorem rm1_0eq (l : Launch) (Z : State) (a0 : Array Value) (hw : ∀ d ∈ tables_1, d.before a0 Z = true) (ws : List Jvm.Cond) (a1 : Addr) (x0 : Int32) (x1 : Int32) (x2 : Int32) (b : Int32) (kc : ClassId) (h0 : Heap) (n0 : Nat) (Z0 : n0 ≤ h0.size) (V0 : Arv Z h0 a1 kc .double (3 : Int32) [(.double (FP.i2d x0)), (.double (FP.i2d x1)), (.double (FP.i2d x2))] (.double (0 : UInt64))) (gx_a1 : n0 ≤ a1) (hob : b = x0) :
    MetFree l (⟨"com/example/odds2/odds2/engine/Bounds", "tightenLower", "([DID)Z"⟩ : MethodName) (head1 (Jvm.Cond.code (⟨"com/example/odds2/odds2/engine/Bounds", "tightenLower", "([DID)Z"⟩ : MethodName) prog_7_method_6_code 5 (some .boolean) :: ws) ({ frames := 0, cells := 0, slots := 0, locals := 0 } : Room)) (fun a U => a = #[(.ref a1), (.int (0 : Int32)), (.double (FP.i2d b))] ∧ Z.Warmed39 U.vm ∧ U.heap = h0) (fun _ _ _ _ _ => True) (fun _ U o U' => ∃ v L, o = .returned v ∧ rm1_0eq_Q Z a1 x0 x1 x2 b kc h0 n0 v U'.heap L ∧ FrameEnd U o U' L ({ frames := 0, cells := 0, slots := 0, locals := 0 } : Room).cells ({ frames := 0, cells := 0, slots := 0, locals := 0 } : Room).slots) := by
  refine MetFree.of_bodySF (plainFor_of_name rm1_0eq_pn) hisR ?_
  intro p e s m args below meth c s₁ Bd hml0 hP hK
  obtain ⟨rfl, hZ, hh⟩ := hP
  have hx := Bd.exec
  have hby := Bd.bytes
  have hml : c.maxLocals = 5 := hml0
  have hown : s.vm.findClass "com/example/odds2/odds2/engine/Bounds" = some m.cls := findClass_of_methodNamed Bd.named
  have hnm := (name_of_methodNamed Bd.named Bd.method).1
  have X0 : Stand p l e ({ frames := 0, cells := 0, slots := 0, locals := 0 } : Room) s m #[(.ref a1), (.int (0 : Int32)), (.double (FP.i2d b))] below meth c s₁ [] 0 0 := Stand.of_body Bd
  have e0 : s₁.heap = h0 := by rw [← hh, Bd.state]; rfl
  have N0 := Fr.nil n0
  refine own_via (fun t k => castTop (rm1_0eq_ef m a1 (0 : Int32) (FP.i2d b)) k) ?_
  have K0 := Keep.refl h0 [a1]
  show own_G p e below _ (s₁.setTop (mkF m 0 #[.val (.ref a1), .val (.int (0 : Int32)), .val (.double (FP.i2d b)), .second, .unset] []))
  refine own_via (fun t k => XS.dloadN X0.here hx rfl (hb hby d1_0) rfl k) ?_
  show own_G p e below _ (s₁.setTop (mkF m 1 #[.val (.ref a1), .val (.int (0 : Int32)), .val (.double (FP.i2d b)), .second, .unset] [(.double (FP.i2d b))]))
  refine own_via (fun t k => XS.aloadN X0.here hx rfl (hb hby d1_1) rfl rfl k) ?_
  show own_G p e below _ (s₁.setTop (mkF m 2 #[.val (.ref a1), .val (.int (0 : Int32)), .val (.double (FP.i2d b)), .second, .unset] [(.ref a1), (.double (FP.i2d b))]))
  refine own_via (fun t k => XS.iloadN X0.here hx rfl (hb hby d1_2) rfl k) ?_
  show own_G p e below _ (s₁.setTop (mkF m 3 #[.val (.ref a1), .val (.int (0 : Int32)), .val (.double (FP.i2d b)), .second, .unset] [(.int (0 : Int32)), (.ref a1), (.double (FP.i2d b))]))
  obtain ⟨cl1, Ar1, q1, S1, Ng1, Hs1, G1⟩ := id V0
  have hin1 : ¬ ((0 : Int32) < 0 ∨ cl1.slots.size ≤ ((0 : Int32)).toNatClampNeg) := inb_of S1 ⟨by decide, by decide⟩
  have hat1 : cl1.slots[((0 : Int32)).toNatClampNeg]? = some (.double (FP.i2d x0)) := Hs1.at hin1 rfl
  refine own_via (fun t k => X0.daload hx (j := (0 : Int32)) (v := (.double (FP.i2d x0))) (by rw [e0]; exact Ar1.1) (State.isArrayOf_alike hZ.alike Ar1.2.1) Ar1.2.2 hin1 hat1 (g := (mkF m 3 #[.val (.ref a1), .val (.int (0 : Int32)), .val (.double (FP.i2d b)), .second, .unset] [(.int (0 : Int32)), (.ref a1), (.double (FP.i2d b))])) rfl rfl (hb hby d1_3) _ k) ?_
  show own_G p e below _ (s₁.setTop (mkF m 4 #[.val (.ref a1), .val (.int (0 : Int32)), .val (.double (FP.i2d b)), .second, .unset] [(.double (FP.i2d x0)), (.double (FP.i2d b))]))
  refine own_via (fun t k => XS.dcmpS X0.here hx rfl (hb hby d1_4) rfl (own_dc_eq hob _) k) ?_
  show own_G p e below _ (s₁.setTop (mkF m 5 #[.val (.ref a1), .val (.int (0 : Int32)), .val (.double (FP.i2d b)), .second, .unset] [(.int (0 : Int32))]))
  refine own_via (fun t k => XS.ifYes X0.here hx rfl (pc0 := 5) (pc' := 12) rfl (hb hby d1_5) rfl ((if0 _ _).trans (flt (by decide : ¬ ((0 : Int32) < (0 : Int32)))).2.2.2) (by decide) (by decide) k) ?_
  show own_G p e below _ (s₁.setTop (mkF m 12 #[.val (.ref a1), .val (.int (0 : Int32)), .val (.double (FP.i2d b)), .second, .unset] []))
  refine own_via (fun t k => XS.iconst X0.here hx rfl (hb hby d1_12) k) ?_
  show own_G p e below _ (s₁.setTop (mkF m 13 #[.val (.ref a1), .val (.int (0 : Int32)), .val (.double (FP.i2d b)), .second, .unset] [(.int (0 : Int32))]))
  refine own_via (fun t k => XS.istore X0.here hx rfl (hb hby d1_13) rfl (l' := #[.val (.ref a1), .val (.int (0 : Int32)), .val (.double (FP.i2d b)), .second, .val (.int (0 : Int32))]) rfl k) ?_
  show own_G p e below _ (s₁.setTop (mkF m 15 #[.val (.ref a1), .val (.int (0 : Int32)), .val (.double (FP.i2d b)), .second, .val (.int (0 : Int32))] []))
  refine own_via (fun t k => XS.iload X0.here hx rfl (hb hby d1_15) rfl k) ?_
  show own_G p e below _ (s₁.setTop (mkF m 17 #[.val (.ref a1), .val (.int (0 : Int32)), .val (.double (FP.i2d b)), .second, .val (.int (0 : Int32))] [(.int (0 : Int32))]))
  refine own_via (fun t k => XS.ifYes X0.here hx rfl (pc0 := 17) (pc' := 24) rfl (hb hby d1_17) rfl ((if0 _ _).trans (teq (by decide : (0 : Int32) = (0 : Int32))).1) (by decide) (by decide) k) ?_
  show own_G p e below _ (s₁.setTop (mkF m 24 #[.val (.ref a1), .val (.int (0 : Int32)), .val (.double (FP.i2d b)), .second, .val (.int (0 : Int32))] []))
  refine own_via (fun t k => XS.iload X0.here hx rfl (hb hby d1_24) rfl k) ?_
  show own_G p e below _ (s₁.setTop (mkF m 26 #[.val (.ref a1), .val (.int (0 : Int32)), .val (.double (FP.i2d b)), .second, .val (.int (0 : Int32))] [(.int (0 : Int32))]))
  obtain ⟨fs, hr, hrun, hended, hW, hsame⟩ := X0.leave (v := some (.int (0 : Int32))) (fun h => by rw [Bd.returns] at h; cases h)
  refine ⟨_, _, retN X0 hx (t := .boolean) Bd.returns (by simp) (hb hby d1_26) hr, hrun, hended, _, _, rfl, ?_, ⟨_, rfl⟩, hW, hsame.mono (by decide) (by decide)⟩
  show rm1_0eq_Q Z a1 x0 x1 x2 b kc h0 n0 _ s₁.heap _
  rw [e0]
  exact ⟨rfl, N0, K0, V0⟩

theorem rm1_0gt_pn : plainName "com/example/odds2/odds2/engine/Bounds" = true := by first | (simp [plainName, overriddenIn]; done) | decide +kernel
theorem rm1_0gt_ef (m : MethodId) (z0 : Addr) (z1 : Int32) (z2 : UInt64) : entryFrame m #[(.ref z0), (.int z1), (.double z2)] 5 = mkF m 0 #[.val (.ref z0), .val (.int z1), .val (.double z2), .second, .unset] [] := by first | (simp [entryFrame, mkF, argsToLocals, Value.category]; done) | rfl
def rm1_0gt_Q (Z : State) (a1 : Addr) (x0 : Int32) (x1 : Int32) (x2 : Int32) (b : Int32) (kc : ClassId) (h0 : Heap) (n0 : Nat) (v : Option Value) (h : Heap) (L : List Loc) : Prop := v = some (.int (1 : Int32)) ∧ Fr n0 L ∧ Keep h0 h [a1] ∧ Arv Z h a1 kc .double (3 : Int32) [(.double (FP.i2d b)), (.double (FP.i2d x1)), (.double (FP.i2d x2))] (.double (0 : UInt64))
set_option maxRecDepth 65536 in
set_option maxHeartbeats 40000000 in
theorem rm1_0gt (l : Launch) (Z : State) (a0 : Array Value) (hw : ∀ d ∈ tables_1, d.before a0 Z = true) (ws : List Jvm.Cond) (a1 : Addr) (x0 : Int32) (x1 : Int32) (x2 : Int32) (b : Int32) (kc : ClassId) (h0 : Heap) (n0 : Nat) (Z0 : n0 ≤ h0.size) (V0 : Arv Z h0 a1 kc .double (3 : Int32) [(.double (FP.i2d x0)), (.double (FP.i2d x1)), (.double (FP.i2d x2))] (.double (0 : UInt64))) (gx_a1 : n0 ≤ a1) (hob : x0 < b) :
    MetFree l (⟨"com/example/odds2/odds2/engine/Bounds", "tightenLower", "([DID)Z"⟩ : MethodName) (head1 (Jvm.Cond.code (⟨"com/example/odds2/odds2/engine/Bounds", "tightenLower", "([DID)Z"⟩ : MethodName) prog_7_method_6_code 5 (some .boolean) :: ws) ({ frames := 0, cells := 0, slots := 0, locals := 0 } : Room)) (fun a U => a = #[(.ref a1), (.int (0 : Int32)), (.double (FP.i2d b))] ∧ Z.Warmed39 U.vm ∧ U.heap = h0) (fun _ _ _ _ _ => True) (fun _ U o U' => ∃ v L, o = .returned v ∧ rm1_0gt_Q Z a1 x0 x1 x2 b kc h0 n0 v U'.heap L ∧ FrameEnd U o U' L ({ frames := 0, cells := 0, slots := 0, locals := 0 } : Room).cells ({ frames := 0, cells := 0, slots := 0, locals := 0 } : Room).slots) := by
  refine MetFree.of_bodySF (plainFor_of_name rm1_0gt_pn) hisR ?_
  intro p e s m args below meth c s₁ Bd hml0 hP hK
  obtain ⟨rfl, hZ, hh⟩ := hP
  have hx := Bd.exec
  have hby := Bd.bytes
  have hml : c.maxLocals = 5 := hml0
  have hown : s.vm.findClass "com/example/odds2/odds2/engine/Bounds" = some m.cls := findClass_of_methodNamed Bd.named
  have hnm := (name_of_methodNamed Bd.named Bd.method).1
  have X0 : Stand p l e ({ frames := 0, cells := 0, slots := 0, locals := 0 } : Room) s m #[(.ref a1), (.int (0 : Int32)), (.double (FP.i2d b))] below meth c s₁ [] 0 0 := Stand.of_body Bd
  have e0 : s₁.heap = h0 := by rw [← hh, Bd.state]; rfl
  have N0 := Fr.nil n0
  refine own_via (fun t k => castTop (rm1_0gt_ef m a1 (0 : Int32) (FP.i2d b)) k) ?_
  have K0 := Keep.refl h0 [a1]
  show own_G p e below _ (s₁.setTop (mkF m 0 #[.val (.ref a1), .val (.int (0 : Int32)), .val (.double (FP.i2d b)), .second, .unset] []))
  refine own_via (fun t k => XS.dloadN X0.here hx rfl (hb hby d1_0) rfl k) ?_
  show own_G p e below _ (s₁.setTop (mkF m 1 #[.val (.ref a1), .val (.int (0 : Int32)), .val (.double (FP.i2d b)), .second, .unset] [(.double (FP.i2d b))]))
  refine own_via (fun t k => XS.aloadN X0.here hx rfl (hb hby d1_1) rfl rfl k) ?_
  show own_G p e below _ (s₁.setTop (mkF m 2 #[.val (.ref a1), .val (.int (0 : Int32)), .val (.double (FP.i2d b)), .second, .unset] [(.ref a1), (.double (FP.i2d b))]))
  refine own_via (fun t k => XS.iloadN X0.here hx rfl (hb hby d1_2) rfl k) ?_
  show own_G p e below _ (s₁.setTop (mkF m 3 #[.val (.ref a1), .val (.int (0 : Int32)), .val (.double (FP.i2d b)), .second, .unset] [(.int (0 : Int32)), (.ref a1), (.double (FP.i2d b))]))
  obtain ⟨cl1, Ar1, q1, S1, Ng1, Hs1, G1⟩ := id V0
  have hin1 : ¬ ((0 : Int32) < 0 ∨ cl1.slots.size ≤ ((0 : Int32)).toNatClampNeg) := inb_of S1 ⟨by decide, by decide⟩
  have hat1 : cl1.slots[((0 : Int32)).toNatClampNeg]? = some (.double (FP.i2d x0)) := Hs1.at hin1 rfl
  refine own_via (fun t k => X0.daload hx (j := (0 : Int32)) (v := (.double (FP.i2d x0))) (by rw [e0]; exact Ar1.1) (State.isArrayOf_alike hZ.alike Ar1.2.1) Ar1.2.2 hin1 hat1 (g := (mkF m 3 #[.val (.ref a1), .val (.int (0 : Int32)), .val (.double (FP.i2d b)), .second, .unset] [(.int (0 : Int32)), (.ref a1), (.double (FP.i2d b))])) rfl rfl (hb hby d1_3) _ k) ?_
  show own_G p e below _ (s₁.setTop (mkF m 4 #[.val (.ref a1), .val (.int (0 : Int32)), .val (.double (FP.i2d b)), .second, .unset] [(.double (FP.i2d x0)), (.double (FP.i2d b))]))
  refine own_via (fun t k => XS.dcmpS X0.here hx rfl (hb hby d1_4) rfl (own_dc_gt hob _) k) ?_
  show own_G p e below _ (s₁.setTop (mkF m 5 #[.val (.ref a1), .val (.int (0 : Int32)), .val (.double (FP.i2d b)), .second, .unset] [(.int (1 : Int32))]))
  refine own_via (fun t k => XS.ifNo X0.here hx rfl (hb hby d1_5) rfl ((if0 _ _).trans (tlt (by decide : (0 : Int32) < (1 : Int32))).2.2.2) k) ?_
  show own_G p e below _ (s₁.setTop (mkF m 8 #[.val (.ref a1), .val (.int (0 : Int32)), .val (.double (FP.i2d b)), .second, .unset] []))
  refine own_via (fun t k => XS.iconst X0.here hx rfl (hb hby d1_8) k) ?_
  show own_G p e below _ (s₁.setTop (mkF m 9 #[.val (.ref a1), .val (.int (0 : Int32)), .val (.double (FP.i2d b)), .second, .unset] [(.int (1 : Int32))]))
  refine own_via (fun t k => XS.goto X0.here hx rfl (pc0 := 9) (pc' := 13) rfl (hb hby d1_9) (by decide) (by decide) k) ?_
  show own_G p e below _ (s₁.setTop (mkF m 13 #[.val (.ref a1), .val (.int (0 : Int32)), .val (.double (FP.i2d b)), .second, .unset] [(.int (1 : Int32))]))
  refine own_via (fun t k => XS.istore X0.here hx rfl (hb hby d1_13) rfl (l' := #[.val (.ref a1), .val (.int (0 : Int32)), .val (.double (FP.i2d b)), .second, .val (.int (1 : Int32))]) rfl k) ?_
  show own_G p e below _ (s₁.setTop (mkF m 15 #[.val (.ref a1), .val (.int (0 : Int32)), .val (.double (FP.i2d b)), .second, .val (.int (1 : Int32))] []))
  refine own_via (fun t k => XS.iload X0.here hx rfl (hb hby d1_15) rfl k) ?_
  show own_G p e below _ (s₁.setTop (mkF m 17 #[.val (.ref a1), .val (.int (0 : Int32)), .val (.double (FP.i2d b)), .second, .val (.int (1 : Int32))] [(.int (1 : Int32))]))
  refine own_via (fun t k => XS.ifNo X0.here hx rfl (hb hby d1_17) rfl ((if0 _ _).trans (feq (by decide : ¬ ((1 : Int32) = (0 : Int32)))).1) k) ?_
  show own_G p e below _ (s₁.setTop (mkF m 20 #[.val (.ref a1), .val (.int (0 : Int32)), .val (.double (FP.i2d b)), .second, .val (.int (1 : Int32))] []))
  refine own_via (fun t k => XS.aloadN X0.here hx rfl (hb hby d1_20) rfl rfl k) ?_
  show own_G p e below _ (s₁.setTop (mkF m 21 #[.val (.ref a1), .val (.int (0 : Int32)), .val (.double (FP.i2d b)), .second, .val (.int (1 : Int32))] [(.ref a1)]))
  refine own_via (fun t k => XS.iloadN X0.here hx rfl (hb hby d1_21) rfl k) ?_
  show own_G p e below _ (s₁.setTop (mkF m 22 #[.val (.ref a1), .val (.int (0 : Int32)), .val (.double (FP.i2d b)), .second, .val (.int (1 : Int32))] [(.int (0 : Int32)), (.ref a1)]))
  refine own_via (fun t k => XS.dloadN X0.here hx rfl (hb hby d1_22) rfl k) ?_
  show own_G p e below _ (s₁.setTop (mkF m 23 #[.val (.ref a1), .val (.int (0 : Int32)), .val (.double (FP.i2d b)), .second, .val (.int (1 : Int32))] [(.double (FP.i2d b)), (.int (0 : Int32)), (.ref a1)]))
  obtain ⟨cl4, Ar4, q4, S4, Ng4, Hs4, G4⟩ := id V0
  have hin4 : ¬ ((0 : Int32) < 0 ∨ cl4.slots.size ≤ ((0 : Int32)).toNatClampNeg) := inb_of S4 ⟨by decide, by decide⟩
  obtain ⟨T4, h4, X4, e4, W4, st4⟩ := stD X0 hx hZ e0 Ar4 (j := (0 : Int32)) hin4 (g := (mkF m 23 #[.val (.ref a1), .val (.int (0 : Int32)), .val (.double (FP.i2d b)), .second, .val (.int (1 : Int32))] [(.double (FP.i2d b)), (.int (0 : Int32)), (.ref a1)])) rfl rfl (hb hby d1_23)
  have V4 : Arv Z h4 a1 kc .double (3 : Int32) [(.double (FP.i2d b)), (.double (FP.i2d x1)), (.double (FP.i2d x2))] (.double (0 : UInt64)) := Arv.set Ar4 q4 S4 Ng4 Hs4 G4 rfl W4 0 rfl (Nat.le_of_ble_eq_true rfl)
  have N4 := Fr.snoc X4 N0 gx_a1
  have Z4 : n0 ≤ h4.size := Nat.le_trans Z0 (Nat.le_of_eq W4.size.symm)
  have K4 := K0.wr W4 (Or.inl (List.mem_of_getElem? (i := 0) rfl))
  refine own_via st4 ?_
  show own_G p e below _ (T4.setTop (mkF m 24 #[.val (.ref a1), .val (.int (0 : Int32)), .val (.double (FP.i2d b)), .second, .val (.int (1 : Int32))] []))
  refine own_via (fun t k => XS.iload X4.here hx rfl (hb hby d1_24) rfl k) ?_
  show own_G p e below _ (T4.setTop (mkF m 26 #[.val (.ref a1), .val (.int (0 : Int32)), .val (.double (FP.i2d b)), .second, .val (.int (1 : Int32))] [(.int (1 : Int32))]))
  obtain ⟨fs, hr, hrun, hended, hW, hsame⟩ := X4.leave (v := some (.int (1 : Int32))) (fun h => by rw [Bd.returns] at h; cases h)
  refine ⟨_, _, retN X4 hx (t := .boolean) Bd.returns (by simp) (hb hby d1_26) hr, hrun, hended, _, _, rfl, ?_, ⟨_, rfl⟩, hW, hsame.mono (by decide) (by decide)⟩
  show rm1_0gt_Q Z a1 x0 x1 x2 b kc h0 n0 _ T4.heap _
  rw [e4]
  exact ⟨rfl, N4, K4, V4⟩

theorem rm1_1lt_pn : plainName "com/example/odds2/odds2/engine/Bounds" = true := by first | (simp [plainName, overriddenIn]; done) | decide +kernel
theorem rm1_1lt_ef (m : MethodId) (z0 : Addr) (z1 : Int32) (z2 : UInt64) : entryFrame m #[(.ref z0), (.int z1), (.double z2)] 5 = mkF m 0 #[.val (.ref z0), .val (.int z1), .val (.double z2), .second, .unset] [] := by first | (simp [entryFrame, mkF, argsToLocals, Value.category]; done) | rfl
def rm1_1lt_Q (Z : State) (a1 : Addr) (x0 : Int32) (x1 : Int32) (x2 : Int32) (b : Int32) (kc : ClassId) (h0 : Heap) (n0 : Nat) (v : Option Value) (h : Heap) (L : List Loc) : Prop := v = some (.int (0 : Int32)) ∧ Fr n0 L ∧ Keep h0 h [a1] ∧ Arv Z h a1 kc .double (3 : Int32) [(.double (FP.i2d x0)), (.double (FP.i2d x1)), (.double (FP.i2d x2))] (.double (0 : UInt64))
set_option maxRecDepth 65536 in
set_option maxHeartbeats 40000000 in
theorem rm1_1lt (l : Launch) (Z : State) (a0 : Array Value) (hw : ∀ d ∈ tables_1, d.before a0 Z = true) (ws : List Jvm.Cond) (a1 : Addr) (x0 : Int32) (x1 : Int32) (x2 : Int32) (b : Int32) (kc : ClassId) (h0 : Heap) (n0 : Nat) (Z0 : n0 ≤ h0.size) (V0 : Arv Z h0 a1 kc .double (3 : Int32) [(.double (FP.i2d x0)), (.double (FP.i2d x1)), (.double (FP.i2d x2))] (.double (0 : UInt64))) (gx_a1 : n0 ≤ a1) (hob : b < x1) :
    MetFree l (⟨"com/example/odds2/odds2/engine/Bounds", "tightenLower", "([DID)Z"⟩ : MethodName) (head1 (Jvm.Cond.code (⟨"com/example/odds2/odds2/engine/Bounds", "tightenLower", "([DID)Z"⟩ : MethodName) prog_7_method_6_code 5 (some .boolean) :: ws) ({ frames := 0, cells := 0, slots := 0, locals := 0 } : Room)) (fun a U => a = #[(.ref a1), (.int (1 : Int32)), (.double (FP.i2d b))] ∧ Z.Warmed39 U.vm ∧ U.heap = h0) (fun _ _ _ _ _ => True) (fun _ U o U' => ∃ v L, o = .returned v ∧ rm1_1lt_Q Z a1 x0 x1 x2 b kc h0 n0 v U'.heap L ∧ FrameEnd U o U' L ({ frames := 0, cells := 0, slots := 0, locals := 0 } : Room).cells ({ frames := 0, cells := 0, slots := 0, locals := 0 } : Room).slots) := by
  refine MetFree.of_bodySF (plainFor_of_name rm1_1lt_pn) hisR ?_
  intro p e s m args below meth c s₁ Bd hml0 hP hK
  obtain ⟨rfl, hZ, hh⟩ := hP
  have hx := Bd.exec
  have hby := Bd.bytes
  have hml : c.maxLocals = 5 := hml0
  have hown : s.vm.findClass "com/example/odds2/odds2/engine/Bounds" = some m.cls := findClass_of_methodNamed Bd.named
  have hnm := (name_of_methodNamed Bd.named Bd.method).1
  have X0 : Stand p l e ({ frames := 0, cells := 0, slots := 0, locals := 0 } : Room) s m #[(.ref a1), (.int (1 : Int32)), (.double (FP.i2d b))] below meth c s₁ [] 0 0 := Stand.of_body Bd
  have e0 : s₁.heap = h0 := by rw [← hh, Bd.state]; rfl
  have N0 := Fr.nil n0
  refine own_via (fun t k => castTop (rm1_1lt_ef m a1 (1 : Int32) (FP.i2d b)) k) ?_
  have K0 := Keep.refl h0 [a1]
  show own_G p e below _ (s₁.setTop (mkF m 0 #[.val (.ref a1), .val (.int (1 : Int32)), .val (.double (FP.i2d b)), .second, .unset] []))
  refine own_via (fun t k => XS.dloadN X0.here hx rfl (hb hby d1_0) rfl k) ?_
  show own_G p e below _ (s₁.setTop (mkF m 1 #[.val (.ref a1), .val (.int (1 : Int32)), .val (.double (FP.i2d b)), .second, .unset] [(.double (FP.i2d b))]))
  refine own_via (fun t k => XS.aloadN X0.here hx rfl (hb hby d1_1) rfl rfl k) ?_
  show own_G p e below _ (s₁.setTop (mkF m 2 #[.val (.ref a1), .val (.int (1 : Int32)), .val (.double (FP.i2d b)), .second, .unset] [(.ref a1), (.double (FP.i2d b))]))
  refine own_via (fun t k => XS.iloadN X0.here hx rfl (hb hby d1_2) rfl k) ?_
  show own_G p e below _ (s₁.setTop (mkF m 3 #[.val (.ref a1), .val (.int (1 : Int32)), .val (.double (FP.i2d b)), .second, .unset] [(.int (1 : Int32)), (.ref a1), (.double (FP.i2d b))]))
  obtain ⟨cl1, Ar1, q1, S1, Ng1, Hs1, G1⟩ := id V0
  have hin1 : ¬ ((1 : Int32) < 0 ∨ cl1.slots.size ≤ ((1 : Int32)).toNatClampNeg) := inb_of S1 ⟨by decide, by decide⟩
  have hat1 : cl1.slots[((1 : Int32)).toNatClampNeg]? = some (.double (FP.i2d x1)) := Hs1.at hin1 rfl
  refine own_via (fun t k => X0.daload hx (j := (1 : Int32)) (v := (.double (FP.i2d x1))) (by rw [e0]; exact Ar1.1) (State.isArrayOf_alike hZ.alike Ar1.2.1) Ar1.2.2 hin1 hat1 (g := (mkF m 3 #[.val (.ref a1), .val (.int (1 : Int32)), .val (.double (FP.i2d b)), .second, .unset] [(.int (1 : Int32)), (.ref a1), (.double (FP.i2d b))])) rfl rfl (hb hby d1_3) _ k) ?_
  show own_G p e below _ (s₁.setTop (mkF m 4 #[.val (.ref a1), .val (.int (1 : Int32)), .val (.double (FP.i2d b)), .second, .unset] [(.double (FP.i2d x1)), (.double (FP.i2d b))]))
  refine own_via (fun t k => XS.dcmpS X0.here hx rfl (hb hby d1_4) rfl (own_dc_lt hob _) k) ?_
  show own_G p e below _ (s₁.setTop (mkF m 5 #[.val (.ref a1), .val (.int (1 : Int32)), .val (.double (FP.i2d b)), .second, .unset] [(.int (-1 : Int32))]))
  refine own_via (fun t k => XS.ifYes X0.here hx rfl (pc0 := 5) (pc' := 12) rfl (hb hby d1_5) rfl ((if0 _ _).trans (flt (by decide : ¬ ((0 : Int32) < (-1 : Int32)))).2.2.2) (by decide) (by decide) k) ?_
  show own_G p e below _ (s₁.setTop (mkF m 12 #[.val (.ref a1), .val (.int (1 : Int32)), .val (.double (FP.i2d b)), .second, .unset] []))
  refine own_via (fun t k => XS.iconst X0.here hx rfl (hb hby d1_12) k) ?_
  show own_G p e below _ (s₁.setTop (mkF m 13 #[.val (.ref a1), .val (.int (1 : Int32)), .val (.double (FP.i2d b)), .second, .unset] [(.int (0 : Int32))]))
  refine own_via (fun t k => XS.istore X0.here hx rfl (hb hby d1_13) rfl (l' := #[.val (.ref a1), .val (.int (1 : Int32)), .val (.double (FP.i2d b)), .second, .val (.int (0 : Int32))]) rfl k) ?_
  show own_G p e below _ (s₁.setTop (mkF m 15 #[.val (.ref a1), .val (.int (1 : Int32)), .val (.double (FP.i2d b)), .second, .val (.int (0 : Int32))] []))
  refine own_via (fun t k => XS.iload X0.here hx rfl (hb hby d1_15) rfl k) ?_
  show own_G p e below _ (s₁.setTop (mkF m 17 #[.val (.ref a1), .val (.int (1 : Int32)), .val (.double (FP.i2d b)), .second, .val (.int (0 : Int32))] [(.int (0 : Int32))]))
  refine own_via (fun t k => XS.ifYes X0.here hx rfl (pc0 := 17) (pc' := 24) rfl (hb hby d1_17) rfl ((if0 _ _).trans (teq (by decide : (0 : Int32) = (0 : Int32))).1) (by decide) (by decide) k) ?_
  show own_G p e below _ (s₁.setTop (mkF m 24 #[.val (.ref a1), .val (.int (1 : Int32)), .val (.double (FP.i2d b)), .second, .val (.int (0 : Int32))] []))
  refine own_via (fun t k => XS.iload X0.here hx rfl (hb hby d1_24) rfl k) ?_
  show own_G p e below _ (s₁.setTop (mkF m 26 #[.val (.ref a1), .val (.int (1 : Int32)), .val (.double (FP.i2d b)), .second, .val (.int (0 : Int32))] [(.int (0 : Int32))]))
  obtain ⟨fs, hr, hrun, hended, hW, hsame⟩ := X0.leave (v := some (.int (0 : Int32))) (fun h => by rw [Bd.returns] at h; cases h)
  refine ⟨_, _, retN X0 hx (t := .boolean) Bd.returns (by simp) (hb hby d1_26) hr, hrun, hended, _, _, rfl, ?_, ⟨_, rfl⟩, hW, hsame.mono (by decide) (by decide)⟩
  show rm1_1lt_Q Z a1 x0 x1 x2 b kc h0 n0 _ s₁.heap _
  rw [e0]
  exact ⟨rfl, N0, K0, V0⟩

theorem rm1_1eq_pn : plainName "com/example/odds2/odds2/engine/Bounds" = true := by first | (simp [plainName, overriddenIn]; done) | decide +kernel
theorem rm1_1eq_ef (m : MethodId) (z0 : Addr) (z1 : Int32) (z2 : UInt64) : entryFrame m #[(.ref z0), (.int z1), (.double z2)] 5 = mkF m 0 #[.val (.ref z0), .val (.int z1), .val (.double z2), .second, .unset] [] := by first | (simp [entryFrame, mkF, argsToLocals, Value.category]; done) | rfl
def rm1_1eq_Q (Z : State) (a1 : Addr) (x0 : Int32) (x1 : Int32) (x2 : Int32) (b : Int32) (kc : ClassId) (h0 : Heap) (n0 : Nat) (v : Option Value) (h : Heap) (L : List Loc) : Prop := v = some (.int (0 : Int32)) ∧ Fr n0 L ∧ Keep h0 h [a1] ∧ Arv Z h a1 kc .double (3 : Int32) [(.double (FP.i2d x0)), (.double (FP.i2d x1)), (.double (FP.i2d x2))] (.double (0 : UInt64))
set_option maxRecDepth 65536 in
set_option maxHeartbeats 40000000 in
theorem rm1_1eq (l : Launch) (Z : State) (a0 : Array Value) (hw : ∀ d ∈ tables_1, d.before a0 Z = true) (ws : List Jvm.Cond) (a1 : Addr) (x0 : Int32) (x1 : Int32) (x2 : Int32) (b : Int32) (kc : ClassId) (h0 : Heap) (n0 : Nat) (Z0 : n0 ≤ h0.size) (V0 : Arv Z h0 a1 kc .double (3 : Int32) [(.double (FP.i2d x0)), (.double (FP.i2d x1)), (.double (FP.i2d x2))] (.double (0 : UInt64))) (gx_a1 : n0 ≤ a1) (hob : b = x1) :
    MetFree l (⟨"com/example/odds2/odds2/engine/Bounds", "tightenLower", "([DID)Z"⟩ : MethodName) (head1 (Jvm.Cond.code (⟨"com/example/odds2/odds2/engine/Bounds", "tightenLower", "([DID)Z"⟩ : MethodName) prog_7_method_6_code 5 (some .boolean) :: ws) ({ frames := 0, cells := 0, slots := 0, locals := 0 } : Room)) (fun a U => a = #[(.ref a1), (.int (1 : Int32)), (.double (FP.i2d b))] ∧ Z.Warmed39 U.vm ∧ U.heap = h0) (fun _ _ _ _ _ => True) (fun _ U o U' => ∃ v L, o = .returned v ∧ rm1_1eq_Q Z a1 x0 x1 x2 b kc h0 n0 v U'.heap L ∧ FrameEnd U o U' L ({ frames := 0, cells := 0, slots := 0, locals := 0 } : Room).cells ({ frames := 0, cells := 0, slots := 0, locals := 0 } : Room).slots) := by
  refine MetFree.of_bodySF (plainFor_of_name rm1_1eq_pn) hisR ?_
  intro p e s m args below meth c s₁ Bd hml0 hP hK
  obtain ⟨rfl, hZ, hh⟩ := hP
  have hx := Bd.exec
  have hby := Bd.bytes
  have hml : c.maxLocals = 5 := hml0
  have hown : s.vm.findClass "com/example/odds2/odds2/engine/Bounds" = some m.cls := findClass_of_methodNamed Bd.named
  have hnm := (name_of_methodNamed Bd.named Bd.method).1
  have X0 : Stand p l e ({ frames := 0, cells := 0, slots := 0, locals := 0 } : Room) s m #[(.ref a1), (.int (1 : Int32)), (.double (FP.i2d b))] below meth c s₁ [] 0 0 := Stand.of_body Bd
  have e0 : s₁.heap = h0 := by rw [← hh, Bd.state]; rfl
  have N0 := Fr.nil n0
  refine own_via (fun t k => castTop (rm1_1eq_ef m a1 (1 : Int32) (FP.i2d b)) k) ?_
  have K0 := Keep.refl h0 [a1]
  show own_G p e below _ (s₁.setTop (mkF m 0 #[.val (.ref a1), .val (.int (1 : Int32)), .val (.double (FP.i2d b)), .second, .unset] []))
  refine own_via (fun t k => XS.dloadN X0.here hx rfl (hb hby d1_0) rfl k) ?_
  show own_G p e below _ (s₁.setTop (mkF m 1 #[.val (.ref a1), .val (.int (1 : Int32)), .val (.double (FP.i2d b)), .second, .unset] [(.double (FP.i2d b))]))
  refine own_via (fun t k => XS.aloadN X0.here hx rfl (hb hby d1_1) rfl rfl k) ?_
  show own_G p e below _ (s₁.setTop (mkF m 2 #[.val (.ref a1), .val (.int (1 : Int32)), .val (.double (FP.i2d b)), .second, .unset] [(.ref a1), (.double (FP.i2d b))]))
  refine own_via (fun t k => XS.iloadN X0.here hx rfl (hb hby d1_2) rfl k) ?_
  show own_G p e below _ (s₁.setTop (mkF m 3 #[.val (.ref a1), .val (.int (1 : Int32)), .val (.double (FP.i2d b)), .second, .unset] [(.int (1 : Int32)), (.ref a1), (.double (FP.i2d b))]))
  obtain ⟨cl1, Ar1, q1, S1, Ng1, Hs1, G1⟩ := id V0
  have hin1 : ¬ ((1 : Int32) < 0 ∨ cl1.slots.size ≤ ((1 : Int32)).toNatClampNeg) := inb_of S1 ⟨by decide, by decide⟩
  have hat1 : cl1.slots[((1 : Int32)).toNatClampNeg]? = some (.double (FP.i2d x1)) := Hs1.at hin1 rfl
  refine own_via (fun t k => X0.daload hx (j := (1 : Int32)) (v := (.double (FP.i2d x1))) (by rw [e0]; exact Ar1.1) (State.isArrayOf_alike hZ.alike Ar1.2.1) Ar1.2.2 hin1 hat1 (g := (mkF m 3 #[.val (.ref a1), .val (.int (1 : Int32)), .val (.double (FP.i2d b)), .second, .unset] [(.int (1 : Int32)), (.ref a1), (.double (FP.i2d b))])) rfl rfl (hb hby d1_3) _ k) ?_
  show own_G p e below _ (s₁.setTop (mkF m 4 #[.val (.ref a1), .val (.int (1 : Int32)), .val (.double (FP.i2d b)), .second, .unset] [(.double (FP.i2d x1)), (.double (FP.i2d b))]))
  refine own_via (fun t k => XS.dcmpS X0.here hx rfl (hb hby d1_4) rfl (own_dc_eq hob _) k) ?_
  show own_G p e below _ (s₁.setTop (mkF m 5 #[.val (.ref a1), .val (.int (1 : Int32)), .val (.double (FP.i2d b)), .second, .unset] [(.int (0 : Int32))]))
  refine own_via (fun t k => XS.ifYes X0.here hx rfl (pc0 := 5) (pc' := 12) rfl (hb hby d1_5) rfl ((if0 _ _).trans (flt (by decide : ¬ ((0 : Int32) < (0 : Int32)))).2.2.2) (by decide) (by decide) k) ?_
  show own_G p e below _ (s₁.setTop (mkF m 12 #[.val (.ref a1), .val (.int (1 : Int32)), .val (.double (FP.i2d b)), .second, .unset] []))
  refine own_via (fun t k => XS.iconst X0.here hx rfl (hb hby d1_12) k) ?_
  show own_G p e below _ (s₁.setTop (mkF m 13 #[.val (.ref a1), .val (.int (1 : Int32)), .val (.double (FP.i2d b)), .second, .unset] [(.int (0 : Int32))]))
  refine own_via (fun t k => XS.istore X0.here hx rfl (hb hby d1_13) rfl (l' := #[.val (.ref a1), .val (.int (1 : Int32)), .val (.double (FP.i2d b)), .second, .val (.int (0 : Int32))]) rfl k) ?_
  show own_G p e below _ (s₁.setTop (mkF m 15 #[.val (.ref a1), .val (.int (1 : Int32)), .val (.double (FP.i2d b)), .second, .val (.int (0 : Int32))] []))
  refine own_via (fun t k => XS.iload X0.here hx rfl (hb hby d1_15) rfl k) ?_
  show own_G p e below _ (s₁.setTop (mkF m 17 #[.val (.ref a1), .val (.int (1 : Int32)), .val (.double (FP.i2d b)), .second, .val (.int (0 : Int32))] [(.int (0 : Int32))]))
  refine own_via (fun t k => XS.ifYes X0.here hx rfl (pc0 := 17) (pc' := 24) rfl (hb hby d1_17) rfl ((if0 _ _).trans (teq (by decide : (0 : Int32) = (0 : Int32))).1) (by decide) (by decide) k) ?_
  show own_G p e below _ (s₁.setTop (mkF m 24 #[.val (.ref a1), .val (.int (1 : Int32)), .val (.double (FP.i2d b)), .second, .val (.int (0 : Int32))] []))
  refine own_via (fun t k => XS.iload X0.here hx rfl (hb hby d1_24) rfl k) ?_
  show own_G p e below _ (s₁.setTop (mkF m 26 #[.val (.ref a1), .val (.int (1 : Int32)), .val (.double (FP.i2d b)), .second, .val (.int (0 : Int32))] [(.int (0 : Int32))]))
  obtain ⟨fs, hr, hrun, hended, hW, hsame⟩ := X0.leave (v := some (.int (0 : Int32))) (fun h => by rw [Bd.returns] at h; cases h)
  refine ⟨_, _, retN X0 hx (t := .boolean) Bd.returns (by simp) (hb hby d1_26) hr, hrun, hended, _, _, rfl, ?_, ⟨_, rfl⟩, hW, hsame.mono (by decide) (by decide)⟩
  show rm1_1eq_Q Z a1 x0 x1 x2 b kc h0 n0 _ s₁.heap _
  rw [e0]
  exact ⟨rfl, N0, K0, V0⟩

theorem rm1_1gt_pn : plainName "com/example/odds2/odds2/engine/Bounds" = true := by first | (simp [plainName, overriddenIn]; done) | decide +kernel
theorem rm1_1gt_ef (m : MethodId) (z0 : Addr) (z1 : Int32) (z2 : UInt64) : entryFrame m #[(.ref z0), (.int z1), (.double z2)] 5 = mkF m 0 #[.val (.ref z0), .val (.int z1), .val (.double z2), .second, .unset] [] := by first | (simp [entryFrame, mkF, argsToLocals, Value.category]; done) | rfl
def rm1_1gt_Q (Z : State) (a1 : Addr) (x0 : Int32) (x1 : Int32) (x2 : Int32) (b : Int32) (kc : ClassId) (h0 : Heap) (n0 : Nat) (v : Option Value) (h : Heap) (L : List Loc) : Prop := v = some (.int (1 : Int32)) ∧ Fr n0 L ∧ Keep h0 h [a1] ∧ Arv Z h a1 kc .double (3 : Int32) [(.double (FP.i2d x0)), (.double (FP.i2d b)), (.double (FP.i2d x2))] (.double (0 : UInt64))
set_option maxRecDepth 65536 in
set_option maxHeartbeats 40000000 in
theorem rm1_1gt (l : Launch) (Z : State) (a0 : Array Value) (hw : ∀ d ∈ tables_1, d.before a0 Z = true) (ws : List Jvm.Cond) (a1 : Addr) (x0 : Int32) (x1 : Int32) (x2 : Int32) (b : Int32) (kc : ClassId) (h0 : Heap) (n0 : Nat) (Z0 : n0 ≤ h0.size) (V0 : Arv Z h0 a1 kc .double (3 : Int32) [(.double (FP.i2d x0)), (.double (FP.i2d x1)), (.double (FP.i2d x2))] (.double (0 : UInt64))) (gx_a1 : n0 ≤ a1) (hob : x1 < b) :
    MetFree l (⟨"com/example/odds2/odds2/engine/Bounds", "tightenLower", "([DID)Z"⟩ : MethodName) (head1 (Jvm.Cond.code (⟨"com/example/odds2/odds2/engine/Bounds", "tightenLower", "([DID)Z"⟩ : MethodName) prog_7_method_6_code 5 (some .boolean) :: ws) ({ frames := 0, cells := 0, slots := 0, locals := 0 } : Room)) (fun a U => a = #[(.ref a1), (.int (1 : Int32)), (.double (FP.i2d b))] ∧ Z.Warmed39 U.vm ∧ U.heap = h0) (fun _ _ _ _ _ => True) (fun _ U o U' => ∃ v L, o = .returned v ∧ rm1_1gt_Q Z a1 x0 x1 x2 b kc h0 n0 v U'.heap L ∧ FrameEnd U o U' L ({ frames := 0, cells := 0, slots := 0, locals := 0 } : Room).cells ({ frames := 0, cells := 0, slots := 0, locals := 0 } : Room).slots) := by
  refine MetFree.of_bodySF (plainFor_of_name rm1_1gt_pn) hisR ?_
  intro p e s m args below meth c s₁ Bd hml0 hP hK
  obtain ⟨rfl, hZ, hh⟩ := hP
  have hx := Bd.exec
  have hby := Bd.bytes
  have hml : c.maxLocals = 5 := hml0
  have hown : s.vm.findClass "com/example/odds2/odds2/engine/Bounds" = some m.cls := findClass_of_methodNamed Bd.named
  have hnm := (name_of_methodNamed Bd.named Bd.method).1
  have X0 : Stand p l e ({ frames := 0, cells := 0, slots := 0, locals := 0 } : Room) s m #[(.ref a1), (.int (1 : Int32)), (.double (FP.i2d b))] below meth c s₁ [] 0 0 := Stand.of_body Bd
  have e0 : s₁.heap = h0 := by rw [← hh, Bd.state]; rfl
  have N0 := Fr.nil n0
  refine own_via (fun t k => castTop (rm1_1gt_ef m a1 (1 : Int32) (FP.i2d b)) k) ?_
  have K0 := Keep.refl h0 [a1]
  show own_G p e below _ (s₁.setTop (mkF m 0 #[.val (.ref a1), .val (.int (1 : Int32)), .val (.double (FP.i2d b)), .second, .unset] []))
  refine own_via (fun t k => XS.dloadN X0.here hx rfl (hb hby d1_0) rfl k) ?_
  show own_G p e below _ (s₁.setTop (mkF m 1 #[.val (.ref a1), .val (.int (1 : Int32)), .val (.double (FP.i2d b)), .second, .unset] [(.double (FP.i2d b))]))
  refine own_via (fun t k => XS.aloadN X0.here hx rfl (hb hby d1_1) rfl rfl k) ?_
  show own_G p e below _ (s₁.setTop (mkF m 2 #[.val (.ref a1), .val (.int (1 : Int32)), .val (.double (FP.i2d b)), .second, .unset] [(.ref a1), (.double (FP.i2d b))]))
  refine own_via (fun t k => XS.iloadN X0.here hx rfl (hb hby d1_2) rfl k) ?_
  show own_G p e below _ (s₁.setTop (mkF m 3 #[.val (.ref a1), .val (.int (1 : Int32)), .val (.double (FP.i2d b)), .second, .unset] [(.int (1 : Int32)), (.ref a1), (.double (FP.i2d b))]))
  obtain ⟨cl1, Ar1, q1, S1, Ng1, Hs1, G1⟩ := id V0
  have hin1 : ¬ ((1 : Int32) < 0 ∨ cl1.slots.size ≤ ((1 : Int32)).toNatClampNeg) := inb_of S1 ⟨by decide, by decide⟩
  have hat1 : cl1.slots[((1 : Int32)).toNatClampNeg]? = some (.double (FP.i2d x1)) := Hs1.at hin1 rfl
  refine own_via (fun t k => X0.daload hx (j := (1 : Int32)) (v := (.double (FP.i2d x1))) (by rw [e0]; exact Ar1.1) (State.isArrayOf_alike hZ.alike Ar1.2.1) Ar1.2.2 hin1 hat1 (g := (mkF m 3 #[.val (.ref a1), .val (.int (1 : Int32)), .val (.double (FP.i2d b)), .second, .unset] [(.int (1 : Int32)), (.ref a1), (.double (FP.i2d b))])) rfl rfl (hb hby d1_3) _ k) ?_
  show own_G p e below _ (s₁.setTop (mkF m 4 #[.val (.ref a1), .val (.int (1 : Int32)), .val (.double (FP.i2d b)), .second, .unset] [(.double (FP.i2d x1)), (.double (FP.i2d b))]))
  refine own_via (fun t k => XS.dcmpS X0.here hx rfl (hb hby d1_4) rfl (own_dc_gt hob _) k) ?_
  show own_G p e below _ (s₁.setTop (mkF m 5 #[.val (.ref a1), .val (.int (1 : Int32)), .val (.double (FP.i2d b)), .second, .unset] [(.int (1 : Int32))]))
  refine own_via (fun t k => XS.ifNo X0.here hx rfl (hb hby d1_5) rfl ((if0 _ _).trans (tlt (by decide : (0 : Int32) < (1 : Int32))).2.2.2) k) ?_
  show own_G p e below _ (s₁.setTop (mkF m 8 #[.val (.ref a1), .val (.int (1 : Int32)), .val (.double (FP.i2d b)), .second, .unset] []))
  refine own_via (fun t k => XS.iconst X0.here hx rfl (hb hby d1_8) k) ?_
  show own_G p e below _ (s₁.setTop (mkF m 9 #[.val (.ref a1), .val (.int (1 : Int32)), .val (.double (FP.i2d b)), .second, .unset] [(.int (1 : Int32))]))
  refine own_via (fun t k => XS.goto X0.here hx rfl (pc0 := 9) (pc' := 13) rfl (hb hby d1_9) (by decide) (by decide) k) ?_
  show own_G p e below _ (s₁.setTop (mkF m 13 #[.val (.ref a1), .val (.int (1 : Int32)), .val (.double (FP.i2d b)), .second, .unset] [(.int (1 : Int32))]))
  refine own_via (fun t k => XS.istore X0.here hx rfl (hb hby d1_13) rfl (l' := #[.val (.ref a1), .val (.int (1 : Int32)), .val (.double (FP.i2d b)), .second, .val (.int (1 : Int32))]) rfl k) ?_
  show own_G p e below _ (s₁.setTop (mkF m 15 #[.val (.ref a1), .val (.int (1 : Int32)), .val (.double (FP.i2d b)), .second, .val (.int (1 : Int32))] []))
  refine own_via (fun t k => XS.iload X0.here hx rfl (hb hby d1_15) rfl k) ?_
  show own_G p e below _ (s₁.setTop (mkF m 17 #[.val (.ref a1), .val (.int (1 : Int32)), .val (.double (FP.i2d b)), .second, .val (.int (1 : Int32))] [(.int (1 : Int32))]))
  refine own_via (fun t k => XS.ifNo X0.here hx rfl (hb hby d1_17) rfl ((if0 _ _).trans (feq (by decide : ¬ ((1 : Int32) = (0 : Int32)))).1) k) ?_
  show own_G p e below _ (s₁.setTop (mkF m 20 #[.val (.ref a1), .val (.int (1 : Int32)), .val (.double (FP.i2d b)), .second, .val (.int (1 : Int32))] []))
  refine own_via (fun t k => XS.aloadN X0.here hx rfl (hb hby d1_20) rfl rfl k) ?_
  show own_G p e below _ (s₁.setTop (mkF m 21 #[.val (.ref a1), .val (.int (1 : Int32)), .val (.double (FP.i2d b)), .second, .val (.int (1 : Int32))] [(.ref a1)]))
  refine own_via (fun t k => XS.iloadN X0.here hx rfl (hb hby d1_21) rfl k) ?_
  show own_G p e below _ (s₁.setTop (mkF m 22 #[.val (.ref a1), .val (.int (1 : Int32)), .val (.double (FP.i2d b)), .second, .val (.int (1 : Int32))] [(.int (1 : Int32)), (.ref a1)]))
  refine own_via (fun t k => XS.dloadN X0.here hx rfl (hb hby d1_22) rfl k) ?_
  show own_G p e below _ (s₁.setTop (mkF m 23 #[.val (.ref a1), .val (.int (1 : Int32)), .val (.double (FP.i2d b)), .second, .val (.int (1 : Int32))] [(.double (FP.i2d b)), (.int (1 : Int32)), (.ref a1)]))
  obtain ⟨cl4, Ar4, q4, S4, Ng4, Hs4, G4⟩ := id V0
  have hin4 : ¬ ((1 : Int32) < 0 ∨ cl4.slots.size ≤ ((1 : Int32)).toNatClampNeg) := inb_of S4 ⟨by decide, by decide⟩
  obtain ⟨T4, h4, X4, e4, W4, st4⟩ := stD X0 hx hZ e0 Ar4 (j := (1 : Int32)) hin4 (g := (mkF m 23 #[.val (.ref a1), .val (.int (1 : Int32)), .val (.double (FP.i2d b)), .second, .val (.int (1 : Int32))] [(.double (FP.i2d b)), (.int (1 : Int32)), (.ref a1)])) rfl rfl (hb hby d1_23)
  have V4 : Arv Z h4 a1 kc .double (3 : Int32) [(.double (FP.i2d x0)), (.double (FP.i2d b)), (.double (FP.i2d x2))] (.double (0 : UInt64)) := Arv.set Ar4 q4 S4 Ng4 Hs4 G4 rfl W4 1 rfl (Nat.le_of_ble_eq_true rfl)
  have N4 := Fr.snoc X4 N0 gx_a1
  have Z4 : n0 ≤ h4.size := Nat.le_trans Z0 (Nat.le_of_eq W4.size.symm)
  have K4 := K0.wr W4 (Or.inl (List.mem_of_getElem? (i := 0) rfl))
  refine own_via st4 ?_
  show own_G p e below _ (T4.setTop (mkF m 24 #[.val (.ref a1), .val (.int (1 : Int32)), .val (.double (FP.i2d b)), .second, .val (.int (1 : Int32))] []))
  refine own_via (fun t k => XS.iload X4.here hx rfl (hb hby d1_24) rfl k) ?_
  show own_G p e below _ (T4.setTop (mkF m 26 #[.val (.ref a1), .val (.int (1 : Int32)), .val (.double (FP.i2d b)), .second, .val (.int (1 : Int32))] [(.int (1 : Int32))]))
  obtain ⟨fs, hr, hrun, hended, hW, hsame⟩ := X4.leave (v := some (.int (1 : Int32))) (fun h => by rw [Bd.returns] at h; cases h)
  refine ⟨_, _, retN X4 hx (t := .boolean) Bd.returns (by simp) (hb hby d1_26) hr, hrun, hended, _, _, rfl, ?_, ⟨_, rfl⟩, hW, hsame.mono (by decide) (by decide)⟩
  show rm1_1gt_Q Z a1 x0 x1 x2 b kc h0 n0 _ T4.heap _
  rw [e4]
  exact ⟨rfl, N4, K4, V4⟩

theorem rm1_2lt_pn : plainName "com/example/odds2/odds2/engine/Bounds" = true := by first | (simp [plainName, overriddenIn]; done) | decide +kernel
theorem rm1_2lt_ef (m : MethodId) (z0 : Addr) (z1 : Int32) (z2 : UInt64) : entryFrame m #[(.ref z0), (.int z1), (.double z2)] 5 = mkF m 0 #[.val (.ref z0), .val (.int z1), .val (.double z2), .second, .unset] [] := by first | (simp [entryFrame, mkF, argsToLocals, Value.category]; done) | rfl
def rm1_2lt_Q (Z : State) (a1 : Addr) (x0 : Int32) (x1 : Int32) (x2 : Int32) (b : Int32) (kc : ClassId) (h0 : Heap) (n0 : Nat) (v : Option Value) (h : Heap) (L : List Loc) : Prop := v = some (.int (0 : Int32)) ∧ Fr n0 L ∧ Keep h0 h [a1] ∧ Arv Z h a1 kc .double (3 : Int32) [(.double (FP.i2d x0)), (.double (FP.i2d x1)), (.double (FP.i2d x2))] (.double (0 : UInt64))
set_option maxRecDepth 65536 in
set_option maxHeartbeats 40000000 in
theorem rm1_2lt (l : Launch) (Z : State) (a0 : Array Value) (hw : ∀ d ∈ tables_1, d.before a0 Z = true) (ws : List Jvm.Cond) (a1 : Addr) (x0 : Int32) (x1 : Int32) (x2 : Int32) (b : Int32) (kc : ClassId) (h0 : Heap) (n0 : Nat) (Z0 : n0 ≤ h0.size) (V0 : Arv Z h0 a1 kc .double (3 : Int32) [(.double (FP.i2d x0)), (.double (FP.i2d x1)), (.double (FP.i2d x2))] (.double (0 : UInt64))) (gx_a1 : n0 ≤ a1) (hob : b < x2) :
    MetFree l (⟨"com/example/odds2/odds2/engine/Bounds", "tightenLower", "([DID)Z"⟩ : MethodName) (head1 (Jvm.Cond.code (⟨"com/example/odds2/odds2/engine/Bounds", "tightenLower", "([DID)Z"⟩ : MethodName) prog_7_method_6_code 5 (some .boolean) :: ws) ({ frames := 0, cells := 0, slots := 0, locals := 0 } : Room)) (fun a U => a = #[(.ref a1), (.int (2 : Int32)), (.double (FP.i2d b))] ∧ Z.Warmed39 U.vm ∧ U.heap = h0) (fun _ _ _ _ _ => True) (fun _ U o U' => ∃ v L, o = .returned v ∧ rm1_2lt_Q Z a1 x0 x1 x2 b kc h0 n0 v U'.heap L ∧ FrameEnd U o U' L ({ frames := 0, cells := 0, slots := 0, locals := 0 } : Room).cells ({ frames := 0, cells := 0, slots := 0, locals := 0 } : Room).slots) := by
  refine MetFree.of_bodySF (plainFor_of_name rm1_2lt_pn) hisR ?_
  intro p e s m args below meth c s₁ Bd hml0 hP hK
  obtain ⟨rfl, hZ, hh⟩ := hP
  have hx := Bd.exec
  have hby := Bd.bytes
  have hml : c.maxLocals = 5 := hml0
  have hown : s.vm.findClass "com/example/odds2/odds2/engine/Bounds" = some m.cls := findClass_of_methodNamed Bd.named
  have hnm := (name_of_methodNamed Bd.named Bd.method).1
  have X0 : Stand p l e ({ frames := 0, cells := 0, slots := 0, locals := 0 } : Room) s m #[(.ref a1), (.int (2 : Int32)), (.double (FP.i2d b))] below meth c s₁ [] 0 0 := Stand.of_body Bd
  have e0 : s₁.heap = h0 := by rw [← hh, Bd.state]; rfl
  have N0 := Fr.nil n0
  refine own_via (fun t k => castTop (rm1_2lt_ef m a1 (2 : Int32) (FP.i2d b)) k) ?_
  have K0 := Keep.refl h0 [a1]
  show own_G p e below _ (s₁.setTop (mkF m 0 #[.val (.ref a1), .val (.int (2 : Int32)), .val (.double (FP.i2d b)), .second, .unset] []))
  refine own_via (fun t k => XS.dloadN X0.here hx rfl (hb hby d1_0) rfl k) ?_
  show own_G p e below _ (s₁.setTop (mkF m 1 #[.val (.ref a1), .val (.int (2 : Int32)), .val (.double (FP.i2d b)), .second, .unset] [(.double (FP.i2d b))]))
  refine own_via (fun t k => XS.aloadN X0.here hx rfl (hb hby d1_1) rfl rfl k) ?_
  show own_G p e below _ (s₁.setTop (mkF m 2 #[.val (.ref a1), .val (.int (2 : Int32)), .val (.double (FP.i2d b)), .second, .unset] [(.ref a1), (.double (FP.i2d b))]))
  refine own_via (fun t k => XS.iloadN X0.here hx rfl (hb hby d1_2) rfl k) ?_
  show own_G p e below _ (s₁.setTop (mkF m 3 #[.val (.ref a1), .val (.int (2 : Int32)), .val (.double (FP.i2d b)), .second, .unset] [(.int (2 : Int32)), (.ref a1), (.double (FP.i2d b))]))
  obtain ⟨cl1, Ar1, q1, S1, Ng1, Hs1, G1⟩ := id V0
  have hin1 : ¬ ((2 : Int32) < 0 ∨ cl1.slots.size ≤ ((2 : Int32)).toNatClampNeg) := inb_of S1 ⟨by decide, by decide⟩
  have hat1 : cl1.slots[((2 : Int32)).toNatClampNeg]? = some (.double (FP.i2d x2)) := Hs1.at hin1 rfl
  refine own_via (fun t k => X0.daload hx (j := (2 : Int32)) (v := (.double (FP.i2d x2))) (by rw [e0]; exact Ar1.1) (State.isArrayOf_alike hZ.alike Ar1.2.1) Ar1.2.2 hin1 hat1 (g := (mkF m 3 #[.val (.ref a1), .val (.int (2 : Int32)), .val (.double (FP.i2d b)), .second, .unset] [(.int (2 : Int32)), (.ref a1), (.double (FP.i2d b))])) rfl rfl (hb hby d1_3) _ k) ?_
  show own_G p e below _ (s₁.setTop (mkF m 4 #[.val (.ref a1), .val (.int (2 : Int32)), .val (.double (FP.i2d b)), .second, .unset] [(.double (FP.i2d x2)), (.double (FP.i2d b))]))
  refine own_via (fun t k => XS.dcmpS X0.here hx rfl (hb hby d1_4) rfl (own_dc_lt hob _) k) ?_
  show own_G p e below _ (s₁.setTop (mkF m 5 #[.val (.ref a1), .val (.int (2 : Int32)), .val (.double (FP.i2d b)), .second, .unset] [(.int (-1 : Int32))]))
  refine own_via (fun t k => XS.ifYes X0.here hx rfl (pc0 := 5) (pc' := 12) rfl (hb hby d1_5) rfl ((if0 _ _).trans (flt (by decide : ¬ ((0 : Int32) < (-1 : Int32)))).2.2.2) (by decide) (by decide) k) ?_
  show own_G p e below _ (s₁.setTop (mkF m 12 #[.val (.ref a1), .val (.int (2 : Int32)), .val (.double (FP.i2d b)), .second, .unset] []))
  refine own_via (fun t k => XS.iconst X0.here hx rfl (hb hby d1_12) k) ?_
  show own_G p e below _ (s₁.setTop (mkF m 13 #[.val (.ref a1), .val (.int (2 : Int32)), .val (.double (FP.i2d b)), .second, .unset] [(.int (0 : Int32))]))
  refine own_via (fun t k => XS.istore X0.here hx rfl (hb hby d1_13) rfl (l' := #[.val (.ref a1), .val (.int (2 : Int32)), .val (.double (FP.i2d b)), .second, .val (.int (0 : Int32))]) rfl k) ?_
  show own_G p e below _ (s₁.setTop (mkF m 15 #[.val (.ref a1), .val (.int (2 : Int32)), .val (.double (FP.i2d b)), .second, .val (.int (0 : Int32))] []))
  refine own_via (fun t k => XS.iload X0.here hx rfl (hb hby d1_15) rfl k) ?_
  show own_G p e below _ (s₁.setTop (mkF m 17 #[.val (.ref a1), .val (.int (2 : Int32)), .val (.double (FP.i2d b)), .second, .val (.int (0 : Int32))] [(.int (0 : Int32))]))
  refine own_via (fun t k => XS.ifYes X0.here hx rfl (pc0 := 17) (pc' := 24) rfl (hb hby d1_17) rfl ((if0 _ _).trans (teq (by decide : (0 : Int32) = (0 : Int32))).1) (by decide) (by decide) k) ?_
  show own_G p e below _ (s₁.setTop (mkF m 24 #[.val (.ref a1), .val (.int (2 : Int32)), .val (.double (FP.i2d b)), .second, .val (.int (0 : Int32))] []))
  refine own_via (fun t k => XS.iload X0.here hx rfl (hb hby d1_24) rfl k) ?_
  show own_G p e below _ (s₁.setTop (mkF m 26 #[.val (.ref a1), .val (.int (2 : Int32)), .val (.double (FP.i2d b)), .second, .val (.int (0 : Int32))] [(.int (0 : Int32))]))
  obtain ⟨fs, hr, hrun, hended, hW, hsame⟩ := X0.leave (v := some (.int (0 : Int32))) (fun h => by rw [Bd.returns] at h; cases h)
  refine ⟨_, _, retN X0 hx (t := .boolean) Bd.returns (by simp) (hb hby d1_26) hr, hrun, hended, _, _, rfl, ?_, ⟨_, rfl⟩, hW, hsame.mono (by decide) (by decide)⟩
  show rm1_2lt_Q Z a1 x0 x1 x2 b kc h0 n0 _ s₁.heap _
  rw [e0]
  exact ⟨rfl, N0, K0, V0⟩

theorem rm1_2eq_pn : plainName "com/example/odds2/odds2/engine/Bounds" = true := by first | (simp [plainName, overriddenIn]; done) | decide +kernel
theorem rm1_2eq_ef (m : MethodId) (z0 : Addr) (z1 : Int32) (z2 : UInt64) : entryFrame m #[(.ref z0), (.int z1), (.double z2)] 5 = mkF m 0 #[.val (.ref z0), .val (.int z1), .val (.double z2), .second, .unset] [] := by first | (simp [entryFrame, mkF, argsToLocals, Value.category]; done) | rfl
def rm1_2eq_Q (Z : State) (a1 : Addr) (x0 : Int32) (x1 : Int32) (x2 : Int32) (b : Int32) (kc : ClassId) (h0 : Heap) (n0 : Nat) (v : Option Value) (h : Heap) (L : List Loc) : Prop := v = some (.int (0 : Int32)) ∧ Fr n0 L ∧ Keep h0 h [a1] ∧ Arv Z h a1 kc .double (3 : Int32) [(.double (FP.i2d x0)), (.double (FP.i2d x1)), (.double (FP.i2d x2))] (.double (0 : UInt64))
set_option maxRecDepth 65536 in
set_option maxHeartbeats 40000000 in
theorem rm1_2eq (l : Launch) (Z : State) (a0 : Array Value) (hw : ∀ d ∈ tables_1, d.before a0 Z = true) (ws : List Jvm.Cond) (a1 : Addr) (x0 : Int32) (x1 : Int32) (x2 : Int32) (b : Int32) (kc : ClassId) (h0 : Heap) (n0 : Nat) (Z0 : n0 ≤ h0.size) (V0 : Arv Z h0 a1 kc .double (3 : Int32) [(.double (FP.i2d x0)), (.double (FP.i2d x1)), (.double (FP.i2d x2))] (.double (0 : UInt64))) (gx_a1 : n0 ≤ a1) (hob : b = x2) :
    MetFree l (⟨"com/example/odds2/odds2/engine/Bounds", "tightenLower", "([DID)Z"⟩ : MethodName) (head1 (Jvm.Cond.code (⟨"com/example/odds2/odds2/engine/Bounds", "tightenLower", "([DID)Z"⟩ : MethodName) prog_7_method_6_code 5 (some .boolean) :: ws) ({ frames := 0, cells := 0, slots := 0, locals := 0 } : Room)) (fun a U => a = #[(.ref a1), (.int (2 : Int32)), (.double (FP.i2d b))] ∧ Z.Warmed39 U.vm ∧ U.heap = h0) (fun _ _ _ _ _ => True) (fun _ U o U' => ∃ v L, o = .returned v ∧ rm1_2eq_Q Z a1 x0 x1 x2 b kc h0 n0 v U'.heap L ∧ FrameEnd U o U' L ({ frames := 0, cells := 0, slots := 0, locals := 0 } : Room).cells ({ frames := 0, cells := 0, slots := 0, locals := 0 } : Room).slots) := by
  refine MetFree.of_bodySF (plainFor_of_name rm1_2eq_pn) hisR ?_
  intro p e s m args below meth c s₁ Bd hml0 hP hK
  obtain ⟨rfl, hZ, hh⟩ := hP
  have hx := Bd.exec
  have hby := Bd.bytes
  have hml : c.maxLocals = 5 := hml0
  have hown : s.vm.findClass "com/example/odds2/odds2/engine/Bounds" = some m.cls := findClass_of_methodNamed Bd.named
  have hnm := (name_of_methodNamed Bd.named Bd.method).1
  have X0 : Stand p l e ({ frames := 0, cells := 0, slots := 0, locals := 0 } : Room) s m #[(.ref a1), (.int (2 : Int32)), (.double (FP.i2d b))] below meth c s₁ [] 0 0 := Stand.of_body Bd
  have e0 : s₁.heap = h0 := by rw [← hh, Bd.state]; rfl
  have N0 := Fr.nil n0
  refine own_via (fun t k => castTop (rm1_2eq_ef m a1 (2 : Int32) (FP.i2d b)) k) ?_
  have K0 := Keep.refl h0 [a1]
  show own_G p e below _ (s₁.setTop (mkF m 0 #[.val (.ref a1), .val (.int (2 : Int32)), .val (.double (FP.i2d b)), .second, .unset] []))
  refine own_via (fun t k => XS.dloadN X0.here hx rfl (hb hby d1_0) rfl k) ?_
  show own_G p e below _ (s₁.setTop (mkF m 1 #[.val (.ref a1), .val (.int (2 : Int32)), .val (.double (FP.i2d b)), .second, .unset] [(.double (FP.i2d b))]))
  refine own_via (fun t k => XS.aloadN X0.here hx rfl (hb hby d1_1) rfl rfl k) ?_
  show own_G p e below _ (s₁.setTop (mkF m 2 #[.val (.ref a1), .val (.int (2 : Int32)), .val (.double (FP.i2d b)), .second, .unset] [(.ref a1), (.double (FP.i2d b))]))
  refine own_via (fun t k => XS.iloadN X0.here hx rfl (hb hby d1_2) rfl k) ?_
  show own_G p e below _ (s₁.setTop (mkF m 3 #[.val (.ref a1), .val (.int (2 : Int32)), .val (.double (FP.i2d b)), .second, .unset] [(.int (2 : Int32)), (.ref a1), (.double (FP.i2d b))]))
  obtain ⟨cl1, Ar1, q1, S1, Ng1, Hs1, G1⟩ := id V0
  have hin1 : ¬ ((2 : Int32) < 0 ∨ cl1.slots.size ≤ ((2 : Int32)).toNatClampNeg) := inb_of S1 ⟨by decide, by decide⟩
  have hat1 : cl1.slots[((2 : Int32)).toNatClampNeg]? = some (.double (FP.i2d x2)) := Hs1.at hin1 rfl
  refine own_via (fun t k => X0.daload hx (j := (2 : Int32)) (v := (.double (FP.i2d x2))) (by rw [e0]; exact Ar1.1) (State.isArrayOf_alike hZ.alike Ar1.2.1) Ar1.2.2 hin1 hat1 (g := (mkF m 3 #[.val (.ref a1), .val (.int (2 : Int32)), .val (.double (FP.i2d b)), .second, .unset] [(.int (2 : Int32)), (.ref a1), (.double (FP.i2d b))])) rfl rfl (hb hby d1_3) _ k) ?_
  show own_G p e below _ (s₁.setTop (mkF m 4 #[.val (.ref a1), .val (.int (2 : Int32)), .val (.double (FP.i2d b)), .second, .unset] [(.double (FP.i2d x2)), (.double (FP.i2d b))]))
  refine own_via (fun t k => XS.dcmpS X0.here hx rfl (hb hby d1_4) rfl (own_dc_eq hob _) k) ?_
  show own_G p e below _ (s₁.setTop (mkF m 5 #[.val (.ref a1), .val (.int (2 : Int32)), .val (.double (FP.i2d b)), .second, .unset] [(.int (0 : Int32))]))
  refine own_via (fun t k => XS.ifYes X0.here hx rfl (pc0 := 5) (pc' := 12) rfl (hb hby d1_5) rfl ((if0 _ _).trans (flt (by decide : ¬ ((0 : Int32) < (0 : Int32)))).2.2.2) (by decide) (by decide) k) ?_
  show own_G p e below _ (s₁.setTop (mkF m 12 #[.val (.ref a1), .val (.int (2 : Int32)), .val (.double (FP.i2d b)), .second, .unset] []))
  refine own_via (fun t k => XS.iconst X0.here hx rfl (hb hby d1_12) k) ?_
  show own_G p e below _ (s₁.setTop (mkF m 13 #[.val (.ref a1), .val (.int (2 : Int32)), .val (.double (FP.i2d b)), .second, .unset] [(.int (0 : Int32))]))
  refine own_via (fun t k => XS.istore X0.here hx rfl (hb hby d1_13) rfl (l' := #[.val (.ref a1), .val (.int (2 : Int32)), .val (.double (FP.i2d b)), .second, .val (.int (0 : Int32))]) rfl k) ?_
  show own_G p e below _ (s₁.setTop (mkF m 15 #[.val (.ref a1), .val (.int (2 : Int32)), .val (.double (FP.i2d b)), .second, .val (.int (0 : Int32))] []))
  refine own_via (fun t k => XS.iload X0.here hx rfl (hb hby d1_15) rfl k) ?_
  show own_G p e below _ (s₁.setTop (mkF m 17 #[.val (.ref a1), .val (.int (2 : Int32)), .val (.double (FP.i2d b)), .second, .val (.int (0 : Int32))] [(.int (0 : Int32))]))
  refine own_via (fun t k => XS.ifYes X0.here hx rfl (pc0 := 17) (pc' := 24) rfl (hb hby d1_17) rfl ((if0 _ _).trans (teq (by decide : (0 : Int32) = (0 : Int32))).1) (by decide) (by decide) k) ?_
  show own_G p e below _ (s₁.setTop (mkF m 24 #[.val (.ref a1), .val (.int (2 : Int32)), .val (.double (FP.i2d b)), .second, .val (.int (0 : Int32))] []))
  refine own_via (fun t k => XS.iload X0.here hx rfl (hb hby d1_24) rfl k) ?_
  show own_G p e below _ (s₁.setTop (mkF m 26 #[.val (.ref a1), .val (.int (2 : Int32)), .val (.double (FP.i2d b)), .second, .val (.int (0 : Int32))] [(.int (0 : Int32))]))
  obtain ⟨fs, hr, hrun, hended, hW, hsame⟩ := X0.leave (v := some (.int (0 : Int32))) (fun h => by rw [Bd.returns] at h; cases h)
  refine ⟨_, _, retN X0 hx (t := .boolean) Bd.returns (by simp) (hb hby d1_26) hr, hrun, hended, _, _, rfl, ?_, ⟨_, rfl⟩, hW, hsame.mono (by decide) (by decide)⟩
  show rm1_2eq_Q Z a1 x0 x1 x2 b kc h0 n0 _ s₁.heap _
  rw [e0]
  exact ⟨rfl, N0, K0, V0⟩

theorem rm1_2gt_pn : plainName "com/example/odds2/odds2/engine/Bounds" = true := by first | (simp [plainName, overriddenIn]; done) | decide +kernel
theorem rm1_2gt_ef (m : MethodId) (z0 : Addr) (z1 : Int32) (z2 : UInt64) : entryFrame m #[(.ref z0), (.int z1), (.double z2)] 5 = mkF m 0 #[.val (.ref z0), .val (.int z1), .val (.double z2), .second, .unset] [] := by first | (simp [entryFrame, mkF, argsToLocals, Value.category]; done) | rfl
def rm1_2gt_Q (Z : State) (a1 : Addr) (x0 : Int32) (x1 : Int32) (x2 : Int32) (b : Int32) (kc : ClassId) (h0 : Heap) (n0 : Nat) (v : Option Value) (h : Heap) (L : List Loc) : Prop := v = some (.int (1 : Int32)) ∧ Fr n0 L ∧ Keep h0 h [a1] ∧ Arv Z h a1 kc .double (3 : Int32) [(.double (FP.i2d x0)), (.double (FP.i2d x1)), (.double (FP.i2d b))] (.double (0 : UInt64))
set_option maxRecDepth 65536 in
set_option maxHeartbeats 40000000 in
theorem rm1_2gt (l : Launch) (Z : State) (a0 : Array Value) (hw : ∀ d ∈ tables_1, d.before a0 Z = true) (ws : List Jvm.Cond) (a1 : Addr) (x0 : Int32) (x1 : Int32) (x2 : Int32) (b : Int32) (kc : ClassId) (h0 : Heap) (n0 : Nat) (Z0 : n0 ≤ h0.size) (V0 : Arv Z h0 a1 kc .double (3 : Int32) [(.double (FP.i2d x0)), (.double (FP.i2d x1)), (.double (FP.i2d x2))] (.double (0 : UInt64))) (gx_a1 : n0 ≤ a1) (hob : x2 < b) :
    MetFree l (⟨"com/example/odds2/odds2/engine/Bounds", "tightenLower", "([DID)Z"⟩ : MethodName) (head1 (Jvm.Cond.code (⟨"com/example/odds2/odds2/engine/Bounds", "tightenLower", "([DID)Z"⟩ : MethodName) prog_7_method_6_code 5 (some .boolean) :: ws) ({ frames := 0, cells := 0, slots := 0, locals := 0 } : Room)) (fun a U => a = #[(.ref a1), (.int (2 : Int32)), (.double (FP.i2d b))] ∧ Z.Warmed39 U.vm ∧ U.heap = h0) (fun _ _ _ _ _ => True) (fun _ U o U' => ∃ v L, o = .returned v ∧ rm1_2gt_Q Z a1 x0 x1 x2 b kc h0 n0 v U'.heap L ∧ FrameEnd U o U' L ({ frames := 0, cells := 0, slots := 0, locals := 0 } : Room).cells ({ frames := 0, cells := 0, slots := 0, locals := 0 } : Room).slots) := by
  refine MetFree.of_bodySF (plainFor_of_name rm1_2gt_pn) hisR ?_
  intro p e s m args below meth c s₁ Bd hml0 hP hK
  obtain ⟨rfl, hZ, hh⟩ := hP
  have hx := Bd.exec
  have hby := Bd.bytes
  have hml : c.maxLocals = 5 := hml0
  have hown : s.vm.findClass "com/example/odds2/odds2/engine/Bounds" = some m.cls := findClass_of_methodNamed Bd.named
  have hnm := (name_of_methodNamed Bd.named Bd.method).1
  have X0 : Stand p l e ({ frames := 0, cells := 0, slots := 0, locals := 0 } : Room) s m #[(.ref a1), (.int (2 : Int32)), (.double (FP.i2d b))] below meth c s₁ [] 0 0 := Stand.of_body Bd
  have e0 : s₁.heap = h0 := by rw [← hh, Bd.state]; rfl
  have N0 := Fr.nil n0
  refine own_via (fun t k => castTop (rm1_2gt_ef m a1 (2 : Int32) (FP.i2d b)) k) ?_
  have K0 := Keep.refl h0 [a1]
  show own_G p e below _ (s₁.setTop (mkF m 0 #[.val (.ref a1), .val (.int (2 : Int32)), .val (.double (FP.i2d b)), .second, .unset] []))
  refine own_via (fun t k => XS.dloadN X0.here hx rfl (hb hby d1_0) rfl k) ?_
  show own_G p e below _ (s₁.setTop (mkF m 1 #[.val (.ref a1), .val (.int (2 : Int32)), .val (.double (FP.i2d b)), .second, .unset] [(.double (FP.i2d b))]))
  refine own_via (fun t k => XS.aloadN X0.here hx rfl (hb hby d1_1) rfl rfl k) ?_
  show own_G p e below _ (s₁.setTop (mkF m 2 #[.val (.ref a1), .val (.int (2 : Int32)), .val (.double (FP.i2d b)), .second, .unset] [(.ref a1), (.double (FP.i2d b))]))
  refine own_via (fun t k => XS.iloadN X0.here hx rfl (hb hby d1_2) rfl k) ?_
  show own_G p e below _ (s₁.setTop (mkF m 3 #[.val (.ref a1), .val (.int (2 : Int32)), .val (.double (FP.i2d b)), .second, .unset] [(.int (2 : Int32)), (.ref a1), (.double (FP.i2d b))]))
  obtain ⟨cl1, Ar1, q1, S1, Ng1, Hs1, G1⟩ := id V0
  have hin1 : ¬ ((2 : Int32) < 0 ∨ cl1.slots.size ≤ ((2 : Int32)).toNatClampNeg) := inb_of S1 ⟨by decide, by decide⟩
  have hat1 : cl1.slots[((2 : Int32)).toNatClampNeg]? = some (.double (FP.i2d x2)) := Hs1.at hin1 rfl
  refine own_via (fun t k => X0.daload hx (j := (2 : Int32)) (v := (.double (FP.i2d x2))) (by rw [e0]; exact Ar1.1) (State.isArrayOf_alike hZ.alike Ar1.2.1) Ar1.2.2 hin1 hat1 (g := (mkF m 3 #[.val (.ref a1), .val (.int (2 : Int32)), .val (.double (FP.i2d b)), .second, .unset] [(.int (2 : Int32)), (.ref a1), (.double (FP.i2d b))])) rfl rfl (hb hby d1_3) _ k) ?_
  show own_G p e below _ (s₁.setTop (mkF m 4 #[.val (.ref a1), .val (.int (2 : Int32)), .val (.double (FP.i2d b)), .second, .unset] [(.double (FP.i2d x2)), (.double (FP.i2d b))]))
  refine own_via (fun t k => XS.dcmpS X0.here hx rfl (hb hby d1_4) rfl (own_dc_gt hob _) k) ?_
  show own_G p e below _ (s₁.setTop (mkF m 5 #[.val (.ref a1), .val (.int (2 : Int32)), .val (.double (FP.i2d b)), .second, .unset] [(.int (1 : Int32))]))
  refine own_via (fun t k => XS.ifNo X0.here hx rfl (hb hby d1_5) rfl ((if0 _ _).trans (tlt (by decide : (0 : Int32) < (1 : Int32))).2.2.2) k) ?_
  show own_G p e below _ (s₁.setTop (mkF m 8 #[.val (.ref a1), .val (.int (2 : Int32)), .val (.double (FP.i2d b)), .second, .unset] []))
  refine own_via (fun t k => XS.iconst X0.here hx rfl (hb hby d1_8) k) ?_
  show own_G p e below _ (s₁.setTop (mkF m 9 #[.val (.ref a1), .val (.int (2 : Int32)), .val (.double (FP.i2d b)), .second, .unset] [(.int (1 : Int32))]))
  refine own_via (fun t k => XS.goto X0.here hx rfl (pc0 := 9) (pc' := 13) rfl (hb hby d1_9) (by decide) (by decide) k) ?_
  show own_G p e below _ (s₁.setTop (mkF m 13 #[.val (.ref a1), .val (.int (2 : Int32)), .val (.double (FP.i2d b)), .second, .unset] [(.int (1 : Int32))]))
  refine own_via (fun t k => XS.istore X0.here hx rfl (hb hby d1_13) rfl (l' := #[.val (.ref a1), .val (.int (2 : Int32)), .val (.double (FP.i2d b)), .second, .val (.int (1 : Int32))]) rfl k) ?_
  show own_G p e below _ (s₁.setTop (mkF m 15 #[.val (.ref a1), .val (.int (2 : Int32)), .val (.double (FP.i2d b)), .second, .val (.int (1 : Int32))] []))
  refine own_via (fun t k => XS.iload X0.here hx rfl (hb hby d1_15) rfl k) ?_
  show own_G p e below _ (s₁.setTop (mkF m 17 #[.val (.ref a1), .val (.int (2 : Int32)), .val (.double (FP.i2d b)), .second, .val (.int (1 : Int32))] [(.int (1 : Int32))]))
  refine own_via (fun t k => XS.ifNo X0.here hx rfl (hb hby d1_17) rfl ((if0 _ _).trans (feq (by decide : ¬ ((1 : Int32) = (0 : Int32)))).1) k) ?_
  show own_G p e below _ (s₁.setTop (mkF m 20 #[.val (.ref a1), .val (.int (2 : Int32)), .val (.double (FP.i2d b)), .second, .val (.int (1 : Int32))] []))
  refine own_via (fun t k => XS.aloadN X0.here hx rfl (hb hby d1_20) rfl rfl k) ?_
  show own_G p e below _ (s₁.setTop (mkF m 21 #[.val (.ref a1), .val (.int (2 : Int32)), .val (.double (FP.i2d b)), .second, .val (.int (1 : Int32))] [(.ref a1)]))
  refine own_via (fun t k => XS.iloadN X0.here hx rfl (hb hby d1_21) rfl k) ?_
  show own_G p e below _ (s₁.setTop (mkF m 22 #[.val (.ref a1), .val (.int (2 : Int32)), .val (.double (FP.i2d b)), .second, .val (.int (1 : Int32))] [(.int (2 : Int32)), (.ref a1)]))
  refine own_via (fun t k => XS.dloadN X0.here hx rfl (hb hby d1_22) rfl k) ?_
  show own_G p e below _ (s₁.setTop (mkF m 23 #[.val (.ref a1), .val (.int (2 : Int32)), .val (.double (FP.i2d b)), .second, .val (.int (1 : Int32))] [(.double (FP.i2d b)), (.int (2 : Int32)), (.ref a1)]))
  obtain ⟨cl4, Ar4, q4, S4, Ng4, Hs4, G4⟩ := id V0
  have hin4 : ¬ ((2 : Int32) < 0 ∨ cl4.slots.size ≤ ((2 : Int32)).toNatClampNeg) := inb_of S4 ⟨by decide, by decide⟩
  obtain ⟨T4, h4, X4, e4, W4, st4⟩ := stD X0 hx hZ e0 Ar4 (j := (2 : Int32)) hin4 (g := (mkF m 23 #[.val (.ref a1), .val (.int (2 : Int32)), .val (.double (FP.i2d b)), .second, .val (.int (1 : Int32))] [(.double (FP.i2d b)), (.int (2 : Int32)), (.ref a1)])) rfl rfl (hb hby d1_23)
  have V4 : Arv Z h4 a1 kc .double (3 : Int32) [(.double (FP.i2d x0)), (.double (FP.i2d x1)), (.double (FP.i2d b))] (.double (0 : UInt64)) := Arv.set Ar4 q4 S4 Ng4 Hs4 G4 rfl W4 2 rfl (Nat.le_of_ble_eq_true rfl)
  have N4 := Fr.snoc X4 N0 gx_a1
  have Z4 : n0 ≤ h4.size := Nat.le_trans Z0 (Nat.le_of_eq W4.size.symm)
  have K4 := K0.wr W4 (Or.inl (List.mem_of_getElem? (i := 0) rfl))
  refine own_via st4 ?_
  show own_G p e below _ (T4.setTop (mkF m 24 #[.val (.ref a1), .val (.int (2 : Int32)), .val (.double (FP.i2d b)), .second, .val (.int (1 : Int32))] []))
  refine own_via (fun t k => XS.iload X4.here hx rfl (hb hby d1_24) rfl k) ?_
  show own_G p e below _ (T4.setTop (mkF m 26 #[.val (.ref a1), .val (.int (2 : Int32)), .val (.double (FP.i2d b)), .second, .val (.int (1 : Int32))] [(.int (1 : Int32))]))
  obtain ⟨fs, hr, hrun, hended, hW, hsame⟩ := X4.leave (v := some (.int (1 : Int32))) (fun h => by rw [Bd.returns] at h; cases h)
  refine ⟨_, _, retN X4 hx (t := .boolean) Bd.returns (by simp) (hb hby d1_26) hr, hrun, hended, _, _, rfl, ?_, ⟨_, rfl⟩, hW, hsame.mono (by decide) (by decide)⟩
  show rm1_2gt_Q Z a1 x0 x1 x2 b kc h0 n0 _ T4.heap _
  rw [e4]
  exact ⟨rfl, N4, K4, V4⟩

theorem d2_0 : decode jdk_29_method_65_code 0 = .ok (.iload_n 0, 1) := by decide +kernel
theorem d2_1 : decode jdk_29_method_65_code 1 = .ok (.iload_n 1, 1) := by decide +kernel
theorem d2_2 : decode jdk_29_method_65_code 2 = .ok (.if_icmp .lt 7, 3) := by decide +kernel
theorem d2_5 : decode jdk_29_method_65_code 5 = .ok (.iload_n 0, 1) := by decide +kernel
theorem d2_6 : decode jdk_29_method_65_code 6 = .ok (.goto 4, 3) := by decide +kernel
theorem d2_9 : decode jdk_29_method_65_code 9 = .ok (.iload_n 1, 1) := by decide +kernel
theorem d2_10 : decode jdk_29_method_65_code 10 = .ok (.ireturn, 1) := by decide +kernel
theorem rm2_ef (m : MethodId) (z0 : Int32) (z1 : Int32) : entryFrame m #[(.int z0), (.int z1)] 2 = mkF m 0 #[.val (.int z0), .val (.int z1)] [] := by first | (simp [entryFrame, mkF, argsToLocals, Value.category]; done) | rfl
def rm2_Q (Z : State) (p1 : Int32) (p2 : Int32)  (h0 : Heap) (n0 : Nat) (v : Option Value) (h : Heap) (L : List Loc) : Prop := v = some (.int (own_max p1 p2)) ∧ Fr n0 L ∧ h = h0
set_option maxRecDepth 65536 in
set_option maxHeartbeats 40000000 in
theorem rm2 (l : Launch) (Z : State) (a0 : Array Value) (hw : ∀ d ∈ tables_1, d.before a0 Z = true) (ws : List Jvm.Cond) (p1 : Int32) (p2 : Int32)  (h0 : Heap) (n0 : Nat) (Z0 : n0 ≤ h0.size)  :
    MetFree l (⟨"java/lang/Math", "max", "(II)I"⟩ : MethodName) (head1 (Jvm.Cond.code (⟨"java/lang/Math", "max", "(II)I"⟩ : MethodName) jdk_29_method_65_code 2 (some .int) :: ws) ({ frames := 0, cells := 0, slots := 0, locals := 0 } : Room)) (fun a U => a = #[(.int p1), (.int p2)] ∧ Z.Warmed39 U.vm ∧ U.heap = h0) (fun _ _ _ _ _ => True) (fun _ U o U' => ∃ v L, o = .returned v ∧ rm2_Q Z p1 p2 h0 n0 v U'.heap L ∧ FrameEnd U o U' L ({ frames := 0, cells := 0, slots := 0, locals := 0 } : Room).cells ({ frames := 0, cells := 0, slots := 0, locals := 0 } : Room).slots) := by
  refine MetFree.of_bodySF (Jvm.Free.JP.mathPlain rfl (by decide +kernel)) hisR ?_
  intro p e s m args below meth c s₁ Bd hml0 hP hK
  obtain ⟨rfl, hZ, hh⟩ := hP
  have hx := Bd.exec
  have hby := Bd.bytes
  have hml : c.maxLocals = 2 := hml0
  have hown : s.vm.findClass "java/lang/Math" = some m.cls := findClass_of_methodNamed Bd.named
  have hnm := (name_of_methodNamed Bd.named Bd.method).1
  have X0 : Stand p l e ({ frames := 0, cells := 0, slots := 0, locals := 0 } : Room) s m #[(.int p1), (.int p2)] below meth c s₁ [] 0 0 := Stand.of_body Bd
  have e0 : s₁.heap = h0 := by rw [← hh, Bd.state]; rfl
  have N0 := Fr.nil n0
  refine own_via (fun t k => castTop (rm2_ef m p1 p2) k) ?_
  show own_G p e below _ (s₁.setTop (mkF m 0 #[.val (.int p1), .val (.int p2)] []))
  refine own_via (fun t k => XS.iloadN X0.here hx rfl (hb hby d2_0) rfl k) ?_
  show own_G p e below _ (s₁.setTop (mkF m 1 #[.val (.int p1), .val (.int p2)] [(.int p1)]))
  refine own_via (fun t k => XS.iloadN X0.here hx rfl (hb hby d2_1) rfl k) ?_
  show own_G p e below _ (s₁.setTop (mkF m 2 #[.val (.int p1), .val (.int p2)] [(.int p2), (.int p1)]))
  by_cases c2_1 : p1 < p2
  · skip
    refine own_via (fun t k => XS.icmpYes X0.here hx rfl (pc0 := 2) (pc' := 9) rfl (hb hby d2_2) rfl (tlt c2_1).1 (by decide) (by decide) k) ?_
    show own_G p e below _ (s₁.setTop (mkF m 9 #[.val (.int p1), .val (.int p2)] []))
    refine own_via (fun t k => XS.iloadN X0.here hx rfl (hb hby d2_9) rfl k) ?_
    show own_G p e below _ (s₁.setTop (mkF m 10 #[.val (.int p1), .val (.int p2)] [(.int p2)]))
    obtain ⟨fs, hr, hrun, hended, hW, hsame⟩ := X0.leave (v := some (.int p2)) (fun h => by rw [Bd.returns] at h; cases h)
    refine ⟨_, _, retOut X0 hx Bd.returns rfl (Or.inl ⟨rfl, Or.inl rfl, _, rfl⟩) (hb hby d2_10) hr, hrun, hended, _, _, rfl, ?_, ⟨_, rfl⟩, hW, hsame.mono (by decide) (by decide)⟩
    show rm2_Q Z p1 p2 h0 n0 _ s₁.heap _
    rw [e0]
    exact ⟨by simp only [own_max, if_pos c2_1], N0, rfl⟩
  · skip
    refine own_via (fun t k => XS.icmpNo X0.here hx rfl (hb hby d2_2) rfl (flt c2_1).1 k) ?_
    show own_G p e below _ (s₁.setTop (mkF m 5 #[.val (.int p1), .val (.int p2)] []))
    refine own_via (fun t k => XS.iloadN X0.here hx rfl (hb hby d2_5) rfl k) ?_
    show own_G p e below _ (s₁.setTop (mkF m 6 #[.val (.int p1), .val (.int p2)] [(.int p1)]))
    refine own_via (fun t k => XS.goto X0.here hx rfl (pc0 := 6) (pc' := 10) rfl (hb hby d2_6) (by decide) (by decide) k) ?_
    show own_G p e below _ (s₁.setTop (mkF m 10 #[.val (.int p1), .val (.int p2)] [(.int p1)]))
    obtain ⟨fs, hr, hrun, hended, hW, hsame⟩ := X0.leave (v := some (.int p1)) (fun h => by rw [Bd.returns] at h; cases h)
    refine ⟨_, _, retOut X0 hx Bd.returns rfl (Or.inl ⟨rfl, Or.inl rfl, _, rfl⟩) (hb hby d2_10) hr, hrun, hended, _, _, rfl, ?_, ⟨_, rfl⟩, hW, hsame.mono (by decide) (by decide)⟩
    show rm2_Q Z p1 p2 h0 n0 _ s₁.heap _
    rw [e0]
    exact ⟨by simp only [own_max, if_neg c2_1], N0, rfl⟩

theorem rm0_pn : plainName "com/example/odds2/odds2/engine/BoundsTightenLowerPinLaw" = true := by first | (simp [plainName, overriddenIn]; done) | decide +kernel
theorem pd_rm0_0 : parseMethodDescriptor "([DID)Z" = some ⟨[(.array .double), .int, .double], some .boolean⟩ := by decide +kernel
theorem pd_rm0_1 : parseMethodDescriptor "(II)I" = some ⟨[.int, .int], some .int⟩ := by decide +kernel
theorem rm0_ef (m : MethodId) (z0 : Int32) (z1 : Int32) (z2 : Int32) (z3 : Int32) (z4 : Int32) : entryFrame m #[(.int z0), (.int z1), (.int z2), (.int z3), (.int z4)] maxLocals = mkF m 0 #[.val (.int z0), .val (.int z1), .val (.int z2), .val (.int z3), .val (.int z4), .unset, .unset, .unset, .unset, .unset, .unset, .unset, .unset] [] := by first | (simp [entryFrame, mkF, argsToLocals, Value.category, maxLocals]; done) | rfl
def rm0_Q (Z : State) (p1 : Int32) (p2 : Int32) (p3 : Int32) (p4 : Int32) (p5 : Int32)  (h0 : Heap) (n0 : Nat) (v : Option Value) (h : Heap) (L : List Loc) : Prop := v = some (.int 1) ∧ Fr n0 L
set_option maxRecDepth 65536 in
set_option maxHeartbeats 40000000 in
theorem rm0 (l : Launch) (Z : State) (a0 : Array Value) (hw : ∀ d ∈ tables_1, d.before a0 Z = true) (ws : List Jvm.Cond) (p1 : Int32) (p2 : Int32) (p3 : Int32) (p4 : Int32) (p5 : Int32)  (h0 : Heap) (n0 : Nat) (Z0 : n0 ≤ h0.size)  :
    MetFree l x (head1 (Jvm.Cond.code x code maxLocals ret :: ws) room_1) (fun a U => a = #[(.int p1), (.int p2), (.int p3), (.int p4), (.int p5)] ∧ Z.Warmed39 U.vm ∧ U.heap = h0) (fun _ _ _ _ _ => True) (fun _ U o U' => ∃ v L, o = .returned v ∧ rm0_Q Z p1 p2 p3 p4 p5 h0 n0 v U'.heap L ∧ FrameEnd U o U' L room_1.cells room_1.slots) := by
  refine MetFree.of_bodySF (plainFor_of_name rm0_pn) hisR ?_
  intro p e s m args below meth c s₁ Bd hml0 hP hK
  obtain ⟨rfl, hZ, hh⟩ := hP
  have hx := Bd.exec
  have hby := Bd.bytes
  have hml : c.maxLocals = 13 := hml0
  have hown : s.vm.findClass "com/example/odds2/odds2/engine/BoundsTightenLowerPinLaw" = some m.cls := findClass_of_methodNamed Bd.named
  have hnm := (name_of_methodNamed Bd.named Bd.method).1
  have X0 : Stand p l e room_1 s m #[(.int p1), (.int p2), (.int p3), (.int p4), (.int p5)] below meth c s₁ [] 0 0 := Stand.of_body Bd
  have e0 : s₁.heap = h0 := by rw [← hh, Bd.state]; rfl
  have N0 := Fr.nil n0
  refine own_via (fun t k => castTop (rm0_ef m p1 p2 p3 p4 p5) k) ?_
  show own_G p e below _ (s₁.setTop (mkF m 0 #[.val (.int p1), .val (.int p2), .val (.int p3), .val (.int p4), .val (.int p5), .unset, .unset, .unset, .unset, .unset, .unset, .unset, .unset] []))
  refine own_via (fun t k => XS.iloadN X0.here hx rfl (hb hby at_0) rfl k) ?_
  show own_G p e below _ (s₁.setTop (mkF m 1 #[.val (.int p1), .val (.int p2), .val (.int p3), .val (.int p4), .val (.int p5), .unset, .unset, .unset, .unset, .unset, .unset, .unset, .unset] [(.int p4)]))
  refine own_via (fun t k => X0.ldcInt hx hown (mvT hZ (hw _ (List.mem_of_getElem? (i := 0) rfl))) (g := (mkF m 1 #[.val (.int p1), .val (.int p2), .val (.int p3), .val (.int p4), .val (.int p5), .unset, .unset, .unset, .unset, .unset, .unset, .unset, .unset] [(.int p4)])) rfl (hb hby at_1) _ k) ?_
  show own_G p e below _ (s₁.setTop (mkF m 3 #[.val (.int p1), .val (.int p2), .val (.int p3), .val (.int p4), .val (.int p5), .unset, .unset, .unset, .unset, .unset, .unset, .unset, .unset] [(.int (2147483647 : Int32)), (.int p4)]))
  refine own_via (fun t k => XS.iand X0.here hx rfl (hb hby at_3) rfl k) ?_
  show own_G p e below _ (s₁.setTop (mkF m 4 #[.val (.int p1), .val (.int p2), .val (.int p3), .val (.int p4), .val (.int p5), .unset, .unset, .unset, .unset, .unset, .unset, .unset, .unset] [(.int (p4 &&& (2147483647 : Int32)))]))
  refine own_via (fun t k => XS.iconst X0.here hx rfl (hb hby at_4) k) ?_
  show own_G p e below _ (s₁.setTop (mkF m 5 #[.val (.int p1), .val (.int p2), .val (.int p3), .val (.int p4), .val (.int p5), .unset, .unset, .unset, .unset, .unset, .unset, .unset, .unset] [(.int (3 : Int32)), (.int (p4 &&& (2147483647 : Int32)))]))
  refine own_via (fun t k => iremM X0 hx rfl (hb hby at_5) rfl (by decide) k) ?_
  show own_G p e below _ (s₁.setTop (mkF m 6 #[.val (.int p1), .val (.int p2), .val (.int p3), .val (.int p4), .val (.int p5), .unset, .unset, .unset, .unset, .unset, .unset, .unset, .unset] [(.int ((p4 &&& (2147483647 : Int32)) % (3 : Int32)))]))
  rcases own_mod3 p4 with hk | hk | hk
  · rcases own_tri p5 p1 with hob | hob | hob
    · rw [hk]
      show own_G p e below _ (s₁.setTop (mkF m 6 #[.val (.int p1), .val (.int p2), .val (.int p3), .val (.int p4), .val (.int p5), .unset, .unset, .unset, .unset, .unset, .unset, .unset, .unset] [(.int (0 : Int32))]))
      refine own_via (fun t k => XS.istore X0.here hx rfl (hb hby at_6) rfl (l' := #[.val (.int p1), .val (.int p2), .val (.int p3), .val (.int p4), .val (.int p5), .val (.int (0 : Int32)), .unset, .unset, .unset, .unset, .unset, .unset, .unset]) rfl k) ?_
      show own_G p e below _ (s₁.setTop (mkF m 8 #[.val (.int p1), .val (.int p2), .val (.int p3), .val (.int p4), .val (.int p5), .val (.int (0 : Int32)), .unset, .unset, .unset, .unset, .unset, .unset, .unset] []))
      refine own_via (fun t k => XS.iconst X0.here hx rfl (hb hby at_8) k) ?_
      show own_G p e below _ (s₁.setTop (mkF m 9 #[.val (.int p1), .val (.int p2), .val (.int p3), .val (.int p4), .val (.int p5), .val (.int (0 : Int32)), .unset, .unset, .unset, .unset, .unset, .unset, .unset] [(.int (3 : Int32))]))
      obtain ⟨T1, h1, k1, X1, e1, E1, A1, st1⟩ := newP X0 hx hZ (hw _ (List.mem_of_getElem? (i := 1) rfl)) e0 (g := (mkF m 9 #[.val (.int p1), .val (.int p2), .val (.int p3), .val (.int p4), .val (.int p5), .val (.int (0 : Int32)), .unset, .unset, .unset, .unset, .unset, .unset, .unset] [(.int (3 : Int32))])) rfl (hb hby at_9) rfl (by decide) (cap := 3) (by decide) (by decide) (by decide) (by decide)
      obtain ⟨b1, g1⟩ : ∃ z, z = h0.size := ⟨_, rfl⟩
      rw [← g1] at A1 st1
      have gx_b1 : n0 ≤ b1 := Nat.le_trans Z0 (Nat.le_of_eq g1.symm)
      have Z1 : n0 ≤ h1.size := Nat.le_trans Z0 E1.1
      have V1 : Arv Z h1 b1 k1 .double (3 : Int32) [(.double (0 : UInt64)), (.double (0 : UInt64)), (.double (0 : UInt64))] (.double (0 : UInt64)) := (Arv.new A1 (by decide)).pad (pad_rep [] (.double (0 : UInt64)) 3)
      refine own_via st1 ?_
      show own_G p e below _ (T1.setTop (mkF m 11 #[.val (.int p1), .val (.int p2), .val (.int p3), .val (.int p4), .val (.int p5), .val (.int (0 : Int32)), .unset, .unset, .unset, .unset, .unset, .unset, .unset] [(.ref b1)]))
      refine own_via (fun t k => XS.dup X1.here hx rfl (hb hby at_11) rfl rfl k) ?_
      show own_G p e below _ (T1.setTop (mkF m 12 #[.val (.int p1), .val (.int p2), .val (.int p3), .val (.int p4), .val (.int p5), .val (.int (0 : Int32)), .unset, .unset, .unset, .unset, .unset, .unset, .unset] [(.ref b1), (.ref b1)]))
      refine own_via (fun t k => XS.iconst X1.here hx rfl (hb hby at_12) k) ?_
      show own_G p e below _ (T1.setTop (mkF m 13 #[.val (.int p1), .val (.int p2), .val (.int p3), .val (.int p4), .val (.int p5), .val (.int (0 : Int32)), .unset, .unset, .unset, .unset, .unset, .unset, .unset] [(.int (0 : Int32)), (.ref b1), (.ref b1)]))
      refine own_via (fun t k => XS.iloadN X1.here hx rfl (hb hby at_13) rfl k) ?_
      show own_G p e below _ (T1.setTop (mkF m 14 #[.val (.int p1), .val (.int p2), .val (.int p3), .val (.int p4), .val (.int p5), .val (.int (0 : Int32)), .unset, .unset, .unset, .unset, .unset, .unset, .unset] [(.int p1), (.int (0 : Int32)), (.ref b1), (.ref b1)]))
      refine own_via (fun t k => XS.i2dS X1.here hx rfl (hb hby at_14) rfl rfl k) ?_
      show own_G p e below _ (T1.setTop (mkF m 15 #[.val (.int p1), .val (.int p2), .val (.int p3), .val (.int p4), .val (.int p5), .val (.int (0 : Int32)), .unset, .unset, .unset, .unset, .unset, .unset, .unset] [(.double (FP.i2d p1)), (.int (0 : Int32)), (.ref b1), (.ref b1)]))
      obtain ⟨cl2, Ar2, q2, S2, Ng2, Hs2, G2⟩ := id V1
      have hin2 : ¬ ((0 : Int32) < 0 ∨ cl2.slots.size ≤ ((0 : Int32)).toNatClampNeg) := inb_of S2 ⟨by decide, by decide⟩
      obtain ⟨T2, h2, X2, e2, W2, st2⟩ := stD X1 hx hZ e1 Ar2 (j := (0 : Int32)) hin2 (g := (mkF m 15 #[.val (.int p1), .val (.int p2), .val (.int p3), .val (.int p4), .val (.int p5), .val (.int (0 : Int32)), .unset, .unset, .unset, .unset, .unset, .unset, .unset] [(.double (FP.i2d p1)), (.int (0 : Int32)), (.ref b1), (.ref b1)])) rfl rfl (hb hby at_15)
      have V2 : Arv Z h2 b1 k1 .double (3 : Int32) [(.double (FP.i2d p1)), (.double (0 : UInt64)), (.double (0 : UInt64))] (.double (0 : UInt64)) := Arv.set Ar2 q2 S2 Ng2 Hs2 G2 rfl W2 0 rfl (Nat.le_of_ble_eq_true rfl)
      have N2 := Fr.snoc X2 N0 gx_b1
      have Z2 : n0 ≤ h2.size := Nat.le_trans Z1 (Nat.le_of_eq W2.size.symm)
      refine own_via st2 ?_
      show own_G p e below _ (T2.setTop (mkF m 16 #[.val (.int p1), .val (.int p2), .val (.int p3), .val (.int p4), .val (.int p5), .val (.int (0 : Int32)), .unset, .unset, .unset, .unset, .unset, .unset, .unset] [(.ref b1)]))
      refine own_via (fun t k => XS.dup X2.here hx rfl (hb hby at_16) rfl rfl k) ?_
      show own_G p e below _ (T2.setTop (mkF m 17 #[.val (.int p1), .val (.int p2), .val (.int p3), .val (.int p4), .val (.int p5), .val (.int (0 : Int32)), .unset, .unset, .unset, .unset, .unset, .unset, .unset] [(.ref b1), (.ref b1)]))
      refine own_via (fun t k => XS.iconst X2.here hx rfl (hb hby at_17) k) ?_
      show own_G p e below _ (T2.setTop (mkF m 18 #[.val (.int p1), .val (.int p2), .val (.int p3), .val (.int p4), .val (.int p5), .val (.int (0 : Int32)), .unset, .unset, .unset, .unset, .unset, .unset, .unset] [(.int (1 : Int32)), (.ref b1), (.ref b1)]))
      refine own_via (fun t k => XS.iloadN X2.here hx rfl (hb hby at_18) rfl k) ?_
      show own_G p e below _ (T2.setTop (mkF m 19 #[.val (.int p1), .val (.int p2), .val (.int p3), .val (.int p4), .val (.int p5), .val (.int (0 : Int32)), .unset, .unset, .unset, .unset, .unset, .unset, .unset] [(.int p2), (.int (1 : Int32)), (.ref b1), (.ref b1)]))
      refine own_via (fun t k => XS.i2dS X2.here hx rfl (hb hby at_19) rfl rfl k) ?_
      show own_G p e below _ (T2.setTop (mkF m 20 #[.val (.int p1), .val (.int p2), .val (.int p3), .val (.int p4), .val (.int p5), .val (.int (0 : Int32)), .unset, .unset, .unset, .unset, .unset, .unset, .unset] [(.double (FP.i2d p2)), (.int (1 : Int32)), (.ref b1), (.ref b1)]))
      obtain ⟨cl3, Ar3, q3, S3, Ng3, Hs3, G3⟩ := id V2
      have hin3 : ¬ ((1 : Int32) < 0 ∨ cl3.slots.size ≤ ((1 : Int32)).toNatClampNeg) := inb_of S3 ⟨by decide, by decide⟩
      obtain ⟨T3, h3, X3, e3, W3, st3⟩ := stD X2 hx hZ e2 Ar3 (j := (1 : Int32)) hin3 (g := (mkF m 20 #[.val (.int p1), .val (.int p2), .val (.int p3), .val (.int p4), .val (.int p5), .val (.int (0 : Int32)), .unset, .unset, .unset, .unset, .unset, .unset, .unset] [(.double (FP.i2d p2)), (.int (1 : Int32)), (.ref b1), (.ref b1)])) rfl rfl (hb hby at_20)
      have V3 : Arv Z h3 b1 k1 .double (3 : Int32) [(.double (FP.i2d p1)), (.double (FP.i2d p2)), (.double (0 : UInt64))] (.double (0 : UInt64)) := Arv.set Ar3 q3 S3 Ng3 Hs3 G3 rfl W3 1 rfl (Nat.le_of_ble_eq_true rfl)
      have N3 := Fr.snoc X3 N2 gx_b1
      have Z3 : n0 ≤ h3.size := Nat.le_trans Z2 (Nat.le_of_eq W3.size.symm)
      refine own_via st3 ?_
      show own_G p e below _ (T3.setTop (mkF m 21 #[.val (.int p1), .val (.int p2), .val (.int p3), .val (.int p4), .val (.int p5), .val (.int (0 : Int32)), .unset, .unset, .unset, .unset, .unset, .unset, .unset] [(.ref b1)]))
      refine own_via (fun t k => XS.dup X3.here hx rfl (hb hby at_21) rfl rfl k) ?_
      show own_G p e below _ (T3.setTop (mkF m 22 #[.val (.int p1), .val (.int p2), .val (.int p3), .val (.int p4), .val (.int p5), .val (.int (0 : Int32)), .unset, .unset, .unset, .unset, .unset, .unset, .unset] [(.ref b1), (.ref b1)]))
      refine own_via (fun t k => XS.iconst X3.here hx rfl (hb hby at_22) k) ?_
      show own_G p e below _ (T3.setTop (mkF m 23 #[.val (.int p1), .val (.int p2), .val (.int p3), .val (.int p4), .val (.int p5), .val (.int (0 : Int32)), .unset, .unset, .unset, .unset, .unset, .unset, .unset] [(.int (2 : Int32)), (.ref b1), (.ref b1)]))
      refine own_via (fun t k => XS.iloadN X3.here hx rfl (hb hby at_23) rfl k) ?_
      show own_G p e below _ (T3.setTop (mkF m 24 #[.val (.int p1), .val (.int p2), .val (.int p3), .val (.int p4), .val (.int p5), .val (.int (0 : Int32)), .unset, .unset, .unset, .unset, .unset, .unset, .unset] [(.int p3), (.int (2 : Int32)), (.ref b1), (.ref b1)]))
      refine own_via (fun t k => XS.i2dS X3.here hx rfl (hb hby at_24) rfl rfl k) ?_
      show own_G p e below _ (T3.setTop (mkF m 25 #[.val (.int p1), .val (.int p2), .val (.int p3), .val (.int p4), .val (.int p5), .val (.int (0 : Int32)), .unset, .unset, .unset, .unset, .unset, .unset, .unset] [(.double (FP.i2d p3)), (.int (2 : Int32)), (.ref b1), (.ref b1)]))
      obtain ⟨cl4, Ar4, q4, S4, Ng4, Hs4, G4⟩ := id V3
      have hin4 : ¬ ((2 : Int32) < 0 ∨ cl4.slots.size ≤ ((2 : Int32)).toNatClampNeg) := inb_of S4 ⟨by decide, by decide⟩
      obtain ⟨T4, h4, X4, e4, W4, st4⟩ := stD X3 hx hZ e3 Ar4 (j := (2 : Int32)) hin4 (g := (mkF m 25 #[.val (.int p1), .val (.int p2), .val (.int p3), .val (.int p4), .val (.int p5), .val (.int (0 : Int32)), .unset, .unset, .unset, .unset, .unset, .unset, .unset] [(.double (FP.i2d p3)), (.int (2 : Int32)), (.ref b1), (.ref b1)])) rfl rfl (hb hby at_25)
      have V4 : Arv Z h4 b1 k1 .double (3 : Int32) [(.double (FP.i2d p1)), (.double (FP.i2d p2)), (.double (FP.i2d p3))] (.double (0 : UInt64)) := Arv.set Ar4 q4 S4 Ng4 Hs4 G4 rfl W4 2 rfl (Nat.le_of_ble_eq_true rfl)
      have N4 := Fr.snoc X4 N3 gx_b1
      have Z4 : n0 ≤ h4.size := Nat.le_trans Z3 (Nat.le_of_eq W4.size.symm)
      refine own_via st4 ?_
      show own_G p e below _ (T4.setTop (mkF m 26 #[.val (.int p1), .val (.int p2), .val (.int p3), .val (.int p4), .val (.int p5), .val (.int (0 : Int32)), .unset, .unset, .unset, .unset, .unset, .unset, .unset] [(.ref b1)]))
      refine own_via (fun t k => XS.astore X4.here hx rfl (hb hby at_26) rfl rfl (l' := #[.val (.int p1), .val (.int p2), .val (.int p3), .val (.int p4), .val (.int p5), .val (.int (0 : Int32)), .val (.ref b1), .unset, .unset, .unset, .unset, .unset, .unset]) rfl k) ?_
      show own_G p e below _ (T4.setTop (mkF m 28 #[.val (.int p1), .val (.int p2), .val (.int p3), .val (.int p4), .val (.int p5), .val (.int (0 : Int32)), .val (.ref b1), .unset, .unset, .unset, .unset, .unset, .unset] []))
      refine own_via (fun t k => XS.iload X4.here hx rfl (hb hby at_28) rfl k) ?_
      show own_G p e below _ (T4.setTop (mkF m 30 #[.val (.int p1), .val (.int p2), .val (.int p3), .val (.int p4), .val (.int p5), .val (.int (0 : Int32)), .val (.ref b1), .unset, .unset, .unset, .unset, .unset, .unset] [(.int (0 : Int32))]))
      refine own_via (fun t k => XS.ifNo X4.here hx rfl (hb hby at_30) rfl ((if0 _ _).trans (teq (by decide : (0 : Int32) = (0 : Int32))).2) k) ?_
      show own_G p e below _ (T4.setTop (mkF m 33 #[.val (.int p1), .val (.int p2), .val (.int p3), .val (.int p4), .val (.int p5), .val (.int (0 : Int32)), .val (.ref b1), .unset, .unset, .unset, .unset, .unset, .unset] []))
      refine own_via (fun t k => XS.iloadN X4.here hx rfl (hb hby at_33) rfl k) ?_
      show own_G p e below _ (T4.setTop (mkF m 34 #[.val (.int p1), .val (.int p2), .val (.int p3), .val (.int p4), .val (.int p5), .val (.int (0 : Int32)), .val (.ref b1), .unset, .unset, .unset, .unset, .unset, .unset] [(.int p1)]))
      refine own_via (fun t k => XS.goto X4.here hx rfl (pc0 := 34) (pc' := 48) rfl (hb hby at_34) (by decide) (by decide) k) ?_
      show own_G p e below _ (T4.setTop (mkF m 48 #[.val (.int p1), .val (.int p2), .val (.int p3), .val (.int p4), .val (.int p5), .val (.int (0 : Int32)), .val (.ref b1), .unset, .unset, .unset, .unset, .unset, .unset] [(.int p1)]))
      refine own_via (fun t k => XS.istore X4.here hx rfl (hb hby at_48) rfl (l' := #[.val (.int p1), .val (.int p2), .val (.int p3), .val (.int p4), .val (.int p5), .val (.int (0 : Int32)), .val (.ref b1), .val (.int p1), .unset, .unset, .unset, .unset, .unset]) rfl k) ?_
      show own_G p e below _ (T4.setTop (mkF m 50 #[.val (.int p1), .val (.int p2), .val (.int p3), .val (.int p4), .val (.int p5), .val (.int (0 : Int32)), .val (.ref b1), .val (.int p1), .unset, .unset, .unset, .unset, .unset] []))
      refine own_via (fun t k => XS.aload X4.here hx rfl (hb hby at_50) rfl rfl k) ?_
      show own_G p e below _ (T4.setTop (mkF m 52 #[.val (.int p1), .val (.int p2), .val (.int p3), .val (.int p4), .val (.int p5), .val (.int (0 : Int32)), .val (.ref b1), .val (.int p1), .unset, .unset, .unset, .unset, .unset] [(.ref b1)]))
      refine own_via (fun t k => XS.iload X4.here hx rfl (hb hby at_52) rfl k) ?_
      show own_G p e below _ (T4.setTop (mkF m 54 #[.val (.int p1), .val (.int p2), .val (.int p3), .val (.int p4), .val (.int p5), .val (.int (0 : Int32)), .val (.ref b1), .val (.int p1), .unset, .unset, .unset, .unset, .unset] [(.int (0 : Int32)), (.ref b1)]))
      refine own_via (fun t k => XS.iload X4.here hx rfl (hb hby at_54) rfl k) ?_
      show own_G p e below _ (T4.setTop (mkF m 56 #[.val (.int p1), .val (.int p2), .val (.int p3), .val (.int p4), .val (.int p5), .val (.int (0 : Int32)), .val (.ref b1), .val (.int p1), .unset, .unset, .unset, .unset, .unset] [(.int p5), (.int (0 : Int32)), (.ref b1)]))
      refine own_via (fun t k => XS.i2dS X4.here hx rfl (hb hby at_56) rfl rfl k) ?_
      show own_G p e below _ (T4.setTop (mkF m 57 #[.val (.int p1), .val (.int p2), .val (.int p3), .val (.int p4), .val (.int p5), .val (.int (0 : Int32)), .val (.ref b1), .val (.int p1), .unset, .unset, .unset, .unset, .unset] [(.double (FP.i2d p5)), (.int (0 : Int32)), (.ref b1)]))
      obtain ⟨_, _, ⟨T6, L6, k6, n6⟩, -, X6, ⟨Lc6, hQ6, l6, y6, z6⟩, st6⟩ := Jvm.LawKit.callS X4 hx (y := (⟨"com/example/odds2/odds2/engine/Bounds", "tightenLower", "([DID)Z"⟩ : MethodName)) hown (mvT hZ (hw _ (List.mem_of_getElem? (i := 2) rfl))) (mvT hZ (hw _ (List.mem_of_getElem? (i := 3) rfl))) (mvT hZ (hw _ (List.mem_of_getElem? (i := 4) rfl))) (mvT hZ (hw _ (List.mem_of_getElem? (i := 5) rfl))) (by decide) (backOf (W := 0) (rm1_0lt l Z a0 hw [] b1 p1 p2 p3 p5 k1 h4 n0 Z4 V4 gx_b1 hob) hZ (hw _ (List.mem_of_getElem? (i := 5) rfl)) (hw _ (List.mem_of_getElem? (i := 4) rfl)) (by decide) (by decide)) (g := (mkF m 57 #[.val (.int p1), .val (.int p2), .val (.int p3), .val (.int p4), .val (.int p5), .val (.int (0 : Int32)), .val (.ref b1), .val (.int p1), .unset, .unset, .unset, .unset, .unset] [(.double (FP.i2d p5)), (.int (0 : Int32)), (.ref b1)])) rfl (by rw [hml]; rfl) (argsL := [(.ref b1), (.int (0 : Int32)), (.double (FP.i2d p5))]) (rest := []) (lenOf pd_rm0_0 rfl) rfl (by show 2 * 0 + _ ≤ _; exact Nat.le_of_eq rfl) (hb hby at_57) (fun _ _ => ⟨rfl, e4, (by decide : 1 + 0 ≤ _), (by decide : 3 + 0 ≤ _)⟩)
      dsimp only [Pt.U, Pt.locs, Pt.cells, Pt.slots] at X6 l6 y6 z6 st6 hQ6
      subst l6 y6 z6
      obtain ⟨rfl, N6q, K6, V6⟩ := hQ6
      have N6 := Fr.app N4 N6q
      have Z6 : n0 ≤ T6.heap.size := Nat.le_trans Z4 K6.1
      refine own_via st6 ?_
      show own_G p e below _ (T6.setTop (mkF m 60 #[.val (.int p1), .val (.int p2), .val (.int p3), .val (.int p4), .val (.int p5), .val (.int (0 : Int32)), .val (.ref b1), .val (.int p1), .unset, .unset, .unset, .unset, .unset] [(.int (0 : Int32))]))
      refine own_via (fun t k => XS.istore X6.here hx rfl (hb hby at_60) rfl (l' := #[.val (.int p1), .val (.int p2), .val (.int p3), .val (.int p4), .val (.int p5), .val (.int (0 : Int32)), .val (.ref b1), .val (.int p1), .val (.int (0 : Int32)), .unset, .unset, .unset, .unset]) rfl k) ?_
      show own_G p e below _ (T6.setTop (mkF m 62 #[.val (.int p1), .val (.int p2), .val (.int p3), .val (.int p4), .val (.int p5), .val (.int (0 : Int32)), .val (.ref b1), .val (.int p1), .val (.int (0 : Int32)), .unset, .unset, .unset, .unset] []))
      refine own_via (fun t k => XS.iload X6.here hx rfl (hb hby at_62) rfl k) ?_
      show own_G p e below _ (T6.setTop (mkF m 64 #[.val (.int p1), .val (.int p2), .val (.int p3), .val (.int p4), .val (.int p5), .val (.int (0 : Int32)), .val (.ref b1), .val (.int p1), .val (.int (0 : Int32)), .unset, .unset, .unset, .unset] [(.int (0 : Int32))]))
      refine own_via (fun t k => XS.ifNo X6.here hx rfl (hb hby at_64) rfl ((if0 _ _).trans (teq (by decide : (0 : Int32) = (0 : Int32))).2) k) ?_
      show own_G p e below _ (T6.setTop (mkF m 67 #[.val (.int p1), .val (.int p2), .val (.int p3), .val (.int p4), .val (.int p5), .val (.int (0 : Int32)), .val (.ref b1), .val (.int p1), .val (.int (0 : Int32)), .unset, .unset, .unset, .unset] []))
      refine own_via (fun t k => XS.iloadN X6.here hx rfl (hb hby at_67) rfl k) ?_
      show own_G p e below _ (T6.setTop (mkF m 68 #[.val (.int p1), .val (.int p2), .val (.int p3), .val (.int p4), .val (.int p5), .val (.int (0 : Int32)), .val (.ref b1), .val (.int p1), .val (.int (0 : Int32)), .unset, .unset, .unset, .unset] [(.int p1)]))
      refine own_via (fun t k => XS.iload X6.here hx rfl (hb hby at_68) rfl k) ?_
      show own_G p e below _ (T6.setTop (mkF m 70 #[.val (.int p1), .val (.int p2), .val (.int p3), .val (.int p4), .val (.int p5), .val (.int (0 : Int32)), .val (.ref b1), .val (.int p1), .val (.int (0 : Int32)), .unset, .unset, .unset, .unset] [(.int p5), (.int p1)]))
      obtain ⟨_, _, ⟨T9, L9, k9, n9⟩, -, X9, ⟨Lc9, hQ9, l9, y9, z9⟩, st9⟩ := Jvm.LawKit.callS X6 hx (y := (⟨"java/lang/Math", "max", "(II)I"⟩ : MethodName)) hown (mvT hZ (hw _ (List.mem_of_getElem? (i := 6) rfl))) (mvT hZ (hw _ (List.mem_of_getElem? (i := 7) rfl))) (mvT hZ (hw _ (List.mem_of_getElem? (i := 8) rfl))) (mvT hZ (hw _ (List.mem_of_getElem? (i := 9) rfl))) (by decide) (backOf (W := 0) (rm2 l Z a0 hw [] p1 p5 T6.heap n0 Z6) hZ (hw _ (List.mem_of_getElem? (i := 9) rfl)) (hw _ (List.mem_of_getElem? (i := 8) rfl)) (by decide) (by decide)) (g := (mkF m 70 #[.val (.int p1), .val (.int p2), .val (.int p3), .val (.int p4), .val (.int p5), .val (.int (0 : Int32)), .val (.ref b1), .val (.int p1), .val (.int (0 : Int32)), .unset, .unset, .unset, .unset] [(.int p5), (.int p1)])) rfl (by rw [hml]; rfl) (argsL := [(.int p1), (.int p5)]) (rest := []) (lenOf pd_rm0_1 rfl) rfl (by show 2 * 0 + _ ≤ _; exact Nat.le_of_eq rfl) (hb hby at_70) (fun _ _ => ⟨rfl, rfl, (by decide : 1 + 0 ≤ _), (by decide : 3 + 0 ≤ _)⟩)
      dsimp only [Pt.U, Pt.locs, Pt.cells, Pt.slots] at X9 l9 y9 z9 st9 hQ9
      subst l9 y9 z9
      obtain ⟨rfl, N9q, e9⟩ := hQ9
      have N9 := Fr.app N6 N9q
      refine own_via st9 ?_
      show own_G p e below _ (T9.setTop (mkF m 73 #[.val (.int p1), .val (.int p2), .val (.int p3), .val (.int p4), .val (.int p5), .val (.int (0 : Int32)), .val (.ref b1), .val (.int p1), .val (.int (0 : Int32)), .unset, .unset, .unset, .unset] [(.int (own_max p1 p5))]))
      rw [show own_max p1 p5 = p1 from if_neg (fun z => Int32.lt_irrefl (Int32.lt_trans hob z))]
      show own_G p e below _ (T9.setTop (mkF m 73 #[.val (.int p1), .val (.int p2), .val (.int p3), .val (.int p4), .val (.int p5), .val (.int (0 : Int32)), .val (.ref b1), .val (.int p1), .val (.int (0 : Int32)), .unset, .unset, .unset, .unset] [(.int p1)]))
      refine own_via (fun t k => XS.goto X9.here hx rfl (pc0 := 73) (pc' := 77) rfl (hb hby at_73) (by decide) (by decide) k) ?_
      show own_G p e below _ (T9.setTop (mkF m 77 #[.val (.int p1), .val (.int p2), .val (.int p3), .val (.int p4), .val (.int p5), .val (.int (0 : Int32)), .val (.ref b1), .val (.int p1), .val (.int (0 : Int32)), .unset, .unset, .unset, .unset] [(.int p1)]))
      refine own_via (fun t k => XS.istore X9.here hx rfl (hb hby at_77) rfl (l' := #[.val (.int p1), .val (.int p2), .val (.int p3), .val (.int p4), .val (.int p5), .val (.int (0 : Int32)), .val (.ref b1), .val (.int p1), .val (.int (0 : Int32)), .val (.int p1), .unset, .unset, .unset]) rfl k) ?_
      show own_G p e below _ (T9.setTop (mkF m 79 #[.val (.int p1), .val (.int p2), .val (.int p3), .val (.int p4), .val (.int p5), .val (.int (0 : Int32)), .val (.ref b1), .val (.int p1), .val (.int (0 : Int32)), .val (.int p1), .unset, .unset, .unset] []))
      refine own_via (fun t k => XS.iload X9.here hx rfl (hb hby at_79) rfl k) ?_
      show own_G p e below _ (T9.setTop (mkF m 81 #[.val (.int p1), .val (.int p2), .val (.int p3), .val (.int p4), .val (.int p5), .val (.int (0 : Int32)), .val (.ref b1), .val (.int p1), .val (.int (0 : Int32)), .val (.int p1), .unset, .unset, .unset] [(.int (0 : Int32))]))
      refine own_via (fun t k => XS.iconst X9.here hx rfl (hb hby at_81) k) ?_
      show own_G p e below _ (T9.setTop (mkF m 82 #[.val (.int p1), .val (.int p2), .val (.int p3), .val (.int p4), .val (.int p5), .val (.int (0 : Int32)), .val (.ref b1), .val (.int p1), .val (.int (0 : Int32)), .val (.int p1), .unset, .unset, .unset] [(.int (1 : Int32)), (.int (0 : Int32))]))
      refine own_via (fun t k => XS.icmpYes X9.here hx rfl (pc0 := 82) (pc' := 94) rfl (hb hby at_82) rfl (feq (by decide : ¬ ((0 : Int32) = (1 : Int32)))).2 (by decide) (by decide) k) ?_
      show own_G p e below _ (T9.setTop (mkF m 94 #[.val (.int p1), .val (.int p2), .val (.int p3), .val (.int p4), .val (.int p5), .val (.int (0 : Int32)), .val (.ref b1), .val (.int p1), .val (.int (0 : Int32)), .val (.int p1), .unset, .unset, .unset] []))
      refine own_via (fun t k => XS.iloadN X9.here hx rfl (hb hby at_94) rfl k) ?_
      show own_G p e below _ (T9.setTop (mkF m 95 #[.val (.int p1), .val (.int p2), .val (.int p3), .val (.int p4), .val (.int p5), .val (.int (0 : Int32)), .val (.ref b1), .val (.int p1), .val (.int (0 : Int32)), .val (.int p1), .unset, .unset, .unset] [(.int p2)]))
      refine own_via (fun t k => XS.istore X9.here hx rfl (hb hby at_95) rfl (l' := #[.val (.int p1), .val (.int p2), .val (.int p3), .val (.int p4), .val (.int p5), .val (.int (0 : Int32)), .val (.ref b1), .val (.int p1), .val (.int (0 : Int32)), .val (.int p1), .val (.int p2), .unset, .unset]) rfl k) ?_
      show own_G p e below _ (T9.setTop (mkF m 97 #[.val (.int p1), .val (.int p2), .val (.int p3), .val (.int p4), .val (.int p5), .val (.int (0 : Int32)), .val (.ref b1), .val (.int p1), .val (.int (0 : Int32)), .val (.int p1), .val (.int p2), .unset, .unset] []))
      refine own_via (fun t k => XS.iload X9.here hx rfl (hb hby at_97) rfl k) ?_
      show own_G p e below _ (T9.setTop (mkF m 99 #[.val (.int p1), .val (.int p2), .val (.int p3), .val (.int p4), .val (.int p5), .val (.int (0 : Int32)), .val (.ref b1), .val (.int p1), .val (.int (0 : Int32)), .val (.int p1), .val (.int p2), .unset, .unset] [(.int (0 : Int32))]))
      refine own_via (fun t k => XS.iconst X9.here hx rfl (hb hby at_99) k) ?_
      show own_G p e below _ (T9.setTop (mkF m 100 #[.val (.int p1), .val (.int p2), .val (.int p3), .val (.int p4), .val (.int p5), .val (.int (0 : Int32)), .val (.ref b1), .val (.int p1), .val (.int (0 : Int32)), .val (.int p1), .val (.int p2), .unset, .unset] [(.int (2 : Int32)), (.int (0 : Int32))]))
      refine own_via (fun t k => XS.icmpYes X9.here hx rfl (pc0 := 100) (pc' := 112) rfl (hb hby at_100) rfl (feq (by decide : ¬ ((0 : Int32) = (2 : Int32)))).2 (by decide) (by decide) k) ?_
      show own_G p e below _ (T9.setTop (mkF m 112 #[.val (.int p1), .val (.int p2), .val (.int p3), .val (.int p4), .val (.int p5), .val (.int (0 : Int32)), .val (.ref b1), .val (.int p1), .val (.int (0 : Int32)), .val (.int p1), .val (.int p2), .unset, .unset] []))
      refine own_via (fun t k => XS.iloadN X9.here hx rfl (hb hby at_112) rfl k) ?_
      show own_G p e below _ (T9.setTop (mkF m 113 #[.val (.int p1), .val (.int p2), .val (.int p3), .val (.int p4), .val (.int p5), .val (.int (0 : Int32)), .val (.ref b1), .val (.int p1), .val (.int (0 : Int32)), .val (.int p1), .val (.int p2), .unset, .unset] [(.int p3)]))
      refine own_via (fun t k => XS.istore X9.here hx rfl (hb hby at_113) rfl (l' := #[.val (.int p1), .val (.int p2), .val (.int p3), .val (.int p4), .val (.int p5), .val (.int (0 : Int32)), .val (.ref b1), .val (.int p1), .val (.int (0 : Int32)), .val (.int p1), .val (.int p2), .val (.int p3), .unset]) rfl k) ?_
      show own_G p e below _ (T9.setTop (mkF m 115 #[.val (.int p1), .val (.int p2), .val (.int p3), .val (.int p4), .val (.int p5), .val (.int (0 : Int32)), .val (.ref b1), .val (.int p1), .val (.int (0 : Int32)), .val (.int p1), .val (.int p2), .val (.int p3), .unset] []))
      refine own_via (fun t k => XS.iload X9.here hx rfl (hb hby at_115) rfl k) ?_
      show own_G p e below _ (T9.setTop (mkF m 117 #[.val (.int p1), .val (.int p2), .val (.int p3), .val (.int p4), .val (.int p5), .val (.int (0 : Int32)), .val (.ref b1), .val (.int p1), .val (.int (0 : Int32)), .val (.int p1), .val (.int p2), .val (.int p3), .unset] [(.int p5)]))
      refine own_via (fun t k => XS.iload X9.here hx rfl (hb hby at_117) rfl k) ?_
      show own_G p e below _ (T9.setTop (mkF m 119 #[.val (.int p1), .val (.int p2), .val (.int p3), .val (.int p4), .val (.int p5), .val (.int (0 : Int32)), .val (.ref b1), .val (.int p1), .val (.int (0 : Int32)), .val (.int p1), .val (.int p2), .val (.int p3), .unset] [(.int p1), (.int p5)]))
      refine own_via (fun t k => XS.icmpYes X9.here hx rfl (pc0 := 119) (pc' := 126) rfl (hb hby at_119) rfl (flt (fun z => Int32.lt_irrefl (Int32.lt_trans hob z))).2.2.2 (by decide) (by decide) k) ?_
      show own_G p e below _ (T9.setTop (mkF m 126 #[.val (.int p1), .val (.int p2), .val (.int p3), .val (.int p4), .val (.int p5), .val (.int (0 : Int32)), .val (.ref b1), .val (.int p1), .val (.int (0 : Int32)), .val (.int p1), .val (.int p2), .val (.int p3), .unset] []))
      refine own_via (fun t k => XS.iconst X9.here hx rfl (hb hby at_126) k) ?_
      show own_G p e below _ (T9.setTop (mkF m 127 #[.val (.int p1), .val (.int p2), .val (.int p3), .val (.int p4), .val (.int p5), .val (.int (0 : Int32)), .val (.ref b1), .val (.int p1), .val (.int (0 : Int32)), .val (.int p1), .val (.int p2), .val (.int p3), .unset] [(.int (0 : Int32))]))
      refine own_via (fun t k => XS.istore X9.here hx rfl (hb hby at_127) rfl (l' := #[.val (.int p1), .val (.int p2), .val (.int p3), .val (.int p4), .val (.int p5), .val (.int (0 : Int32)), .val (.ref b1), .val (.int p1), .val (.int (0 : Int32)), .val (.int p1), .val (.int p2), .val (.int p3), .val (.int (0 : Int32))]) rfl k) ?_
      show own_G p e below _ (T9.setTop (mkF m 129 #[.val (.int p1), .val (.int p2), .val (.int p3), .val (.int p4), .val (.int p5), .val (.int (0 : Int32)), .val (.ref b1), .val (.int p1), .val (.int (0 : Int32)), .val (.int p1), .val (.int p2), .val (.int p3), .val (.int (0 : Int32))] []))
      refine own_via (fun t k => XS.iload X9.here hx rfl (hb hby at_129) rfl k) ?_
      show own_G p e below _ (T9.setTop (mkF m 131 #[.val (.int p1), .val (.int p2), .val (.int p3), .val (.int p4), .val (.int p5), .val (.int (0 : Int32)), .val (.ref b1), .val (.int p1), .val (.int (0 : Int32)), .val (.int p1), .val (.int p2), .val (.int p3), .val (.int (0 : Int32))] [(.int (0 : Int32))]))
      refine own_via (fun t k => XS.iload X9.here hx rfl (hb hby at_131) rfl k) ?_
      show own_G p e below _ (T9.setTop (mkF m 133 #[.val (.int p1), .val (.int p2), .val (.int p3), .val (.int p4), .val (.int p5), .val (.int (0 : Int32)), .val (.ref b1), .val (.int p1), .val (.int (0 : Int32)), .val (.int p1), .val (.int p2), .val (.int p3), .val (.int (0 : Int32))] [(.int (0 : Int32)), (.int (0 : Int32))]))
      refine own_via (fun t k => XS.icmpNo X9.here hx rfl (hb hby at_133) rfl (teq (by decide : (0 : Int32) = (0 : Int32))).2 k) ?_
      show own_G p e below _ (T9.setTop (mkF m 136 #[.val (.int p1), .val (.int p2), .val (.int p3), .val (.int p4), .val (.int p5), .val (.int (0 : Int32)), .val (.ref b1), .val (.int p1), .val (.int (0 : Int32)), .val (.int p1), .val (.int p2), .val (.int p3), .val (.int (0 : Int32))] []))
      refine own_via (fun t k => XS.aload X9.here hx rfl (hb hby at_136) rfl rfl k) ?_
      show own_G p e below _ (T9.setTop (mkF m 138 #[.val (.int p1), .val (.int p2), .val (.int p3), .val (.int p4), .val (.int p5), .val (.int (0 : Int32)), .val (.ref b1), .val (.int p1), .val (.int (0 : Int32)), .val (.int p1), .val (.int p2), .val (.int p3), .val (.int (0 : Int32))] [(.ref b1)]))
      refine own_via (fun t k => XS.iconst X9.here hx rfl (hb hby at_138) k) ?_
      show own_G p e below _ (T9.setTop (mkF m 139 #[.val (.int p1), .val (.int p2), .val (.int p3), .val (.int p4), .val (.int p5), .val (.int (0 : Int32)), .val (.ref b1), .val (.int p1), .val (.int (0 : Int32)), .val (.int p1), .val (.int p2), .val (.int p3), .val (.int (0 : Int32))] [(.int (0 : Int32)), (.ref b1)]))
      obtain ⟨cl14, Ar14, q14, S14, Ng14, Hs14, G14⟩ := id V6
      have hin14 : ¬ ((0 : Int32) < 0 ∨ cl14.slots.size ≤ ((0 : Int32)).toNatClampNeg) := inb_of S14 ⟨by decide, by decide⟩
      have hat14 : cl14.slots[((0 : Int32)).toNatClampNeg]? = some (.double (FP.i2d p1)) := Hs14.at hin14 rfl
      refine own_via (fun t k => X9.daload hx (j := (0 : Int32)) (v := (.double (FP.i2d p1))) (by rw [e9]; exact Ar14.1) (State.isArrayOf_alike hZ.alike Ar14.2.1) Ar14.2.2 hin14 hat14 (g := (mkF m 139 #[.val (.int p1), .val (.int p2), .val (.int p3), .val (.int p4), .val (.int p5), .val (.int (0 : Int32)), .val (.ref b1), .val (.int p1), .val (.int (0 : Int32)), .val (.int p1), .val (.int p2), .val (.int p3), .val (.int (0 : Int32))] [(.int (0 : Int32)), (.ref b1)])) rfl rfl (hb hby at_139) _ k) ?_
      show own_G p e below _ (T9.setTop (mkF m 140 #[.val (.int p1), .val (.int p2), .val (.int p3), .val (.int p4), .val (.int p5), .val (.int (0 : Int32)), .val (.ref b1), .val (.int p1), .val (.int (0 : Int32)), .val (.int p1), .val (.int p2), .val (.int p3), .val (.int (0 : Int32))] [(.double (FP.i2d p1))]))
      refine own_via (fun t k => XS.iload X9.here hx rfl (hb hby at_140) rfl k) ?_
      show own_G p e below _ (T9.setTop (mkF m 142 #[.val (.int p1), .val (.int p2), .val (.int p3), .val (.int p4), .val (.int p5), .val (.int (0 : Int32)), .val (.ref b1), .val (.int p1), .val (.int (0 : Int32)), .val (.int p1), .val (.int p2), .val (.int p3), .val (.int (0 : Int32))] [(.int p1), (.double (FP.i2d p1))]))
      refine own_via (fun t k => XS.i2dS X9.here hx rfl (hb hby at_142) rfl rfl k) ?_
      show own_G p e below _ (T9.setTop (mkF m 143 #[.val (.int p1), .val (.int p2), .val (.int p3), .val (.int p4), .val (.int p5), .val (.int (0 : Int32)), .val (.ref b1), .val (.int p1), .val (.int (0 : Int32)), .val (.int p1), .val (.int p2), .val (.int p3), .val (.int (0 : Int32))] [(.double (FP.i2d p1)), (.double (FP.i2d p1))]))
      refine own_via (fun t k => XS.dcmpS X9.here hx rfl (hb hby at_143) rfl (own_dc_eq rfl _) k) ?_
      show own_G p e below _ (T9.setTop (mkF m 144 #[.val (.int p1), .val (.int p2), .val (.int p3), .val (.int p4), .val (.int p5), .val (.int (0 : Int32)), .val (.ref b1), .val (.int p1), .val (.int (0 : Int32)), .val (.int p1), .val (.int p2), .val (.int p3), .val (.int (0 : Int32))] [(.int (0 : Int32))]))
      refine own_via (fun t k => XS.ifNo X9.here hx rfl (hb hby at_144) rfl ((if0 _ _).trans (teq (by decide : (0 : Int32) = (0 : Int32))).2) k) ?_
      show own_G p e below _ (T9.setTop (mkF m 147 #[.val (.int p1), .val (.int p2), .val (.int p3), .val (.int p4), .val (.int p5), .val (.int (0 : Int32)), .val (.ref b1), .val (.int p1), .val (.int (0 : Int32)), .val (.int p1), .val (.int p2), .val (.int p3), .val (.int (0 : Int32))] []))
      refine own_via (fun t k => XS.aload X9.here hx rfl (hb hby at_147) rfl rfl k) ?_
      show own_G p e below _ (T9.setTop (mkF m 149 #[.val (.int p1), .val (.int p2), .val (.int p3), .val (.int p4), .val (.int p5), .val (.int (0 : Int32)), .val (.ref b1), .val (.int p1), .val (.int (0 : Int32)), .val (.int p1), .val (.int p2), .val (.int p3), .val (.int (0 : Int32))] [(.ref b1)]))
      refine own_via (fun t k => XS.iconst X9.here hx rfl (hb hby at_149) k) ?_
      show own_G p e below _ (T9.setTop (mkF m 150 #[.val (.int p1), .val (.int p2), .val (.int p3), .val (.int p4), .val (.int p5), .val (.int (0 : Int32)), .val (.ref b1), .val (.int p1), .val (.int (0 : Int32)), .val (.int p1), .val (.int p2), .val (.int p3), .val (.int (0 : Int32))] [(.int (1 : Int32)), (.ref b1)]))
      obtain ⟨cl16, Ar16, q16, S16, Ng16, Hs16, G16⟩ := id V6
      have hin16 : ¬ ((1 : Int32) < 0 ∨ cl16.slots.size ≤ ((1 : Int32)).toNatClampNeg) := inb_of S16 ⟨by decide, by decide⟩
      have hat16 : cl16.slots[((1 : Int32)).toNatClampNeg]? = some (.double (FP.i2d p2)) := Hs16.at hin16 rfl
      refine own_via (fun t k => X9.daload hx (j := (1 : Int32)) (v := (.double (FP.i2d p2))) (by rw [e9]; exact Ar16.1) (State.isArrayOf_alike hZ.alike Ar16.2.1) Ar16.2.2 hin16 hat16 (g := (mkF m 150 #[.val (.int p1), .val (.int p2), .val (.int p3), .val (.int p4), .val (.int p5), .val (.int (0 : Int32)), .val (.ref b1), .val (.int p1), .val (.int (0 : Int32)), .val (.int p1), .val (.int p2), .val (.int p3), .val (.int (0 : Int32))] [(.int (1 : Int32)), (.ref b1)])) rfl rfl (hb hby at_150) _ k) ?_
      show own_G p e below _ (T9.setTop (mkF m 151 #[.val (.int p1), .val (.int p2), .val (.int p3), .val (.int p4), .val (.int p5), .val (.int (0 : Int32)), .val (.ref b1), .val (.int p1), .val (.int (0 : Int32)), .val (.int p1), .val (.int p2), .val (.int p3), .val (.int (0 : Int32))] [(.double (FP.i2d p2))]))
      refine own_via (fun t k => XS.iload X9.here hx rfl (hb hby at_151) rfl k) ?_
      show own_G p e below _ (T9.setTop (mkF m 153 #[.val (.int p1), .val (.int p2), .val (.int p3), .val (.int p4), .val (.int p5), .val (.int (0 : Int32)), .val (.ref b1), .val (.int p1), .val (.int (0 : Int32)), .val (.int p1), .val (.int p2), .val (.int p3), .val (.int (0 : Int32))] [(.int p2), (.double (FP.i2d p2))]))
      refine own_via (fun t k => XS.i2dS X9.here hx rfl (hb hby at_153) rfl rfl k) ?_
      show own_G p e below _ (T9.setTop (mkF m 154 #[.val (.int p1), .val (.int p2), .val (.int p3), .val (.int p4), .val (.int p5), .val (.int (0 : Int32)), .val (.ref b1), .val (.int p1), .val (.int (0 : Int32)), .val (.int p1), .val (.int p2), .val (.int p3), .val (.int (0 : Int32))] [(.double (FP.i2d p2)), (.double (FP.i2d p2))]))
      refine own_via (fun t k => XS.dcmpS X9.here hx rfl (hb hby at_154) rfl (own_dc_eq rfl _) k) ?_
      show own_G p e below _ (T9.setTop (mkF m 155 #[.val (.int p1), .val (.int p2), .val (.int p3), .val (.int p4), .val (.int p5), .val (.int (0 : Int32)), .val (.ref b1), .val (.int p1), .val (.int (0 : Int32)), .val (.int p1), .val (.int p2), .val (.int p3), .val (.int (0 : Int32))] [(.int (0 : Int32))]))
      refine own_via (fun t k => XS.ifNo X9.here hx rfl (hb hby at_155) rfl ((if0 _ _).trans (teq (by decide : (0 : Int32) = (0 : Int32))).2) k) ?_
      show own_G p e below _ (T9.setTop (mkF m 158 #[.val (.int p1), .val (.int p2), .val (.int p3), .val (.int p4), .val (.int p5), .val (.int (0 : Int32)), .val (.ref b1), .val (.int p1), .val (.int (0 : Int32)), .val (.int p1), .val (.int p2), .val (.int p3), .val (.int (0 : Int32))] []))
      refine own_via (fun t k => XS.aload X9.here hx rfl (hb hby at_158) rfl rfl k) ?_
      show own_G p e below _ (T9.setTop (mkF m 160 #[.val (.int p1), .val (.int p2), .val (.int p3), .val (.int p4), .val (.int p5), .val (.int (0 : Int32)), .val (.ref b1), .val (.int p1), .val (.int (0 : Int32)), .val (.int p1), .val (.int p2), .val (.int p3), .val (.int (0 : Int32))] [(.ref b1)]))
      refine own_via (fun t k => XS.iconst X9.here hx rfl (hb hby at_160) k) ?_
      show own_G p e below _ (T9.setTop (mkF m 161 #[.val (.int p1), .val (.int p2), .val (.int p3), .val (.int p4), .val (.int p5), .val (.int (0 : Int32)), .val (.ref b1), .val (.int p1), .val (.int (0 : Int32)), .val (.int p1), .val (.int p2), .val (.int p3), .val (.int (0 : Int32))] [(.int (2 : Int32)), (.ref b1)]))
      obtain ⟨cl18, Ar18, q18, S18, Ng18, Hs18, G18⟩ := id V6
      have hin18 : ¬ ((2 : Int32) < 0 ∨ cl18.slots.size ≤ ((2 : Int32)).toNatClampNeg) := inb_of S18 ⟨by decide, by decide⟩
      have hat18 : cl18.slots[((2 : Int32)).toNatClampNeg]? = some (.double (FP.i2d p3)) := Hs18.at hin18 rfl
      refine own_via (fun t k => X9.daload hx (j := (2 : Int32)) (v := (.double (FP.i2d p3))) (by rw [e9]; exact Ar18.1) (State.isArrayOf_alike hZ.alike Ar18.2.1) Ar18.2.2 hin18 hat18 (g := (mkF m 161 #[.val (.int p1), .val (.int p2), .val (.int p3), .val (.int p4), .val (.int p5), .val (.int (0 : Int32)), .val (.ref b1), .val (.int p1), .val (.int (0 : Int32)), .val (.int p1), .val (.int p2), .val (.int p3), .val (.int (0 : Int32))] [(.int (2 : Int32)), (.ref b1)])) rfl rfl (hb hby at_161) _ k) ?_
      show own_G p e below _ (T9.setTop (mkF m 162 #[.val (.int p1), .val (.int p2), .val (.int p3), .val (.int p4), .val (.int p5), .val (.int (0 : Int32)), .val (.ref b1), .val (.int p1), .val (.int (0 : Int32)), .val (.int p1), .val (.int p2), .val (.int p3), .val (.int (0 : Int32))] [(.double (FP.i2d p3))]))
      refine own_via (fun t k => XS.iload X9.here hx rfl (hb hby at_162) rfl k) ?_
      show own_G p e below _ (T9.setTop (mkF m 164 #[.val (.int p1), .val (.int p2), .val (.int p3), .val (.int p4), .val (.int p5), .val (.int (0 : Int32)), .val (.ref b1), .val (.int p1), .val (.int (0 : Int32)), .val (.int p1), .val (.int p2), .val (.int p3), .val (.int (0 : Int32))] [(.int p3), (.double (FP.i2d p3))]))
      refine own_via (fun t k => XS.i2dS X9.here hx rfl (hb hby at_164) rfl rfl k) ?_
      show own_G p e below _ (T9.setTop (mkF m 165 #[.val (.int p1), .val (.int p2), .val (.int p3), .val (.int p4), .val (.int p5), .val (.int (0 : Int32)), .val (.ref b1), .val (.int p1), .val (.int (0 : Int32)), .val (.int p1), .val (.int p2), .val (.int p3), .val (.int (0 : Int32))] [(.double (FP.i2d p3)), (.double (FP.i2d p3))]))
      refine own_via (fun t k => XS.dcmpS X9.here hx rfl (hb hby at_165) rfl (own_dc_eq rfl _) k) ?_
      show own_G p e below _ (T9.setTop (mkF m 166 #[.val (.int p1), .val (.int p2), .val (.int p3), .val (.int p4), .val (.int p5), .val (.int (0 : Int32)), .val (.ref b1), .val (.int p1), .val (.int (0 : Int32)), .val (.int p1), .val (.int p2), .val (.int p3), .val (.int (0 : Int32))] [(.int (0 : Int32))]))
      refine own_via (fun t k => XS.ifNo X9.here hx rfl (hb hby at_166) rfl ((if0 _ _).trans (teq (by decide : (0 : Int32) = (0 : Int32))).2) k) ?_
      show own_G p e below _ (T9.setTop (mkF m 169 #[.val (.int p1), .val (.int p2), .val (.int p3), .val (.int p4), .val (.int p5), .val (.int (0 : Int32)), .val (.ref b1), .val (.int p1), .val (.int (0 : Int32)), .val (.int p1), .val (.int p2), .val (.int p3), .val (.int (0 : Int32))] []))
      refine own_via (fun t k => XS.iconst X9.here hx rfl (hb hby at_169) k) ?_
      show own_G p e below _ (T9.setTop (mkF m 170 #[.val (.int p1), .val (.int p2), .val (.int p3), .val (.int p4), .val (.int p5), .val (.int (0 : Int32)), .val (.ref b1), .val (.int p1), .val (.int (0 : Int32)), .val (.int p1), .val (.int p2), .val (.int p3), .val (.int (0 : Int32))] [(.int (1 : Int32))]))
      refine own_via (fun t k => XS.goto X9.here hx rfl (pc0 := 170) (pc' := 174) rfl (hb hby at_170) (by decide) (by decide) k) ?_
      show own_G p e below _ (T9.setTop (mkF m 174 #[.val (.int p1), .val (.int p2), .val (.int p3), .val (.int p4), .val (.int p5), .val (.int (0 : Int32)), .val (.ref b1), .val (.int p1), .val (.int (0 : Int32)), .val (.int p1), .val (.int p2), .val (.int p3), .val (.int (0 : Int32))] [(.int (1 : Int32))]))
      obtain ⟨fs, hr, hrun, hended, hW, hsame⟩ := X9.leave (v := some (.int (1 : Int32))) (fun h => by rw [Bd.returns] at h; cases h)
      refine ⟨_, _, retN X9 hx (t := .boolean) Bd.returns (by simp) (hb hby at_174) hr, hrun, hended, _, _, rfl, ?_, ⟨_, rfl⟩, hW, hsame.mono (by decide) (by decide)⟩
      show rm0_Q Z p1 p2 p3 p4 p5 h0 n0 _ T9.heap _
      rw [e9]
      exact ⟨rfl, N9⟩
    · rw [hk]
      show own_G p e below _ (s₁.setTop (mkF m 6 #[.val (.int p1), .val (.int p2), .val (.int p3), .val (.int p4), .val (.int p5), .unset, .unset, .unset, .unset, .unset, .unset, .unset, .unset] [(.int (0 : Int32))]))
      refine own_via (fun t k => XS.istore X0.here hx rfl (hb hby at_6) rfl (l' := #[.val (.int p1), .val (.int p2), .val (.int p3), .val (.int p4), .val (.int p5), .val (.int (0 : Int32)), .unset, .unset, .unset, .unset, .unset, .unset, .unset]) rfl k) ?_
      show own_G p e below _ (s₁.setTop (mkF m 8 #[.val (.int p1), .val (.int p2), .val (.int p3), .val (.int p4), .val (.int p5), .val (.int (0 : Int32)), .unset, .unset, .unset, .unset, .unset, .unset, .unset] []))
      refine own_via (fun t k => XS.iconst X0.here hx rfl (hb hby at_8) k) ?_
      show own_G p e below _ (s₁.setTop (mkF m 9 #[.val (.int p1), .val (.int p2), .val (.int p3), .val (.int p4), .val (.int p5), .val (.int (0 : Int32)), .unset, .unset, .unset, .unset, .unset, .unset, .unset] [(.int (3 : Int32))]))
      obtain ⟨T20, h20, k20, X20, e20, E20, A20, st20⟩ := newP X0 hx hZ (hw _ (List.mem_of_getElem? (i := 1) rfl)) e0 (g := (mkF m 9 #[.val (.int p1), .val (.int p2), .val (.int p3), .val (.int p4), .val (.int p5), .val (.int (0 : Int32)), .unset, .unset, .unset, .unset, .unset, .unset, .unset] [(.int (3 : Int32))])) rfl (hb hby at_9) rfl (by decide) (cap := 3) (by decide) (by decide) (by decide) (by decide)
      obtain ⟨b20, g20⟩ : ∃ z, z = h0.size := ⟨_, rfl⟩
      rw [← g20] at A20 st20
      have gx_b20 : n0 ≤ b20 := Nat.le_trans Z0 (Nat.le_of_eq g20.symm)
      have Z20 : n0 ≤ h20.size := Nat.le_trans Z0 E20.1
      have V20 : Arv Z h20 b20 k20 .double (3 : Int32) [(.double (0 : UInt64)), (.double (0 : UInt64)), (.double (0 : UInt64))] (.double (0 : UInt64)) := (Arv.new A20 (by decide)).pad (pad_rep [] (.double (0 : UInt64)) 3)
      refine own_via st20 ?_
      show own_G p e below _ (T20.setTop (mkF m 11 #[.val (.int p1), .val (.int p2), .val (.int p3), .val (.int p4), .val (.int p5), .val (.int (0 : Int32)), .unset, .unset, .unset, .unset, .unset, .unset, .unset] [(.ref b20)]))
      refine own_via (fun t k => XS.dup X20.here hx rfl (hb hby at_11) rfl rfl k) ?_
      show own_G p e below _ (T20.setTop (mkF m 12 #[.val (.int p1), .val (.int p2), .val (.int p3), .val (.int p4), .val (.int p5), .val (.int (0 : Int32)), .unset, .unset, .unset, .unset, .unset, .unset, .unset] [(.ref b20), (.ref b20)]))
      refine own_via (fun t k => XS.iconst X20.here hx rfl (hb hby at_12) k) ?_
      show own_G p e below _ (T20.setTop (mkF m 13 #[.val (.int p1), .val (.int p2), .val (.int p3), .val (.int p4), .val (.int p5), .val (.int (0 : Int32)), .unset, .unset, .unset, .unset, .unset, .unset, .unset] [(.int (0 : Int32)), (.ref b20), (.ref b20)]))
      refine own_via (fun t k => XS.iloadN X20.here hx rfl (hb hby at_13) rfl k) ?_
      show own_G p e below _ (T20.setTop (mkF m 14 #[.val (.int p1), .val (.int p2), .val (.int p3), .val (.int p4), .val (.int p5), .val (.int (0 : Int32)), .unset, .unset, .unset, .unset, .unset, .unset, .unset] [(.int p1), (.int (0 : Int32)), (.ref b20), (.ref b20)]))
      refine own_via (fun t k => XS.i2dS X20.here hx rfl (hb hby at_14) rfl rfl k) ?_
      show own_G p e below _ (T20.setTop (mkF m 15 #[.val (.int p1), .val (.int p2), .val (.int p3), .val (.int p4), .val (.int p5), .val (.int (0 : Int32)), .unset, .unset, .unset, .unset, .unset, .unset, .unset] [(.double (FP.i2d p1)), (.int (0 : Int32)), (.ref b20), (.ref b20)]))
      obtain ⟨cl21, Ar21, q21, S21, Ng21, Hs21, G21⟩ := id V20
      have hin21 : ¬ ((0 : Int32) < 0 ∨ cl21.slots.size ≤ ((0 : Int32)).toNatClampNeg) := inb_of S21 ⟨by decide, by decide⟩
      obtain ⟨T21, h21, X21, e21, W21, st21⟩ := stD X20 hx hZ e20 Ar21 (j := (0 : Int32)) hin21 (g := (mkF m 15 #[.val (.int p1), .val (.int p2), .val (.int p3), .val (.int p4), .val (.int p5), .val (.int (0 : Int32)), .unset, .unset, .unset, .unset, .unset, .unset, .unset] [(.double (FP.i2d p1)), (.int (0 : Int32)), (.ref b20), (.ref b20)])) rfl rfl (hb hby at_15)
      have V21 : Arv Z h21 b20 k20 .double (3 : Int32) [(.double (FP.i2d p1)), (.double (0 : UInt64)), (.double (0 : UInt64))] (.double (0 : UInt64)) := Arv.set Ar21 q21 S21 Ng21 Hs21 G21 rfl W21 0 rfl (Nat.le_of_ble_eq_true rfl)
      have N21 := Fr.snoc X21 N0 gx_b20
      have Z21 : n0 ≤ h21.size := Nat.le_trans Z20 (Nat.le_of_eq W21.size.symm)
      refine own_via st21 ?_
      show own_G p e below _ (T21.setTop (mkF m 16 #[.val (.int p1), .val (.int p2), .val (.int p3), .val (.int p4), .val (.int p5), .val (.int (0 : Int32)), .unset, .unset, .unset, .unset, .unset, .unset, .unset] [(.ref b20)]))
      refine own_via (fun t k => XS.dup X21.here hx rfl (hb hby at_16) rfl rfl k) ?_
      show own_G p e below _ (T21.setTop (mkF m 17 #[.val (.int p1), .val (.int p2), .val (.int p3), .val (.int p4), .val (.int p5), .val (.int (0 : Int32)), .unset, .unset, .unset, .unset, .unset, .unset, .unset] [(.ref b20), (.ref b20)]))
      refine own_via (fun t k => XS.iconst X21.here hx rfl (hb hby at_17) k) ?_
      show own_G p e below _ (T21.setTop (mkF m 18 #[.val (.int p1), .val (.int p2), .val (.int p3), .val (.int p4), .val (.int p5), .val (.int (0 : Int32)), .unset, .unset, .unset, .unset, .unset, .unset, .unset] [(.int (1 : Int32)), (.ref b20), (.ref b20)]))
      refine own_via (fun t k => XS.iloadN X21.here hx rfl (hb hby at_18) rfl k) ?_
      show own_G p e below _ (T21.setTop (mkF m 19 #[.val (.int p1), .val (.int p2), .val (.int p3), .val (.int p4), .val (.int p5), .val (.int (0 : Int32)), .unset, .unset, .unset, .unset, .unset, .unset, .unset] [(.int p2), (.int (1 : Int32)), (.ref b20), (.ref b20)]))
      refine own_via (fun t k => XS.i2dS X21.here hx rfl (hb hby at_19) rfl rfl k) ?_
      show own_G p e below _ (T21.setTop (mkF m 20 #[.val (.int p1), .val (.int p2), .val (.int p3), .val (.int p4), .val (.int p5), .val (.int (0 : Int32)), .unset, .unset, .unset, .unset, .unset, .unset, .unset] [(.double (FP.i2d p2)), (.int (1 : Int32)), (.ref b20), (.ref b20)]))
      obtain ⟨cl22, Ar22, q22, S22, Ng22, Hs22, G22⟩ := id V21
      have hin22 : ¬ ((1 : Int32) < 0 ∨ cl22.slots.size ≤ ((1 : Int32)).toNatClampNeg) := inb_of S22 ⟨by decide, by decide⟩
      obtain ⟨T22, h22, X22, e22, W22, st22⟩ := stD X21 hx hZ e21 Ar22 (j := (1 : Int32)) hin22 (g := (mkF m 20 #[.val (.int p1), .val (.int p2), .val (.int p3), .val (.int p4), .val (.int p5), .val (.int (0 : Int32)), .unset, .unset, .unset, .unset, .unset, .unset, .unset] [(.double (FP.i2d p2)), (.int (1 : Int32)), (.ref b20), (.ref b20)])) rfl rfl (hb hby at_20)
      have V22 : Arv Z h22 b20 k20 .double (3 : Int32) [(.double (FP.i2d p1)), (.double (FP.i2d p2)), (.double (0 : UInt64))] (.double (0 : UInt64)) := Arv.set Ar22 q22 S22 Ng22 Hs22 G22 rfl W22 1 rfl (Nat.le_of_ble_eq_true rfl)
      have N22 := Fr.snoc X22 N21 gx_b20
      have Z22 : n0 ≤ h22.size := Nat.le_trans Z21 (Nat.le_of_eq W22.size.symm)
      refine own_via st22 ?_
      show own_G p e below _ (T22.setTop (mkF m 21 #[.val (.int p1), .val (.int p2), .val (.int p3), .val (.int p4), .val (.int p5), .val (.int (0 : Int32)), .unset, .unset, .unset, .unset, .unset, .unset, .unset] [(.ref b20)]))
      refine own_via (fun t k => XS.dup X22.here hx rfl (hb hby at_21) rfl rfl k) ?_
      show own_G p e below _ (T22.setTop (mkF m 22 #[.val (.int p1), .val (.int p2), .val (.int p3), .val (.int p4), .val (.int p5), .val (.int (0 : Int32)), .unset, .unset, .unset, .unset, .unset, .unset, .unset] [(.ref b20), (.ref b20)]))
      refine own_via (fun t k => XS.iconst X22.here hx rfl (hb hby at_22) k) ?_
      show own_G p e below _ (T22.setTop (mkF m 23 #[.val (.int p1), .val (.int p2), .val (.int p3), .val (.int p4), .val (.int p5), .val (.int (0 : Int32)), .unset, .unset, .unset, .unset, .unset, .unset, .unset] [(.int (2 : Int32)), (.ref b20), (.ref b20)]))
      refine own_via (fun t k => XS.iloadN X22.here hx rfl (hb hby at_23) rfl k) ?_
      show own_G p e below _ (T22.setTop (mkF m 24 #[.val (.int p1), .val (.int p2), .val (.int p3), .val (.int p4), .val (.int p5), .val (.int (0 : Int32)), .unset, .unset, .unset, .unset, .unset, .unset, .unset] [(.int p3), (.int (2 : Int32)), (.ref b20), (.ref b20)]))
      refine own_via (fun t k => XS.i2dS X22.here hx rfl (hb hby at_24) rfl rfl k) ?_
      show own_G p e below _ (T22.setTop (mkF m 25 #[.val (.int p1), .val (.int p2), .val (.int p3), .val (.int p4), .val (.int p5), .val (.int (0 : Int32)), .unset, .unset, .unset, .unset, .unset, .unset, .unset] [(.double (FP.i2d p3)), (.int (2 : Int32)), (.ref b20), (.ref b20)]))
      obtain ⟨cl23, Ar23, q23, S23, Ng23, Hs23, G23⟩ := id V22
      have hin23 : ¬ ((2 : Int32) < 0 ∨ cl23.slots.size ≤ ((2 : Int32)).toNatClampNeg) := inb_of S23 ⟨by decide, by decide⟩
      obtain ⟨T23, h23, X23, e23, W23, st23⟩ := stD X22 hx hZ e22 Ar23 (j := (2 : Int32)) hin23 (g := (mkF m 25 #[.val (.int p1), .val (.int p2), .val (.int p3), .val (.int p4), .val (.int p5), .val (.int (0 : Int32)), .unset, .unset, .unset, .unset, .unset, .unset, .unset] [(.double (FP.i2d p3)), (.int (2 : Int32)), (.ref b20), (.ref b20)])) rfl rfl (hb hby at_25)
      have V23 : Arv Z h23 b20 k20 .double (3 : Int32) [(.double (FP.i2d p1)), (.double (FP.i2d p2)), (.double (FP.i2d p3))] (.double (0 : UInt64)) := Arv.set Ar23 q23 S23 Ng23 Hs23 G23 rfl W23 2 rfl (Nat.le_of_ble_eq_true rfl)
      have N23 := Fr.snoc X23 N22 gx_b20
      have Z23 : n0 ≤ h23.size := Nat.le_trans Z22 (Nat.le_of_eq W23.size.symm)
      refine own_via st23 ?_
      show own_G p e below _ (T23.setTop (mkF m 26 #[.val (.int p1), .val (.int p2), .val (.int p3), .val (.int p4), .val (.int p5), .val (.int (0 : Int32)), .unset, .unset, .unset, .unset, .unset, .unset, .unset] [(.ref b20)]))
      refine own_via (fun t k => XS.astore X23.here hx rfl (hb hby at_26) rfl rfl (l' := #[.val (.int p1), .val (.int p2), .val (.int p3), .val (.int p4), .val (.int p5), .val (.int (0 : Int32)), .val (.ref b20), .unset, .unset, .unset, .unset, .unset, .unset]) rfl k) ?_
      show own_G p e below _ (T23.setTop (mkF m 28 #[.val (.int p1), .val (.int p2), .val (.int p3), .val (.int p4), .val (.int p5), .val (.int (0 : Int32)), .val (.ref b20), .unset, .unset, .unset, .unset, .unset, .unset] []))
      refine own_via (fun t k => XS.iload X23.here hx rfl (hb hby at_28) rfl k) ?_
      show own_G p e below _ (T23.setTop (mkF m 30 #[.val (.int p1), .val (.int p2), .val (.int p3), .val (.int p4), .val (.int p5), .val (.int (0 : Int32)), .val (.ref b20), .unset, .unset, .unset, .unset, .unset, .unset] [(.int (0 : Int32))]))
      refine own_via (fun t k => XS.ifNo X23.here hx rfl (hb hby at_30) rfl ((if0 _ _).trans (teq (by decide : (0 : Int32) = (0 : Int32))).2) k) ?_
      show own_G p e below _ (T23.setTop (mkF m 33 #[.val (.int p1), .val (.int p2), .val (.int p3), .val (.int p4), .val (.int p5), .val (.int (0 : Int32)), .val (.ref b20), .unset, .unset, .unset, .unset, .unset, .unset] []))
      refine own_via (fun t k => XS.iloadN X23.here hx rfl (hb hby at_33) rfl k) ?_
      show own_G p e below _ (T23.setTop (mkF m 34 #[.val (.int p1), .val (.int p2), .val (.int p3), .val (.int p4), .val (.int p5), .val (.int (0 : Int32)), .val (.ref b20), .unset, .unset, .unset, .unset, .unset, .unset] [(.int p1)]))
      refine own_via (fun t k => XS.goto X23.here hx rfl (pc0 := 34) (pc' := 48) rfl (hb hby at_34) (by decide) (by decide) k) ?_
      show own_G p e below _ (T23.setTop (mkF m 48 #[.val (.int p1), .val (.int p2), .val (.int p3), .val (.int p4), .val (.int p5), .val (.int (0 : Int32)), .val (.ref b20), .unset, .unset, .unset, .unset, .unset, .unset] [(.int p1)]))
      refine own_via (fun t k => XS.istore X23.here hx rfl (hb hby at_48) rfl (l' := #[.val (.int p1), .val (.int p2), .val (.int p3), .val (.int p4), .val (.int p5), .val (.int (0 : Int32)), .val (.ref b20), .val (.int p1), .unset, .unset, .unset, .unset, .unset]) rfl k) ?_
      show own_G p e below _ (T23.setTop (mkF m 50 #[.val (.int p1), .val (.int p2), .val (.int p3), .val (.int p4), .val (.int p5), .val (.int (0 : Int32)), .val (.ref b20), .val (.int p1), .unset, .unset, .unset, .unset, .unset] []))
      refine own_via (fun t k => XS.aload X23.here hx rfl (hb hby at_50) rfl rfl k) ?_
      show own_G p e below _ (T23.setTop (mkF m 52 #[.val (.int p1), .val (.int p2), .val (.int p3), .val (.int p4), .val (.int p5), .val (.int (0 : Int32)), .val (.ref b20), .val (.int p1), .unset, .unset, .unset, .unset, .unset] [(.ref b20)]))
      refine own_via (fun t k => XS.iload X23.here hx rfl (hb hby at_52) rfl k) ?_
      show own_G p e below _ (T23.setTop (mkF m 54 #[.val (.int p1), .val (.int p2), .val (.int p3), .val (.int p4), .val (.int p5), .val (.int (0 : Int32)), .val (.ref b20), .val (.int p1), .unset, .unset, .unset, .unset, .unset] [(.int (0 : Int32)), (.ref b20)]))
      refine own_via (fun t k => XS.iload X23.here hx rfl (hb hby at_54) rfl k) ?_
      show own_G p e below _ (T23.setTop (mkF m 56 #[.val (.int p1), .val (.int p2), .val (.int p3), .val (.int p4), .val (.int p5), .val (.int (0 : Int32)), .val (.ref b20), .val (.int p1), .unset, .unset, .unset, .unset, .unset] [(.int p5), (.int (0 : Int32)), (.ref b20)]))
      refine own_via (fun t k => XS.i2dS X23.here hx rfl (hb hby at_56) rfl rfl k) ?_
      show own_G p e below _ (T23.setTop (mkF m 57 #[.val (.int p1), .val (.int p2), .val (.int p3), .val (.int p4), .val (.int p5), .val (.int (0 : Int32)), .val (.ref b20), .val (.int p1), .unset, .unset, .unset, .unset, .unset] [(.double (FP.i2d p5)), (.int (0 : Int32)), (.ref b20)]))
      obtain ⟨_, _, ⟨T25, L25, k25, n25⟩, -, X25, ⟨Lc25, hQ25, l25, y25, z25⟩, st25⟩ := Jvm.LawKit.callS X23 hx (y := (⟨"com/example/odds2/odds2/engine/Bounds", "tightenLower", "([DID)Z"⟩ : MethodName)) hown (mvT hZ (hw _ (List.mem_of_getElem? (i := 2) rfl))) (mvT hZ (hw _ (List.mem_of_getElem? (i := 3) rfl))) (mvT hZ (hw _ (List.mem_of_getElem? (i := 4) rfl))) (mvT hZ (hw _ (List.mem_of_getElem? (i := 5) rfl))) (by decide) (backOf (W := 0) (rm1_0eq l Z a0 hw [] b20 p1 p2 p3 p5 k20 h23 n0 Z23 V23 gx_b20 hob) hZ (hw _ (List.mem_of_getElem? (i := 5) rfl)) (hw _ (List.mem_of_getElem? (i := 4) rfl)) (by decide) (by decide)) (g := (mkF m 57 #[.val (.int p1), .val (.int p2), .val (.int p3), .val (.int p4), .val (.int p5), .val (.int (0 : Int32)), .val (.ref b20), .val (.int p1), .unset, .unset, .unset, .unset, .unset] [(.double (FP.i2d p5)), (.int (0 : Int32)), (.ref b20)])) rfl (by rw [hml]; rfl) (argsL := [(.ref b20), (.int (0 : Int32)), (.double (FP.i2d p5))]) (rest := []) (lenOf pd_rm0_0 rfl) rfl (by show 2 * 0 + _ ≤ _; exact Nat.le_of_eq rfl) (hb hby at_57) (fun _ _ => ⟨rfl, e23, (by decide : 1 + 0 ≤ _), (by decide : 3 + 0 ≤ _)⟩)
      dsimp only [Pt.U, Pt.locs, Pt.cells, Pt.slots] at X25 l25 y25 z25 st25 hQ25
      subst l25 y25 z25
      obtain ⟨rfl, N25q, K25, V25⟩ := hQ25
      have N25 := Fr.app N23 N25q
      have Z25 : n0 ≤ T25.heap.size := Nat.le_trans Z23 K25.1
      refine own_via st25 ?_
      show own_G p e below _ (T25.setTop (mkF m 60 #[.val (.int p1), .val (.int p2), .val (.int p3), .val (.int p4), .val (.int p5), .val (.int (0 : Int32)), .val (.ref b20), .val (.int p1), .unset, .unset, .unset, .unset, .unset] [(.int (0 : Int32))]))
      refine own_via (fun t k => XS.istore X25.here hx rfl (hb hby at_60) rfl (l' := #[.val (.int p1), .val (.int p2), .val (.int p3), .val (.int p4), .val (.int p5), .val (.int (0 : Int32)), .val (.ref b20), .val (.int p1), .val (.int (0 : Int32)), .unset, .unset, .unset, .unset]) rfl k) ?_
      show own_G p e below _ (T25.setTop (mkF m 62 #[.val (.int p1), .val (.int p2), .val (.int p3), .val (.int p4), .val (.int p5), .val (.int (0 : Int32)), .val (.ref b20), .val (.int p1), .val (.int (0 : Int32)), .unset, .unset, .unset, .unset] []))
      refine own_via (fun t k => XS.iload X25.here hx rfl (hb hby at_62) rfl k) ?_
      show own_G p e below _ (T25.setTop (mkF m 64 #[.val (.int p1), .val (.int p2), .val (.int p3), .val (.int p4), .val (.int p5), .val (.int (0 : Int32)), .val (.ref b20), .val (.int p1), .val (.int (0 : Int32)), .unset, .unset, .unset, .unset] [(.int (0 : Int32))]))
      refine own_via (fun t k => XS.ifNo X25.here hx rfl (hb hby at_64) rfl ((if0 _ _).trans (teq (by decide : (0 : Int32) = (0 : Int32))).2) k) ?_
      show own_G p e below _ (T25.setTop (mkF m 67 #[.val (.int p1), .val (.int p2), .val (.int p3), .val (.int p4), .val (.int p5), .val (.int (0 : Int32)), .val (.ref b20), .val (.int p1), .val (.int (0 : Int32)), .unset, .unset, .unset, .unset] []))
      refine own_via (fun t k => XS.iloadN X25.here hx rfl (hb hby at_67) rfl k) ?_
      show own_G p e below _ (T25.setTop (mkF m 68 #[.val (.int p1), .val (.int p2), .val (.int p3), .val (.int p4), .val (.int p5), .val (.int (0 : Int32)), .val (.ref b20), .val (.int p1), .val (.int (0 : Int32)), .unset, .unset, .unset, .unset] [(.int p1)]))
      refine own_via (fun t k => XS.iload X25.here hx rfl (hb hby at_68) rfl k) ?_
      show own_G p e below _ (T25.setTop (mkF m 70 #[.val (.int p1), .val (.int p2), .val (.int p3), .val (.int p4), .val (.int p5), .val (.int (0 : Int32)), .val (.ref b20), .val (.int p1), .val (.int (0 : Int32)), .unset, .unset, .unset, .unset] [(.int p5), (.int p1)]))
      obtain ⟨_, _, ⟨T28, L28, k28, n28⟩, -, X28, ⟨Lc28, hQ28, l28, y28, z28⟩, st28⟩ := Jvm.LawKit.callS X25 hx (y := (⟨"java/lang/Math", "max", "(II)I"⟩ : MethodName)) hown (mvT hZ (hw _ (List.mem_of_getElem? (i := 6) rfl))) (mvT hZ (hw _ (List.mem_of_getElem? (i := 7) rfl))) (mvT hZ (hw _ (List.mem_of_getElem? (i := 8) rfl))) (mvT hZ (hw _ (List.mem_of_getElem? (i := 9) rfl))) (by decide) (backOf (W := 0) (rm2 l Z a0 hw [] p1 p5 T25.heap n0 Z25) hZ (hw _ (List.mem_of_getElem? (i := 9) rfl)) (hw _ (List.mem_of_getElem? (i := 8) rfl)) (by decide) (by decide)) (g := (mkF m 70 #[.val (.int p1), .val (.int p2), .val (.int p3), .val (.int p4), .val (.int p5), .val (.int (0 : Int32)), .val (.ref b20), .val (.int p1), .val (.int (0 : Int32)), .unset, .unset, .unset, .unset] [(.int p5), (.int p1)])) rfl (by rw [hml]; rfl) (argsL := [(.int p1), (.int p5)]) (rest := []) (lenOf pd_rm0_1 rfl) rfl (by show 2 * 0 + _ ≤ _; exact Nat.le_of_eq rfl) (hb hby at_70) (fun _ _ => ⟨rfl, rfl, (by decide : 1 + 0 ≤ _), (by decide : 3 + 0 ≤ _)⟩)
      dsimp only [Pt.U, Pt.locs, Pt.cells, Pt.slots] at X28 l28 y28 z28 st28 hQ28
      subst l28 y28 z28
      obtain ⟨rfl, N28q, e28⟩ := hQ28
      have N28 := Fr.app N25 N28q
      refine own_via st28 ?_
      show own_G p e below _ (T28.setTop (mkF m 73 #[.val (.int p1), .val (.int p2), .val (.int p3), .val (.int p4), .val (.int p5), .val (.int (0 : Int32)), .val (.ref b20), .val (.int p1), .val (.int (0 : Int32)), .unset, .unset, .unset, .unset] [(.int (own_max p1 p5))]))
      rw [show own_max p1 p5 = p1 from if_neg (by rw [hob]; exact Int32.lt_irrefl)]
      show own_G p e below _ (T28.setTop (mkF m 73 #[.val (.int p1), .val (.int p2), .val (.int p3), .val (.int p4), .val (.int p5), .val (.int (0 : Int32)), .val (.ref b20), .val (.int p1), .val (.int (0 : Int32)), .unset, .unset, .unset, .unset] [(.int p1)]))
      refine own_via (fun t k => XS.goto X28.here hx rfl (pc0 := 73) (pc' := 77) rfl (hb hby at_73) (by decide) (by decide) k) ?_
      show own_G p e below _ (T28.setTop (mkF m 77 #[.val (.int p1), .val (.int p2), .val (.int p3), .val (.int p4), .val (.int p5), .val (.int (0 : Int32)), .val (.ref b20), .val (.int p1), .val (.int (0 : Int32)), .unset, .unset, .unset, .unset] [(.int p1)]))
      refine own_via (fun t k => XS.istore X28.here hx rfl (hb hby at_77) rfl (l' := #[.val (.int p1), .val (.int p2), .val (.int p3), .val (.int p4), .val (.int p5), .val (.int (0 : Int32)), .val (.ref b20), .val (.int p1), .val (.int (0 : Int32)), .val (.int p1), .unset, .unset, .unset]) rfl k) ?_
      show own_G p e below _ (T28.setTop (mkF m 79 #[.val (.int p1), .val (.int p2), .val (.int p3), .val (.int p4), .val (.int p5), .val (.int (0 : Int32)), .val (.ref b20), .val (.int p1), .val (.int (0 : Int32)), .val (.int p1), .unset, .unset, .unset] []))
      refine own_via (fun t k => XS.iload X28.here hx rfl (hb hby at_79) rfl k) ?_
      show own_G p e below _ (T28.setTop (mkF m 81 #[.val (.int p1), .val (.int p2), .val (.int p3), .val (.int p4), .val (.int p5), .val (.int (0 : Int32)), .val (.ref b20), .val (.int p1), .val (.int (0 : Int32)), .val (.int p1), .unset, .unset, .unset] [(.int (0 : Int32))]))
      refine own_via (fun t k => XS.iconst X28.here hx rfl (hb hby at_81) k) ?_
      show own_G p e below _ (T28.setTop (mkF m 82 #[.val (.int p1), .val (.int p2), .val (.int p3), .val (.int p4), .val (.int p5), .val (.int (0 : Int32)), .val (.ref b20), .val (.int p1), .val (.int (0 : Int32)), .val (.int p1), .unset, .unset, .unset] [(.int (1 : Int32)), (.int (0 : Int32))]))
      refine own_via (fun t k => XS.icmpYes X28.here hx rfl (pc0 := 82) (pc' := 94) rfl (hb hby at_82) rfl (feq (by decide : ¬ ((0 : Int32) = (1 : Int32)))).2 (by decide) (by decide) k) ?_
      show own_G p e below _ (T28.setTop (mkF m 94 #[.val (.int p1), .val (.int p2), .val (.int p3), .val (.int p4), .val (.int p5), .val (.int (0 : Int32)), .val (.ref b20), .val (.int p1), .val (.int (0 : Int32)), .val (.int p1), .unset, .unset, .unset] []))
      refine own_via (fun t k => XS.iloadN X28.here hx rfl (hb hby at_94) rfl k) ?_
      show own_G p e below _ (T28.setTop (mkF m 95 #[.val (.int p1), .val (.int p2), .val (.int p3), .val (.int p4), .val (.int p5), .val (.int (0 : Int32)), .val (.ref b20), .val (.int p1), .val (.int (0 : Int32)), .val (.int p1), .unset, .unset, .unset] [(.int p2)]))
      refine own_via (fun t k => XS.istore X28.here hx rfl (hb hby at_95) rfl (l' := #[.val (.int p1), .val (.int p2), .val (.int p3), .val (.int p4), .val (.int p5), .val (.int (0 : Int32)), .val (.ref b20), .val (.int p1), .val (.int (0 : Int32)), .val (.int p1), .val (.int p2), .unset, .unset]) rfl k) ?_
      show own_G p e below _ (T28.setTop (mkF m 97 #[.val (.int p1), .val (.int p2), .val (.int p3), .val (.int p4), .val (.int p5), .val (.int (0 : Int32)), .val (.ref b20), .val (.int p1), .val (.int (0 : Int32)), .val (.int p1), .val (.int p2), .unset, .unset] []))
      refine own_via (fun t k => XS.iload X28.here hx rfl (hb hby at_97) rfl k) ?_
      show own_G p e below _ (T28.setTop (mkF m 99 #[.val (.int p1), .val (.int p2), .val (.int p3), .val (.int p4), .val (.int p5), .val (.int (0 : Int32)), .val (.ref b20), .val (.int p1), .val (.int (0 : Int32)), .val (.int p1), .val (.int p2), .unset, .unset] [(.int (0 : Int32))]))
      refine own_via (fun t k => XS.iconst X28.here hx rfl (hb hby at_99) k) ?_
      show own_G p e below _ (T28.setTop (mkF m 100 #[.val (.int p1), .val (.int p2), .val (.int p3), .val (.int p4), .val (.int p5), .val (.int (0 : Int32)), .val (.ref b20), .val (.int p1), .val (.int (0 : Int32)), .val (.int p1), .val (.int p2), .unset, .unset] [(.int (2 : Int32)), (.int (0 : Int32))]))
      refine own_via (fun t k => XS.icmpYes X28.here hx rfl (pc0 := 100) (pc' := 112) rfl (hb hby at_100) rfl (feq (by decide : ¬ ((0 : Int32) = (2 : Int32)))).2 (by decide) (by decide) k) ?_
      show own_G p e below _ (T28.setTop (mkF m 112 #[.val (.int p1), .val (.int p2), .val (.int p3), .val (.int p4), .val (.int p5), .val (.int (0 : Int32)), .val (.ref b20), .val (.int p1), .val (.int (0 : Int32)), .val (.int p1), .val (.int p2), .unset, .unset] []))
      refine own_via (fun t k => XS.iloadN X28.here hx rfl (hb hby at_112) rfl k) ?_
      show own_G p e below _ (T28.setTop (mkF m 113 #[.val (.int p1), .val (.int p2), .val (.int p3), .val (.int p4), .val (.int p5), .val (.int (0 : Int32)), .val (.ref b20), .val (.int p1), .val (.int (0 : Int32)), .val (.int p1), .val (.int p2), .unset, .unset] [(.int p3)]))
      refine own_via (fun t k => XS.istore X28.here hx rfl (hb hby at_113) rfl (l' := #[.val (.int p1), .val (.int p2), .val (.int p3), .val (.int p4), .val (.int p5), .val (.int (0 : Int32)), .val (.ref b20), .val (.int p1), .val (.int (0 : Int32)), .val (.int p1), .val (.int p2), .val (.int p3), .unset]) rfl k) ?_
      show own_G p e below _ (T28.setTop (mkF m 115 #[.val (.int p1), .val (.int p2), .val (.int p3), .val (.int p4), .val (.int p5), .val (.int (0 : Int32)), .val (.ref b20), .val (.int p1), .val (.int (0 : Int32)), .val (.int p1), .val (.int p2), .val (.int p3), .unset] []))
      refine own_via (fun t k => XS.iload X28.here hx rfl (hb hby at_115) rfl k) ?_
      show own_G p e below _ (T28.setTop (mkF m 117 #[.val (.int p1), .val (.int p2), .val (.int p3), .val (.int p4), .val (.int p5), .val (.int (0 : Int32)), .val (.ref b20), .val (.int p1), .val (.int (0 : Int32)), .val (.int p1), .val (.int p2), .val (.int p3), .unset] [(.int p5)]))
      refine own_via (fun t k => XS.iload X28.here hx rfl (hb hby at_117) rfl k) ?_
      show own_G p e below _ (T28.setTop (mkF m 119 #[.val (.int p1), .val (.int p2), .val (.int p3), .val (.int p4), .val (.int p5), .val (.int (0 : Int32)), .val (.ref b20), .val (.int p1), .val (.int (0 : Int32)), .val (.int p1), .val (.int p2), .val (.int p3), .unset] [(.int p1), (.int p5)]))
      refine own_via (fun t k => XS.icmpYes X28.here hx rfl (pc0 := 119) (pc' := 126) rfl (hb hby at_119) rfl (flt (by rw [hob]; exact Int32.lt_irrefl)).2.2.2 (by decide) (by decide) k) ?_
      show own_G p e below _ (T28.setTop (mkF m 126 #[.val (.int p1), .val (.int p2), .val (.int p3), .val (.int p4), .val (.int p5), .val (.int (0 : Int32)), .val (.ref b20), .val (.int p1), .val (.int (0 : Int32)), .val (.int p1), .val (.int p2), .val (.int p3), .unset] []))
      refine own_via (fun t k => XS.iconst X28.here hx rfl (hb hby at_126) k) ?_
      show own_G p e below _ (T28.setTop (mkF m 127 #[.val (.int p1), .val (.int p2), .val (.int p3), .val (.int p4), .val (.int p5), .val (.int (0 : Int32)), .val (.ref b20), .val (.int p1), .val (.int (0 : Int32)), .val (.int p1), .val (.int p2), .val (.int p3), .unset] [(.int (0 : Int32))]))
      refine own_via (fun t k => XS.istore X28.here hx rfl (hb hby at_127) rfl (l' := #[.val (.int p1), .val (.int p2), .val (.int p3), .val (.int p4), .val (.int p5), .val (.int (0 : Int32)), .val (.ref b20), .val (.int p1), .val (.int (0 : Int32)), .val (.int p1), .val (.int p2), .val (.int p3), .val (.int (0 : Int32))]) rfl k) ?_
      show own_G p e below _ (T28.setTop (mkF m 129 #[.val (.int p1), .val (.int p2), .val (.int p3), .val (.int p4), .val (.int p5), .val (.int (0 : Int32)), .val (.ref b20), .val (.int p1), .val (.int (0 : Int32)), .val (.int p1), .val (.int p2), .val (.int p3), .val (.int (0 : Int32))] []))
      refine own_via (fun t k => XS.iload X28.here hx rfl (hb hby at_129) rfl k) ?_
      show own_G p e below _ (T28.setTop (mkF m 131 #[.val (.int p1), .val (.int p2), .val (.int p3), .val (.int p4), .val (.int p5), .val (.int (0 : Int32)), .val (.ref b20), .val (.int p1), .val (.int (0 : Int32)), .val (.int p1), .val (.int p2), .val (.int p3), .val (.int (0 : Int32))] [(.int (0 : Int32))]))
      refine own_via (fun t k => XS.iload X28.here hx rfl (hb hby at_131) rfl k) ?_
      show own_G p e below _ (T28.setTop (mkF m 133 #[.val (.int p1), .val (.int p2), .val (.int p3), .val (.int p4), .val (.int p5), .val (.int (0 : Int32)), .val (.ref b20), .val (.int p1), .val (.int (0 : Int32)), .val (.int p1), .val (.int p2), .val (.int p3), .val (.int (0 : Int32))] [(.int (0 : Int32)), (.int (0 : Int32))]))
      refine own_via (fun t k => XS.icmpNo X28.here hx rfl (hb hby at_133) rfl (teq (by decide : (0 : Int32) = (0 : Int32))).2 k) ?_
      show own_G p e below _ (T28.setTop (mkF m 136 #[.val (.int p1), .val (.int p2), .val (.int p3), .val (.int p4), .val (.int p5), .val (.int (0 : Int32)), .val (.ref b20), .val (.int p1), .val (.int (0 : Int32)), .val (.int p1), .val (.int p2), .val (.int p3), .val (.int (0 : Int32))] []))
      refine own_via (fun t k => XS.aload X28.here hx rfl (hb hby at_136) rfl rfl k) ?_
      show own_G p e below _ (T28.setTop (mkF m 138 #[.val (.int p1), .val (.int p2), .val (.int p3), .val (.int p4), .val (.int p5), .val (.int (0 : Int32)), .val (.ref b20), .val (.int p1), .val (.int (0 : Int32)), .val (.int p1), .val (.int p2), .val (.int p3), .val (.int (0 : Int32))] [(.ref b20)]))
      refine own_via (fun t k => XS.iconst X28.here hx rfl (hb hby at_138) k) ?_
      show own_G p e below _ (T28.setTop (mkF m 139 #[.val (.int p1), .val (.int p2), .val (.int p3), .val (.int p4), .val (.int p5), .val (.int (0 : Int32)), .val (.ref b20), .val (.int p1), .val (.int (0 : Int32)), .val (.int p1), .val (.int p2), .val (.int p3), .val (.int (0 : Int32))] [(.int (0 : Int32)), (.ref b20)]))
      obtain ⟨cl33, Ar33, q33, S33, Ng33, Hs33, G33⟩ := id V25
      have hin33 : ¬ ((0 : Int32) < 0 ∨ cl33.slots.size ≤ ((0 : Int32)).toNatClampNeg) := inb_of S33 ⟨by decide, by decide⟩
      have hat33 : cl33.slots[((0 : Int32)).toNatClampNeg]? = some (.double (FP.i2d p1)) := Hs33.at hin33 rfl
      refine own_via (fun t k => X28.daload hx (j := (0 : Int32)) (v := (.double (FP.i2d p1))) (by rw [e28]; exact Ar33.1) (State.isArrayOf_alike hZ.alike Ar33.2.1) Ar33.2.2 hin33 hat33 (g := (mkF m 139 #[.val (.int p1), .val (.int p2), .val (.int p3), .val (.int p4), .val (.int p5), .val (.int (0 : Int32)), .val (.ref b20), .val (.int p1), .val (.int (0 : Int32)), .val (.int p1), .val (.int p2), .val (.int p3), .val (.int (0 : Int32))] [(.int (0 : Int32)), (.ref b20)])) rfl rfl (hb hby at_139) _ k) ?_
      show own_G p e below _ (T28.setTop (mkF m 140 #[.val (.int p1), .val (.int p2), .val (.int p3), .val (.int p4), .val (.int p5), .val (.int (0 : Int32)), .val (.ref b20), .val (.int p1), .val (.int (0 : Int32)), .val (.int p1), .val (.int p2), .val (.int p3), .val (.int (0 : Int32))] [(.double (FP.i2d p1))]))
      refine own_via (fun t k => XS.iload X28.here hx rfl (hb hby at_140) rfl k) ?_
      show own_G p e below _ (T28.setTop (mkF m 142 #[.val (.int p1), .val (.int p2), .val (.int p3), .val (.int p4), .val (.int p5), .val (.int (0 : Int32)), .val (.ref b20), .val (.int p1), .val (.int (0 : Int32)), .val (.int p1), .val (.int p2), .val (.int p3), .val (.int (0 : Int32))] [(.int p1), (.double (FP.i2d p1))]))
      refine own_via (fun t k => XS.i2dS X28.here hx rfl (hb hby at_142) rfl rfl k) ?_
      show own_G p e below _ (T28.setTop (mkF m 143 #[.val (.int p1), .val (.int p2), .val (.int p3), .val (.int p4), .val (.int p5), .val (.int (0 : Int32)), .val (.ref b20), .val (.int p1), .val (.int (0 : Int32)), .val (.int p1), .val (.int p2), .val (.int p3), .val (.int (0 : Int32))] [(.double (FP.i2d p1)), (.double (FP.i2d p1))]))
      refine own_via (fun t k => XS.dcmpS X28.here hx rfl (hb hby at_143) rfl (own_dc_eq rfl _) k) ?_
      show own_G p e below _ (T28.setTop (mkF m 144 #[.val (.int p1), .val (.int p2), .val (.int p3), .val (.int p4), .val (.int p5), .val (.int (0 : Int32)), .val (.ref b20), .val (.int p1), .val (.int (0 : Int32)), .val (.int p1), .val (.int p2), .val (.int p3), .val (.int (0 : Int32))] [(.int (0 : Int32))]))
      refine own_via (fun t k => XS.ifNo X28.here hx rfl (hb hby at_144) rfl ((if0 _ _).trans (teq (by decide : (0 : Int32) = (0 : Int32))).2) k) ?_
      show own_G p e below _ (T28.setTop (mkF m 147 #[.val (.int p1), .val (.int p2), .val (.int p3), .val (.int p4), .val (.int p5), .val (.int (0 : Int32)), .val (.ref b20), .val (.int p1), .val (.int (0 : Int32)), .val (.int p1), .val (.int p2), .val (.int p3), .val (.int (0 : Int32))] []))
      refine own_via (fun t k => XS.aload X28.here hx rfl (hb hby at_147) rfl rfl k) ?_
      show own_G p e below _ (T28.setTop (mkF m 149 #[.val (.int p1), .val (.int p2), .val (.int p3), .val (.int p4), .val (.int p5), .val (.int (0 : Int32)), .val (.ref b20), .val (.int p1), .val (.int (0 : Int32)), .val (.int p1), .val (.int p2), .val (.int p3), .val (.int (0 : Int32))] [(.ref b20)]))
      refine own_via (fun t k => XS.iconst X28.here hx rfl (hb hby at_149) k) ?_
      show own_G p e below _ (T28.setTop (mkF m 150 #[.val (.int p1), .val (.int p2), .val (.int p3), .val (.int p4), .val (.int p5), .val (.int (0 : Int32)), .val (.ref b20), .val (.int p1), .val (.int (0 : Int32)), .val (.int p1), .val (.int p2), .val (.int p3), .val (.int (0 : Int32))] [(.int (1 : Int32)), (.ref b20)]))
      obtain ⟨cl35, Ar35, q35, S35, Ng35, Hs35, G35⟩ := id V25
      have hin35 : ¬ ((1 : Int32) < 0 ∨ cl35.slots.size ≤ ((1 : Int32)).toNatClampNeg) := inb_of S35 ⟨by decide, by decide⟩
      have hat35 : cl35.slots[((1 : Int32)).toNatClampNeg]? = some (.double (FP.i2d p2)) := Hs35.at hin35 rfl
      refine own_via (fun t k => X28.daload hx (j := (1 : Int32)) (v := (.double (FP.i2d p2))) (by rw [e28]; exact Ar35.1) (State.isArrayOf_alike hZ.alike Ar35.2.1) Ar35.2.2 hin35 hat35 (g := (mkF m 150 #[.val (.int p1), .val (.int p2), .val (.int p3), .val (.int p4), .val (.int p5), .val (.int (0 : Int32)), .val (.ref b20), .val (.int p1), .val (.int (0 : Int32)), .val (.int p1), .val (.int p2), .val (.int p3), .val (.int (0 : Int32))] [(.int (1 : Int32)), (.ref b20)])) rfl rfl (hb hby at_150) _ k) ?_
      show own_G p e below _ (T28.setTop (mkF m 151 #[.val (.int p1), .val (.int p2), .val (.int p3), .val (.int p4), .val (.int p5), .val (.int (0 : Int32)), .val (.ref b20), .val (.int p1), .val (.int (0 : Int32)), .val (.int p1), .val (.int p2), .val (.int p3), .val (.int (0 : Int32))] [(.double (FP.i2d p2))]))
      refine own_via (fun t k => XS.iload X28.here hx rfl (hb hby at_151) rfl k) ?_
      show own_G p e below _ (T28.setTop (mkF m 153 #[.val (.int p1), .val (.int p2), .val (.int p3), .val (.int p4), .val (.int p5), .val (.int (0 : Int32)), .val (.ref b20), .val (.int p1), .val (.int (0 : Int32)), .val (.int p1), .val (.int p2), .val (.int p3), .val (.int (0 : Int32))] [(.int p2), (.double (FP.i2d p2))]))
      refine own_via (fun t k => XS.i2dS X28.here hx rfl (hb hby at_153) rfl rfl k) ?_
      show own_G p e below _ (T28.setTop (mkF m 154 #[.val (.int p1), .val (.int p2), .val (.int p3), .val (.int p4), .val (.int p5), .val (.int (0 : Int32)), .val (.ref b20), .val (.int p1), .val (.int (0 : Int32)), .val (.int p1), .val (.int p2), .val (.int p3), .val (.int (0 : Int32))] [(.double (FP.i2d p2)), (.double (FP.i2d p2))]))
      refine own_via (fun t k => XS.dcmpS X28.here hx rfl (hb hby at_154) rfl (own_dc_eq rfl _) k) ?_
      show own_G p e below _ (T28.setTop (mkF m 155 #[.val (.int p1), .val (.int p2), .val (.int p3), .val (.int p4), .val (.int p5), .val (.int (0 : Int32)), .val (.ref b20), .val (.int p1), .val (.int (0 : Int32)), .val (.int p1), .val (.int p2), .val (.int p3), .val (.int (0 : Int32))] [(.int (0 : Int32))]))
      refine own_via (fun t k => XS.ifNo X28.here hx rfl (hb hby at_155) rfl ((if0 _ _).trans (teq (by decide : (0 : Int32) = (0 : Int32))).2) k) ?_
      show own_G p e below _ (T28.setTop (mkF m 158 #[.val (.int p1), .val (.int p2), .val (.int p3), .val (.int p4), .val (.int p5), .val (.int (0 : Int32)), .val (.ref b20), .val (.int p1), .val (.int (0 : Int32)), .val (.int p1), .val (.int p2), .val (.int p3), .val (.int (0 : Int32))] []))
      refine own_via (fun t k => XS.aload X28.here hx rfl (hb hby at_158) rfl rfl k) ?_
      show own_G p e below _ (T28.setTop (mkF m 160 #[.val (.int p1), .val (.int p2), .val (.int p3), .val (.int p4), .val (.int p5), .val (.int (0 : Int32)), .val (.ref b20), .val (.int p1), .val (.int (0 : Int32)), .val (.int p1), .val (.int p2), .val (.int p3), .val (.int (0 : Int32))] [(.ref b20)]))
      refine own_via (fun t k => XS.iconst X28.here hx rfl (hb hby at_160) k) ?_
      show own_G p e below _ (T28.setTop (mkF m 161 #[.val (.int p1), .val (.int p2), .val (.int p3), .val (.int p4), .val (.int p5), .val (.int (0 : Int32)), .val (.ref b20), .val (.int p1), .val (.int (0 : Int32)), .val (.int p1), .val (.int p2), .val (.int p3), .val (.int (0 : Int32))] [(.int (2 : Int32)), (.ref b20)]))
      obtain ⟨cl37, Ar37, q37, S37, Ng37, Hs37, G37⟩ := id V25
      have hin37 : ¬ ((2 : Int32) < 0 ∨ cl37.slots.size ≤ ((2 : Int32)).toNatClampNeg) := inb_of S37 ⟨by decide, by decide⟩
      have hat37 : cl37.slots[((2 : Int32)).toNatClampNeg]? = some (.double (FP.i2d p3)) := Hs37.at hin37 rfl
      refine own_via (fun t k => X28.daload hx (j := (2 : Int32)) (v := (.double (FP.i2d p3))) (by rw [e28]; exact Ar37.1) (State.isArrayOf_alike hZ.alike Ar37.2.1) Ar37.2.2 hin37 hat37 (g := (mkF m 161 #[.val (.int p1), .val (.int p2), .val (.int p3), .val (.int p4), .val (.int p5), .val (.int (0 : Int32)), .val (.ref b20), .val (.int p1), .val (.int (0 : Int32)), .val (.int p1), .val (.int p2), .val (.int p3), .val (.int (0 : Int32))] [(.int (2 : Int32)), (.ref b20)])) rfl rfl (hb hby at_161) _ k) ?_
      show own_G p e below _ (T28.setTop (mkF m 162 #[.val (.int p1), .val (.int p2), .val (.int p3), .val (.int p4), .val (.int p5), .val (.int (0 : Int32)), .val (.ref b20), .val (.int p1), .val (.int (0 : Int32)), .val (.int p1), .val (.int p2), .val (.int p3), .val (.int (0 : Int32))] [(.double (FP.i2d p3))]))
      refine own_via (fun t k => XS.iload X28.here hx rfl (hb hby at_162) rfl k) ?_
      show own_G p e below _ (T28.setTop (mkF m 164 #[.val (.int p1), .val (.int p2), .val (.int p3), .val (.int p4), .val (.int p5), .val (.int (0 : Int32)), .val (.ref b20), .val (.int p1), .val (.int (0 : Int32)), .val (.int p1), .val (.int p2), .val (.int p3), .val (.int (0 : Int32))] [(.int p3), (.double (FP.i2d p3))]))
      refine own_via (fun t k => XS.i2dS X28.here hx rfl (hb hby at_164) rfl rfl k) ?_
      show own_G p e below _ (T28.setTop (mkF m 165 #[.val (.int p1), .val (.int p2), .val (.int p3), .val (.int p4), .val (.int p5), .val (.int (0 : Int32)), .val (.ref b20), .val (.int p1), .val (.int (0 : Int32)), .val (.int p1), .val (.int p2), .val (.int p3), .val (.int (0 : Int32))] [(.double (FP.i2d p3)), (.double (FP.i2d p3))]))
      refine own_via (fun t k => XS.dcmpS X28.here hx rfl (hb hby at_165) rfl (own_dc_eq rfl _) k) ?_
      show own_G p e below _ (T28.setTop (mkF m 166 #[.val (.int p1), .val (.int p2), .val (.int p3), .val (.int p4), .val (.int p5), .val (.int (0 : Int32)), .val (.ref b20), .val (.int p1), .val (.int (0 : Int32)), .val (.int p1), .val (.int p2), .val (.int p3), .val (.int (0 : Int32))] [(.int (0 : Int32))]))
      refine own_via (fun t k => XS.ifNo X28.here hx rfl (hb hby at_166) rfl ((if0 _ _).trans (teq (by decide : (0 : Int32) = (0 : Int32))).2) k) ?_
      show own_G p e below _ (T28.setTop (mkF m 169 #[.val (.int p1), .val (.int p2), .val (.int p3), .val (.int p4), .val (.int p5), .val (.int (0 : Int32)), .val (.ref b20), .val (.int p1), .val (.int (0 : Int32)), .val (.int p1), .val (.int p2), .val (.int p3), .val (.int (0 : Int32))] []))
      refine own_via (fun t k => XS.iconst X28.here hx rfl (hb hby at_169) k) ?_
      show own_G p e below _ (T28.setTop (mkF m 170 #[.val (.int p1), .val (.int p2), .val (.int p3), .val (.int p4), .val (.int p5), .val (.int (0 : Int32)), .val (.ref b20), .val (.int p1), .val (.int (0 : Int32)), .val (.int p1), .val (.int p2), .val (.int p3), .val (.int (0 : Int32))] [(.int (1 : Int32))]))
      refine own_via (fun t k => XS.goto X28.here hx rfl (pc0 := 170) (pc' := 174) rfl (hb hby at_170) (by decide) (by decide) k) ?_
      show own_G p e below _ (T28.setTop (mkF m 174 #[.val (.int p1), .val (.int p2), .val (.int p3), .val (.int p4), .val (.int p5), .val (.int (0 : Int32)), .val (.ref b20), .val (.int p1), .val (.int (0 : Int32)), .val (.int p1), .val (.int p2), .val (.int p3), .val (.int (0 : Int32))] [(.int (1 : Int32))]))
      obtain ⟨fs, hr, hrun, hended, hW, hsame⟩ := X28.leave (v := some (.int (1 : Int32))) (fun h => by rw [Bd.returns] at h; cases h)
      refine ⟨_, _, retN X28 hx (t := .boolean) Bd.returns (by simp) (hb hby at_174) hr, hrun, hended, _, _, rfl, ?_, ⟨_, rfl⟩, hW, hsame.mono (by decide) (by decide)⟩
      show rm0_Q Z p1 p2 p3 p4 p5 h0 n0 _ T28.heap _
      rw [e28]
      exact ⟨rfl, N28⟩
    · rw [hk]
      show own_G p e below _ (s₁.setTop (mkF m 6 #[.val (.int p1), .val (.int p2), .val (.int p3), .val (.int p4), .val (.int p5), .unset, .unset, .unset, .unset, .unset, .unset, .unset, .unset] [(.int (0 : Int32))]))
      refine own_via (fun t k => XS.istore X0.here hx rfl (hb hby at_6) rfl (l' := #[.val (.int p1), .val (.int p2), .val (.int p3), .val (.int p4), .val (.int p5), .val (.int (0 : Int32)), .unset, .unset, .unset, .unset, .unset, .unset, .unset]) rfl k) ?_
      show own_G p e below _ (s₁.setTop (mkF m 8 #[.val (.int p1), .val (.int p2), .val (.int p3), .val (.int p4), .val (.int p5), .val (.int (0 : Int32)), .unset, .unset, .unset, .unset, .unset, .unset, .unset] []))
      refine own_via (fun t k => XS.iconst X0.here hx rfl (hb hby at_8) k) ?_
      show own_G p e below _ (s₁.setTop (mkF m 9 #[.val (.int p1), .val (.int p2), .val (.int p3), .val (.int p4), .val (.int p5), .val (.int (0 : Int32)), .unset, .unset, .unset, .unset, .unset, .unset, .unset] [(.int (3 : Int32))]))
      obtain ⟨T39, h39, k39, X39, e39, E39, A39, st39⟩ := newP X0 hx hZ (hw _ (List.mem_of_getElem? (i := 1) rfl)) e0 (g := (mkF m 9 #[.val (.int p1), .val (.int p2), .val (.int p3), .val (.int p4), .val (.int p5), .val (.int (0 : Int32)), .unset, .unset, .unset, .unset, .unset, .unset, .unset] [(.int (3 : Int32))])) rfl (hb hby at_9) rfl (by decide) (cap := 3) (by decide) (by decide) (by decide) (by decide)
      obtain ⟨b39, g39⟩ : ∃ z, z = h0.size := ⟨_, rfl⟩
      rw [← g39] at A39 st39
      have gx_b39 : n0 ≤ b39 := Nat.le_trans Z0 (Nat.le_of_eq g39.symm)
      have Z39 : n0 ≤ h39.size := Nat.le_trans Z0 E39.1
      have V39 : Arv Z h39 b39 k39 .double (3 : Int32) [(.double (0 : UInt64)), (.double (0 : UInt64)), (.double (0 : UInt64))] (.double (0 : UInt64)) := (Arv.new A39 (by decide)).pad (pad_rep [] (.double (0 : UInt64)) 3)
      refine own_via st39 ?_
      show own_G p e below _ (T39.setTop (mkF m 11 #[.val (.int p1), .val (.int p2), .val (.int p3), .val (.int p4), .val (.int p5), .val (.int (0 : Int32)), .unset, .unset, .unset, .unset, .unset, .unset, .unset] [(.ref b39)]))
      refine own_via (fun t k => XS.dup X39.here hx rfl (hb hby at_11) rfl rfl k) ?_
      show own_G p e below _ (T39.setTop (mkF m 12 #[.val (.int p1), .val (.int p2), .val (.int p3), .val (.int p4), .val (.int p5), .val (.int (0 : Int32)), .unset, .unset, .unset, .unset, .unset, .unset, .unset] [(.ref b39), (.ref b39)]))
      refine own_via (fun t k => XS.iconst X39.here hx rfl (hb hby at_12) k) ?_
      show own_G p e below _ (T39.setTop (mkF m 13 #[.val (.int p1), .val (.int p2), .val (.int p3), .val (.int p4), .val (.int p5), .val (.int (0 : Int32)), .unset, .unset, .unset, .unset, .unset, .unset, .unset] [(.int (0 : Int32)), (.ref b39), (.ref b39)]))
      refine own_via (fun t k => XS.iloadN X39.here hx rfl (hb hby at_13) rfl k) ?_
      show own_G p e below _ (T39.setTop (mkF m 14 #[.val (.int p1), .val (.int p2), .val (.int p3), .val (.int p4), .val (.int p5), .val (.int (0 : Int32)), .unset, .unset, .unset, .unset, .unset, .unset, .unset] [(.int p1), (.int (0 : Int32)), (.ref b39), (.ref b39)]))
      refine own_via (fun t k => XS.i2dS X39.here hx rfl (hb hby at_14) rfl rfl k) ?_
      show own_G p e below _ (T39.setTop (mkF m 15 #[.val (.int p1), .val (.int p2), .val (.int p3), .val (.int p4), .val (.int p5), .val (.int (0 : Int32)), .unset, .unset, .unset, .unset, .unset, .unset, .unset] [(.double (FP.i2d p1)), (.int (0 : Int32)), (.ref b39), (.ref b39)]))
      obtain ⟨cl40, Ar40, q40, S40, Ng40, Hs40, G40⟩ := id V39
      have hin40 : ¬ ((0 : Int32) < 0 ∨ cl40.slots.size ≤ ((0 : Int32)).toNatClampNeg) := inb_of S40 ⟨by decide, by decide⟩
      obtain ⟨T40, h40, X40, e40, W40, st40⟩ := stD X39 hx hZ e39 Ar40 (j := (0 : Int32)) hin40 (g := (mkF m 15 #[.val (.int p1), .val (.int p2), .val (.int p3), .val (.int p4), .val (.int p5), .val (.int (0 : Int32)), .unset, .unset, .unset, .unset, .unset, .unset, .unset] [(.double (FP.i2d p1)), (.int (0 : Int32)), (.ref b39), (.ref b39)])) rfl rfl (hb hby at_15)
      have V40 : Arv Z h40 b39 k39 .double (3 : Int32) [(.double (FP.i2d p1)), (.double (0 : UInt64)), (.double (0 : UInt64))] (.double (0 : UInt64)) := Arv.set Ar40 q40 S40 Ng40 Hs40 G40 rfl W40 0 rfl (Nat.le_of_ble_eq_true rfl)
      have N40 := Fr.snoc X40 N0 gx_b39
      have Z40 : n0 ≤ h40.size := Nat.le_trans Z39 (Nat.le_of_eq W40.size.symm)
      refine own_via st40 ?_
      show own_G p e below _ (T40.setTop (mkF m 16 #[.val (.int p1), .val (.int p2), .val (.int p3), .val (.int p4), .val (.int p5), .val (.int (0 : Int32)), .unset, .unset, .unset, .unset, .unset, .unset, .unset] [(.ref b39)]))
      refine own_via (fun t k => XS.dup X40.here hx rfl (hb hby at_16) rfl rfl k) ?_
      show own_G p e below _ (T40.setTop (mkF m 17 #[.val (.int p1), .val (.int p2), .val (.int p3), .val (.int p4), .val (.int p5), .val (.int (0 : Int32)), .unset, .unset, .unset, .unset, .unset, .unset, .unset] [(.ref b39), (.ref b39)]))
      refine own_via (fun t k => XS.iconst X40.here hx rfl (hb hby at_17) k) ?_
      show own_G p e below _ (T40.setTop (mkF m 18 #[.val (.int p1), .val (.int p2), .val (.int p3), .val (.int p4), .val (.int p5), .val (.int (0 : Int32)), .unset, .unset, .unset, .unset, .unset, .unset, .unset] [(.int (1 : Int32)), (.ref b39), (.ref b39)]))
      refine own_via (fun t k => XS.iloadN X40.here hx rfl (hb hby at_18) rfl k) ?_
      show own_G p e below _ (T40.setTop (mkF m 19 #[.val (.int p1), .val (.int p2), .val (.int p3), .val (.int p4), .val (.int p5), .val (.int (0 : Int32)), .unset, .unset, .unset, .unset, .unset, .unset, .unset] [(.int p2), (.int (1 : Int32)), (.ref b39), (.ref b39)]))
      refine own_via (fun t k => XS.i2dS X40.here hx rfl (hb hby at_19) rfl rfl k) ?_
      show own_G p e below _ (T40.setTop (mkF m 20 #[.val (.int p1), .val (.int p2), .val (.int p3), .val (.int p4), .val (.int p5), .val (.int (0 : Int32)), .unset, .unset, .unset, .unset, .unset, .unset, .unset] [(.double (FP.i2d p2)), (.int (1 : Int32)), (.ref b39), (.ref b39)]))
      obtain ⟨cl41, Ar41, q41, S41, Ng41, Hs41, G41⟩ := id V40
      have hin41 : ¬ ((1 : Int32) < 0 ∨ cl41.slots.size ≤ ((1 : Int32)).toNatClampNeg) := inb_of S41 ⟨by decide, by decide⟩
      obtain ⟨T41, h41, X41, e41, W41, st41⟩ := stD X40 hx hZ e40 Ar41 (j := (1 : Int32)) hin41 (g := (mkF m 20 #[.val (.int p1), .val (.int p2), .val (.int p3), .val (.int p4), .val (.int p5), .val (.int (0 : Int32)), .unset, .unset, .unset, .unset, .unset, .unset, .unset] [(.double (FP.i2d p2)), (.int (1 : Int32)), (.ref b39), (.ref b39)])) rfl rfl (hb hby at_20)
      have V41 : Arv Z h41 b39 k39 .double (3 : Int32) [(.double (FP.i2d p1)), (.double (FP.i2d p2)), (.double (0 : UInt64))] (.double (0 : UInt64)) := Arv.set Ar41 q41 S41 Ng41 Hs41 G41 rfl W41 1 rfl (Nat.le_of_ble_eq_true rfl)
      have N41 := Fr.snoc X41 N40 gx_b39
      have Z41 : n0 ≤ h41.size := Nat.le_trans Z40 (Nat.le_of_eq W41.size.symm)
      refine own_via st41 ?_
      show own_G p e below _ (T41.setTop (mkF m 21 #[.val (.int p1), .val (.int p2), .val (.int p3), .val (.int p4), .val (.int p5), .val (.int (0 : Int32)), .unset, .unset, .unset, .unset, .unset, .unset, .unset] [(.ref b39)]))
      refine own_via (fun t k => XS.dup X41.here hx rfl (hb hby at_21) rfl rfl k) ?_
      show own_G p e below _ (T41.setTop (mkF m 22 #[.val (.int p1), .val (.int p2), .val (.int p3), .val (.int p4), .val (.int p5), .val (.int (0 : Int32)), .unset, .unset, .unset, .unset, .unset, .unset, .unset] [(.ref b39), (.ref b39)]))
      refine own_via (fun t k => XS.iconst X41.here hx rfl (hb hby at_22) k) ?_
      show own_G p e below _ (T41.setTop (mkF m 23 #[.val (.int p1), .val (.int p2), .val (.int p3), .val (.int p4), .val (.int p5), .val (.int (0 : Int32)), .unset, .unset, .unset, .unset, .unset, .unset, .unset] [(.int (2 : Int32)), (.ref b39), (.ref b39)]))
      refine own_via (fun t k => XS.iloadN X41.here hx rfl (hb hby at_23) rfl k) ?_
      show own_G p e below _ (T41.setTop (mkF m 24 #[.val (.int p1), .val (.int p2), .val (.int p3), .val (.int p4), .val (.int p5), .val (.int (0 : Int32)), .unset, .unset, .unset, .unset, .unset, .unset, .unset] [(.int p3), (.int (2 : Int32)), (.ref b39), (.ref b39)]))
      refine own_via (fun t k => XS.i2dS X41.here hx rfl (hb hby at_24) rfl rfl k) ?_
      show own_G p e below _ (T41.setTop (mkF m 25 #[.val (.int p1), .val (.int p2), .val (.int p3), .val (.int p4), .val (.int p5), .val (.int (0 : Int32)), .unset, .unset, .unset, .unset, .unset, .unset, .unset] [(.double (FP.i2d p3)), (.int (2 : Int32)), (.ref b39), (.ref b39)]))
      obtain ⟨cl42, Ar42, q42, S42, Ng42, Hs42, G42⟩ := id V41
      have hin42 : ¬ ((2 : Int32) < 0 ∨ cl42.slots.size ≤ ((2 : Int32)).toNatClampNeg) := inb_of S42 ⟨by decide, by decide⟩
      obtain ⟨T42, h42, X42, e42, W42, st42⟩ := stD X41 hx hZ e41 Ar42 (j := (2 : Int32)) hin42 (g := (mkF m 25 #[.val (.int p1), .val (.int p2), .val (.int p3), .val (.int p4), .val (.int p5), .val (.int (0 : Int32)), .unset, .unset, .unset, .unset, .unset, .unset, .unset] [(.double (FP.i2d p3)), (.int (2 : Int32)), (.ref b39), (.ref b39)])) rfl rfl (hb hby at_25)
      have V42 : Arv Z h42 b39 k39 .double (3 : Int32) [(.double (FP.i2d p1)), (.double (FP.i2d p2)), (.double (FP.i2d p3))] (.double (0 : UInt64)) := Arv.set Ar42 q42 S42 Ng42 Hs42 G42 rfl W42 2 rfl (Nat.le_of_ble_eq_true rfl)
      have N42 := Fr.snoc X42 N41 gx_b39
      have Z42 : n0 ≤ h42.size := Nat.le_trans Z41 (Nat.le_of_eq W42.size.symm)
      refine own_via st42 ?_
      show own_G p e below _ (T42.setTop (mkF m 26 #[.val (.int p1), .val (.int p2), .val (.int p3), .val (.int p4), .val (.int p5), .val (.int (0 : Int32)), .unset, .unset, .unset, .unset, .unset, .unset, .unset] [(.ref b39)]))
      refine own_via (fun t k => XS.astore X42.here hx rfl (hb hby at_26) rfl rfl (l' := #[.val (.int p1), .val (.int p2), .val (.int p3), .val (.int p4), .val (.int p5), .val (.int (0 : Int32)), .val (.ref b39), .unset, .unset, .unset, .unset, .unset, .unset]) rfl k) ?_
      show own_G p e below _ (T42.setTop (mkF m 28 #[.val (.int p1), .val (.int p2), .val (.int p3), .val (.int p4), .val (.int p5), .val (.int (0 : Int32)), .val (.ref b39), .unset, .unset, .unset, .unset, .unset, .unset] []))
      refine own_via (fun t k => XS.iload X42.here hx rfl (hb hby at_28) rfl k) ?_
      show own_G p e below _ (T42.setTop (mkF m 30 #[.val (.int p1), .val (.int p2), .val (.int p3), .val (.int p4), .val (.int p5), .val (.int (0 : Int32)), .val (.ref b39), .unset, .unset, .unset, .unset, .unset, .unset] [(.int (0 : Int32))]))
      refine own_via (fun t k => XS.ifNo X42.here hx rfl (hb hby at_30) rfl ((if0 _ _).trans (teq (by decide : (0 : Int32) = (0 : Int32))).2) k) ?_
      show own_G p e below _ (T42.setTop (mkF m 33 #[.val (.int p1), .val (.int p2), .val (.int p3), .val (.int p4), .val (.int p5), .val (.int (0 : Int32)), .val (.ref b39), .unset, .unset, .unset, .unset, .unset, .unset] []))
      refine own_via (fun t k => XS.iloadN X42.here hx rfl (hb hby at_33) rfl k) ?_
      show own_G p e below _ (T42.setTop (mkF m 34 #[.val (.int p1), .val (.int p2), .val (.int p3), .val (.int p4), .val (.int p5), .val (.int (0 : Int32)), .val (.ref b39), .unset, .unset, .unset, .unset, .unset, .unset] [(.int p1)]))
      refine own_via (fun t k => XS.goto X42.here hx rfl (pc0 := 34) (pc' := 48) rfl (hb hby at_34) (by decide) (by decide) k) ?_
      show own_G p e below _ (T42.setTop (mkF m 48 #[.val (.int p1), .val (.int p2), .val (.int p3), .val (.int p4), .val (.int p5), .val (.int (0 : Int32)), .val (.ref b39), .unset, .unset, .unset, .unset, .unset, .unset] [(.int p1)]))
      refine own_via (fun t k => XS.istore X42.here hx rfl (hb hby at_48) rfl (l' := #[.val (.int p1), .val (.int p2), .val (.int p3), .val (.int p4), .val (.int p5), .val (.int (0 : Int32)), .val (.ref b39), .val (.int p1), .unset, .unset, .unset, .unset, .unset]) rfl k) ?_
      show own_G p e below _ (T42.setTop (mkF m 50 #[.val (.int p1), .val (.int p2), .val (.int p3), .val (.int p4), .val (.int p5), .val (.int (0 : Int32)), .val (.ref b39), .val (.int p1), .unset, .unset, .unset, .unset, .unset] []))
      refine own_via (fun t k => XS.aload X42.here hx rfl (hb hby at_50) rfl rfl k) ?_
      show own_G p e below _ (T42.setTop (mkF m 52 #[.val (.int p1), .val (.int p2), .val (.int p3), .val (.int p4), .val (.int p5), .val (.int (0 : Int32)), .val (.ref b39), .val (.int p1), .unset, .unset, .unset, .unset, .unset] [(.ref b39)]))
      refine own_via (fun t k => XS.iload X42.here hx rfl (hb hby at_52) rfl k) ?_
      show own_G p e below _ (T42.setTop (mkF m 54 #[.val (.int p1), .val (.int p2), .val (.int p3), .val (.int p4), .val (.int p5), .val (.int (0 : Int32)), .val (.ref b39), .val (.int p1), .unset, .unset, .unset, .unset, .unset] [(.int (0 : Int32)), (.ref b39)]))
      refine own_via (fun t k => XS.iload X42.here hx rfl (hb hby at_54) rfl k) ?_
      show own_G p e below _ (T42.setTop (mkF m 56 #[.val (.int p1), .val (.int p2), .val (.int p3), .val (.int p4), .val (.int p5), .val (.int (0 : Int32)), .val (.ref b39), .val (.int p1), .unset, .unset, .unset, .unset, .unset] [(.int p5), (.int (0 : Int32)), (.ref b39)]))
      refine own_via (fun t k => XS.i2dS X42.here hx rfl (hb hby at_56) rfl rfl k) ?_
      show own_G p e below _ (T42.setTop (mkF m 57 #[.val (.int p1), .val (.int p2), .val (.int p3), .val (.int p4), .val (.int p5), .val (.int (0 : Int32)), .val (.ref b39), .val (.int p1), .unset, .unset, .unset, .unset, .unset] [(.double (FP.i2d p5)), (.int (0 : Int32)), (.ref b39)]))
      obtain ⟨_, _, ⟨T44, L44, k44, n44⟩, -, X44, ⟨Lc44, hQ44, l44, y44, z44⟩, st44⟩ := Jvm.LawKit.callS X42 hx (y := (⟨"com/example/odds2/odds2/engine/Bounds", "tightenLower", "([DID)Z"⟩ : MethodName)) hown (mvT hZ (hw _ (List.mem_of_getElem? (i := 2) rfl))) (mvT hZ (hw _ (List.mem_of_getElem? (i := 3) rfl))) (mvT hZ (hw _ (List.mem_of_getElem? (i := 4) rfl))) (mvT hZ (hw _ (List.mem_of_getElem? (i := 5) rfl))) (by decide) (backOf (W := 0) (rm1_0gt l Z a0 hw [] b39 p1 p2 p3 p5 k39 h42 n0 Z42 V42 gx_b39 hob) hZ (hw _ (List.mem_of_getElem? (i := 5) rfl)) (hw _ (List.mem_of_getElem? (i := 4) rfl)) (by decide) (by decide)) (g := (mkF m 57 #[.val (.int p1), .val (.int p2), .val (.int p3), .val (.int p4), .val (.int p5), .val (.int (0 : Int32)), .val (.ref b39), .val (.int p1), .unset, .unset, .unset, .unset, .unset] [(.double (FP.i2d p5)), (.int (0 : Int32)), (.ref b39)])) rfl (by rw [hml]; rfl) (argsL := [(.ref b39), (.int (0 : Int32)), (.double (FP.i2d p5))]) (rest := []) (lenOf pd_rm0_0 rfl) rfl (by show 2 * 0 + _ ≤ _; exact Nat.le_of_eq rfl) (hb hby at_57) (fun _ _ => ⟨rfl, e42, (by decide : 1 + 0 ≤ _), (by decide : 3 + 0 ≤ _)⟩)
      dsimp only [Pt.U, Pt.locs, Pt.cells, Pt.slots] at X44 l44 y44 z44 st44 hQ44
      subst l44 y44 z44
      obtain ⟨rfl, N44q, K44, V44⟩ := hQ44
      have N44 := Fr.app N42 N44q
      have Z44 : n0 ≤ T44.heap.size := Nat.le_trans Z42 K44.1
      refine own_via st44 ?_
      show own_G p e below _ (T44.setTop (mkF m 60 #[.val (.int p1), .val (.int p2), .val (.int p3), .val (.int p4), .val (.int p5), .val (.int (0 : Int32)), .val (.ref b39), .val (.int p1), .unset, .unset, .unset, .unset, .unset] [(.int (1 : Int32))]))
      refine own_via (fun t k => XS.istore X44.here hx rfl (hb hby at_60) rfl (l' := #[.val (.int p1), .val (.int p2), .val (.int p3), .val (.int p4), .val (.int p5), .val (.int (0 : Int32)), .val (.ref b39), .val (.int p1), .val (.int (1 : Int32)), .unset, .unset, .unset, .unset]) rfl k) ?_
      show own_G p e below _ (T44.setTop (mkF m 62 #[.val (.int p1), .val (.int p2), .val (.int p3), .val (.int p4), .val (.int p5), .val (.int (0 : Int32)), .val (.ref b39), .val (.int p1), .val (.int (1 : Int32)), .unset, .unset, .unset, .unset] []))
      refine own_via (fun t k => XS.iload X44.here hx rfl (hb hby at_62) rfl k) ?_
      show own_G p e below _ (T44.setTop (mkF m 64 #[.val (.int p1), .val (.int p2), .val (.int p3), .val (.int p4), .val (.int p5), .val (.int (0 : Int32)), .val (.ref b39), .val (.int p1), .val (.int (1 : Int32)), .unset, .unset, .unset, .unset] [(.int (0 : Int32))]))
      refine own_via (fun t k => XS.ifNo X44.here hx rfl (hb hby at_64) rfl ((if0 _ _).trans (teq (by decide : (0 : Int32) = (0 : Int32))).2) k) ?_
      show own_G p e below _ (T44.setTop (mkF m 67 #[.val (.int p1), .val (.int p2), .val (.int p3), .val (.int p4), .val (.int p5), .val (.int (0 : Int32)), .val (.ref b39), .val (.int p1), .val (.int (1 : Int32)), .unset, .unset, .unset, .unset] []))
      refine own_via (fun t k => XS.iloadN X44.here hx rfl (hb hby at_67) rfl k) ?_
      show own_G p e below _ (T44.setTop (mkF m 68 #[.val (.int p1), .val (.int p2), .val (.int p3), .val (.int p4), .val (.int p5), .val (.int (0 : Int32)), .val (.ref b39), .val (.int p1), .val (.int (1 : Int32)), .unset, .unset, .unset, .unset] [(.int p1)]))
      refine own_via (fun t k => XS.iload X44.here hx rfl (hb hby at_68) rfl k) ?_
      show own_G p e below _ (T44.setTop (mkF m 70 #[.val (.int p1), .val (.int p2), .val (.int p3), .val (.int p4), .val (.int p5), .val (.int (0 : Int32)), .val (.ref b39), .val (.int p1), .val (.int (1 : Int32)), .unset, .unset, .unset, .unset] [(.int p5), (.int p1)]))
      obtain ⟨_, _, ⟨T47, L47, k47, n47⟩, -, X47, ⟨Lc47, hQ47, l47, y47, z47⟩, st47⟩ := Jvm.LawKit.callS X44 hx (y := (⟨"java/lang/Math", "max", "(II)I"⟩ : MethodName)) hown (mvT hZ (hw _ (List.mem_of_getElem? (i := 6) rfl))) (mvT hZ (hw _ (List.mem_of_getElem? (i := 7) rfl))) (mvT hZ (hw _ (List.mem_of_getElem? (i := 8) rfl))) (mvT hZ (hw _ (List.mem_of_getElem? (i := 9) rfl))) (by decide) (backOf (W := 0) (rm2 l Z a0 hw [] p1 p5 T44.heap n0 Z44) hZ (hw _ (List.mem_of_getElem? (i := 9) rfl)) (hw _ (List.mem_of_getElem? (i := 8) rfl)) (by decide) (by decide)) (g := (mkF m 70 #[.val (.int p1), .val (.int p2), .val (.int p3), .val (.int p4), .val (.int p5), .val (.int (0 : Int32)), .val (.ref b39), .val (.int p1), .val (.int (1 : Int32)), .unset, .unset, .unset, .unset] [(.int p5), (.int p1)])) rfl (by rw [hml]; rfl) (argsL := [(.int p1), (.int p5)]) (rest := []) (lenOf pd_rm0_1 rfl) rfl (by show 2 * 0 + _ ≤ _; exact Nat.le_of_eq rfl) (hb hby at_70) (fun _ _ => ⟨rfl, rfl, (by decide : 1 + 0 ≤ _), (by decide : 3 + 0 ≤ _)⟩)
      dsimp only [Pt.U, Pt.locs, Pt.cells, Pt.slots] at X47 l47 y47 z47 st47 hQ47
      subst l47 y47 z47
      obtain ⟨rfl, N47q, e47⟩ := hQ47
      have N47 := Fr.app N44 N47q
      refine own_via st47 ?_
      show own_G p e below _ (T47.setTop (mkF m 73 #[.val (.int p1), .val (.int p2), .val (.int p3), .val (.int p4), .val (.int p5), .val (.int (0 : Int32)), .val (.ref b39), .val (.int p1), .val (.int (1 : Int32)), .unset, .unset, .unset, .unset] [(.int (own_max p1 p5))]))
      rw [show own_max p1 p5 = p5 from if_pos hob]
      show own_G p e below _ (T47.setTop (mkF m 73 #[.val (.int p1), .val (.int p2), .val (.int p3), .val (.int p4), .val (.int p5), .val (.int (0 : Int32)), .val (.ref b39), .val (.int p1), .val (.int (1 : Int32)), .unset, .unset, .unset, .unset] [(.int p5)]))
      refine own_via (fun t k => XS.goto X47.here hx rfl (pc0 := 73) (pc' := 77) rfl (hb hby at_73) (by decide) (by decide) k) ?_
      show own_G p e below _ (T47.setTop (mkF m 77 #[.val (.int p1), .val (.int p2), .val (.int p3), .val (.int p4), .val (.int p5), .val (.int (0 : Int32)), .val (.ref b39), .val (.int p1), .val (.int (1 : Int32)), .unset, .unset, .unset, .unset] [(.int p5)]))
      refine own_via (fun t k => XS.istore X47.here hx rfl (hb hby at_77) rfl (l' := #[.val (.int p1), .val (.int p2), .val (.int p3), .val (.int p4), .val (.int p5), .val (.int (0 : Int32)), .val (.ref b39), .val (.int p1), .val (.int (1 : Int32)), .val (.int p5), .unset, .unset, .unset]) rfl k) ?_
      show own_G p e below _ (T47.setTop (mkF m 79 #[.val (.int p1), .val (.int p2), .val (.int p3), .val (.int p4), .val (.int p5), .val (.int (0 : Int32)), .val (.ref b39), .val (.int p1), .val (.int (1 : Int32)), .val (.int p5), .unset, .unset, .unset] []))
      refine own_via (fun t k => XS.iload X47.here hx rfl (hb hby at_79) rfl k) ?_
      show own_G p e below _ (T47.setTop (mkF m 81 #[.val (.int p1), .val (.int p2), .val (.int p3), .val (.int p4), .val (.int p5), .val (.int (0 : Int32)), .val (.ref b39), .val (.int p1), .val (.int (1 : Int32)), .val (.int p5), .unset, .unset, .unset] [(.int (0 : Int32))]))
      refine own_via (fun t k => XS.iconst X47.here hx rfl (hb hby at_81) k) ?_
      show own_G p e below _ (T47.setTop (mkF m 82 #[.val (.int p1), .val (.int p2), .val (.int p3), .val (.int p4), .val (.int p5), .val (.int (0 : Int32)), .val (.ref b39), .val (.int p1), .val (.int (1 : Int32)), .val (.int p5), .unset, .unset, .unset] [(.int (1 : Int32)), (.int (0 : Int32))]))
      refine own_via (fun t k => XS.icmpYes X47.here hx rfl (pc0 := 82) (pc' := 94) rfl (hb hby at_82) rfl (feq (by decide : ¬ ((0 : Int32) = (1 : Int32)))).2 (by decide) (by decide) k) ?_
      show own_G p e below _ (T47.setTop (mkF m 94 #[.val (.int p1), .val (.int p2), .val (.int p3), .val (.int p4), .val (.int p5), .val (.int (0 : Int32)), .val (.ref b39), .val (.int p1), .val (.int (1 : Int32)), .val (.int p5), .unset, .unset, .unset] []))
      refine own_via (fun t k => XS.iloadN X47.here hx rfl (hb hby at_94) rfl k) ?_
      show own_G p e below _ (T47.setTop (mkF m 95 #[.val (.int p1), .val (.int p2), .val (.int p3), .val (.int p4), .val (.int p5), .val (.int (0 : Int32)), .val (.ref b39), .val (.int p1), .val (.int (1 : Int32)), .val (.int p5), .unset, .unset, .unset] [(.int p2)]))
      refine own_via (fun t k => XS.istore X47.here hx rfl (hb hby at_95) rfl (l' := #[.val (.int p1), .val (.int p2), .val (.int p3), .val (.int p4), .val (.int p5), .val (.int (0 : Int32)), .val (.ref b39), .val (.int p1), .val (.int (1 : Int32)), .val (.int p5), .val (.int p2), .unset, .unset]) rfl k) ?_
      show own_G p e below _ (T47.setTop (mkF m 97 #[.val (.int p1), .val (.int p2), .val (.int p3), .val (.int p4), .val (.int p5), .val (.int (0 : Int32)), .val (.ref b39), .val (.int p1), .val (.int (1 : Int32)), .val (.int p5), .val (.int p2), .unset, .unset] []))
      refine own_via (fun t k => XS.iload X47.here hx rfl (hb hby at_97) rfl k) ?_
      show own_G p e below _ (T47.setTop (mkF m 99 #[.val (.int p1), .val (.int p2), .val (.int p3), .val (.int p4), .val (.int p5), .val (.int (0 : Int32)), .val (.ref b39), .val (.int p1), .val (.int (1 : Int32)), .val (.int p5), .val (.int p2), .unset, .unset] [(.int (0 : Int32))]))
      refine own_via (fun t k => XS.iconst X47.here hx rfl (hb hby at_99) k) ?_
      show own_G p e below _ (T47.setTop (mkF m 100 #[.val (.int p1), .val (.int p2), .val (.int p3), .val (.int p4), .val (.int p5), .val (.int (0 : Int32)), .val (.ref b39), .val (.int p1), .val (.int (1 : Int32)), .val (.int p5), .val (.int p2), .unset, .unset] [(.int (2 : Int32)), (.int (0 : Int32))]))
      refine own_via (fun t k => XS.icmpYes X47.here hx rfl (pc0 := 100) (pc' := 112) rfl (hb hby at_100) rfl (feq (by decide : ¬ ((0 : Int32) = (2 : Int32)))).2 (by decide) (by decide) k) ?_
      show own_G p e below _ (T47.setTop (mkF m 112 #[.val (.int p1), .val (.int p2), .val (.int p3), .val (.int p4), .val (.int p5), .val (.int (0 : Int32)), .val (.ref b39), .val (.int p1), .val (.int (1 : Int32)), .val (.int p5), .val (.int p2), .unset, .unset] []))
      refine own_via (fun t k => XS.iloadN X47.here hx rfl (hb hby at_112) rfl k) ?_
      show own_G p e below _ (T47.setTop (mkF m 113 #[.val (.int p1), .val (.int p2), .val (.int p3), .val (.int p4), .val (.int p5), .val (.int (0 : Int32)), .val (.ref b39), .val (.int p1), .val (.int (1 : Int32)), .val (.int p5), .val (.int p2), .unset, .unset] [(.int p3)]))
      refine own_via (fun t k => XS.istore X47.here hx rfl (hb hby at_113) rfl (l' := #[.val (.int p1), .val (.int p2), .val (.int p3), .val (.int p4), .val (.int p5), .val (.int (0 : Int32)), .val (.ref b39), .val (.int p1), .val (.int (1 : Int32)), .val (.int p5), .val (.int p2), .val (.int p3), .unset]) rfl k) ?_
      show own_G p e below _ (T47.setTop (mkF m 115 #[.val (.int p1), .val (.int p2), .val (.int p3), .val (.int p4), .val (.int p5), .val (.int (0 : Int32)), .val (.ref b39), .val (.int p1), .val (.int (1 : Int32)), .val (.int p5), .val (.int p2), .val (.int p3), .unset] []))
      refine own_via (fun t k => XS.iload X47.here hx rfl (hb hby at_115) rfl k) ?_
      show own_G p e below _ (T47.setTop (mkF m 117 #[.val (.int p1), .val (.int p2), .val (.int p3), .val (.int p4), .val (.int p5), .val (.int (0 : Int32)), .val (.ref b39), .val (.int p1), .val (.int (1 : Int32)), .val (.int p5), .val (.int p2), .val (.int p3), .unset] [(.int p5)]))
      refine own_via (fun t k => XS.iload X47.here hx rfl (hb hby at_117) rfl k) ?_
      show own_G p e below _ (T47.setTop (mkF m 119 #[.val (.int p1), .val (.int p2), .val (.int p3), .val (.int p4), .val (.int p5), .val (.int (0 : Int32)), .val (.ref b39), .val (.int p1), .val (.int (1 : Int32)), .val (.int p5), .val (.int p2), .val (.int p3), .unset] [(.int p1), (.int p5)]))
      refine own_via (fun t k => XS.icmpNo X47.here hx rfl (hb hby at_119) rfl (tlt hob).2.2.2 k) ?_
      show own_G p e below _ (T47.setTop (mkF m 122 #[.val (.int p1), .val (.int p2), .val (.int p3), .val (.int p4), .val (.int p5), .val (.int (0 : Int32)), .val (.ref b39), .val (.int p1), .val (.int (1 : Int32)), .val (.int p5), .val (.int p2), .val (.int p3), .unset] []))
      refine own_via (fun t k => XS.iconst X47.here hx rfl (hb hby at_122) k) ?_
      show own_G p e below _ (T47.setTop (mkF m 123 #[.val (.int p1), .val (.int p2), .val (.int p3), .val (.int p4), .val (.int p5), .val (.int (0 : Int32)), .val (.ref b39), .val (.int p1), .val (.int (1 : Int32)), .val (.int p5), .val (.int p2), .val (.int p3), .unset] [(.int (1 : Int32))]))
      refine own_via (fun t k => XS.goto X47.here hx rfl (pc0 := 123) (pc' := 127) rfl (hb hby at_123) (by decide) (by decide) k) ?_
      show own_G p e below _ (T47.setTop (mkF m 127 #[.val (.int p1), .val (.int p2), .val (.int p3), .val (.int p4), .val (.int p5), .val (.int (0 : Int32)), .val (.ref b39), .val (.int p1), .val (.int (1 : Int32)), .val (.int p5), .val (.int p2), .val (.int p3), .unset] [(.int (1 : Int32))]))
      refine own_via (fun t k => XS.istore X47.here hx rfl (hb hby at_127) rfl (l' := #[.val (.int p1), .val (.int p2), .val (.int p3), .val (.int p4), .val (.int p5), .val (.int (0 : Int32)), .val (.ref b39), .val (.int p1), .val (.int (1 : Int32)), .val (.int p5), .val (.int p2), .val (.int p3), .val (.int (1 : Int32))]) rfl k) ?_
      show own_G p e below _ (T47.setTop (mkF m 129 #[.val (.int p1), .val (.int p2), .val (.int p3), .val (.int p4), .val (.int p5), .val (.int (0 : Int32)), .val (.ref b39), .val (.int p1), .val (.int (1 : Int32)), .val (.int p5), .val (.int p2), .val (.int p3), .val (.int (1 : Int32))] []))
      refine own_via (fun t k => XS.iload X47.here hx rfl (hb hby at_129) rfl k) ?_
      show own_G p e below _ (T47.setTop (mkF m 131 #[.val (.int p1), .val (.int p2), .val (.int p3), .val (.int p4), .val (.int p5), .val (.int (0 : Int32)), .val (.ref b39), .val (.int p1), .val (.int (1 : Int32)), .val (.int p5), .val (.int p2), .val (.int p3), .val (.int (1 : Int32))] [(.int (1 : Int32))]))
      refine own_via (fun t k => XS.iload X47.here hx rfl (hb hby at_131) rfl k) ?_
      show own_G p e below _ (T47.setTop (mkF m 133 #[.val (.int p1), .val (.int p2), .val (.int p3), .val (.int p4), .val (.int p5), .val (.int (0 : Int32)), .val (.ref b39), .val (.int p1), .val (.int (1 : Int32)), .val (.int p5), .val (.int p2), .val (.int p3), .val (.int (1 : Int32))] [(.int (1 : Int32)), (.int (1 : Int32))]))
      refine own_via (fun t k => XS.icmpNo X47.here hx rfl (hb hby at_133) rfl (teq (by decide : (1 : Int32) = (1 : Int32))).2 k) ?_
      show own_G p e below _ (T47.setTop (mkF m 136 #[.val (.int p1), .val (.int p2), .val (.int p3), .val (.int p4), .val (.int p5), .val (.int (0 : Int32)), .val (.ref b39), .val (.int p1), .val (.int (1 : Int32)), .val (.int p5), .val (.int p2), .val (.int p3), .val (.int (1 : Int32))] []))
      refine own_via (fun t k => XS.aload X47.here hx rfl (hb hby at_136) rfl rfl k) ?_
      show own_G p e below _ (T47.setTop (mkF m 138 #[.val (.int p1), .val (.int p2), .val (.int p3), .val (.int p4), .val (.int p5), .val (.int (0 : Int32)), .val (.ref b39), .val (.int p1), .val (.int (1 : Int32)), .val (.int p5), .val (.int p2), .val (.int p3), .val (.int (1 : Int32))] [(.ref b39)]))
      refine own_via (fun t k => XS.iconst X47.here hx rfl (hb hby at_138) k) ?_
      show own_G p e below _ (T47.setTop (mkF m 139 #[.val (.int p1), .val (.int p2), .val (.int p3), .val (.int p4), .val (.int p5), .val (.int (0 : Int32)), .val (.ref b39), .val (.int p1), .val (.int (1 : Int32)), .val (.int p5), .val (.int p2), .val (.int p3), .val (.int (1 : Int32))] [(.int (0 : Int32)), (.ref b39)]))
      obtain ⟨cl52, Ar52, q52, S52, Ng52, Hs52, G52⟩ := id V44
      have hin52 : ¬ ((0 : Int32) < 0 ∨ cl52.slots.size ≤ ((0 : Int32)).toNatClampNeg) := inb_of S52 ⟨by decide, by decide⟩
      have hat52 : cl52.slots[((0 : Int32)).toNatClampNeg]? = some (.double (FP.i2d p5)) := Hs52.at hin52 rfl
      refine own_via (fun t k => X47.daload hx (j := (0 : Int32)) (v := (.double (FP.i2d p5))) (by rw [e47]; exact Ar52.1) (State.isArrayOf_alike hZ.alike Ar52.2.1) Ar52.2.2 hin52 hat52 (g := (mkF m 139 #[.val (.int p1), .val (.int p2), .val (.int p3), .val (.int p4), .val (.int p5), .val (.int (0 : Int32)), .val (.ref b39), .val (.int p1), .val (.int (1 : Int32)), .val (.int p5), .val (.int p2), .val (.int p3), .val (.int (1 : Int32))] [(.int (0 : Int32)), (.ref b39)])) rfl rfl (hb hby at_139) _ k) ?_
      show own_G p e below _ (T47.setTop (mkF m 140 #[.val (.int p1), .val (.int p2), .val (.int p3), .val (.int p4), .val (.int p5), .val (.int (0 : Int32)), .val (.ref b39), .val (.int p1), .val (.int (1 : Int32)), .val (.int p5), .val (.int p2), .val (.int p3), .val (.int (1 : Int32))] [(.double (FP.i2d p5))]))
      refine own_via (fun t k => XS.iload X47.here hx rfl (hb hby at_140) rfl k) ?_
      show own_G p e below _ (T47.setTop (mkF m 142 #[.val (.int p1), .val (.int p2), .val (.int p3), .val (.int p4), .val (.int p5), .val (.int (0 : Int32)), .val (.ref b39), .val (.int p1), .val (.int (1 : Int32)), .val (.int p5), .val (.int p2), .val (.int p3), .val (.int (1 : Int32))] [(.int p5), (.double (FP.i2d p5))]))
      refine own_via (fun t k => XS.i2dS X47.here hx rfl (hb hby at_142) rfl rfl k) ?_
      show own_G p e below _ (T47.setTop (mkF m 143 #[.val (.int p1), .val (.int p2), .val (.int p3), .val (.int p4), .val (.int p5), .val (.int (0 : Int32)), .val (.ref b39), .val (.int p1), .val (.int (1 : Int32)), .val (.int p5), .val (.int p2), .val (.int p3), .val (.int (1 : Int32))] [(.double (FP.i2d p5)), (.double (FP.i2d p5))]))
      refine own_via (fun t k => XS.dcmpS X47.here hx rfl (hb hby at_143) rfl (own_dc_eq rfl _) k) ?_
      show own_G p e below _ (T47.setTop (mkF m 144 #[.val (.int p1), .val (.int p2), .val (.int p3), .val (.int p4), .val (.int p5), .val (.int (0 : Int32)), .val (.ref b39), .val (.int p1), .val (.int (1 : Int32)), .val (.int p5), .val (.int p2), .val (.int p3), .val (.int (1 : Int32))] [(.int (0 : Int32))]))
      refine own_via (fun t k => XS.ifNo X47.here hx rfl (hb hby at_144) rfl ((if0 _ _).trans (teq (by decide : (0 : Int32) = (0 : Int32))).2) k) ?_
      show own_G p e below _ (T47.setTop (mkF m 147 #[.val (.int p1), .val (.int p2), .val (.int p3), .val (.int p4), .val (.int p5), .val (.int (0 : Int32)), .val (.ref b39), .val (.int p1), .val (.int (1 : Int32)), .val (.int p5), .val (.int p2), .val (.int p3), .val (.int (1 : Int32))] []))
      refine own_via (fun t k => XS.aload X47.here hx rfl (hb hby at_147) rfl rfl k) ?_
      show own_G p e below _ (T47.setTop (mkF m 149 #[.val (.int p1), .val (.int p2), .val (.int p3), .val (.int p4), .val (.int p5), .val (.int (0 : Int32)), .val (.ref b39), .val (.int p1), .val (.int (1 : Int32)), .val (.int p5), .val (.int p2), .val (.int p3), .val (.int (1 : Int32))] [(.ref b39)]))
      refine own_via (fun t k => XS.iconst X47.here hx rfl (hb hby at_149) k) ?_
      show own_G p e below _ (T47.setTop (mkF m 150 #[.val (.int p1), .val (.int p2), .val (.int p3), .val (.int p4), .val (.int p5), .val (.int (0 : Int32)), .val (.ref b39), .val (.int p1), .val (.int (1 : Int32)), .val (.int p5), .val (.int p2), .val (.int p3), .val (.int (1 : Int32))] [(.int (1 : Int32)), (.ref b39)]))
      obtain ⟨cl54, Ar54, q54, S54, Ng54, Hs54, G54⟩ := id V44
      have hin54 : ¬ ((1 : Int32) < 0 ∨ cl54.slots.size ≤ ((1 : Int32)).toNatClampNeg) := inb_of S54 ⟨by decide, by decide⟩
      have hat54 : cl54.slots[((1 : Int32)).toNatClampNeg]? = some (.double (FP.i2d p2)) := Hs54.at hin54 rfl
      refine own_via (fun t k => X47.daload hx (j := (1 : Int32)) (v := (.double (FP.i2d p2))) (by rw [e47]; exact Ar54.1) (State.isArrayOf_alike hZ.alike Ar54.2.1) Ar54.2.2 hin54 hat54 (g := (mkF m 150 #[.val (.int p1), .val (.int p2), .val (.int p3), .val (.int p4), .val (.int p5), .val (.int (0 : Int32)), .val (.ref b39), .val (.int p1), .val (.int (1 : Int32)), .val (.int p5), .val (.int p2), .val (.int p3), .val (.int (1 : Int32))] [(.int (1 : Int32)), (.ref b39)])) rfl rfl (hb hby at_150) _ k) ?_
      show own_G p e below _ (T47.setTop (mkF m 151 #[.val (.int p1), .val (.int p2), .val (.int p3), .val (.int p4), .val (.int p5), .val (.int (0 : Int32)), .val (.ref b39), .val (.int p1), .val (.int (1 : Int32)), .val (.int p5), .val (.int p2), .val (.int p3), .val (.int (1 : Int32))] [(.double (FP.i2d p2))]))
      refine own_via (fun t k => XS.iload X47.here hx rfl (hb hby at_151) rfl k) ?_
      show own_G p e below _ (T47.setTop (mkF m 153 #[.val (.int p1), .val (.int p2), .val (.int p3), .val (.int p4), .val (.int p5), .val (.int (0 : Int32)), .val (.ref b39), .val (.int p1), .val (.int (1 : Int32)), .val (.int p5), .val (.int p2), .val (.int p3), .val (.int (1 : Int32))] [(.int p2), (.double (FP.i2d p2))]))
      refine own_via (fun t k => XS.i2dS X47.here hx rfl (hb hby at_153) rfl rfl k) ?_
      show own_G p e below _ (T47.setTop (mkF m 154 #[.val (.int p1), .val (.int p2), .val (.int p3), .val (.int p4), .val (.int p5), .val (.int (0 : Int32)), .val (.ref b39), .val (.int p1), .val (.int (1 : Int32)), .val (.int p5), .val (.int p2), .val (.int p3), .val (.int (1 : Int32))] [(.double (FP.i2d p2)), (.double (FP.i2d p2))]))
      refine own_via (fun t k => XS.dcmpS X47.here hx rfl (hb hby at_154) rfl (own_dc_eq rfl _) k) ?_
      show own_G p e below _ (T47.setTop (mkF m 155 #[.val (.int p1), .val (.int p2), .val (.int p3), .val (.int p4), .val (.int p5), .val (.int (0 : Int32)), .val (.ref b39), .val (.int p1), .val (.int (1 : Int32)), .val (.int p5), .val (.int p2), .val (.int p3), .val (.int (1 : Int32))] [(.int (0 : Int32))]))
      refine own_via (fun t k => XS.ifNo X47.here hx rfl (hb hby at_155) rfl ((if0 _ _).trans (teq (by decide : (0 : Int32) = (0 : Int32))).2) k) ?_
      show own_G p e below _ (T47.setTop (mkF m 158 #[.val (.int p1), .val (.int p2), .val (.int p3), .val (.int p4), .val (.int p5), .val (.int (0 : Int32)), .val (.ref b39), .val (.int p1), .val (.int (1 : Int32)), .val (.int p5), .val (.int p2), .val (.int p3), .val (.int (1 : Int32))] []))
      refine own_via (fun t k => XS.aload X47.here hx rfl (hb hby at_158) rfl rfl k) ?_
      show own_G p e below _ (T47.setTop (mkF m 160 #[.val (.int p1), .val (.int p2), .val (.int p3), .val (.int p4), .val (.int p5), .val (.int (0 : Int32)), .val (.ref b39), .val (.int p1), .val (.int (1 : Int32)), .val (.int p5), .val (.int p2), .val (.int p3), .val (.int (1 : Int32))] [(.ref b39)]))
      refine own_via (fun t k => XS.iconst X47.here hx rfl (hb hby at_160) k) ?_
      show own_G p e below _ (T47.setTop (mkF m 161 #[.val (.int p1), .val (.int p2), .val (.int p3), .val (.int p4), .val (.int p5), .val (.int (0 : Int32)), .val (.ref b39), .val (.int p1), .val (.int (1 : Int32)), .val (.int p5), .val (.int p2), .val (.int p3), .val (.int (1 : Int32))] [(.int (2 : Int32)), (.ref b39)]))
      obtain ⟨cl56, Ar56, q56, S56, Ng56, Hs56, G56⟩ := id V44
      have hin56 : ¬ ((2 : Int32) < 0 ∨ cl56.slots.size ≤ ((2 : Int32)).toNatClampNeg) := inb_of S56 ⟨by decide, by decide⟩
      have hat56 : cl56.slots[((2 : Int32)).toNatClampNeg]? = some (.double (FP.i2d p3)) := Hs56.at hin56 rfl
      refine own_via (fun t k => X47.daload hx (j := (2 : Int32)) (v := (.double (FP.i2d p3))) (by rw [e47]; exact Ar56.1) (State.isArrayOf_alike hZ.alike Ar56.2.1) Ar56.2.2 hin56 hat56 (g := (mkF m 161 #[.val (.int p1), .val (.int p2), .val (.int p3), .val (.int p4), .val (.int p5), .val (.int (0 : Int32)), .val (.ref b39), .val (.int p1), .val (.int (1 : Int32)), .val (.int p5), .val (.int p2), .val (.int p3), .val (.int (1 : Int32))] [(.int (2 : Int32)), (.ref b39)])) rfl rfl (hb hby at_161) _ k) ?_
      show own_G p e below _ (T47.setTop (mkF m 162 #[.val (.int p1), .val (.int p2), .val (.int p3), .val (.int p4), .val (.int p5), .val (.int (0 : Int32)), .val (.ref b39), .val (.int p1), .val (.int (1 : Int32)), .val (.int p5), .val (.int p2), .val (.int p3), .val (.int (1 : Int32))] [(.double (FP.i2d p3))]))
      refine own_via (fun t k => XS.iload X47.here hx rfl (hb hby at_162) rfl k) ?_
      show own_G p e below _ (T47.setTop (mkF m 164 #[.val (.int p1), .val (.int p2), .val (.int p3), .val (.int p4), .val (.int p5), .val (.int (0 : Int32)), .val (.ref b39), .val (.int p1), .val (.int (1 : Int32)), .val (.int p5), .val (.int p2), .val (.int p3), .val (.int (1 : Int32))] [(.int p3), (.double (FP.i2d p3))]))
      refine own_via (fun t k => XS.i2dS X47.here hx rfl (hb hby at_164) rfl rfl k) ?_
      show own_G p e below _ (T47.setTop (mkF m 165 #[.val (.int p1), .val (.int p2), .val (.int p3), .val (.int p4), .val (.int p5), .val (.int (0 : Int32)), .val (.ref b39), .val (.int p1), .val (.int (1 : Int32)), .val (.int p5), .val (.int p2), .val (.int p3), .val (.int (1 : Int32))] [(.double (FP.i2d p3)), (.double (FP.i2d p3))]))
      refine own_via (fun t k => XS.dcmpS X47.here hx rfl (hb hby at_165) rfl (own_dc_eq rfl _) k) ?_
      show own_G p e below _ (T47.setTop (mkF m 166 #[.val (.int p1), .val (.int p2), .val (.int p3), .val (.int p4), .val (.int p5), .val (.int (0 : Int32)), .val (.ref b39), .val (.int p1), .val (.int (1 : Int32)), .val (.int p5), .val (.int p2), .val (.int p3), .val (.int (1 : Int32))] [(.int (0 : Int32))]))
      refine own_via (fun t k => XS.ifNo X47.here hx rfl (hb hby at_166) rfl ((if0 _ _).trans (teq (by decide : (0 : Int32) = (0 : Int32))).2) k) ?_
      show own_G p e below _ (T47.setTop (mkF m 169 #[.val (.int p1), .val (.int p2), .val (.int p3), .val (.int p4), .val (.int p5), .val (.int (0 : Int32)), .val (.ref b39), .val (.int p1), .val (.int (1 : Int32)), .val (.int p5), .val (.int p2), .val (.int p3), .val (.int (1 : Int32))] []))
      refine own_via (fun t k => XS.iconst X47.here hx rfl (hb hby at_169) k) ?_
      show own_G p e below _ (T47.setTop (mkF m 170 #[.val (.int p1), .val (.int p2), .val (.int p3), .val (.int p4), .val (.int p5), .val (.int (0 : Int32)), .val (.ref b39), .val (.int p1), .val (.int (1 : Int32)), .val (.int p5), .val (.int p2), .val (.int p3), .val (.int (1 : Int32))] [(.int (1 : Int32))]))
      refine own_via (fun t k => XS.goto X47.here hx rfl (pc0 := 170) (pc' := 174) rfl (hb hby at_170) (by decide) (by decide) k) ?_
      show own_G p e below _ (T47.setTop (mkF m 174 #[.val (.int p1), .val (.int p2), .val (.int p3), .val (.int p4), .val (.int p5), .val (.int (0 : Int32)), .val (.ref b39), .val (.int p1), .val (.int (1 : Int32)), .val (.int p5), .val (.int p2), .val (.int p3), .val (.int (1 : Int32))] [(.int (1 : Int32))]))
      obtain ⟨fs, hr, hrun, hended, hW, hsame⟩ := X47.leave (v := some (.int (1 : Int32))) (fun h => by rw [Bd.returns] at h; cases h)
      refine ⟨_, _, retN X47 hx (t := .boolean) Bd.returns (by simp) (hb hby at_174) hr, hrun, hended, _, _, rfl, ?_, ⟨_, rfl⟩, hW, hsame.mono (by decide) (by decide)⟩
      show rm0_Q Z p1 p2 p3 p4 p5 h0 n0 _ T47.heap _
      rw [e47]
      exact ⟨rfl, N47⟩
  · rcases own_tri p5 p2 with hob | hob | hob
    · rw [hk]
      show own_G p e below _ (s₁.setTop (mkF m 6 #[.val (.int p1), .val (.int p2), .val (.int p3), .val (.int p4), .val (.int p5), .unset, .unset, .unset, .unset, .unset, .unset, .unset, .unset] [(.int (1 : Int32))]))
      refine own_via (fun t k => XS.istore X0.here hx rfl (hb hby at_6) rfl (l' := #[.val (.int p1), .val (.int p2), .val (.int p3), .val (.int p4), .val (.int p5), .val (.int (1 : Int32)), .unset, .unset, .unset, .unset, .unset, .unset, .unset]) rfl k) ?_
      show own_G p e below _ (s₁.setTop (mkF m 8 #[.val (.int p1), .val (.int p2), .val (.int p3), .val (.int p4), .val (.int p5), .val (.int (1 : Int32)), .unset, .unset, .unset, .unset, .unset, .unset, .unset] []))
      refine own_via (fun t k => XS.iconst X0.here hx rfl (hb hby at_8) k) ?_
      show own_G p e below _ (s₁.setTop (mkF m 9 #[.val (.int p1), .val (.int p2), .val (.int p3), .val (.int p4), .val (.int p5), .val (.int (1 : Int32)), .unset, .unset, .unset, .unset, .unset, .unset, .unset] [(.int (3 : Int32))]))
      obtain ⟨T58, h58, k58, X58, e58, E58, A58, st58⟩ := newP X0 hx hZ (hw _ (List.mem_of_getElem? (i := 1) rfl)) e0 (g := (mkF m 9 #[.val (.int p1), .val (.int p2), .val (.int p3), .val (.int p4), .val (.int p5), .val (.int (1 : Int32)), .unset, .unset, .unset, .unset, .unset, .unset, .unset] [(.int (3 : Int32))])) rfl (hb hby at_9) rfl (by decide) (cap := 3) (by decide) (by decide) (by decide) (by decide)
      obtain ⟨b58, g58⟩ : ∃ z, z = h0.size := ⟨_, rfl⟩
      rw [← g58] at A58 st58
      have gx_b58 : n0 ≤ b58 := Nat.le_trans Z0 (Nat.le_of_eq g58.symm)
      have Z58 : n0 ≤ h58.size := Nat.le_trans Z0 E58.1
      have V58 : Arv Z h58 b58 k58 .double (3 : Int32) [(.double (0 : UInt64)), (.double (0 : UInt64)), (.double (0 : UInt64))] (.double (0 : UInt64)) := (Arv.new A58 (by decide)).pad (pad_rep [] (.double (0 : UInt64)) 3)
      refine own_via st58 ?_
      show own_G p e below _ (T58.setTop (mkF m 11 #[.val (.int p1), .val (.int p2), .val (.int p3), .val (.int p4), .val (.int p5), .val (.int (1 : Int32)), .unset, .unset, .unset, .unset, .unset, .unset, .unset] [(.ref b58)]))
      refine own_via (fun t k => XS.dup X58.here hx rfl (hb hby at_11) rfl rfl k) ?_
      show own_G p e below _ (T58.setTop (mkF m 12 #[.val (.int p1), .val (.int p2), .val (.int p3), .val (.int p4), .val (.int p5), .val (.int (1 : Int32)), .unset, .unset, .unset, .unset, .unset, .unset, .unset] [(.ref b58), (.ref b58)]))
      refine own_via (fun t k => XS.iconst X58.here hx rfl (hb hby at_12) k) ?_
      show own_G p e below _ (T58.setTop (mkF m 13 #[.val (.int p1), .val (.int p2), .val (.int p3), .val (.int p4), .val (.int p5), .val (.int (1 : Int32)), .unset, .unset, .unset, .unset, .unset, .unset, .unset] [(.int (0 : Int32)), (.ref b58), (.ref b58)]))
      refine own_via (fun t k => XS.iloadN X58.here hx rfl (hb hby at_13) rfl k) ?_
      show own_G p e below _ (T58.setTop (mkF m 14 #[.val (.int p1), .val (.int p2), .val (.int p3), .val (.int p4), .val (.int p5), .val (.int (1 : Int32)), .unset, .unset, .unset, .unset, .unset, .unset, .unset] [(.int p1), (.int (0 : Int32)), (.ref b58), (.ref b58)]))
      refine own_via (fun t k => XS.i2dS X58.here hx rfl (hb hby at_14) rfl rfl k) ?_
      show own_G p e below _ (T58.setTop (mkF m 15 #[.val (.int p1), .val (.int p2), .val (.int p3), .val (.int p4), .val (.int p5), .val (.int (1 : Int32)), .unset, .unset, .unset, .unset, .unset, .unset, .unset] [(.double (FP.i2d p1)), (.int (0 : Int32)), (.ref b58), (.ref b58)]))
      obtain ⟨cl59, Ar59, q59, S59, Ng59, Hs59, G59⟩ := id V58
      have hin59 : ¬ ((0 : Int32) < 0 ∨ cl59.slots.size ≤ ((0 : Int32)).toNatClampNeg) := inb_of S59 ⟨by decide, by decide⟩
      obtain ⟨T59, h59, X59, e59, W59, st59⟩ := stD X58 hx hZ e58 Ar59 (j := (0 : Int32)) hin59 (g := (mkF m 15 #[.val (.int p1), .val (.int p2), .val (.int p3), .val (.int p4), .val (.int p5), .val (.int (1 : Int32)), .unset, .unset, .unset, .unset, .unset, .unset, .unset] [(.double (FP.i2d p1)), (.int (0 : Int32)), (.ref b58), (.ref b58)])) rfl rfl (hb hby at_15)
      have V59 : Arv Z h59 b58 k58 .double (3 : Int32) [(.double (FP.i2d p1)), (.double (0 : UInt64)), (.double (0 : UInt64))] (.double (0 : UInt64)) := Arv.set Ar59 q59 S59 Ng59 Hs59 G59 rfl W59 0 rfl (Nat.le_of_ble_eq_true rfl)
      have N59 := Fr.snoc X59 N0 gx_b58
      have Z59 : n0 ≤ h59.size := Nat.le_trans Z58 (Nat.le_of_eq W59.size.symm)
      refine own_via st59 ?_
      show own_G p e below _ (T59.setTop (mkF m 16 #[.val (.int p1), .val (.int p2), .val (.int p3), .val (.int p4), .val (.int p5), .val (.int (1 : Int32)), .unset, .unset, .unset, .unset, .unset, .unset, .unset] [(.ref b58)]))
      refine own_via (fun t k => XS.dup X59.here hx rfl (hb hby at_16) rfl rfl k) ?_
      show own_G p e below _ (T59.setTop (mkF m 17 #[.val (.int p1), .val (.int p2), .val (.int p3), .val (.int p4), .val (.int p5), .val (.int (1 : Int32)), .unset, .unset, .unset, .unset, .unset, .unset, .unset] [(.ref b58), (.ref b58)]))
      refine own_via (fun t k => XS.iconst X59.here hx rfl (hb hby at_17) k) ?_
      show own_G p e below _ (T59.setTop (mkF m 18 #[.val (.int p1), .val (.int p2), .val (.int p3), .val (.int p4), .val (.int p5), .val (.int (1 : Int32)), .unset, .unset, .unset, .unset, .unset, .unset, .unset] [(.int (1 : Int32)), (.ref b58), (.ref b58)]))
      refine own_via (fun t k => XS.iloadN X59.here hx rfl (hb hby at_18) rfl k) ?_
      show own_G p e below _ (T59.setTop (mkF m 19 #[.val (.int p1), .val (.int p2), .val (.int p3), .val (.int p4), .val (.int p5), .val (.int (1 : Int32)), .unset, .unset, .unset, .unset, .unset, .unset, .unset] [(.int p2), (.int (1 : Int32)), (.ref b58), (.ref b58)]))
      refine own_via (fun t k => XS.i2dS X59.here hx rfl (hb hby at_19) rfl rfl k) ?_
      show own_G p e below _ (T59.setTop (mkF m 20 #[.val (.int p1), .val (.int p2), .val (.int p3), .val (.int p4), .val (.int p5), .val (.int (1 : Int32)), .unset, .unset, .unset, .unset, .unset, .unset, .unset] [(.double (FP.i2d p2)), (.int (1 : Int32)), (.ref b58), (.ref b58)]))
      obtain ⟨cl60, Ar60, q60, S60, Ng60, Hs60, G60⟩ := id V59
      have hin60 : ¬ ((1 : Int32) < 0 ∨ cl60.slots.size ≤ ((1 : Int32)).toNatClampNeg) := inb_of S60 ⟨by decide, by decide⟩
      obtain ⟨T60, h60, X60, e60, W60, st60⟩ := stD X59 hx hZ e59 Ar60 (j := (1 : Int32)) hin60 (g := (mkF m 20 #[.val (.int p1), .val (.int p2), .val (.int p3), .val (.int p4), .val (.int p5), .val (.int (1 : Int32)), .unset, .unset, .unset, .unset, .unset, .unset, .unset] [(.double (FP.i2d p2)), (.int (1 : Int32)), (.ref b58), (.ref b58)])) rfl rfl (hb hby at_20)
      have V60 : Arv Z h60 b58 k58 .double (3 : Int32) [(.double (FP.i2d p1)), (.double (FP.i2d p2)), (.double (0 : UInt64))] (.double (0 : UInt64)) := Arv.set Ar60 q60 S60 Ng60 Hs60 G60 rfl W60 1 rfl (Nat.le_of_ble_eq_true rfl)
      have N60 := Fr.snoc X60 N59 gx_b58
      have Z60 : n0 ≤ h60.size := Nat.le_trans Z59 (Nat.le_of_eq W60.size.symm)
      refine own_via st60 ?_
      show own_G p e below _ (T60.setTop (mkF m 21 #[.val (.int p1), .val (.int p2), .val (.int p3), .val (.int p4), .val (.int p5), .val (.int (1 : Int32)), .unset, .unset, .unset, .unset, .unset, .unset, .unset] [(.ref b58)]))
      refine own_via (fun t k => XS.dup X60.here hx rfl (hb hby at_21) rfl rfl k) ?_
      show own_G p e below _ (T60.setTop (mkF m 22 #[.val (.int p1), .val (.int p2), .val (.int p3), .val (.int p4), .val (.int p5), .val (.int (1 : Int32)), .unset, .unset, .unset, .unset, .unset, .unset, .unset] [(.ref b58), (.ref b58)]))
      refine own_via (fun t k => XS.iconst X60.here hx rfl (hb hby at_22) k) ?_
      show own_G p e below _ (T60.setTop (mkF m 23 #[.val (.int p1), .val (.int p2), .val (.int p3), .val (.int p4), .val (.int p5), .val (.int (1 : Int32)), .unset, .unset, .unset, .unset, .unset, .unset, .unset] [(.int (2 : Int32)), (.ref b58), (.ref b58)]))
      refine own_via (fun t k => XS.iloadN X60.here hx rfl (hb hby at_23) rfl k) ?_
      show own_G p e below _ (T60.setTop (mkF m 24 #[.val (.int p1), .val (.int p2), .val (.int p3), .val (.int p4), .val (.int p5), .val (.int (1 : Int32)), .unset, .unset, .unset, .unset, .unset, .unset, .unset] [(.int p3), (.int (2 : Int32)), (.ref b58), (.ref b58)]))
      refine own_via (fun t k => XS.i2dS X60.here hx rfl (hb hby at_24) rfl rfl k) ?_
      show own_G p e below _ (T60.setTop (mkF m 25 #[.val (.int p1), .val (.int p2), .val (.int p3), .val (.int p4), .val (.int p5), .val (.int (1 : Int32)), .unset, .unset, .unset, .unset, .unset, .unset, .unset] [(.double (FP.i2d p3)), (.int (2 : Int32)), (.ref b58), (.ref b58)]))
      obtain ⟨cl61, Ar61, q61, S61, Ng61, Hs61, G61⟩ := id V60
      have hin61 : ¬ ((2 : Int32) < 0 ∨ cl61.slots.size ≤ ((2 : Int32)).toNatClampNeg) := inb_of S61 ⟨by decide, by decide⟩
      obtain ⟨T61, h61, X61, e61, W61, st61⟩ := stD X60 hx hZ e60 Ar61 (j := (2 : Int32)) hin61 (g := (mkF m 25 #[.val (.int p1), .val (.int p2), .val (.int p3), .val (.int p4), .val (.int p5), .val (.int (1 : Int32)), .unset, .unset, .unset, .unset, .unset, .unset, .unset] [(.double (FP.i2d p3)), (.int (2 : Int32)), (.ref b58), (.ref b58)])) rfl rfl (hb hby at_25)
      have V61 : Arv Z h61 b58 k58 .double (3 : Int32) [(.double (FP.i2d p1)), (.double (FP.i2d p2)), (.double (FP.i2d p3))] (.double (0 : UInt64)) := Arv.set Ar61 q61 S61 Ng61 Hs61 G61 rfl W61 2 rfl (Nat.le_of_ble_eq_true rfl)
      have N61 := Fr.snoc X61 N60 gx_b58
      have Z61 : n0 ≤ h61.size := Nat.le_trans Z60 (Nat.le_of_eq W61.size.symm)
      refine own_via st61 ?_
      show own_G p e below _ (T61.setTop (mkF m 26 #[.val (.int p1), .val (.int p2), .val (.int p3), .val (.int p4), .val (.int p5), .val (.int (1 : Int32)), .unset, .unset, .unset, .unset, .unset, .unset, .unset] [(.ref b58)]))
      refine own_via (fun t k => XS.astore X61.here hx rfl (hb hby at_26) rfl rfl (l' := #[.val (.int p1), .val (.int p2), .val (.int p3), .val (.int p4), .val (.int p5), .val (.int (1 : Int32)), .val (.ref b58), .unset, .unset, .unset, .unset, .unset, .unset]) rfl k) ?_
      show own_G p e below _ (T61.setTop (mkF m 28 #[.val (.int p1), .val (.int p2), .val (.int p3), .val (.int p4), .val (.int p5), .val (.int (1 : Int32)), .val (.ref b58), .unset, .unset, .unset, .unset, .unset, .unset] []))
      refine own_via (fun t k => XS.iload X61.here hx rfl (hb hby at_28) rfl k) ?_
      show own_G p e below _ (T61.setTop (mkF m 30 #[.val (.int p1), .val (.int p2), .val (.int p3), .val (.int p4), .val (.int p5), .val (.int (1 : Int32)), .val (.ref b58), .unset, .unset, .unset, .unset, .unset, .unset] [(.int (1 : Int32))]))
      refine own_via (fun t k => XS.ifYes X61.here hx rfl (pc0 := 30) (pc' := 37) rfl (hb hby at_30) rfl ((if0 _ _).trans (feq (by decide : ¬ ((1 : Int32) = (0 : Int32)))).2) (by decide) (by decide) k) ?_
      show own_G p e below _ (T61.setTop (mkF m 37 #[.val (.int p1), .val (.int p2), .val (.int p3), .val (.int p4), .val (.int p5), .val (.int (1 : Int32)), .val (.ref b58), .unset, .unset, .unset, .unset, .unset, .unset] []))
      refine own_via (fun t k => XS.iload X61.here hx rfl (hb hby at_37) rfl k) ?_
      show own_G p e below _ (T61.setTop (mkF m 39 #[.val (.int p1), .val (.int p2), .val (.int p3), .val (.int p4), .val (.int p5), .val (.int (1 : Int32)), .val (.ref b58), .unset, .unset, .unset, .unset, .unset, .unset] [(.int (1 : Int32))]))
      refine own_via (fun t k => XS.iconst X61.here hx rfl (hb hby at_39) k) ?_
      show own_G p e below _ (T61.setTop (mkF m 40 #[.val (.int p1), .val (.int p2), .val (.int p3), .val (.int p4), .val (.int p5), .val (.int (1 : Int32)), .val (.ref b58), .unset, .unset, .unset, .unset, .unset, .unset] [(.int (1 : Int32)), (.int (1 : Int32))]))
      refine own_via (fun t k => XS.icmpNo X61.here hx rfl (hb hby at_40) rfl (teq (by decide : (1 : Int32) = (1 : Int32))).2 k) ?_
      show own_G p e below _ (T61.setTop (mkF m 43 #[.val (.int p1), .val (.int p2), .val (.int p3), .val (.int p4), .val (.int p5), .val (.int (1 : Int32)), .val (.ref b58), .unset, .unset, .unset, .unset, .unset, .unset] []))
      refine own_via (fun t k => XS.iloadN X61.here hx rfl (hb hby at_43) rfl k) ?_
      show own_G p e below _ (T61.setTop (mkF m 44 #[.val (.int p1), .val (.int p2), .val (.int p3), .val (.int p4), .val (.int p5), .val (.int (1 : Int32)), .val (.ref b58), .unset, .unset, .unset, .unset, .unset, .unset] [(.int p2)]))
      refine own_via (fun t k => XS.goto X61.here hx rfl (pc0 := 44) (pc' := 48) rfl (hb hby at_44) (by decide) (by decide) k) ?_
      show own_G p e below _ (T61.setTop (mkF m 48 #[.val (.int p1), .val (.int p2), .val (.int p3), .val (.int p4), .val (.int p5), .val (.int (1 : Int32)), .val (.ref b58), .unset, .unset, .unset, .unset, .unset, .unset] [(.int p2)]))
      refine own_via (fun t k => XS.istore X61.here hx rfl (hb hby at_48) rfl (l' := #[.val (.int p1), .val (.int p2), .val (.int p3), .val (.int p4), .val (.int p5), .val (.int (1 : Int32)), .val (.ref b58), .val (.int p2), .unset, .unset, .unset, .unset, .unset]) rfl k) ?_
      show own_G p e below _ (T61.setTop (mkF m 50 #[.val (.int p1), .val (.int p2), .val (.int p3), .val (.int p4), .val (.int p5), .val (.int (1 : Int32)), .val (.ref b58), .val (.int p2), .unset, .unset, .unset, .unset, .unset] []))
      refine own_via (fun t k => XS.aload X61.here hx rfl (hb hby at_50) rfl rfl k) ?_
      show own_G p e below _ (T61.setTop (mkF m 52 #[.val (.int p1), .val (.int p2), .val (.int p3), .val (.int p4), .val (.int p5), .val (.int (1 : Int32)), .val (.ref b58), .val (.int p2), .unset, .unset, .unset, .unset, .unset] [(.ref b58)]))
      refine own_via (fun t k => XS.iload X61.here hx rfl (hb hby at_52) rfl k) ?_
      show own_G p e below _ (T61.setTop (mkF m 54 #[.val (.int p1), .val (.int p2), .val (.int p3), .val (.int p4), .val (.int p5), .val (.int (1 : Int32)), .val (.ref b58), .val (.int p2), .unset, .unset, .unset, .unset, .unset] [(.int (1 : Int32)), (.ref b58)]))
      refine own_via (fun t k => XS.iload X61.here hx rfl (hb hby at_54) rfl k) ?_
      show own_G p e below _ (T61.setTop (mkF m 56 #[.val (.int p1), .val (.int p2), .val (.int p3), .val (.int p4), .val (.int p5), .val (.int (1 : Int32)), .val (.ref b58), .val (.int p2), .unset, .unset, .unset, .unset, .unset] [(.int p5), (.int (1 : Int32)), (.ref b58)]))
      refine own_via (fun t k => XS.i2dS X61.here hx rfl (hb hby at_56) rfl rfl k) ?_
      show own_G p e below _ (T61.setTop (mkF m 57 #[.val (.int p1), .val (.int p2), .val (.int p3), .val (.int p4), .val (.int p5), .val (.int (1 : Int32)), .val (.ref b58), .val (.int p2), .unset, .unset, .unset, .unset, .unset] [(.double (FP.i2d p5)), (.int (1 : Int32)), (.ref b58)]))
      obtain ⟨_, _, ⟨T64, L64, k64, n64⟩, -, X64, ⟨Lc64, hQ64, l64, y64, z64⟩, st64⟩ := Jvm.LawKit.callS X61 hx (y := (⟨"com/example/odds2/odds2/engine/Bounds", "tightenLower", "([DID)Z"⟩ : MethodName)) hown (mvT hZ (hw _ (List.mem_of_getElem? (i := 2) rfl))) (mvT hZ (hw _ (List.mem_of_getElem? (i := 3) rfl))) (mvT hZ (hw _ (List.mem_of_getElem? (i := 4) rfl))) (mvT hZ (hw _ (List.mem_of_getElem? (i := 5) rfl))) (by decide) (backOf (W := 0) (rm1_1lt l Z a0 hw [] b58 p1 p2 p3 p5 k58 h61 n0 Z61 V61 gx_b58 hob) hZ (hw _ (List.mem_of_getElem? (i := 5) rfl)) (hw _ (List.mem_of_getElem? (i := 4) rfl)) (by decide) (by decide)) (g := (mkF m 57 #[.val (.int p1), .val (.int p2), .val (.int p3), .val (.int p4), .val (.int p5), .val (.int (1 : Int32)), .val (.ref b58), .val (.int p2), .unset, .unset, .unset, .unset, .unset] [(.double (FP.i2d p5)), (.int (1 : Int32)), (.ref b58)])) rfl (by rw [hml]; rfl) (argsL := [(.ref b58), (.int (1 : Int32)), (.double (FP.i2d p5))]) (rest := []) (lenOf pd_rm0_0 rfl) rfl (by show 2 * 0 + _ ≤ _; exact Nat.le_of_eq rfl) (hb hby at_57) (fun _ _ => ⟨rfl, e61, (by decide : 1 + 0 ≤ _), (by decide : 3 + 0 ≤ _)⟩)
      dsimp only [Pt.U, Pt.locs, Pt.cells, Pt.slots] at X64 l64 y64 z64 st64 hQ64
      subst l64 y64 z64
      obtain ⟨rfl, N64q, K64, V64⟩ := hQ64
      have N64 := Fr.app N61 N64q
      have Z64 : n0 ≤ T64.heap.size := Nat.le_trans Z61 K64.1
      refine own_via st64 ?_
      show own_G p e below _ (T64.setTop (mkF m 60 #[.val (.int p1), .val (.int p2), .val (.int p3), .val (.int p4), .val (.int p5), .val (.int (1 : Int32)), .val (.ref b58), .val (.int p2), .unset, .unset, .unset, .unset, .unset] [(.int (0 : Int32))]))
      refine own_via (fun t k => XS.istore X64.here hx rfl (hb hby at_60) rfl (l' := #[.val (.int p1), .val (.int p2), .val (.int p3), .val (.int p4), .val (.int p5), .val (.int (1 : Int32)), .val (.ref b58), .val (.int p2), .val (.int (0 : Int32)), .unset, .unset, .unset, .unset]) rfl k) ?_
      show own_G p e below _ (T64.setTop (mkF m 62 #[.val (.int p1), .val (.int p2), .val (.int p3), .val (.int p4), .val (.int p5), .val (.int (1 : Int32)), .val (.ref b58), .val (.int p2), .val (.int (0 : Int32)), .unset, .unset, .unset, .unset] []))
      refine own_via (fun t k => XS.iload X64.here hx rfl (hb hby at_62) rfl k) ?_
      show own_G p e below _ (T64.setTop (mkF m 64 #[.val (.int p1), .val (.int p2), .val (.int p3), .val (.int p4), .val (.int p5), .val (.int (1 : Int32)), .val (.ref b58), .val (.int p2), .val (.int (0 : Int32)), .unset, .unset, .unset, .unset] [(.int (1 : Int32))]))
      refine own_via (fun t k => XS.ifYes X64.here hx rfl (pc0 := 64) (pc' := 76) rfl (hb hby at_64) rfl ((if0 _ _).trans (feq (by decide : ¬ ((1 : Int32) = (0 : Int32)))).2) (by decide) (by decide) k) ?_
      show own_G p e below _ (T64.setTop (mkF m 76 #[.val (.int p1), .val (.int p2), .val (.int p3), .val (.int p4), .val (.int p5), .val (.int (1 : Int32)), .val (.ref b58), .val (.int p2), .val (.int (0 : Int32)), .unset, .unset, .unset, .unset] []))
      refine own_via (fun t k => XS.iloadN X64.here hx rfl (hb hby at_76) rfl k) ?_
      show own_G p e below _ (T64.setTop (mkF m 77 #[.val (.int p1), .val (.int p2), .val (.int p3), .val (.int p4), .val (.int p5), .val (.int (1 : Int32)), .val (.ref b58), .val (.int p2), .val (.int (0 : Int32)), .unset, .unset, .unset, .unset] [(.int p1)]))
      refine own_via (fun t k => XS.istore X64.here hx rfl (hb hby at_77) rfl (l' := #[.val (.int p1), .val (.int p2), .val (.int p3), .val (.int p4), .val (.int p5), .val (.int (1 : Int32)), .val (.ref b58), .val (.int p2), .val (.int (0 : Int32)), .val (.int p1), .unset, .unset, .unset]) rfl k) ?_
      show own_G p e below _ (T64.setTop (mkF m 79 #[.val (.int p1), .val (.int p2), .val (.int p3), .val (.int p4), .val (.int p5), .val (.int (1 : Int32)), .val (.ref b58), .val (.int p2), .val (.int (0 : Int32)), .val (.int p1), .unset, .unset, .unset] []))
      refine own_via (fun t k => XS.iload X64.here hx rfl (hb hby at_79) rfl k) ?_
      show own_G p e below _ (T64.setTop (mkF m 81 #[.val (.int p1), .val (.int p2), .val (.int p3), .val (.int p4), .val (.int p5), .val (.int (1 : Int32)), .val (.ref b58), .val (.int p2), .val (.int (0 : Int32)), .val (.int p1), .unset, .unset, .unset] [(.int (1 : Int32))]))
      refine own_via (fun t k => XS.iconst X64.here hx rfl (hb hby at_81) k) ?_
      show own_G p e below _ (T64.setTop (mkF m 82 #[.val (.int p1), .val (.int p2), .val (.int p3), .val (.int p4), .val (.int p5), .val (.int (1 : Int32)), .val (.ref b58), .val (.int p2), .val (.int (0 : Int32)), .val (.int p1), .unset, .unset, .unset] [(.int (1 : Int32)), (.int (1 : Int32))]))
      refine own_via (fun t k => XS.icmpNo X64.here hx rfl (hb hby at_82) rfl (teq (by decide : (1 : Int32) = (1 : Int32))).2 k) ?_
      show own_G p e below _ (T64.setTop (mkF m 85 #[.val (.int p1), .val (.int p2), .val (.int p3), .val (.int p4), .val (.int p5), .val (.int (1 : Int32)), .val (.ref b58), .val (.int p2), .val (.int (0 : Int32)), .val (.int p1), .unset, .unset, .unset] []))
      refine own_via (fun t k => XS.iloadN X64.here hx rfl (hb hby at_85) rfl k) ?_
      show own_G p e below _ (T64.setTop (mkF m 86 #[.val (.int p1), .val (.int p2), .val (.int p3), .val (.int p4), .val (.int p5), .val (.int (1 : Int32)), .val (.ref b58), .val (.int p2), .val (.int (0 : Int32)), .val (.int p1), .unset, .unset, .unset] [(.int p2)]))
      refine own_via (fun t k => XS.iload X64.here hx rfl (hb hby at_86) rfl k) ?_
      show own_G p e below _ (T64.setTop (mkF m 88 #[.val (.int p1), .val (.int p2), .val (.int p3), .val (.int p4), .val (.int p5), .val (.int (1 : Int32)), .val (.ref b58), .val (.int p2), .val (.int (0 : Int32)), .val (.int p1), .unset, .unset, .unset] [(.int p5), (.int p2)]))
      obtain ⟨_, _, ⟨T68, L68, k68, n68⟩, -, X68, ⟨Lc68, hQ68, l68, y68, z68⟩, st68⟩ := Jvm.LawKit.callS X64 hx (y := (⟨"java/lang/Math", "max", "(II)I"⟩ : MethodName)) hown (mvT hZ (hw _ (List.mem_of_getElem? (i := 6) rfl))) (mvT hZ (hw _ (List.mem_of_getElem? (i := 7) rfl))) (mvT hZ (hw _ (List.mem_of_getElem? (i := 8) rfl))) (mvT hZ (hw _ (List.mem_of_getElem? (i := 9) rfl))) (by decide) (backOf (W := 0) (rm2 l Z a0 hw [] p2 p5 T64.heap n0 Z64) hZ (hw _ (List.mem_of_getElem? (i := 9) rfl)) (hw _ (List.mem_of_getElem? (i := 8) rfl)) (by decide) (by decide)) (g := (mkF m 88 #[.val (.int p1), .val (.int p2), .val (.int p3), .val (.int p4), .val (.int p5), .val (.int (1 : Int32)), .val (.ref b58), .val (.int p2), .val (.int (0 : Int32)), .val (.int p1), .unset, .unset, .unset] [(.int p5), (.int p2)])) rfl (by rw [hml]; rfl) (argsL := [(.int p2), (.int p5)]) (rest := []) (lenOf pd_rm0_1 rfl) rfl (by show 2 * 0 + _ ≤ _; exact Nat.le_of_eq rfl) (hb hby at_88) (fun _ _ => ⟨rfl, rfl, (by decide : 1 + 0 ≤ _), (by decide : 3 + 0 ≤ _)⟩)
      dsimp only [Pt.U, Pt.locs, Pt.cells, Pt.slots] at X68 l68 y68 z68 st68 hQ68
      subst l68 y68 z68
      obtain ⟨rfl, N68q, e68⟩ := hQ68
      have N68 := Fr.app N64 N68q
      refine own_via st68 ?_
      show own_G p e below _ (T68.setTop (mkF m 91 #[.val (.int p1), .val (.int p2), .val (.int p3), .val (.int p4), .val (.int p5), .val (.int (1 : Int32)), .val (.ref b58), .val (.int p2), .val (.int (0 : Int32)), .val (.int p1), .unset, .unset, .unset] [(.int (own_max p2 p5))]))
      rw [show own_max p2 p5 = p2 from if_neg (fun z => Int32.lt_irrefl (Int32.lt_trans hob z))]
      show own_G p e below _ (T68.setTop (mkF m 91 #[.val (.int p1), .val (.int p2), .val (.int p3), .val (.int p4), .val (.int p5), .val (.int (1 : Int32)), .val (.ref b58), .val (.int p2), .val (.int (0 : Int32)), .val (.int p1), .unset, .unset, .unset] [(.int p2)]))
      refine own_via (fun t k => XS.goto X68.here hx rfl (pc0 := 91) (pc' := 95) rfl (hb hby at_91) (by decide) (by decide) k) ?_
      show own_G p e below _ (T68.setTop (mkF m 95 #[.val (.int p1), .val (.int p2), .val (.int p3), .val (.int p4), .val (.int p5), .val (.int (1 : Int32)), .val (.ref b58), .val (.int p2), .val (.int (0 : Int32)), .val (.int p1), .unset, .unset, .unset] [(.int p2)]))
      refine own_via (fun t k => XS.istore X68.here hx rfl (hb hby at_95) rfl (l' := #[.val (.int p1), .val (.int p2), .val (.int p3), .val (.int p4), .val (.int p5), .val (.int (1 : Int32)), .val (.ref b58), .val (.int p2), .val (.int (0 : Int32)), .val (.int p1), .val (.int p2), .unset, .unset]) rfl k) ?_
      show own_G p e below _ (T68.setTop (mkF m 97 #[.val (.int p1), .val (.int p2), .val (.int p3), .val (.int p4), .val (.int p5), .val (.int (1 : Int32)), .val (.ref b58), .val (.int p2), .val (.int (0 : Int32)), .val (.int p1), .val (.int p2), .unset, .unset] []))
      refine own_via (fun t k => XS.iload X68.here hx rfl (hb hby at_97) rfl k) ?_
      show own_G p e below _ (T68.setTop (mkF m 99 #[.val (.int p1), .val (.int p2), .val (.int p3), .val (.int p4), .val (.int p5), .val (.int (1 : Int32)), .val (.ref b58), .val (.int p2), .val (.int (0 : Int32)), .val (.int p1), .val (.int p2), .unset, .unset] [(.int (1 : Int32))]))
      refine own_via (fun t k => XS.iconst X68.here hx rfl (hb hby at_99) k) ?_
      show own_G p e below _ (T68.setTop (mkF m 100 #[.val (.int p1), .val (.int p2), .val (.int p3), .val (.int p4), .val (.int p5), .val (.int (1 : Int32)), .val (.ref b58), .val (.int p2), .val (.int (0 : Int32)), .val (.int p1), .val (.int p2), .unset, .unset] [(.int (2 : Int32)), (.int (1 : Int32))]))
      refine own_via (fun t k => XS.icmpYes X68.here hx rfl (pc0 := 100) (pc' := 112) rfl (hb hby at_100) rfl (feq (by decide : ¬ ((1 : Int32) = (2 : Int32)))).2 (by decide) (by decide) k) ?_
      show own_G p e below _ (T68.setTop (mkF m 112 #[.val (.int p1), .val (.int p2), .val (.int p3), .val (.int p4), .val (.int p5), .val (.int (1 : Int32)), .val (.ref b58), .val (.int p2), .val (.int (0 : Int32)), .val (.int p1), .val (.int p2), .unset, .unset] []))
      refine own_via (fun t k => XS.iloadN X68.here hx rfl (hb hby at_112) rfl k) ?_
      show own_G p e below _ (T68.setTop (mkF m 113 #[.val (.int p1), .val (.int p2), .val (.int p3), .val (.int p4), .val (.int p5), .val (.int (1 : Int32)), .val (.ref b58), .val (.int p2), .val (.int (0 : Int32)), .val (.int p1), .val (.int p2), .unset, .unset] [(.int p3)]))
      refine own_via (fun t k => XS.istore X68.here hx rfl (hb hby at_113) rfl (l' := #[.val (.int p1), .val (.int p2), .val (.int p3), .val (.int p4), .val (.int p5), .val (.int (1 : Int32)), .val (.ref b58), .val (.int p2), .val (.int (0 : Int32)), .val (.int p1), .val (.int p2), .val (.int p3), .unset]) rfl k) ?_
      show own_G p e below _ (T68.setTop (mkF m 115 #[.val (.int p1), .val (.int p2), .val (.int p3), .val (.int p4), .val (.int p5), .val (.int (1 : Int32)), .val (.ref b58), .val (.int p2), .val (.int (0 : Int32)), .val (.int p1), .val (.int p2), .val (.int p3), .unset] []))
      refine own_via (fun t k => XS.iload X68.here hx rfl (hb hby at_115) rfl k) ?_
      show own_G p e below _ (T68.setTop (mkF m 117 #[.val (.int p1), .val (.int p2), .val (.int p3), .val (.int p4), .val (.int p5), .val (.int (1 : Int32)), .val (.ref b58), .val (.int p2), .val (.int (0 : Int32)), .val (.int p1), .val (.int p2), .val (.int p3), .unset] [(.int p5)]))
      refine own_via (fun t k => XS.iload X68.here hx rfl (hb hby at_117) rfl k) ?_
      show own_G p e below _ (T68.setTop (mkF m 119 #[.val (.int p1), .val (.int p2), .val (.int p3), .val (.int p4), .val (.int p5), .val (.int (1 : Int32)), .val (.ref b58), .val (.int p2), .val (.int (0 : Int32)), .val (.int p1), .val (.int p2), .val (.int p3), .unset] [(.int p2), (.int p5)]))
      refine own_via (fun t k => XS.icmpYes X68.here hx rfl (pc0 := 119) (pc' := 126) rfl (hb hby at_119) rfl (flt (fun z => Int32.lt_irrefl (Int32.lt_trans hob z))).2.2.2 (by decide) (by decide) k) ?_
      show own_G p e below _ (T68.setTop (mkF m 126 #[.val (.int p1), .val (.int p2), .val (.int p3), .val (.int p4), .val (.int p5), .val (.int (1 : Int32)), .val (.ref b58), .val (.int p2), .val (.int (0 : Int32)), .val (.int p1), .val (.int p2), .val (.int p3), .unset] []))
      refine own_via (fun t k => XS.iconst X68.here hx rfl (hb hby at_126) k) ?_
      show own_G p e below _ (T68.setTop (mkF m 127 #[.val (.int p1), .val (.int p2), .val (.int p3), .val (.int p4), .val (.int p5), .val (.int (1 : Int32)), .val (.ref b58), .val (.int p2), .val (.int (0 : Int32)), .val (.int p1), .val (.int p2), .val (.int p3), .unset] [(.int (0 : Int32))]))
      refine own_via (fun t k => XS.istore X68.here hx rfl (hb hby at_127) rfl (l' := #[.val (.int p1), .val (.int p2), .val (.int p3), .val (.int p4), .val (.int p5), .val (.int (1 : Int32)), .val (.ref b58), .val (.int p2), .val (.int (0 : Int32)), .val (.int p1), .val (.int p2), .val (.int p3), .val (.int (0 : Int32))]) rfl k) ?_
      show own_G p e below _ (T68.setTop (mkF m 129 #[.val (.int p1), .val (.int p2), .val (.int p3), .val (.int p4), .val (.int p5), .val (.int (1 : Int32)), .val (.ref b58), .val (.int p2), .val (.int (0 : Int32)), .val (.int p1), .val (.int p2), .val (.int p3), .val (.int (0 : Int32))] []))
      refine own_via (fun t k => XS.iload X68.here hx rfl (hb hby at_129) rfl k) ?_
      show own_G p e below _ (T68.setTop (mkF m 131 #[.val (.int p1), .val (.int p2), .val (.int p3), .val (.int p4), .val (.int p5), .val (.int (1 : Int32)), .val (.ref b58), .val (.int p2), .val (.int (0 : Int32)), .val (.int p1), .val (.int p2), .val (.int p3), .val (.int (0 : Int32))] [(.int (0 : Int32))]))
      refine own_via (fun t k => XS.iload X68.here hx rfl (hb hby at_131) rfl k) ?_
      show own_G p e below _ (T68.setTop (mkF m 133 #[.val (.int p1), .val (.int p2), .val (.int p3), .val (.int p4), .val (.int p5), .val (.int (1 : Int32)), .val (.ref b58), .val (.int p2), .val (.int (0 : Int32)), .val (.int p1), .val (.int p2), .val (.int p3), .val (.int (0 : Int32))] [(.int (0 : Int32)), (.int (0 : Int32))]))
      refine own_via (fun t k => XS.icmpNo X68.here hx rfl (hb hby at_133) rfl (teq (by decide : (0 : Int32) = (0 : Int32))).2 k) ?_
      show own_G p e below _ (T68.setTop (mkF m 136 #[.val (.int p1), .val (.int p2), .val (.int p3), .val (.int p4), .val (.int p5), .val (.int (1 : Int32)), .val (.ref b58), .val (.int p2), .val (.int (0 : Int32)), .val (.int p1), .val (.int p2), .val (.int p3), .val (.int (0 : Int32))] []))
      refine own_via (fun t k => XS.aload X68.here hx rfl (hb hby at_136) rfl rfl k) ?_
      show own_G p e below _ (T68.setTop (mkF m 138 #[.val (.int p1), .val (.int p2), .val (.int p3), .val (.int p4), .val (.int p5), .val (.int (1 : Int32)), .val (.ref b58), .val (.int p2), .val (.int (0 : Int32)), .val (.int p1), .val (.int p2), .val (.int p3), .val (.int (0 : Int32))] [(.ref b58)]))
      refine own_via (fun t k => XS.iconst X68.here hx rfl (hb hby at_138) k) ?_
      show own_G p e below _ (T68.setTop (mkF m 139 #[.val (.int p1), .val (.int p2), .val (.int p3), .val (.int p4), .val (.int p5), .val (.int (1 : Int32)), .val (.ref b58), .val (.int p2), .val (.int (0 : Int32)), .val (.int p1), .val (.int p2), .val (.int p3), .val (.int (0 : Int32))] [(.int (0 : Int32)), (.ref b58)]))
      obtain ⟨cl72, Ar72, q72, S72, Ng72, Hs72, G72⟩ := id V64
      have hin72 : ¬ ((0 : Int32) < 0 ∨ cl72.slots.size ≤ ((0 : Int32)).toNatClampNeg) := inb_of S72 ⟨by decide, by decide⟩
      have hat72 : cl72.slots[((0 : Int32)).toNatClampNeg]? = some (.double (FP.i2d p1)) := Hs72.at hin72 rfl
      refine own_via (fun t k => X68.daload hx (j := (0 : Int32)) (v := (.double (FP.i2d p1))) (by rw [e68]; exact Ar72.1) (State.isArrayOf_alike hZ.alike Ar72.2.1) Ar72.2.2 hin72 hat72 (g := (mkF m 139 #[.val (.int p1), .val (.int p2), .val (.int p3), .val (.int p4), .val (.int p5), .val (.int (1 : Int32)), .val (.ref b58), .val (.int p2), .val (.int (0 : Int32)), .val (.int p1), .val (.int p2), .val (.int p3), .val (.int (0 : Int32))] [(.int (0 : Int32)), (.ref b58)])) rfl rfl (hb hby at_139) _ k) ?_
      show own_G p e below _ (T68.setTop (mkF m 140 #[.val (.int p1), .val (.int p2), .val (.int p3), .val (.int p4), .val (.int p5), .val (.int (1 : Int32)), .val (.ref b58), .val (.int p2), .val (.int (0 : Int32)), .val (.int p1), .val (.int p2), .val (.int p3), .val (.int (0 : Int32))] [(.double (FP.i2d p1))]))
      refine own_via (fun t k => XS.iload X68.here hx rfl (hb hby at_140) rfl k) ?_
      show own_G p e below _ (T68.setTop (mkF m 142 #[.val (.int p1), .val (.int p2), .val (.int p3), .val (.int p4), .val (.int p5), .val (.int (1 : Int32)), .val (.ref b58), .val (.int p2), .val (.int (0 : Int32)), .val (.int p1), .val (.int p2), .val (.int p3), .val (.int (0 : Int32))] [(.int p1), (.double (FP.i2d p1))]))
      refine own_via (fun t k => XS.i2dS X68.here hx rfl (hb hby at_142) rfl rfl k) ?_
      show own_G p e below _ (T68.setTop (mkF m 143 #[.val (.int p1), .val (.int p2), .val (.int p3), .val (.int p4), .val (.int p5), .val (.int (1 : Int32)), .val (.ref b58), .val (.int p2), .val (.int (0 : Int32)), .val (.int p1), .val (.int p2), .val (.int p3), .val (.int (0 : Int32))] [(.double (FP.i2d p1)), (.double (FP.i2d p1))]))
      refine own_via (fun t k => XS.dcmpS X68.here hx rfl (hb hby at_143) rfl (own_dc_eq rfl _) k) ?_
      show own_G p e below _ (T68.setTop (mkF m 144 #[.val (.int p1), .val (.int p2), .val (.int p3), .val (.int p4), .val (.int p5), .val (.int (1 : Int32)), .val (.ref b58), .val (.int p2), .val (.int (0 : Int32)), .val (.int p1), .val (.int p2), .val (.int p3), .val (.int (0 : Int32))] [(.int (0 : Int32))]))
      refine own_via (fun t k => XS.ifNo X68.here hx rfl (hb hby at_144) rfl ((if0 _ _).trans (teq (by decide : (0 : Int32) = (0 : Int32))).2) k) ?_
      show own_G p e below _ (T68.setTop (mkF m 147 #[.val (.int p1), .val (.int p2), .val (.int p3), .val (.int p4), .val (.int p5), .val (.int (1 : Int32)), .val (.ref b58), .val (.int p2), .val (.int (0 : Int32)), .val (.int p1), .val (.int p2), .val (.int p3), .val (.int (0 : Int32))] []))
      refine own_via (fun t k => XS.aload X68.here hx rfl (hb hby at_147) rfl rfl k) ?_
      show own_G p e below _ (T68.setTop (mkF m 149 #[.val (.int p1), .val (.int p2), .val (.int p3), .val (.int p4), .val (.int p5), .val (.int (1 : Int32)), .val (.ref b58), .val (.int p2), .val (.int (0 : Int32)), .val (.int p1), .val (.int p2), .val (.int p3), .val (.int (0 : Int32))] [(.ref b58)]))
      refine own_via (fun t k => XS.iconst X68.here hx rfl (hb hby at_149) k) ?_
      show own_G p e below _ (T68.setTop (mkF m 150 #[.val (.int p1), .val (.int p2), .val (.int p3), .val (.int p4), .val (.int p5), .val (.int (1 : Int32)), .val (.ref b58), .val (.int p2), .val (.int (0 : Int32)), .val (.int p1), .val (.int p2), .val (.int p3), .val (.int (0 : Int32))] [(.int (1 : Int32)), (.ref b58)]))
      obtain ⟨cl74, Ar74, q74, S74, Ng74, Hs74, G74⟩ := id V64
      have hin74 : ¬ ((1 : Int32) < 0 ∨ cl74.slots.size ≤ ((1 : Int32)).toNatClampNeg) := inb_of S74 ⟨by decide, by decide⟩
      have hat74 : cl74.slots[((1 : Int32)).toNatClampNeg]? = some (.double (FP.i2d p2)) := Hs74.at hin74 rfl
      refine own_via (fun t k => X68.daload hx (j := (1 : Int32)) (v := (.double (FP.i2d p2))) (by rw [e68]; exact Ar74.1) (State.isArrayOf_alike hZ.alike Ar74.2.1) Ar74.2.2 hin74 hat74 (g := (mkF m 150 #[.val (.int p1), .val (.int p2), .val (.int p3), .val (.int p4), .val (.int p5), .val (.int (1 : Int32)), .val (.ref b58), .val (.int p2), .val (.int (0 : Int32)), .val (.int p1), .val (.int p2), .val (.int p3), .val (.int (0 : Int32))] [(.int (1 : Int32)), (.ref b58)])) rfl rfl (hb hby at_150) _ k) ?_
      show own_G p e below _ (T68.setTop (mkF m 151 #[.val (.int p1), .val (.int p2), .val (.int p3), .val (.int p4), .val (.int p5), .val (.int (1 : Int32)), .val (.ref b58), .val (.int p2), .val (.int (0 : Int32)), .val (.int p1), .val (.int p2), .val (.int p3), .val (.int (0 : Int32))] [(.double (FP.i2d p2))]))
      refine own_via (fun t k => XS.iload X68.here hx rfl (hb hby at_151) rfl k) ?_
      show own_G p e below _ (T68.setTop (mkF m 153 #[.val (.int p1), .val (.int p2), .val (.int p3), .val (.int p4), .val (.int p5), .val (.int (1 : Int32)), .val (.ref b58), .val (.int p2), .val (.int (0 : Int32)), .val (.int p1), .val (.int p2), .val (.int p3), .val (.int (0 : Int32))] [(.int p2), (.double (FP.i2d p2))]))
      refine own_via (fun t k => XS.i2dS X68.here hx rfl (hb hby at_153) rfl rfl k) ?_
      show own_G p e below _ (T68.setTop (mkF m 154 #[.val (.int p1), .val (.int p2), .val (.int p3), .val (.int p4), .val (.int p5), .val (.int (1 : Int32)), .val (.ref b58), .val (.int p2), .val (.int (0 : Int32)), .val (.int p1), .val (.int p2), .val (.int p3), .val (.int (0 : Int32))] [(.double (FP.i2d p2)), (.double (FP.i2d p2))]))
      refine own_via (fun t k => XS.dcmpS X68.here hx rfl (hb hby at_154) rfl (own_dc_eq rfl _) k) ?_
      show own_G p e below _ (T68.setTop (mkF m 155 #[.val (.int p1), .val (.int p2), .val (.int p3), .val (.int p4), .val (.int p5), .val (.int (1 : Int32)), .val (.ref b58), .val (.int p2), .val (.int (0 : Int32)), .val (.int p1), .val (.int p2), .val (.int p3), .val (.int (0 : Int32))] [(.int (0 : Int32))]))
      refine own_via (fun t k => XS.ifNo X68.here hx rfl (hb hby at_155) rfl ((if0 _ _).trans (teq (by decide : (0 : Int32) = (0 : Int32))).2) k) ?_
      show own_G p e below _ (T68.setTop (mkF m 158 #[.val (.int p1), .val (.int p2), .val (.int p3), .val (.int p4), .val (.int p5), .val (.int (1 : Int32)), .val (.ref b58), .val (.int p2), .val (.int (0 : Int32)), .val (.int p1), .val (.int p2), .val (.int p3), .val (.int (0 : Int32))] []))
      refine own_via (fun t k => XS.aload X68.here hx rfl (hb hby at_158) rfl rfl k) ?_
      show own_G p e below _ (T68.setTop (mkF m 160 #[.val (.int p1), .val (.int p2), .val (.int p3), .val (.int p4), .val (.int p5), .val (.int (1 : Int32)), .val (.ref b58), .val (.int p2), .val (.int (0 : Int32)), .val (.int p1), .val (.int p2), .val (.int p3), .val (.int (0 : Int32))] [(.ref b58)]))
      refine own_via (fun t k => XS.iconst X68.here hx rfl (hb hby at_160) k) ?_
      show own_G p e below _ (T68.setTop (mkF m 161 #[.val (.int p1), .val (.int p2), .val (.int p3), .val (.int p4), .val (.int p5), .val (.int (1 : Int32)), .val (.ref b58), .val (.int p2), .val (.int (0 : Int32)), .val (.int p1), .val (.int p2), .val (.int p3), .val (.int (0 : Int32))] [(.int (2 : Int32)), (.ref b58)]))
      obtain ⟨cl76, Ar76, q76, S76, Ng76, Hs76, G76⟩ := id V64
      have hin76 : ¬ ((2 : Int32) < 0 ∨ cl76.slots.size ≤ ((2 : Int32)).toNatClampNeg) := inb_of S76 ⟨by decide, by decide⟩
      have hat76 : cl76.slots[((2 : Int32)).toNatClampNeg]? = some (.double (FP.i2d p3)) := Hs76.at hin76 rfl
      refine own_via (fun t k => X68.daload hx (j := (2 : Int32)) (v := (.double (FP.i2d p3))) (by rw [e68]; exact Ar76.1) (State.isArrayOf_alike hZ.alike Ar76.2.1) Ar76.2.2 hin76 hat76 (g := (mkF m 161 #[.val (.int p1), .val (.int p2), .val (.int p3), .val (.int p4), .val (.int p5), .val (.int (1 : Int32)), .val (.ref b58), .val (.int p2), .val (.int (0 : Int32)), .val (.int p1), .val (.int p2), .val (.int p3), .val (.int (0 : Int32))] [(.int (2 : Int32)), (.ref b58)])) rfl rfl (hb hby at_161) _ k) ?_
      show own_G p e below _ (T68.setTop (mkF m 162 #[.val (.int p1), .val (.int p2), .val (.int p3), .val (.int p4), .val (.int p5), .val (.int (1 : Int32)), .val (.ref b58), .val (.int p2), .val (.int (0 : Int32)), .val (.int p1), .val (.int p2), .val (.int p3), .val (.int (0 : Int32))] [(.double (FP.i2d p3))]))
      refine own_via (fun t k => XS.iload X68.here hx rfl (hb hby at_162) rfl k) ?_
      show own_G p e below _ (T68.setTop (mkF m 164 #[.val (.int p1), .val (.int p2), .val (.int p3), .val (.int p4), .val (.int p5), .val (.int (1 : Int32)), .val (.ref b58), .val (.int p2), .val (.int (0 : Int32)), .val (.int p1), .val (.int p2), .val (.int p3), .val (.int (0 : Int32))] [(.int p3), (.double (FP.i2d p3))]))
      refine own_via (fun t k => XS.i2dS X68.here hx rfl (hb hby at_164) rfl rfl k) ?_
      show own_G p e below _ (T68.setTop (mkF m 165 #[.val (.int p1), .val (.int p2), .val (.int p3), .val (.int p4), .val (.int p5), .val (.int (1 : Int32)), .val (.ref b58), .val (.int p2), .val (.int (0 : Int32)), .val (.int p1), .val (.int p2), .val (.int p3), .val (.int (0 : Int32))] [(.double (FP.i2d p3)), (.double (FP.i2d p3))]))
      refine own_via (fun t k => XS.dcmpS X68.here hx rfl (hb hby at_165) rfl (own_dc_eq rfl _) k) ?_
      show own_G p e below _ (T68.setTop (mkF m 166 #[.val (.int p1), .val (.int p2), .val (.int p3), .val (.int p4), .val (.int p5), .val (.int (1 : Int32)), .val (.ref b58), .val (.int p2), .val (.int (0 : Int32)), .val (.int p1), .val (.int p2), .val (.int p3), .val (.int (0 : Int32))] [(.int (0 : Int32))]))
      refine own_via (fun t k => XS.ifNo X68.here hx rfl (hb hby at_166) rfl ((if0 _ _).trans (teq (by decide : (0 : Int32) = (0 : Int32))).2) k) ?_
      show own_G p e below _ (T68.setTop (mkF m 169 #[.val (.int p1), .val (.int p2), .val (.int p3), .val (.int p4), .val (.int p5), .val (.int (1 : Int32)), .val (.ref b58), .val (.int p2), .val (.int (0 : Int32)), .val (.int p1), .val (.int p2), .val (.int p3), .val (.int (0 : Int32))] []))
      refine own_via (fun t k => XS.iconst X68.here hx rfl (hb hby at_169) k) ?_
      show own_G p e below _ (T68.setTop (mkF m 170 #[.val (.int p1), .val (.int p2), .val (.int p3), .val (.int p4), .val (.int p5), .val (.int (1 : Int32)), .val (.ref b58), .val (.int p2), .val (.int (0 : Int32)), .val (.int p1), .val (.int p2), .val (.int p3), .val (.int (0 : Int32))] [(.int (1 : Int32))]))
      refine own_via (fun t k => XS.goto X68.here hx rfl (pc0 := 170) (pc' := 174) rfl (hb hby at_170) (by decide) (by decide) k) ?_
      show own_G p e below _ (T68.setTop (mkF m 174 #[.val (.int p1), .val (.int p2), .val (.int p3), .val (.int p4), .val (.int p5), .val (.int (1 : Int32)), .val (.ref b58), .val (.int p2), .val (.int (0 : Int32)), .val (.int p1), .val (.int p2), .val (.int p3), .val (.int (0 : Int32))] [(.int (1 : Int32))]))
      obtain ⟨fs, hr, hrun, hended, hW, hsame⟩ := X68.leave (v := some (.int (1 : Int32))) (fun h => by rw [Bd.returns] at h; cases h)
      refine ⟨_, _, retN X68 hx (t := .boolean) Bd.returns (by simp) (hb hby at_174) hr, hrun, hended, _, _, rfl, ?_, ⟨_, rfl⟩, hW, hsame.mono (by decide) (by decide)⟩
      show rm0_Q Z p1 p2 p3 p4 p5 h0 n0 _ T68.heap _
      rw [e68]
      exact ⟨rfl, N68⟩
    · rw [hk]
      show own_G p e below _ (s₁.setTop (mkF m 6 #[.val (.int p1), .val (.int p2), .val (.int p3), .val (.int p4), .val (.int p5), .unset, .unset, .unset, .unset, .unset, .unset, .unset, .unset] [(.int (1 : Int32))]))
      refine own_via (fun t k => XS.istore X0.here hx rfl (hb hby at_6) rfl (l' := #[.val (.int p1), .val (.int p2), .val (.int p3), .val (.int p4), .val (.int p5), .val (.int (1 : Int32)), .unset, .unset, .unset, .unset, .unset, .unset, .unset]) rfl k) ?_
      show own_G p e below _ (s₁.setTop (mkF m 8 #[.val (.int p1), .val (.int p2), .val (.int p3), .val (.int p4), .val (.int p5), .val (.int (1 : Int32)), .unset, .unset, .unset, .unset, .unset, .unset, .unset] []))
      refine own_via (fun t k => XS.iconst X0.here hx rfl (hb hby at_8) k) ?_
      show own_G p e below _ (s₁.setTop (mkF m 9 #[.val (.int p1), .val (.int p2), .val (.int p3), .val (.int p4), .val (.int p5), .val (.int (1 : Int32)), .unset, .unset, .unset, .unset, .unset, .unset, .unset] [(.int (3 : Int32))]))
      obtain ⟨T78, h78, k78, X78, e78, E78, A78, st78⟩ := newP X0 hx hZ (hw _ (List.mem_of_getElem? (i := 1) rfl)) e0 (g := (mkF m 9 #[.val (.int p1), .val (.int p2), .val (.int p3), .val (.int p4), .val (.int p5), .val (.int (1 : Int32)), .unset, .unset, .unset, .unset, .unset, .unset, .unset] [(.int (3 : Int32))])) rfl (hb hby at_9) rfl (by decide) (cap := 3) (by decide) (by decide) (by decide) (by decide)
      obtain ⟨b78, g78⟩ : ∃ z, z = h0.size := ⟨_, rfl⟩
      rw [← g78] at A78 st78
      have gx_b78 : n0 ≤ b78 := Nat.le_trans Z0 (Nat.le_of_eq g78.symm)
      have Z78 : n0 ≤ h78.size := Nat.le_trans Z0 E78.1
      have V78 : Arv Z h78 b78 k78 .double (3 : Int32) [(.double (0 : UInt64)), (.double (0 : UInt64)), (.double (0 : UInt64))] (.double (0 : UInt64)) := (Arv.new A78 (by decide)).pad (pad_rep [] (.double (0 : UInt64)) 3)
      refine own_via st78 ?_
      show own_G p e below _ (T78.setTop (mkF m 11 #[.val (.int p1), .val (.int p2), .val (.int p3), .val (.int p4), .val (.int p5), .val (.int (1 : Int32)), .unset, .unset, .unset, .unset, .unset, .unset, .unset] [(.ref b78)]))
      refine own_via (fun t k => XS.dup X78.here hx rfl (hb hby at_11) rfl rfl k) ?_
      show own_G p e below _ (T78.setTop (mkF m 12 #[.val (.int p1), .val (.int p2), .val (.int p3), .val (.int p4), .val (.int p5), .val (.int (1 : Int32)), .unset, .unset, .unset, .unset, .unset, .unset, .unset] [(.ref b78), (.ref b78)]))
      refine own_via (fun t k => XS.iconst X78.here hx rfl (hb hby at_12) k) ?_
      show own_G p e below _ (T78.setTop (mkF m 13 #[.val (.int p1), .val (.int p2), .val (.int p3), .val (.int p4), .val (.int p5), .val (.int (1 : Int32)), .unset, .unset, .unset, .unset, .unset, .unset, .unset] [(.int (0 : Int32)), (.ref b78), (.ref b78)]))
      refine own_via (fun t k => XS.iloadN X78.here hx rfl (hb hby at_13) rfl k) ?_
      show own_G p e below _ (T78.setTop (mkF m 14 #[.val (.int p1), .val (.int p2), .val (.int p3), .val (.int p4), .val (.int p5), .val (.int (1 : Int32)), .unset, .unset, .unset, .unset, .unset, .unset, .unset] [(.int p1), (.int (0 : Int32)), (.ref b78), (.ref b78)]))
      refine own_via (fun t k => XS.i2dS X78.here hx rfl (hb hby at_14) rfl rfl k) ?_
      show own_G p e below _ (T78.setTop (mkF m 15 #[.val (.int p1), .val (.int p2), .val (.int p3), .val (.int p4), .val (.int p5), .val (.int (1 : Int32)), .unset, .unset, .unset, .unset, .unset, .unset, .unset] [(.double (FP.i2d p1)), (.int (0 : Int32)), (.ref b78), (.ref b78)]))
      obtain ⟨cl79, Ar79, q79, S79, Ng79, Hs79, G79⟩ := id V78
      have hin79 : ¬ ((0 : Int32) < 0 ∨ cl79.slots.size ≤ ((0 : Int32)).toNatClampNeg) := inb_of S79 ⟨by decide, by decide⟩
      obtain ⟨T79, h79, X79, e79, W79, st79⟩ := stD X78 hx hZ e78 Ar79 (j := (0 : Int32)) hin79 (g := (mkF m 15 #[.val (.int p1), .val (.int p2), .val (.int p3), .val (.int p4), .val (.int p5), .val (.int (1 : Int32)), .unset, .unset, .unset, .unset, .unset, .unset, .unset] [(.double (FP.i2d p1)), (.int (0 : Int32)), (.ref b78), (.ref b78)])) rfl rfl (hb hby at_15)
      have V79 : Arv Z h79 b78 k78 .double (3 : Int32) [(.double (FP.i2d p1)), (.double (0 : UInt64)), (.double (0 : UInt64))] (.double (0 : UInt64)) := Arv.set Ar79 q79 S79 Ng79 Hs79 G79 rfl W79 0 rfl (Nat.le_of_ble_eq_true rfl)
      have N79 := Fr.snoc X79 N0 gx_b78
      have Z79 : n0 ≤ h79.size := Nat.le_trans Z78 (Nat.le_of_eq W79.size.symm)
      refine own_via st79 ?_
      show own_G p e below _ (T79.setTop (mkF m 16 #[.val (.int p1), .val (.int p2), .val (.int p3), .val (.int p4), .val (.int p5), .val (.int (1 : Int32)), .unset, .unset, .unset, .unset, .unset, .unset, .unset] [(.ref b78)]))
      refine own_via (fun t k => XS.dup X79.here hx rfl (hb hby at_16) rfl rfl k) ?_
      show own_G p e below _ (T79.setTop (mkF m 17 #[.val (.int p1), .val (.int p2), .val (.int p3), .val (.int p4), .val (.int p5), .val (.int (1 : Int32)), .unset, .unset, .unset, .unset, .unset, .unset, .unset] [(.ref b78), (.ref b78)]))
      refine own_via (fun t k => XS.iconst X79.here hx rfl (hb hby at_17) k) ?_
      show own_G p e below _ (T79.setTop (mkF m 18 #[.val (.int p1), .val (.int p2), .val (.int p3), .val (.int p4), .val (.int p5), .val (.int (1 : Int32)), .unset, .unset, .unset, .unset, .unset, .unset, .unset] [(.int (1 : Int32)), (.ref b78), (.ref b78)]))
      refine own_via (fun t k => XS.iloadN X79.here hx rfl (hb hby at_18) rfl k) ?_
      show own_G p e below _ (T79.setTop (mkF m 19 #[.val (.int p1), .val (.int p2), .val (.int p3), .val (.int p4), .val (.int p5), .val (.int (1 : Int32)), .unset, .unset, .unset, .unset, .unset, .unset, .unset] [(.int p2), (.int (1 : Int32)), (.ref b78), (.ref b78)]))
      refine own_via (fun t k => XS.i2dS X79.here hx rfl (hb hby at_19) rfl rfl k) ?_
      show own_G p e below _ (T79.setTop (mkF m 20 #[.val (.int p1), .val (.int p2), .val (.int p3), .val (.int p4), .val (.int p5), .val (.int (1 : Int32)), .unset, .unset, .unset, .unset, .unset, .unset, .unset] [(.double (FP.i2d p2)), (.int (1 : Int32)), (.ref b78), (.ref b78)]))
      obtain ⟨cl80, Ar80, q80, S80, Ng80, Hs80, G80⟩ := id V79
      have hin80 : ¬ ((1 : Int32) < 0 ∨ cl80.slots.size ≤ ((1 : Int32)).toNatClampNeg) := inb_of S80 ⟨by decide, by decide⟩
      obtain ⟨T80, h80, X80, e80, W80, st80⟩ := stD X79 hx hZ e79 Ar80 (j := (1 : Int32)) hin80 (g := (mkF m 20 #[.val (.int p1), .val (.int p2), .val (.int p3), .val (.int p4), .val (.int p5), .val (.int (1 : Int32)), .unset, .unset, .unset, .unset, .unset, .unset, .unset] [(.double (FP.i2d p2)), (.int (1 : Int32)), (.ref b78), (.ref b78)])) rfl rfl (hb hby at_20)
      have V80 : Arv Z h80 b78 k78 .double (3 : Int32) [(.double (FP.i2d p1)), (.double (FP.i2d p2)), (.double (0 : UInt64))] (.double (0 : UInt64)) := Arv.set Ar80 q80 S80 Ng80 Hs80 G80 rfl W80 1 rfl (Nat.le_of_ble_eq_true rfl)
      have N80 := Fr.snoc X80 N79 gx_b78
      have Z80 : n0 ≤ h80.size := Nat.le_trans Z79 (Nat.le_of_eq W80.size.symm)
      refine own_via st80 ?_
      show own_G p e below _ (T80.setTop (mkF m 21 #[.val (.int p1), .val (.int p2), .val (.int p3), .val (.int p4), .val (.int p5), .val (.int (1 : Int32)), .unset, .unset, .unset, .unset, .unset, .unset, .unset] [(.ref b78)]))
      refine own_via (fun t k => XS.dup X80.here hx rfl (hb hby at_21) rfl rfl k) ?_
      show own_G p e below _ (T80.setTop (mkF m 22 #[.val (.int p1), .val (.int p2), .val (.int p3), .val (.int p4), .val (.int p5), .val (.int (1 : Int32)), .unset, .unset, .unset, .unset, .unset, .unset, .unset] [(.ref b78), (.ref b78)]))
      refine own_via (fun t k => XS.iconst X80.here hx rfl (hb hby at_22) k) ?_
      show own_G p e below _ (T80.setTop (mkF m 23 #[.val (.int p1), .val (.int p2), .val (.int p3), .val (.int p4), .val (.int p5), .val (.int (1 : Int32)), .unset, .unset, .unset, .unset, .unset, .unset, .unset] [(.int (2 : Int32)), (.ref b78), (.ref b78)]))
      refine own_via (fun t k => XS.iloadN X80.here hx rfl (hb hby at_23) rfl k) ?_
      show own_G p e below _ (T80.setTop (mkF m 24 #[.val (.int p1), .val (.int p2), .val (.int p3), .val (.int p4), .val (.int p5), .val (.int (1 : Int32)), .unset, .unset, .unset, .unset, .unset, .unset, .unset] [(.int p3), (.int (2 : Int32)), (.ref b78), (.ref b78)]))
      refine own_via (fun t k => XS.i2dS X80.here hx rfl (hb hby at_24) rfl rfl k) ?_
      show own_G p e below _ (T80.setTop (mkF m 25 #[.val (.int p1), .val (.int p2), .val (.int p3), .val (.int p4), .val (.int p5), .val (.int (1 : Int32)), .unset, .unset, .unset, .unset, .unset, .unset, .unset] [(.double (FP.i2d p3)), (.int (2 : Int32)), (.ref b78), (.ref b78)]))
      obtain ⟨cl81, Ar81, q81, S81, Ng81, Hs81, G81⟩ := id V80
      have hin81 : ¬ ((2 : Int32) < 0 ∨ cl81.slots.size ≤ ((2 : Int32)).toNatClampNeg) := inb_of S81 ⟨by decide, by decide⟩
      obtain ⟨T81, h81, X81, e81, W81, st81⟩ := stD X80 hx hZ e80 Ar81 (j := (2 : Int32)) hin81 (g := (mkF m 25 #[.val (.int p1), .val (.int p2), .val (.int p3), .val (.int p4), .val (.int p5), .val (.int (1 : Int32)), .unset, .unset, .unset, .unset, .unset, .unset, .unset] [(.double (FP.i2d p3)), (.int (2 : Int32)), (.ref b78), (.ref b78)])) rfl rfl (hb hby at_25)
      have V81 : Arv Z h81 b78 k78 .double (3 : Int32) [(.double (FP.i2d p1)), (.double (FP.i2d p2)), (.double (FP.i2d p3))] (.double (0 : UInt64)) := Arv.set Ar81 q81 S81 Ng81 Hs81 G81 rfl W81 2 rfl (Nat.le_of_ble_eq_true rfl)
      have N81 := Fr.snoc X81 N80 gx_b78
      have Z81 : n0 ≤ h81.size := Nat.le_trans Z80 (Nat.le_of_eq W81.size.symm)
      refine own_via st81 ?_
      show own_G p e below _ (T81.setTop (mkF m 26 #[.val (.int p1), .val (.int p2), .val (.int p3), .val (.int p4), .val (.int p5), .val (.int (1 : Int32)), .unset, .unset, .unset, .unset, .unset, .unset, .unset] [(.ref b78)]))
      refine own_via (fun t k => XS.astore X81.here hx rfl (hb hby at_26) rfl rfl (l' := #[.val (.int p1), .val (.int p2), .val (.int p3), .val (.int p4), .val (.int p5), .val (.int (1 : Int32)), .val (.ref b78), .unset, .unset, .unset, .unset, .unset, .unset]) rfl k) ?_
      show own_G p e below _ (T81.setTop (mkF m 28 #[.val (.int p1), .val (.int p2), .val (.int p3), .val (.int p4), .val (.int p5), .val (.int (1 : Int32)), .val (.ref b78), .unset, .unset, .unset, .unset, .unset, .unset] []))
      refine own_via (fun t k => XS.iload X81.here hx rfl (hb hby at_28) rfl k) ?_
      show own_G p e below _ (T81.setTop (mkF m 30 #[.val (.int p1), .val (.int p2), .val (.int p3), .val (.int p4), .val (.int p5), .val (.int (1 : Int32)), .val (.ref b78), .unset, .unset, .unset, .unset, .unset, .unset] [(.int (1 : Int32))]))
      refine own_via (fun t k => XS.ifYes X81.here hx rfl (pc0 := 30) (pc' := 37) rfl (hb hby at_30) rfl ((if0 _ _).trans (feq (by decide : ¬ ((1 : Int32) = (0 : Int32)))).2) (by decide) (by decide) k) ?_
      show own_G p e below _ (T81.setTop (mkF m 37 #[.val (.int p1), .val (.int p2), .val (.int p3), .val (.int p4), .val (.int p5), .val (.int (1 : Int32)), .val (.ref b78), .unset, .unset, .unset, .unset, .unset, .unset] []))
      refine own_via (fun t k => XS.iload X81.here hx rfl (hb hby at_37) rfl k) ?_
      show own_G p e below _ (T81.setTop (mkF m 39 #[.val (.int p1), .val (.int p2), .val (.int p3), .val (.int p4), .val (.int p5), .val (.int (1 : Int32)), .val (.ref b78), .unset, .unset, .unset, .unset, .unset, .unset] [(.int (1 : Int32))]))
      refine own_via (fun t k => XS.iconst X81.here hx rfl (hb hby at_39) k) ?_
      show own_G p e below _ (T81.setTop (mkF m 40 #[.val (.int p1), .val (.int p2), .val (.int p3), .val (.int p4), .val (.int p5), .val (.int (1 : Int32)), .val (.ref b78), .unset, .unset, .unset, .unset, .unset, .unset] [(.int (1 : Int32)), (.int (1 : Int32))]))
      refine own_via (fun t k => XS.icmpNo X81.here hx rfl (hb hby at_40) rfl (teq (by decide : (1 : Int32) = (1 : Int32))).2 k) ?_
      show own_G p e below _ (T81.setTop (mkF m 43 #[.val (.int p1), .val (.int p2), .val (.int p3), .val (.int p4), .val (.int p5), .val (.int (1 : Int32)), .val (.ref b78), .unset, .unset, .unset, .unset, .unset, .unset] []))
      refine own_via (fun t k => XS.iloadN X81.here hx rfl (hb hby at_43) rfl k) ?_
      show own_G p e below _ (T81.setTop (mkF m 44 #[.val (.int p1), .val (.int p2), .val (.int p3), .val (.int p4), .val (.int p5), .val (.int (1 : Int32)), .val (.ref b78), .unset, .unset, .unset, .unset, .unset, .unset] [(.int p2)]))
      refine own_via (fun t k => XS.goto X81.here hx rfl (pc0 := 44) (pc' := 48) rfl (hb hby at_44) (by decide) (by decide) k) ?_
      show own_G p e below _ (T81.setTop (mkF m 48 #[.val (.int p1), .val (.int p2), .val (.int p3), .val (.int p4), .val (.int p5), .val (.int (1 : Int32)), .val (.ref b78), .unset, .unset, .unset, .unset, .unset, .unset] [(.int p2)]))
      refine own_via (fun t k => XS.istore X81.here hx rfl (hb hby at_48) rfl (l' := #[.val (.int p1), .val (.int p2), .val (.int p3), .val (.int p4), .val (.int p5), .val (.int (1 : Int32)), .val (.ref b78), .val (.int p2), .unset, .unset, .unset, .unset, .unset]) rfl k) ?_
      show own_G p e below _ (T81.setTop (mkF m 50 #[.val (.int p1), .val (.int p2), .val (.int p3), .val (.int p4), .val (.int p5), .val (.int (1 : Int32)), .val (.ref b78), .val (.int p2), .unset, .unset, .unset, .unset, .unset] []))
      refine own_via (fun t k => XS.aload X81.here hx rfl (hb hby at_50) rfl rfl k) ?_
      show own_G p e below _ (T81.setTop (mkF m 52 #[.val (.int p1), .val (.int p2), .val (.int p3), .val (.int p4), .val (.int p5), .val (.int (1 : Int32)), .val (.ref b78), .val (.int p2), .unset, .unset, .unset, .unset, .unset] [(.ref b78)]))
      refine own_via (fun t k => XS.iload X81.here hx rfl (hb hby at_52) rfl k) ?_
      show own_G p e below _ (T81.setTop (mkF m 54 #[.val (.int p1), .val (.int p2), .val (.int p3), .val (.int p4), .val (.int p5), .val (.int (1 : Int32)), .val (.ref b78), .val (.int p2), .unset, .unset, .unset, .unset, .unset] [(.int (1 : Int32)), (.ref b78)]))
      refine own_via (fun t k => XS.iload X81.here hx rfl (hb hby at_54) rfl k) ?_
      show own_G p e below _ (T81.setTop (mkF m 56 #[.val (.int p1), .val (.int p2), .val (.int p3), .val (.int p4), .val (.int p5), .val (.int (1 : Int32)), .val (.ref b78), .val (.int p2), .unset, .unset, .unset, .unset, .unset] [(.int p5), (.int (1 : Int32)), (.ref b78)]))
      refine own_via (fun t k => XS.i2dS X81.here hx rfl (hb hby at_56) rfl rfl k) ?_
      show own_G p e below _ (T81.setTop (mkF m 57 #[.val (.int p1), .val (.int p2), .val (.int p3), .val (.int p4), .val (.int p5), .val (.int (1 : Int32)), .val (.ref b78), .val (.int p2), .unset, .unset, .unset, .unset, .unset] [(.double (FP.i2d p5)), (.int (1 : Int32)), (.ref b78)]))
      obtain ⟨_, _, ⟨T84, L84, k84, n84⟩, -, X84, ⟨Lc84, hQ84, l84, y84, z84⟩, st84⟩ := Jvm.LawKit.callS X81 hx (y := (⟨"com/example/odds2/odds2/engine/Bounds", "tightenLower", "([DID)Z"⟩ : MethodName)) hown (mvT hZ (hw _ (List.mem_of_getElem? (i := 2) rfl))) (mvT hZ (hw _ (List.mem_of_getElem? (i := 3) rfl))) (mvT hZ (hw _ (List.mem_of_getElem? (i := 4) rfl))) (mvT hZ (hw _ (List.mem_of_getElem? (i := 5) rfl))) (by decide) (backOf (W := 0) (rm1_1eq l Z a0 hw [] b78 p1 p2 p3 p5 k78 h81 n0 Z81 V81 gx_b78 hob) hZ (hw _ (List.mem_of_getElem? (i := 5) rfl)) (hw _ (List.mem_of_getElem? (i := 4) rfl)) (by decide) (by decide)) (g := (mkF m 57 #[.val (.int p1), .val (.int p2), .val (.int p3), .val (.int p4), .val (.int p5), .val (.int (1 : Int32)), .val (.ref b78), .val (.int p2), .unset, .unset, .unset, .unset, .unset] [(.double (FP.i2d p5)), (.int (1 : Int32)), (.ref b78)])) rfl (by rw [hml]; rfl) (argsL := [(.ref b78), (.int (1 : Int32)), (.double (FP.i2d p5))]) (rest := []) (lenOf pd_rm0_0 rfl) rfl (by show 2 * 0 + _ ≤ _; exact Nat.le_of_eq rfl) (hb hby at_57) (fun _ _ => ⟨rfl, e81, (by decide : 1 + 0 ≤ _), (by decide : 3 + 0 ≤ _)⟩)
      dsimp only [Pt.U, Pt.locs, Pt.cells, Pt.slots] at X84 l84 y84 z84 st84 hQ84
      subst l84 y84 z84
      obtain ⟨rfl, N84q, K84, V84⟩ := hQ84
      have N84 := Fr.app N81 N84q
      have Z84 : n0 ≤ T84.heap.size := Nat.le_trans Z81 K84.1
      refine own_via st84 ?_
      show own_G p e below _ (T84.setTop (mkF m 60 #[.val (.int p1), .val (.int p2), .val (.int p3), .val (.int p4), .val (.int p5), .val (.int (1 : Int32)), .val (.ref b78), .val (.int p2), .unset, .unset, .unset, .unset, .unset] [(.int (0 : Int32))]))
      refine own_via (fun t k => XS.istore X84.here hx rfl (hb hby at_60) rfl (l' := #[.val (.int p1), .val (.int p2), .val (.int p3), .val (.int p4), .val (.int p5), .val (.int (1 : Int32)), .val (.ref b78), .val (.int p2), .val (.int (0 : Int32)), .unset, .unset, .unset, .unset]) rfl k) ?_
      show own_G p e below _ (T84.setTop (mkF m 62 #[.val (.int p1), .val (.int p2), .val (.int p3), .val (.int p4), .val (.int p5), .val (.int (1 : Int32)), .val (.ref b78), .val (.int p2), .val (.int (0 : Int32)), .unset, .unset, .unset, .unset] []))
      refine own_via (fun t k => XS.iload X84.here hx rfl (hb hby at_62) rfl k) ?_
      show own_G p e below _ (T84.setTop (mkF m 64 #[.val (.int p1), .val (.int p2), .val (.int p3), .val (.int p4), .val (.int p5), .val (.int (1 : Int32)), .val (.ref b78), .val (.int p2), .val (.int (0 : Int32)), .unset, .unset, .unset, .unset] [(.int (1 : Int32))]))
      refine own_via (fun t k => XS.ifYes X84.here hx rfl (pc0 := 64) (pc' := 76) rfl (hb hby at_64) rfl ((if0 _ _).trans (feq (by decide : ¬ ((1 : Int32) = (0 : Int32)))).2) (by decide) (by decide) k) ?_
      show own_G p e below _ (T84.setTop (mkF m 76 #[.val (.int p1), .val (.int p2), .val (.int p3), .val (.int p4), .val (.int p5), .val (.int (1 : Int32)), .val (.ref b78), .val (.int p2), .val (.int (0 : Int32)), .unset, .unset, .unset, .unset] []))
      refine own_via (fun t k => XS.iloadN X84.here hx rfl (hb hby at_76) rfl k) ?_
      show own_G p e below _ (T84.setTop (mkF m 77 #[.val (.int p1), .val (.int p2), .val (.int p3), .val (.int p4), .val (.int p5), .val (.int (1 : Int32)), .val (.ref b78), .val (.int p2), .val (.int (0 : Int32)), .unset, .unset, .unset, .unset] [(.int p1)]))
      refine own_via (fun t k => XS.istore X84.here hx rfl (hb hby at_77) rfl (l' := #[.val (.int p1), .val (.int p2), .val (.int p3), .val (.int p4), .val (.int p5), .val (.int (1 : Int32)), .val (.ref b78), .val (.int p2), .val (.int (0 : Int32)), .val (.int p1), .unset, .unset, .unset]) rfl k) ?_
      show own_G p e below _ (T84.setTop (mkF m 79 #[.val (.int p1), .val (.int p2), .val (.int p3), .val (.int p4), .val (.int p5), .val (.int (1 : Int32)), .val (.ref b78), .val (.int p2), .val (.int (0 : Int32)), .val (.int p1), .unset, .unset, .unset] []))
      refine own_via (fun t k => XS.iload X84.here hx rfl (hb hby at_79) rfl k) ?_
      show own_G p e below _ (T84.setTop (mkF m 81 #[.val (.int p1), .val (.int p2), .val (.int p3), .val (.int p4), .val (.int p5), .val (.int (1 : Int32)), .val (.ref b78), .val (.int p2), .val (.int (0 : Int32)), .val (.int p1), .unset, .unset, .unset] [(.int (1 : Int32))]))
      refine own_via (fun t k => XS.iconst X84.here hx rfl (hb hby at_81) k) ?_
      show own_G p e below _ (T84.setTop (mkF m 82 #[.val (.int p1), .val (.int p2), .val (.int p3), .val (.int p4), .val (.int p5), .val (.int (1 : Int32)), .val (.ref b78), .val (.int p2), .val (.int (0 : Int32)), .val (.int p1), .unset, .unset, .unset] [(.int (1 : Int32)), (.int (1 : Int32))]))
      refine own_via (fun t k => XS.icmpNo X84.here hx rfl (hb hby at_82) rfl (teq (by decide : (1 : Int32) = (1 : Int32))).2 k) ?_
      show own_G p e below _ (T84.setTop (mkF m 85 #[.val (.int p1), .val (.int p2), .val (.int p3), .val (.int p4), .val (.int p5), .val (.int (1 : Int32)), .val (.ref b78), .val (.int p2), .val (.int (0 : Int32)), .val (.int p1), .unset, .unset, .unset] []))
      refine own_via (fun t k => XS.iloadN X84.here hx rfl (hb hby at_85) rfl k) ?_
      show own_G p e below _ (T84.setTop (mkF m 86 #[.val (.int p1), .val (.int p2), .val (.int p3), .val (.int p4), .val (.int p5), .val (.int (1 : Int32)), .val (.ref b78), .val (.int p2), .val (.int (0 : Int32)), .val (.int p1), .unset, .unset, .unset] [(.int p2)]))
      refine own_via (fun t k => XS.iload X84.here hx rfl (hb hby at_86) rfl k) ?_
      show own_G p e below _ (T84.setTop (mkF m 88 #[.val (.int p1), .val (.int p2), .val (.int p3), .val (.int p4), .val (.int p5), .val (.int (1 : Int32)), .val (.ref b78), .val (.int p2), .val (.int (0 : Int32)), .val (.int p1), .unset, .unset, .unset] [(.int p5), (.int p2)]))
      obtain ⟨_, _, ⟨T88, L88, k88, n88⟩, -, X88, ⟨Lc88, hQ88, l88, y88, z88⟩, st88⟩ := Jvm.LawKit.callS X84 hx (y := (⟨"java/lang/Math", "max", "(II)I"⟩ : MethodName)) hown (mvT hZ (hw _ (List.mem_of_getElem? (i := 6) rfl))) (mvT hZ (hw _ (List.mem_of_getElem? (i := 7) rfl))) (mvT hZ (hw _ (List.mem_of_getElem? (i := 8) rfl))) (mvT hZ (hw _ (List.mem_of_getElem? (i := 9) rfl))) (by decide) (backOf (W := 0) (rm2 l Z a0 hw [] p2 p5 T84.heap n0 Z84) hZ (hw _ (List.mem_of_getElem? (i := 9) rfl)) (hw _ (List.mem_of_getElem? (i := 8) rfl)) (by decide) (by decide)) (g := (mkF m 88 #[.val (.int p1), .val (.int p2), .val (.int p3), .val (.int p4), .val (.int p5), .val (.int (1 : Int32)), .val (.ref b78), .val (.int p2), .val (.int (0 : Int32)), .val (.int p1), .unset, .unset, .unset] [(.int p5), (.int p2)])) rfl (by rw [hml]; rfl) (argsL := [(.int p2), (.int p5)]) (rest := []) (lenOf pd_rm0_1 rfl) rfl (by show 2 * 0 + _ ≤ _; exact Nat.le_of_eq rfl) (hb hby at_88) (fun _ _ => ⟨rfl, rfl, (by decide : 1 + 0 ≤ _), (by decide : 3 + 0 ≤ _)⟩)
      dsimp only [Pt.U, Pt.locs, Pt.cells, Pt.slots] at X88 l88 y88 z88 st88 hQ88
      subst l88 y88 z88
      obtain ⟨rfl, N88q, e88⟩ := hQ88
      have N88 := Fr.app N84 N88q
      refine own_via st88 ?_
      show own_G p e below _ (T88.setTop (mkF m 91 #[.val (.int p1), .val (.int p2), .val (.int p3), .val (.int p4), .val (.int p5), .val (.int (1 : Int32)), .val (.ref b78), .val (.int p2), .val (.int (0 : Int32)), .val (.int p1), .unset, .unset, .unset] [(.int (own_max p2 p5))]))
      rw [show own_max p2 p5 = p2 from if_neg (by rw [hob]; exact Int32.lt_irrefl)]
      show own_G p e below _ (T88.setTop (mkF m 91 #[.val (.int p1), .val (.int p2), .val (.int p3), .val (.int p4), .val (.int p5), .val (.int (1 : Int32)), .val (.ref b78), .val (.int p2), .val (.int (0 : Int32)), .val (.int p1), .unset, .unset, .unset] [(.int p2)]))
      refine own_via (fun t k => XS.goto X88.here hx rfl (pc0 := 91) (pc' := 95) rfl (hb hby at_91) (by decide) (by decide) k) ?_
      show own_G p e below _ (T88.setTop (mkF m 95 #[.val (.int p1), .val (.int p2), .val (.int p3), .val (.int p4), .val (.int p5), .val (.int (1 : Int32)), .val (.ref b78), .val (.int p2), .val (.int (0 : Int32)), .val (.int p1), .unset, .unset, .unset] [(.int p2)]))
      refine own_via (fun t k => XS.istore X88.here hx rfl (hb hby at_95) rfl (l' := #[.val (.int p1), .val (.int p2), .val (.int p3), .val (.int p4), .val (.int p5), .val (.int (1 : Int32)), .val (.ref b78), .val (.int p2), .val (.int (0 : Int32)), .val (.int p1), .val (.int p2), .unset, .unset]) rfl k) ?_
      show own_G p e below _ (T88.setTop (mkF m 97 #[.val (.int p1), .val (.int p2), .val (.int p3), .val (.int p4), .val (.int p5), .val (.int (1 : Int32)), .val (.ref b78), .val (.int p2), .val (.int (0 : Int32)), .val (.int p1), .val (.int p2), .unset, .unset] []))
      refine own_via (fun t k => XS.iload X88.here hx rfl (hb hby at_97) rfl k) ?_
      show own_G p e below _ (T88.setTop (mkF m 99 #[.val (.int p1), .val (.int p2), .val (.int p3), .val (.int p4), .val (.int p5), .val (.int (1 : Int32)), .val (.ref b78), .val (.int p2), .val (.int (0 : Int32)), .val (.int p1), .val (.int p2), .unset, .unset] [(.int (1 : Int32))]))
      refine own_via (fun t k => XS.iconst X88.here hx rfl (hb hby at_99) k) ?_
      show own_G p e below _ (T88.setTop (mkF m 100 #[.val (.int p1), .val (.int p2), .val (.int p3), .val (.int p4), .val (.int p5), .val (.int (1 : Int32)), .val (.ref b78), .val (.int p2), .val (.int (0 : Int32)), .val (.int p1), .val (.int p2), .unset, .unset] [(.int (2 : Int32)), (.int (1 : Int32))]))
      refine own_via (fun t k => XS.icmpYes X88.here hx rfl (pc0 := 100) (pc' := 112) rfl (hb hby at_100) rfl (feq (by decide : ¬ ((1 : Int32) = (2 : Int32)))).2 (by decide) (by decide) k) ?_
      show own_G p e below _ (T88.setTop (mkF m 112 #[.val (.int p1), .val (.int p2), .val (.int p3), .val (.int p4), .val (.int p5), .val (.int (1 : Int32)), .val (.ref b78), .val (.int p2), .val (.int (0 : Int32)), .val (.int p1), .val (.int p2), .unset, .unset] []))
      refine own_via (fun t k => XS.iloadN X88.here hx rfl (hb hby at_112) rfl k) ?_
      show own_G p e below _ (T88.setTop (mkF m 113 #[.val (.int p1), .val (.int p2), .val (.int p3), .val (.int p4), .val (.int p5), .val (.int (1 : Int32)), .val (.ref b78), .val (.int p2), .val (.int (0 : Int32)), .val (.int p1), .val (.int p2), .unset, .unset] [(.int p3)]))
      refine own_via (fun t k => XS.istore X88.here hx rfl (hb hby at_113) rfl (l' := #[.val (.int p1), .val (.int p2), .val (.int p3), .val (.int p4), .val (.int p5), .val (.int (1 : Int32)), .val (.ref b78), .val (.int p2), .val (.int (0 : Int32)), .val (.int p1), .val (.int p2), .val (.int p3), .unset]) rfl k) ?_
      show own_G p e below _ (T88.setTop (mkF m 115 #[.val (.int p1), .val (.int p2), .val (.int p3), .val (.int p4), .val (.int p5), .val (.int (1 : Int32)), .val (.ref b78), .val (.int p2), .val (.int (0 : Int32)), .val (.int p1), .val (.int p2), .val (.int p3), .unset] []))
      refine own_via (fun t k => XS.iload X88.here hx rfl (hb hby at_115) rfl k) ?_
      show own_G p e below _ (T88.setTop (mkF m 117 #[.val (.int p1), .val (.int p2), .val (.int p3), .val (.int p4), .val (.int p5), .val (.int (1 : Int32)), .val (.ref b78), .val (.int p2), .val (.int (0 : Int32)), .val (.int p1), .val (.int p2), .val (.int p3), .unset] [(.int p5)]))
      refine own_via (fun t k => XS.iload X88.here hx rfl (hb hby at_117) rfl k) ?_
      show own_G p e below _ (T88.setTop (mkF m 119 #[.val (.int p1), .val (.int p2), .val (.int p3), .val (.int p4), .val (.int p5), .val (.int (1 : Int32)), .val (.ref b78), .val (.int p2), .val (.int (0 : Int32)), .val (.int p1), .val (.int p2), .val (.int p3), .unset] [(.int p2), (.int p5)]))
      refine own_via (fun t k => XS.icmpYes X88.here hx rfl (pc0 := 119) (pc' := 126) rfl (hb hby at_119) rfl (flt (by rw [hob]; exact Int32.lt_irrefl)).2.2.2 (by decide) (by decide) k) ?_
      show own_G p e below _ (T88.setTop (mkF m 126 #[.val (.int p1), .val (.int p2), .val (.int p3), .val (.int p4), .val (.int p5), .val (.int (1 : Int32)), .val (.ref b78), .val (.int p2), .val (.int (0 : Int32)), .val (.int p1), .val (.int p2), .val (.int p3), .unset] []))
      refine own_via (fun t k => XS.iconst X88.here hx rfl (hb hby at_126) k) ?_
      show own_G p e below _ (T88.setTop (mkF m 127 #[.val (.int p1), .val (.int p2), .val (.int p3), .val (.int p4), .val (.int p5), .val (.int (1 : Int32)), .val (.ref b78), .val (.int p2), .val (.int (0 : Int32)), .val (.int p1), .val (.int p2), .val (.int p3), .unset] [(.int (0 : Int32))]))
      refine own_via (fun t k => XS.istore X88.here hx rfl (hb hby at_127) rfl (l' := #[.val (.int p1), .val (.int p2), .val (.int p3), .val (.int p4), .val (.int p5), .val (.int (1 : Int32)), .val (.ref b78), .val (.int p2), .val (.int (0 : Int32)), .val (.int p1), .val (.int p2), .val (.int p3), .val (.int (0 : Int32))]) rfl k) ?_
      show own_G p e below _ (T88.setTop (mkF m 129 #[.val (.int p1), .val (.int p2), .val (.int p3), .val (.int p4), .val (.int p5), .val (.int (1 : Int32)), .val (.ref b78), .val (.int p2), .val (.int (0 : Int32)), .val (.int p1), .val (.int p2), .val (.int p3), .val (.int (0 : Int32))] []))
      refine own_via (fun t k => XS.iload X88.here hx rfl (hb hby at_129) rfl k) ?_
      show own_G p e below _ (T88.setTop (mkF m 131 #[.val (.int p1), .val (.int p2), .val (.int p3), .val (.int p4), .val (.int p5), .val (.int (1 : Int32)), .val (.ref b78), .val (.int p2), .val (.int (0 : Int32)), .val (.int p1), .val (.int p2), .val (.int p3), .val (.int (0 : Int32))] [(.int (0 : Int32))]))
      refine own_via (fun t k => XS.iload X88.here hx rfl (hb hby at_131) rfl k) ?_
      show own_G p e below _ (T88.setTop (mkF m 133 #[.val (.int p1), .val (.int p2), .val (.int p3), .val (.int p4), .val (.int p5), .val (.int (1 : Int32)), .val (.ref b78), .val (.int p2), .val (.int (0 : Int32)), .val (.int p1), .val (.int p2), .val (.int p3), .val (.int (0 : Int32))] [(.int (0 : Int32)), (.int (0 : Int32))]))
      refine own_via (fun t k => XS.icmpNo X88.here hx rfl (hb hby at_133) rfl (teq (by decide : (0 : Int32) = (0 : Int32))).2 k) ?_
      show own_G p e below _ (T88.setTop (mkF m 136 #[.val (.int p1), .val (.int p2), .val (.int p3), .val (.int p4), .val (.int p5), .val (.int (1 : Int32)), .val (.ref b78), .val (.int p2), .val (.int (0 : Int32)), .val (.int p1), .val (.int p2), .val (.int p3), .val (.int (0 : Int32))] []))
      refine own_via (fun t k => XS.aload X88.here hx rfl (hb hby at_136) rfl rfl k) ?_
      show own_G p e below _ (T88.setTop (mkF m 138 #[.val (.int p1), .val (.int p2), .val (.int p3), .val (.int p4), .val (.int p5), .val (.int (1 : Int32)), .val (.ref b78), .val (.int p2), .val (.int (0 : Int32)), .val (.int p1), .val (.int p2), .val (.int p3), .val (.int (0 : Int32))] [(.ref b78)]))
      refine own_via (fun t k => XS.iconst X88.here hx rfl (hb hby at_138) k) ?_
      show own_G p e below _ (T88.setTop (mkF m 139 #[.val (.int p1), .val (.int p2), .val (.int p3), .val (.int p4), .val (.int p5), .val (.int (1 : Int32)), .val (.ref b78), .val (.int p2), .val (.int (0 : Int32)), .val (.int p1), .val (.int p2), .val (.int p3), .val (.int (0 : Int32))] [(.int (0 : Int32)), (.ref b78)]))
      obtain ⟨cl92, Ar92, q92, S92, Ng92, Hs92, G92⟩ := id V84
      have hin92 : ¬ ((0 : Int32) < 0 ∨ cl92.slots.size ≤ ((0 : Int32)).toNatClampNeg) := inb_of S92 ⟨by decide, by decide⟩
      have hat92 : cl92.slots[((0 : Int32)).toNatClampNeg]? = some (.double (FP.i2d p1)) := Hs92.at hin92 rfl
      refine own_via (fun t k => X88.daload hx (j := (0 : Int32)) (v := (.double (FP.i2d p1))) (by rw [e88]; exact Ar92.1) (State.isArrayOf_alike hZ.alike Ar92.2.1) Ar92.2.2 hin92 hat92 (g := (mkF m 139 #[.val (.int p1), .val (.int p2), .val (.int p3), .val (.int p4), .val (.int p5), .val (.int (1 : Int32)), .val (.ref b78), .val (.int p2), .val (.int (0 : Int32)), .val (.int p1), .val (.int p2), .val (.int p3), .val (.int (0 : Int32))] [(.int (0 : Int32)), (.ref b78)])) rfl rfl (hb hby at_139) _ k) ?_
      show own_G p e below _ (T88.setTop (mkF m 140 #[.val (.int p1), .val (.int p2), .val (.int p3), .val (.int p4), .val (.int p5), .val (.int (1 : Int32)), .val (.ref b78), .val (.int p2), .val (.int (0 : Int32)), .val (.int p1), .val (.int p2), .val (.int p3), .val (.int (0 : Int32))] [(.double (FP.i2d p1))]))
      refine own_via (fun t k => XS.iload X88.here hx rfl (hb hby at_140) rfl k) ?_
      show own_G p e below _ (T88.setTop (mkF m 142 #[.val (.int p1), .val (.int p2), .val (.int p3), .val (.int p4), .val (.int p5), .val (.int (1 : Int32)), .val (.ref b78), .val (.int p2), .val (.int (0 : Int32)), .val (.int p1), .val (.int p2), .val (.int p3), .val (.int (0 : Int32))] [(.int p1), (.double (FP.i2d p1))]))
      refine own_via (fun t k => XS.i2dS X88.here hx rfl (hb hby at_142) rfl rfl k) ?_
      show own_G p e below _ (T88.setTop (mkF m 143 #[.val (.int p1), .val (.int p2), .val (.int p3), .val (.int p4), .val (.int p5), .val (.int (1 : Int32)), .val (.ref b78), .val (.int p2), .val (.int (0 : Int32)), .val (.int p1), .val (.int p2), .val (.int p3), .val (.int (0 : Int32))] [(.double (FP.i2d p1)), (.double (FP.i2d p1))]))
      refine own_via (fun t k => XS.dcmpS X88.here hx rfl (hb hby at_143) rfl (own_dc_eq rfl _) k) ?_
      show own_G p e below _ (T88.setTop (mkF m 144 #[.val (.int p1), .val (.int p2), .val (.int p3), .val (.int p4), .val (.int p5), .val (.int (1 : Int32)), .val (.ref b78), .val (.int p2), .val (.int (0 : Int32)), .val (.int p1), .val (.int p2), .val (.int p3), .val (.int (0 : Int32))] [(.int (0 : Int32))]))
      refine own_via (fun t k => XS.ifNo X88.here hx rfl (hb hby at_144) rfl ((if0 _ _).trans (teq (by decide : (0 : Int32) = (0 : Int32))).2) k) ?_
      show own_G p e below _ (T88.setTop (mkF m 147 #[.val (.int p1), .val (.int p2), .val (.int p3), .val (.int p4), .val (.int p5), .val (.int (1 : Int32)), .val (.ref b78), .val (.int p2), .val (.int (0 : Int32)), .val (.int p1), .val (.int p2), .val (.int p3), .val (.int (0 : Int32))] []))
      refine own_via (fun t k => XS.aload X88.here hx rfl (hb hby at_147) rfl rfl k) ?_
      show own_G p e below _ (T88.setTop (mkF m 149 #[.val (.int p1), .val (.int p2), .val (.int p3), .val (.int p4), .val (.int p5), .val (.int (1 : Int32)), .val (.ref b78), .val (.int p2), .val (.int (0 : Int32)), .val (.int p1), .val (.int p2), .val (.int p3), .val (.int (0 : Int32))] [(.ref b78)]))
      refine own_via (fun t k => XS.iconst X88.here hx rfl (hb hby at_149) k) ?_
      show own_G p e below _ (T88.setTop (mkF m 150 #[.val (.int p1), .val (.int p2), .val (.int p3), .val (.int p4), .val (.int p5), .val (.int (1 : Int32)), .val (.ref b78), .val (.int p2), .val (.int (0 : Int32)), .val (.int p1), .val (.int p2), .val (.int p3), .val (.int (0 : Int32))] [(.int (1 : Int32)), (.ref b78)]))
      obtain ⟨cl94, Ar94, q94, S94, Ng94, Hs94, G94⟩ := id V84
      have hin94 : ¬ ((1 : Int32) < 0 ∨ cl94.slots.size ≤ ((1 : Int32)).toNatClampNeg) := inb_of S94 ⟨by decide, by decide⟩
      have hat94 : cl94.slots[((1 : Int32)).toNatClampNeg]? = some (.double (FP.i2d p2)) := Hs94.at hin94 rfl
      refine own_via (fun t k => X88.daload hx (j := (1 : Int32)) (v := (.double (FP.i2d p2))) (by rw [e88]; exact Ar94.1) (State.isArrayOf_alike hZ.alike Ar94.2.1) Ar94.2.2 hin94 hat94 (g := (mkF m 150 #[.val (.int p1), .val (.int p2), .val (.int p3), .val (.int p4), .val (.int p5), .val (.int (1 : Int32)), .val (.ref b78), .val (.int p2), .val (.int (0 : Int32)), .val (.int p1), .val (.int p2), .val (.int p3), .val (.int (0 : Int32))] [(.int (1 : Int32)), (.ref b78)])) rfl rfl (hb hby at_150) _ k) ?_
      show own_G p e below _ (T88.setTop (mkF m 151 #[.val (.int p1), .val (.int p2), .val (.int p3), .val (.int p4), .val (.int p5), .val (.int (1 : Int32)), .val (.ref b78), .val (.int p2), .val (.int (0 : Int32)), .val (.int p1), .val (.int p2), .val (.int p3), .val (.int (0 : Int32))] [(.double (FP.i2d p2))]))
      refine own_via (fun t k => XS.iload X88.here hx rfl (hb hby at_151) rfl k) ?_
      show own_G p e below _ (T88.setTop (mkF m 153 #[.val (.int p1), .val (.int p2), .val (.int p3), .val (.int p4), .val (.int p5), .val (.int (1 : Int32)), .val (.ref b78), .val (.int p2), .val (.int (0 : Int32)), .val (.int p1), .val (.int p2), .val (.int p3), .val (.int (0 : Int32))] [(.int p2), (.double (FP.i2d p2))]))
      refine own_via (fun t k => XS.i2dS X88.here hx rfl (hb hby at_153) rfl rfl k) ?_
      show own_G p e below _ (T88.setTop (mkF m 154 #[.val (.int p1), .val (.int p2), .val (.int p3), .val (.int p4), .val (.int p5), .val (.int (1 : Int32)), .val (.ref b78), .val (.int p2), .val (.int (0 : Int32)), .val (.int p1), .val (.int p2), .val (.int p3), .val (.int (0 : Int32))] [(.double (FP.i2d p2)), (.double (FP.i2d p2))]))
      refine own_via (fun t k => XS.dcmpS X88.here hx rfl (hb hby at_154) rfl (own_dc_eq rfl _) k) ?_
      show own_G p e below _ (T88.setTop (mkF m 155 #[.val (.int p1), .val (.int p2), .val (.int p3), .val (.int p4), .val (.int p5), .val (.int (1 : Int32)), .val (.ref b78), .val (.int p2), .val (.int (0 : Int32)), .val (.int p1), .val (.int p2), .val (.int p3), .val (.int (0 : Int32))] [(.int (0 : Int32))]))
      refine own_via (fun t k => XS.ifNo X88.here hx rfl (hb hby at_155) rfl ((if0 _ _).trans (teq (by decide : (0 : Int32) = (0 : Int32))).2) k) ?_
      show own_G p e below _ (T88.setTop (mkF m 158 #[.val (.int p1), .val (.int p2), .val (.int p3), .val (.int p4), .val (.int p5), .val (.int (1 : Int32)), .val (.ref b78), .val (.int p2), .val (.int (0 : Int32)), .val (.int p1), .val (.int p2), .val (.int p3), .val (.int (0 : Int32))] []))
      refine own_via (fun t k => XS.aload X88.here hx rfl (hb hby at_158) rfl rfl k) ?_
      show own_G p e below _ (T88.setTop (mkF m 160 #[.val (.int p1), .val (.int p2), .val (.int p3), .val (.int p4), .val (.int p5), .val (.int (1 : Int32)), .val (.ref b78), .val (.int p2), .val (.int (0 : Int32)), .val (.int p1), .val (.int p2), .val (.int p3), .val (.int (0 : Int32))] [(.ref b78)]))
      refine own_via (fun t k => XS.iconst X88.here hx rfl (hb hby at_160) k) ?_
      show own_G p e below _ (T88.setTop (mkF m 161 #[.val (.int p1), .val (.int p2), .val (.int p3), .val (.int p4), .val (.int p5), .val (.int (1 : Int32)), .val (.ref b78), .val (.int p2), .val (.int (0 : Int32)), .val (.int p1), .val (.int p2), .val (.int p3), .val (.int (0 : Int32))] [(.int (2 : Int32)), (.ref b78)]))
      obtain ⟨cl96, Ar96, q96, S96, Ng96, Hs96, G96⟩ := id V84
      have hin96 : ¬ ((2 : Int32) < 0 ∨ cl96.slots.size ≤ ((2 : Int32)).toNatClampNeg) := inb_of S96 ⟨by decide, by decide⟩
      have hat96 : cl96.slots[((2 : Int32)).toNatClampNeg]? = some (.double (FP.i2d p3)) := Hs96.at hin96 rfl
      refine own_via (fun t k => X88.daload hx (j := (2 : Int32)) (v := (.double (FP.i2d p3))) (by rw [e88]; exact Ar96.1) (State.isArrayOf_alike hZ.alike Ar96.2.1) Ar96.2.2 hin96 hat96 (g := (mkF m 161 #[.val (.int p1), .val (.int p2), .val (.int p3), .val (.int p4), .val (.int p5), .val (.int (1 : Int32)), .val (.ref b78), .val (.int p2), .val (.int (0 : Int32)), .val (.int p1), .val (.int p2), .val (.int p3), .val (.int (0 : Int32))] [(.int (2 : Int32)), (.ref b78)])) rfl rfl (hb hby at_161) _ k) ?_
      show own_G p e below _ (T88.setTop (mkF m 162 #[.val (.int p1), .val (.int p2), .val (.int p3), .val (.int p4), .val (.int p5), .val (.int (1 : Int32)), .val (.ref b78), .val (.int p2), .val (.int (0 : Int32)), .val (.int p1), .val (.int p2), .val (.int p3), .val (.int (0 : Int32))] [(.double (FP.i2d p3))]))
      refine own_via (fun t k => XS.iload X88.here hx rfl (hb hby at_162) rfl k) ?_
      show own_G p e below _ (T88.setTop (mkF m 164 #[.val (.int p1), .val (.int p2), .val (.int p3), .val (.int p4), .val (.int p5), .val (.int (1 : Int32)), .val (.ref b78), .val (.int p2), .val (.int (0 : Int32)), .val (.int p1), .val (.int p2), .val (.int p3), .val (.int (0 : Int32))] [(.int p3), (.double (FP.i2d p3))]))
      refine own_via (fun t k => XS.i2dS X88.here hx rfl (hb hby at_164) rfl rfl k) ?_
      show own_G p e below _ (T88.setTop (mkF m 165 #[.val (.int p1), .val (.int p2), .val (.int p3), .val (.int p4), .val (.int p5), .val (.int (1 : Int32)), .val (.ref b78), .val (.int p2), .val (.int (0 : Int32)), .val (.int p1), .val (.int p2), .val (.int p3), .val (.int (0 : Int32))] [(.double (FP.i2d p3)), (.double (FP.i2d p3))]))
      refine own_via (fun t k => XS.dcmpS X88.here hx rfl (hb hby at_165) rfl (own_dc_eq rfl _) k) ?_
      show own_G p e below _ (T88.setTop (mkF m 166 #[.val (.int p1), .val (.int p2), .val (.int p3), .val (.int p4), .val (.int p5), .val (.int (1 : Int32)), .val (.ref b78), .val (.int p2), .val (.int (0 : Int32)), .val (.int p1), .val (.int p2), .val (.int p3), .val (.int (0 : Int32))] [(.int (0 : Int32))]))
      refine own_via (fun t k => XS.ifNo X88.here hx rfl (hb hby at_166) rfl ((if0 _ _).trans (teq (by decide : (0 : Int32) = (0 : Int32))).2) k) ?_
      show own_G p e below _ (T88.setTop (mkF m 169 #[.val (.int p1), .val (.int p2), .val (.int p3), .val (.int p4), .val (.int p5), .val (.int (1 : Int32)), .val (.ref b78), .val (.int p2), .val (.int (0 : Int32)), .val (.int p1), .val (.int p2), .val (.int p3), .val (.int (0 : Int32))] []))
      refine own_via (fun t k => XS.iconst X88.here hx rfl (hb hby at_169) k) ?_
      show own_G p e below _ (T88.setTop (mkF m 170 #[.val (.int p1), .val (.int p2), .val (.int p3), .val (.int p4), .val (.int p5), .val (.int (1 : Int32)), .val (.ref b78), .val (.int p2), .val (.int (0 : Int32)), .val (.int p1), .val (.int p2), .val (.int p3), .val (.int (0 : Int32))] [(.int (1 : Int32))]))
      refine own_via (fun t k => XS.goto X88.here hx rfl (pc0 := 170) (pc' := 174) rfl (hb hby at_170) (by decide) (by decide) k) ?_
      show own_G p e below _ (T88.setTop (mkF m 174 #[.val (.int p1), .val (.int p2), .val (.int p3), .val (.int p4), .val (.int p5), .val (.int (1 : Int32)), .val (.ref b78), .val (.int p2), .val (.int (0 : Int32)), .val (.int p1), .val (.int p2), .val (.int p3), .val (.int (0 : Int32))] [(.int (1 : Int32))]))
      obtain ⟨fs, hr, hrun, hended, hW, hsame⟩ := X88.leave (v := some (.int (1 : Int32))) (fun h => by rw [Bd.returns] at h; cases h)
      refine ⟨_, _, retN X88 hx (t := .boolean) Bd.returns (by simp) (hb hby at_174) hr, hrun, hended, _, _, rfl, ?_, ⟨_, rfl⟩, hW, hsame.mono (by decide) (by decide)⟩
      show rm0_Q Z p1 p2 p3 p4 p5 h0 n0 _ T88.heap _
      rw [e88]
      exact ⟨rfl, N88⟩
    · rw [hk]
      show own_G p e below _ (s₁.setTop (mkF m 6 #[.val (.int p1), .val (.int p2), .val (.int p3), .val (.int p4), .val (.int p5), .unset, .unset, .unset, .unset, .unset, .unset, .unset, .unset] [(.int (1 : Int32))]))
      refine own_via (fun t k => XS.istore X0.here hx rfl (hb hby at_6) rfl (l' := #[.val (.int p1), .val (.int p2), .val (.int p3), .val (.int p4), .val (.int p5), .val (.int (1 : Int32)), .unset, .unset, .unset, .unset, .unset, .unset, .unset]) rfl k) ?_
      show own_G p e below _ (s₁.setTop (mkF m 8 #[.val (.int p1), .val (.int p2), .val (.int p3), .val (.int p4), .val (.int p5), .val (.int (1 : Int32)), .unset, .unset, .unset, .unset, .unset, .unset, .unset] []))
      refine own_via (fun t k => XS.iconst X0.here hx rfl (hb hby at_8) k) ?_
      show own_G p e below _ (s₁.setTop (mkF m 9 #[.val (.int p1), .val (.int p2), .val (.int p3), .val (.int p4), .val (.int p5), .val (.int (1 : Int32)), .unset, .unset, .unset, .unset, .unset, .unset, .unset] [(.int (3 : Int32))]))
      obtain ⟨T98, h98, k98, X98, e98, E98, A98, st98⟩ := newP X0 hx hZ (hw _ (List.mem_of_getElem? (i := 1) rfl)) e0 (g := (mkF m 9 #[.val (.int p1), .val (.int p2), .val (.int p3), .val (.int p4), .val (.int p5), .val (.int (1 : Int32)), .unset, .unset, .unset, .unset, .unset, .unset, .unset] [(.int (3 : Int32))])) rfl (hb hby at_9) rfl (by decide) (cap := 3) (by decide) (by decide) (by decide) (by decide)
      obtain ⟨b98, g98⟩ : ∃ z, z = h0.size := ⟨_, rfl⟩
      rw [← g98] at A98 st98
      have gx_b98 : n0 ≤ b98 := Nat.le_trans Z0 (Nat.le_of_eq g98.symm)
      have Z98 : n0 ≤ h98.size := Nat.le_trans Z0 E98.1
      have V98 : Arv Z h98 b98 k98 .double (3 : Int32) [(.double (0 : UInt64)), (.double (0 : UInt64)), (.double (0 : UInt64))] (.double (0 : UInt64)) := (Arv.new A98 (by decide)).pad (pad_rep [] (.double (0 : UInt64)) 3)
      refine own_via st98 ?_
      show own_G p e below _ (T98.setTop (mkF m 11 #[.val (.int p1), .val (.int p2), .val (.int p3), .val (.int p4), .val (.int p5), .val (.int (1 : Int32)), .unset, .unset, .unset, .unset, .unset, .unset, .unset] [(.ref b98)]))
      refine own_via (fun t k => XS.dup X98.here hx rfl (hb hby at_11) rfl rfl k) ?_
      show own_G p e below _ (T98.setTop (mkF m 12 #[.val (.int p1), .val (.int p2), .val (.int p3), .val (.int p4), .val (.int p5), .val (.int (1 : Int32)), .unset, .unset, .unset, .unset, .unset, .unset, .unset] [(.ref b98), (.ref b98)]))
      refine own_via (fun t k => XS.iconst X98.here hx rfl (hb hby at_12) k) ?_
      show own_G p e below _ (T98.setTop (mkF m 13 #[.val (.int p1), .val (.int p2), .val (.int p3), .val (.int p4), .val (.int p5), .val (.int (1 : Int32)), .unset, .unset, .unset, .unset, .unset, .unset, .unset] [(.int (0 : Int32)), (.ref b98), (.ref b98)]))
      refine own_via (fun t k => XS.iloadN X98.here hx rfl (hb hby at_13) rfl k) ?_
      show own_G p e below _ (T98.setTop (mkF m 14 #[.val (.int p1), .val (.int p2), .val (.int p3), .val (.int p4), .val (.int p5), .val (.int (1 : Int32)), .unset, .unset, .unset, .unset, .unset, .unset, .unset] [(.int p1), (.int (0 : Int32)), (.ref b98), (.ref b98)]))
      refine own_via (fun t k => XS.i2dS X98.here hx rfl (hb hby at_14) rfl rfl k) ?_
      show own_G p e below _ (T98.setTop (mkF m 15 #[.val (.int p1), .val (.int p2), .val (.int p3), .val (.int p4), .val (.int p5), .val (.int (1 : Int32)), .unset, .unset, .unset, .unset, .unset, .unset, .unset] [(.double (FP.i2d p1)), (.int (0 : Int32)), (.ref b98), (.ref b98)]))
      obtain ⟨cl99, Ar99, q99, S99, Ng99, Hs99, G99⟩ := id V98
      have hin99 : ¬ ((0 : Int32) < 0 ∨ cl99.slots.size ≤ ((0 : Int32)).toNatClampNeg) := inb_of S99 ⟨by decide, by decide⟩
      obtain ⟨T99, h99, X99, e99, W99, st99⟩ := stD X98 hx hZ e98 Ar99 (j := (0 : Int32)) hin99 (g := (mkF m 15 #[.val (.int p1), .val (.int p2), .val (.int p3), .val (.int p4), .val (.int p5), .val (.int (1 : Int32)), .unset, .unset, .unset, .unset, .unset, .unset, .unset] [(.double (FP.i2d p1)), (.int (0 : Int32)), (.ref b98), (.ref b98)])) rfl rfl (hb hby at_15)
      have V99 : Arv Z h99 b98 k98 .double (3 : Int32) [(.double (FP.i2d p1)), (.double (0 : UInt64)), (.double (0 : UInt64))] (.double (0 : UInt64)) := Arv.set Ar99 q99 S99 Ng99 Hs99 G99 rfl W99 0 rfl (Nat.le_of_ble_eq_true rfl)
      have N99 := Fr.snoc X99 N0 gx_b98
      have Z99 : n0 ≤ h99.size := Nat.le_trans Z98 (Nat.le_of_eq W99.size.symm)
      refine own_via st99 ?_
      show own_G p e below _ (T99.setTop (mkF m 16 #[.val (.int p1), .val (.int p2), .val (.int p3), .val (.int p4), .val (.int p5), .val (.int (1 : Int32)), .unset, .unset, .unset, .unset, .unset, .unset, .unset] [(.ref b98)]))
      refine own_via (fun t k => XS.dup X99.here hx rfl (hb hby at_16) rfl rfl k) ?_
      show own_G p e below _ (T99.setTop (mkF m 17 #[.val (.int p1), .val (.int p2), .val (.int p3), .val (.int p4), .val (.int p5), .val (.int (1 : Int32)), .unset, .unset, .unset, .unset, .unset, .unset, .unset] [(.ref b98), (.ref b98)]))
      refine own_via (fun t k => XS.iconst X99.here hx rfl (hb hby at_17) k) ?_
      show own_G p e below _ (T99.setTop (mkF m 18 #[.val (.int p1), .val (.int p2), .val (.int p3), .val (.int p4), .val (.int p5), .val (.int (1 : Int32)), .unset, .unset, .unset, .unset, .unset, .unset, .unset] [(.int (1 : Int32)), (.ref b98), (.ref b98)]))
      refine own_via (fun t k => XS.iloadN X99.here hx rfl (hb hby at_18) rfl k) ?_
      show own_G p e below _ (T99.setTop (mkF m 19 #[.val (.int p1), .val (.int p2), .val (.int p3), .val (.int p4), .val (.int p5), .val (.int (1 : Int32)), .unset, .unset, .unset, .unset, .unset, .unset, .unset] [(.int p2), (.int (1 : Int32)), (.ref b98), (.ref b98)]))
      refine own_via (fun t k => XS.i2dS X99.here hx rfl (hb hby at_19) rfl rfl k) ?_
      show own_G p e below _ (T99.setTop (mkF m 20 #[.val (.int p1), .val (.int p2), .val (.int p3), .val (.int p4), .val (.int p5), .val (.int (1 : Int32)), .unset, .unset, .unset, .unset, .unset, .unset, .unset] [(.double (FP.i2d p2)), (.int (1 : Int32)), (.ref b98), (.ref b98)]))
      obtain ⟨cl100, Ar100, q100, S100, Ng100, Hs100, G100⟩ := id V99
      have hin100 : ¬ ((1 : Int32) < 0 ∨ cl100.slots.size ≤ ((1 : Int32)).toNatClampNeg) := inb_of S100 ⟨by decide, by decide⟩
      obtain ⟨T100, h100, X100, e100, W100, st100⟩ := stD X99 hx hZ e99 Ar100 (j := (1 : Int32)) hin100 (g := (mkF m 20 #[.val (.int p1), .val (.int p2), .val (.int p3), .val (.int p4), .val (.int p5), .val (.int (1 : Int32)), .unset, .unset, .unset, .unset, .unset, .unset, .unset] [(.double (FP.i2d p2)), (.int (1 : Int32)), (.ref b98), (.ref b98)])) rfl rfl (hb hby at_20)
      have V100 : Arv Z h100 b98 k98 .double (3 : Int32) [(.double (FP.i2d p1)), (.double (FP.i2d p2)), (.double (0 : UInt64))] (.double (0 : UInt64)) := Arv.set Ar100 q100 S100 Ng100 Hs100 G100 rfl W100 1 rfl (Nat.le_of_ble_eq_true rfl)
      have N100 := Fr.snoc X100 N99 gx_b98
      have Z100 : n0 ≤ h100.size := Nat.le_trans Z99 (Nat.le_of_eq W100.size.symm)
      refine own_via st100 ?_
      show own_G p e below _ (T100.setTop (mkF m 21 #[.val (.int p1), .val (.int p2), .val (.int p3), .val (.int p4), .val (.int p5), .val (.int (1 : Int32)), .unset, .unset, .unset, .unset, .unset, .unset, .unset] [(.ref b98)]))
      refine own_via (fun t k => XS.dup X100.here hx rfl (hb hby at_21) rfl rfl k) ?_
      show own_G p e below _ (T100.setTop (mkF m 22 #[.val (.int p1), .val (.int p2), .val (.int p3), .val (.int p4), .val (.int p5), .val (.int (1 : Int32)), .unset, .unset, .unset, .unset, .unset, .unset, .unset] [(.ref b98), (.ref b98)]))
      refine own_via (fun t k => XS.iconst X100.here hx rfl (hb hby at_22) k) ?_
      show own_G p e below _ (T100.setTop (mkF m 23 #[.val (.int p1), .val (.int p2), .val (.int p3), .val (.int p4), .val (.int p5), .val (.int (1 : Int32)), .unset, .unset, .unset, .unset, .unset, .unset, .unset] [(.int (2 : Int32)), (.ref b98), (.ref b98)]))
      refine own_via (fun t k => XS.iloadN X100.here hx rfl (hb hby at_23) rfl k) ?_
      show own_G p e below _ (T100.setTop (mkF m 24 #[.val (.int p1), .val (.int p2), .val (.int p3), .val (.int p4), .val (.int p5), .val (.int (1 : Int32)), .unset, .unset, .unset, .unset, .unset, .unset, .unset] [(.int p3), (.int (2 : Int32)), (.ref b98), (.ref b98)]))
      refine own_via (fun t k => XS.i2dS X100.here hx rfl (hb hby at_24) rfl rfl k) ?_
      show own_G p e below _ (T100.setTop (mkF m 25 #[.val (.int p1), .val (.int p2), .val (.int p3), .val (.int p4), .val (.int p5), .val (.int (1 : Int32)), .unset, .unset, .unset, .unset, .unset, .unset, .unset] [(.double (FP.i2d p3)), (.int (2 : Int32)), (.ref b98), (.ref b98)]))
      obtain ⟨cl101, Ar101, q101, S101, Ng101, Hs101, G101⟩ := id V100
      have hin101 : ¬ ((2 : Int32) < 0 ∨ cl101.slots.size ≤ ((2 : Int32)).toNatClampNeg) := inb_of S101 ⟨by decide, by decide⟩
      obtain ⟨T101, h101, X101, e101, W101, st101⟩ := stD X100 hx hZ e100 Ar101 (j := (2 : Int32)) hin101 (g := (mkF m 25 #[.val (.int p1), .val (.int p2), .val (.int p3), .val (.int p4), .val (.int p5), .val (.int (1 : Int32)), .unset, .unset, .unset, .unset, .unset, .unset, .unset] [(.double (FP.i2d p3)), (.int (2 : Int32)), (.ref b98), (.ref b98)])) rfl rfl (hb hby at_25)
      have V101 : Arv Z h101 b98 k98 .double (3 : Int32) [(.double (FP.i2d p1)), (.double (FP.i2d p2)), (.double (FP.i2d p3))] (.double (0 : UInt64)) := Arv.set Ar101 q101 S101 Ng101 Hs101 G101 rfl W101 2 rfl (Nat.le_of_ble_eq_true rfl)
      have N101 := Fr.snoc X101 N100 gx_b98
      have Z101 : n0 ≤ h101.size := Nat.le_trans Z100 (Nat.le_of_eq W101.size.symm)
      refine own_via st101 ?_
      show own_G p e below _ (T101.setTop (mkF m 26 #[.val (.int p1), .val (.int p2), .val (.int p3), .val (.int p4), .val (.int p5), .val (.int (1 : Int32)), .unset, .unset, .unset, .unset, .unset, .unset, .unset] [(.ref b98)]))
      refine own_via (fun t k => XS.astore X101.here hx rfl (hb hby at_26) rfl rfl (l' := #[.val (.int p1), .val (.int p2), .val (.int p3), .val (.int p4), .val (.int p5), .val (.int (1 : Int32)), .val (.ref b98), .unset, .unset, .unset, .unset, .unset, .unset]) rfl k) ?_
      show own_G p e below _ (T101.setTop (mkF m 28 #[.val (.int p1), .val (.int p2), .val (.int p3), .val (.int p4), .val (.int p5), .val (.int (1 : Int32)), .val (.ref b98), .unset, .unset, .unset, .unset, .unset, .unset] []))
      refine own_via (fun t k => XS.iload X101.here hx rfl (hb hby at_28) rfl k) ?_
      show own_G p e below _ (T101.setTop (mkF m 30 #[.val (.int p1), .val (.int p2), .val (.int p3), .val (.int p4), .val (.int p5), .val (.int (1 : Int32)), .val (.ref b98), .unset, .unset, .unset, .unset, .unset, .unset] [(.int (1 : Int32))]))
      refine own_via (fun t k => XS.ifYes X101.here hx rfl (pc0 := 30) (pc' := 37) rfl (hb hby at_30) rfl ((if0 _ _).trans (feq (by decide : ¬ ((1 : Int32) = (0 : Int32)))).2) (by decide) (by decide) k) ?_
      show own_G p e below _ (T101.setTop (mkF m 37 #[.val (.int p1), .val (.int p2), .val (.int p3), .val (.int p4), .val (.int p5), .val (.int (1 : Int32)), .val (.ref b98), .unset, .unset, .unset, .unset, .unset, .unset] []))
      refine own_via (fun t k => XS.iload X101.here hx rfl (hb hby at_37) rfl k) ?_
      show own_G p e below _ (T101.setTop (mkF m 39 #[.val (.int p1), .val (.int p2), .val (.int p3), .val (.int p4), .val (.int p5), .val (.int (1 : Int32)), .val (.ref b98), .unset, .unset, .unset, .unset, .unset, .unset] [(.int (1 : Int32))]))
      refine own_via (fun t k => XS.iconst X101.here hx rfl (hb hby at_39) k) ?_
      show own_G p e below _ (T101.setTop (mkF m 40 #[.val (.int p1), .val (.int p2), .val (.int p3), .val (.int p4), .val (.int p5), .val (.int (1 : Int32)), .val (.ref b98), .unset, .unset, .unset, .unset, .unset, .unset] [(.int (1 : Int32)), (.int (1 : Int32))]))
      refine own_via (fun t k => XS.icmpNo X101.here hx rfl (hb hby at_40) rfl (teq (by decide : (1 : Int32) = (1 : Int32))).2 k) ?_
      show own_G p e below _ (T101.setTop (mkF m 43 #[.val (.int p1), .val (.int p2), .val (.int p3), .val (.int p4), .val (.int p5), .val (.int (1 : Int32)), .val (.ref b98), .unset, .unset, .unset, .unset, .unset, .unset] []))
      refine own_via (fun t k => XS.iloadN X101.here hx rfl (hb hby at_43) rfl k) ?_
      show own_G p e below _ (T101.setTop (mkF m 44 #[.val (.int p1), .val (.int p2), .val (.int p3), .val (.int p4), .val (.int p5), .val (.int (1 : Int32)), .val (.ref b98), .unset, .unset, .unset, .unset, .unset, .unset] [(.int p2)]))
      refine own_via (fun t k => XS.goto X101.here hx rfl (pc0 := 44) (pc' := 48) rfl (hb hby at_44) (by decide) (by decide) k) ?_
      show own_G p e below _ (T101.setTop (mkF m 48 #[.val (.int p1), .val (.int p2), .val (.int p3), .val (.int p4), .val (.int p5), .val (.int (1 : Int32)), .val (.ref b98), .unset, .unset, .unset, .unset, .unset, .unset] [(.int p2)]))
      refine own_via (fun t k => XS.istore X101.here hx rfl (hb hby at_48) rfl (l' := #[.val (.int p1), .val (.int p2), .val (.int p3), .val (.int p4), .val (.int p5), .val (.int (1 : Int32)), .val (.ref b98), .val (.int p2), .unset, .unset, .unset, .unset, .unset]) rfl k) ?_
      show own_G p e below _ (T101.setTop (mkF m 50 #[.val (.int p1), .val (.int p2), .val (.int p3), .val (.int p4), .val (.int p5), .val (.int (1 : Int32)), .val (.ref b98), .val (.int p2), .unset, .unset, .unset, .unset, .unset] []))
      refine own_via (fun t k => XS.aload X101.here hx rfl (hb hby at_50) rfl rfl k) ?_
      show own_G p e below _ (T101.setTop (mkF m 52 #[.val (.int p1), .val (.int p2), .val (.int p3), .val (.int p4), .val (.int p5), .val (.int (1 : Int32)), .val (.ref b98), .val (.int p2), .unset, .unset, .unset, .unset, .unset] [(.ref b98)]))
      refine own_via (fun t k => XS.iload X101.here hx rfl (hb hby at_52) rfl k) ?_
      show own_G p e below _ (T101.setTop (mkF m 54 #[.val (.int p1), .val (.int p2), .val (.int p3), .val (.int p4), .val (.int p5), .val (.int (1 : Int32)), .val (.ref b98), .val (.int p2), .unset, .unset, .unset, .unset, .unset] [(.int (1 : Int32)), (.ref b98)]))
      refine own_via (fun t k => XS.iload X101.here hx rfl (hb hby at_54) rfl k) ?_
      show own_G p e below _ (T101.setTop (mkF m 56 #[.val (.int p1), .val (.int p2), .val (.int p3), .val (.int p4), .val (.int p5), .val (.int (1 : Int32)), .val (.ref b98), .val (.int p2), .unset, .unset, .unset, .unset, .unset] [(.int p5), (.int (1 : Int32)), (.ref b98)]))
      refine own_via (fun t k => XS.i2dS X101.here hx rfl (hb hby at_56) rfl rfl k) ?_
      show own_G p e below _ (T101.setTop (mkF m 57 #[.val (.int p1), .val (.int p2), .val (.int p3), .val (.int p4), .val (.int p5), .val (.int (1 : Int32)), .val (.ref b98), .val (.int p2), .unset, .unset, .unset, .unset, .unset] [(.double (FP.i2d p5)), (.int (1 : Int32)), (.ref b98)]))
      obtain ⟨_, _, ⟨T104, L104, k104, n104⟩, -, X104, ⟨Lc104, hQ104, l104, y104, z104⟩, st104⟩ := Jvm.LawKit.callS X101 hx (y := (⟨"com/example/odds2/odds2/engine/Bounds", "tightenLower", "([DID)Z"⟩ : MethodName)) hown (mvT hZ (hw _ (List.mem_of_getElem? (i := 2) rfl))) (mvT hZ (hw _ (List.mem_of_getElem? (i := 3) rfl))) (mvT hZ (hw _ (List.mem_of_getElem? (i := 4) rfl))) (mvT hZ (hw _ (List.mem_of_getElem? (i := 5) rfl))) (by decide) (backOf (W := 0) (rm1_1gt l Z a0 hw [] b98 p1 p2 p3 p5 k98 h101 n0 Z101 V101 gx_b98 hob) hZ (hw _ (List.mem_of_getElem? (i := 5) rfl)) (hw _ (List.mem_of_getElem? (i := 4) rfl)) (by decide) (by decide)) (g := (mkF m 57 #[.val (.int p1), .val (.int p2), .val (.int p3), .val (.int p4), .val (.int p5), .val (.int (1 : Int32)), .val (.ref b98), .val (.int p2), .unset, .unset, .unset, .unset, .unset] [(.double (FP.i2d p5)), (.int (1 : Int32)), (.ref b98)])) rfl (by rw [hml]; rfl) (argsL := [(.ref b98), (.int (1 : Int32)), (.double (FP.i2d p5))]) (rest := []) (lenOf pd_rm0_0 rfl) rfl (by show 2 * 0 + _ ≤ _; exact Nat.le_of_eq rfl) (hb hby at_57) (fun _ _ => ⟨rfl, e101, (by decide : 1 + 0 ≤ _), (by decide : 3 + 0 ≤ _)⟩)
      dsimp only [Pt.U, Pt.locs, Pt.cells, Pt.slots] at X104 l104 y104 z104 st104 hQ104
      subst l104 y104 z104
      obtain ⟨rfl, N104q, K104, V104⟩ := hQ104
      have N104 := Fr.app N101 N104q
      have Z104 : n0 ≤ T104.heap.size := Nat.le_trans Z101 K104.1
      refine own_via st104 ?_
      show own_G p e below _ (T104.setTop (mkF m 60 #[.val (.int p1), .val (.int p2), .val (.int p3), .val (.int p4), .val (.int p5), .val (.int (1 : Int32)), .val (.ref b98), .val (.int p2), .unset, .unset, .unset, .unset, .unset] [(.int (1 : Int32))]))
      refine own_via (fun t k => XS.istore X104.here hx rfl (hb hby at_60) rfl (l' := #[.val (.int p1), .val (.int p2), .val (.int p3), .val (.int p4), .val (.int p5), .val (.int (1 : Int32)), .val (.ref b98), .val (.int p2), .val (.int (1 : Int32)), .unset, .unset, .unset, .unset]) rfl k) ?_
      show own_G p e below _ (T104.setTop (mkF m 62 #[.val (.int p1), .val (.int p2), .val (.int p3), .val (.int p4), .val (.int p5), .val (.int (1 : Int32)), .val (.ref b98), .val (.int p2), .val (.int (1 : Int32)), .unset, .unset, .unset, .unset] []))
      refine own_via (fun t k => XS.iload X104.here hx rfl (hb hby at_62) rfl k) ?_
      show own_G p e below _ (T104.setTop (mkF m 64 #[.val (.int p1), .val (.int p2), .val (.int p3), .val (.int p4), .val (.int p5), .val (.int (1 : Int32)), .val (.ref b98), .val (.int p2), .val (.int (1 : Int32)), .unset, .unset, .unset, .unset] [(.int (1 : Int32))]))
      refine own_via (fun t k => XS.ifYes X104.here hx rfl (pc0 := 64) (pc' := 76) rfl (hb hby at_64) rfl ((if0 _ _).trans (feq (by decide : ¬ ((1 : Int32) = (0 : Int32)))).2) (by decide) (by decide) k) ?_
      show own_G p e below _ (T104.setTop (mkF m 76 #[.val (.int p1), .val (.int p2), .val (.int p3), .val (.int p4), .val (.int p5), .val (.int (1 : Int32)), .val (.ref b98), .val (.int p2), .val (.int (1 : Int32)), .unset, .unset, .unset, .unset] []))
      refine own_via (fun t k => XS.iloadN X104.here hx rfl (hb hby at_76) rfl k) ?_
      show own_G p e below _ (T104.setTop (mkF m 77 #[.val (.int p1), .val (.int p2), .val (.int p3), .val (.int p4), .val (.int p5), .val (.int (1 : Int32)), .val (.ref b98), .val (.int p2), .val (.int (1 : Int32)), .unset, .unset, .unset, .unset] [(.int p1)]))
      refine own_via (fun t k => XS.istore X104.here hx rfl (hb hby at_77) rfl (l' := #[.val (.int p1), .val (.int p2), .val (.int p3), .val (.int p4), .val (.int p5), .val (.int (1 : Int32)), .val (.ref b98), .val (.int p2), .val (.int (1 : Int32)), .val (.int p1), .unset, .unset, .unset]) rfl k) ?_
      show own_G p e below _ (T104.setTop (mkF m 79 #[.val (.int p1), .val (.int p2), .val (.int p3), .val (.int p4), .val (.int p5), .val (.int (1 : Int32)), .val (.ref b98), .val (.int p2), .val (.int (1 : Int32)), .val (.int p1), .unset, .unset, .unset] []))
      refine own_via (fun t k => XS.iload X104.here hx rfl (hb hby at_79) rfl k) ?_
      show own_G p e below _ (T104.setTop (mkF m 81 #[.val (.int p1), .val (.int p2), .val (.int p3), .val (.int p4), .val (.int p5), .val (.int (1 : Int32)), .val (.ref b98), .val (.int p2), .val (.int (1 : Int32)), .val (.int p1), .unset, .unset, .unset] [(.int (1 : Int32))]))
      refine own_via (fun t k => XS.iconst X104.here hx rfl (hb hby at_81) k) ?_
      show own_G p e below _ (T104.setTop (mkF m 82 #[.val (.int p1), .val (.int p2), .val (.int p3), .val (.int p4), .val (.int p5), .val (.int (1 : Int32)), .val (.ref b98), .val (.int p2), .val (.int (1 : Int32)), .val (.int p1), .unset, .unset, .unset] [(.int (1 : Int32)), (.int (1 : Int32))]))
      refine own_via (fun t k => XS.icmpNo X104.here hx rfl (hb hby at_82) rfl (teq (by decide : (1 : Int32) = (1 : Int32))).2 k) ?_
      show own_G p e below _ (T104.setTop (mkF m 85 #[.val (.int p1), .val (.int p2), .val (.int p3), .val (.int p4), .val (.int p5), .val (.int (1 : Int32)), .val (.ref b98), .val (.int p2), .val (.int (1 : Int32)), .val (.int p1), .unset, .unset, .unset] []))
      refine own_via (fun t k => XS.iloadN X104.here hx rfl (hb hby at_85) rfl k) ?_
      show own_G p e below _ (T104.setTop (mkF m 86 #[.val (.int p1), .val (.int p2), .val (.int p3), .val (.int p4), .val (.int p5), .val (.int (1 : Int32)), .val (.ref b98), .val (.int p2), .val (.int (1 : Int32)), .val (.int p1), .unset, .unset, .unset] [(.int p2)]))
      refine own_via (fun t k => XS.iload X104.here hx rfl (hb hby at_86) rfl k) ?_
      show own_G p e below _ (T104.setTop (mkF m 88 #[.val (.int p1), .val (.int p2), .val (.int p3), .val (.int p4), .val (.int p5), .val (.int (1 : Int32)), .val (.ref b98), .val (.int p2), .val (.int (1 : Int32)), .val (.int p1), .unset, .unset, .unset] [(.int p5), (.int p2)]))
      obtain ⟨_, _, ⟨T108, L108, k108, n108⟩, -, X108, ⟨Lc108, hQ108, l108, y108, z108⟩, st108⟩ := Jvm.LawKit.callS X104 hx (y := (⟨"java/lang/Math", "max", "(II)I"⟩ : MethodName)) hown (mvT hZ (hw _ (List.mem_of_getElem? (i := 6) rfl))) (mvT hZ (hw _ (List.mem_of_getElem? (i := 7) rfl))) (mvT hZ (hw _ (List.mem_of_getElem? (i := 8) rfl))) (mvT hZ (hw _ (List.mem_of_getElem? (i := 9) rfl))) (by decide) (backOf (W := 0) (rm2 l Z a0 hw [] p2 p5 T104.heap n0 Z104) hZ (hw _ (List.mem_of_getElem? (i := 9) rfl)) (hw _ (List.mem_of_getElem? (i := 8) rfl)) (by decide) (by decide)) (g := (mkF m 88 #[.val (.int p1), .val (.int p2), .val (.int p3), .val (.int p4), .val (.int p5), .val (.int (1 : Int32)), .val (.ref b98), .val (.int p2), .val (.int (1 : Int32)), .val (.int p1), .unset, .unset, .unset] [(.int p5), (.int p2)])) rfl (by rw [hml]; rfl) (argsL := [(.int p2), (.int p5)]) (rest := []) (lenOf pd_rm0_1 rfl) rfl (by show 2 * 0 + _ ≤ _; exact Nat.le_of_eq rfl) (hb hby at_88) (fun _ _ => ⟨rfl, rfl, (by decide : 1 + 0 ≤ _), (by decide : 3 + 0 ≤ _)⟩)
      dsimp only [Pt.U, Pt.locs, Pt.cells, Pt.slots] at X108 l108 y108 z108 st108 hQ108
      subst l108 y108 z108
      obtain ⟨rfl, N108q, e108⟩ := hQ108
      have N108 := Fr.app N104 N108q
      refine own_via st108 ?_
      show own_G p e below _ (T108.setTop (mkF m 91 #[.val (.int p1), .val (.int p2), .val (.int p3), .val (.int p4), .val (.int p5), .val (.int (1 : Int32)), .val (.ref b98), .val (.int p2), .val (.int (1 : Int32)), .val (.int p1), .unset, .unset, .unset] [(.int (own_max p2 p5))]))
      rw [show own_max p2 p5 = p5 from if_pos hob]
      show own_G p e below _ (T108.setTop (mkF m 91 #[.val (.int p1), .val (.int p2), .val (.int p3), .val (.int p4), .val (.int p5), .val (.int (1 : Int32)), .val (.ref b98), .val (.int p2), .val (.int (1 : Int32)), .val (.int p1), .unset, .unset, .unset] [(.int p5)]))
      refine own_via (fun t k => XS.goto X108.here hx rfl (pc0 := 91) (pc' := 95) rfl (hb hby at_91) (by decide) (by decide) k) ?_
      show own_G p e below _ (T108.setTop (mkF m 95 #[.val (.int p1), .val (.int p2), .val (.int p3), .val (.int p4), .val (.int p5), .val (.int (1 : Int32)), .val (.ref b98), .val (.int p2), .val (.int (1 : Int32)), .val (.int p1), .unset, .unset, .unset] [(.int p5)]))
      refine own_via (fun t k => XS.istore X108.here hx rfl (hb hby at_95) rfl (l' := #[.val (.int p1), .val (.int p2), .val (.int p3), .val (.int p4), .val (.int p5), .val (.int (1 : Int32)), .val (.ref b98), .val (.int p2), .val (.int (1 : Int32)), .val (.int p1), .val (.int p5), .unset, .unset]) rfl k) ?_
      show own_G p e below _ (T108.setTop (mkF m 97 #[.val (.int p1), .val (.int p2), .val (.int p3), .val (.int p4), .val (.int p5), .val (.int (1 : Int32)), .val (.ref b98), .val (.int p2), .val (.int (1 : Int32)), .val (.int p1), .val (.int p5), .unset, .unset] []))
      refine own_via (fun t k => XS.iload X108.here hx rfl (hb hby at_97) rfl k) ?_
      show own_G p e below _ (T108.setTop (mkF m 99 #[.val (.int p1), .val (.int p2), .val (.int p3), .val (.int p4), .val (.int p5), .val (.int (1 : Int32)), .val (.ref b98), .val (.int p2), .val (.int (1 : Int32)), .val (.int p1), .val (.int p5), .unset, .unset] [(.int (1 : Int32))]))
      refine own_via (fun t k => XS.iconst X108.here hx rfl (hb hby at_99) k) ?_
      show own_G p e below _ (T108.setTop (mkF m 100 #[.val (.int p1), .val (.int p2), .val (.int p3), .val (.int p4), .val (.int p5), .val (.int (1 : Int32)), .val (.ref b98), .val (.int p2), .val (.int (1 : Int32)), .val (.int p1), .val (.int p5), .unset, .unset] [(.int (2 : Int32)), (.int (1 : Int32))]))
      refine own_via (fun t k => XS.icmpYes X108.here hx rfl (pc0 := 100) (pc' := 112) rfl (hb hby at_100) rfl (feq (by decide : ¬ ((1 : Int32) = (2 : Int32)))).2 (by decide) (by decide) k) ?_
      show own_G p e below _ (T108.setTop (mkF m 112 #[.val (.int p1), .val (.int p2), .val (.int p3), .val (.int p4), .val (.int p5), .val (.int (1 : Int32)), .val (.ref b98), .val (.int p2), .val (.int (1 : Int32)), .val (.int p1), .val (.int p5), .unset, .unset] []))
      refine own_via (fun t k => XS.iloadN X108.here hx rfl (hb hby at_112) rfl k) ?_
      show own_G p e below _ (T108.setTop (mkF m 113 #[.val (.int p1), .val (.int p2), .val (.int p3), .val (.int p4), .val (.int p5), .val (.int (1 : Int32)), .val (.ref b98), .val (.int p2), .val (.int (1 : Int32)), .val (.int p1), .val (.int p5), .unset, .unset] [(.int p3)]))
      refine own_via (fun t k => XS.istore X108.here hx rfl (hb hby at_113) rfl (l' := #[.val (.int p1), .val (.int p2), .val (.int p3), .val (.int p4), .val (.int p5), .val (.int (1 : Int32)), .val (.ref b98), .val (.int p2), .val (.int (1 : Int32)), .val (.int p1), .val (.int p5), .val (.int p3), .unset]) rfl k) ?_
      show own_G p e below _ (T108.setTop (mkF m 115 #[.val (.int p1), .val (.int p2), .val (.int p3), .val (.int p4), .val (.int p5), .val (.int (1 : Int32)), .val (.ref b98), .val (.int p2), .val (.int (1 : Int32)), .val (.int p1), .val (.int p5), .val (.int p3), .unset] []))
      refine own_via (fun t k => XS.iload X108.here hx rfl (hb hby at_115) rfl k) ?_
      show own_G p e below _ (T108.setTop (mkF m 117 #[.val (.int p1), .val (.int p2), .val (.int p3), .val (.int p4), .val (.int p5), .val (.int (1 : Int32)), .val (.ref b98), .val (.int p2), .val (.int (1 : Int32)), .val (.int p1), .val (.int p5), .val (.int p3), .unset] [(.int p5)]))
      refine own_via (fun t k => XS.iload X108.here hx rfl (hb hby at_117) rfl k) ?_
      show own_G p e below _ (T108.setTop (mkF m 119 #[.val (.int p1), .val (.int p2), .val (.int p3), .val (.int p4), .val (.int p5), .val (.int (1 : Int32)), .val (.ref b98), .val (.int p2), .val (.int (1 : Int32)), .val (.int p1), .val (.int p5), .val (.int p3), .unset] [(.int p2), (.int p5)]))
      refine own_via (fun t k => XS.icmpNo X108.here hx rfl (hb hby at_119) rfl (tlt hob).2.2.2 k) ?_
      show own_G p e below _ (T108.setTop (mkF m 122 #[.val (.int p1), .val (.int p2), .val (.int p3), .val (.int p4), .val (.int p5), .val (.int (1 : Int32)), .val (.ref b98), .val (.int p2), .val (.int (1 : Int32)), .val (.int p1), .val (.int p5), .val (.int p3), .unset] []))
      refine own_via (fun t k => XS.iconst X108.here hx rfl (hb hby at_122) k) ?_
      show own_G p e below _ (T108.setTop (mkF m 123 #[.val (.int p1), .val (.int p2), .val (.int p3), .val (.int p4), .val (.int p5), .val (.int (1 : Int32)), .val (.ref b98), .val (.int p2), .val (.int (1 : Int32)), .val (.int p1), .val (.int p5), .val (.int p3), .unset] [(.int (1 : Int32))]))
      refine own_via (fun t k => XS.goto X108.here hx rfl (pc0 := 123) (pc' := 127) rfl (hb hby at_123) (by decide) (by decide) k) ?_
      show own_G p e below _ (T108.setTop (mkF m 127 #[.val (.int p1), .val (.int p2), .val (.int p3), .val (.int p4), .val (.int p5), .val (.int (1 : Int32)), .val (.ref b98), .val (.int p2), .val (.int (1 : Int32)), .val (.int p1), .val (.int p5), .val (.int p3), .unset] [(.int (1 : Int32))]))
      refine own_via (fun t k => XS.istore X108.here hx rfl (hb hby at_127) rfl (l' := #[.val (.int p1), .val (.int p2), .val (.int p3), .val (.int p4), .val (.int p5), .val (.int (1 : Int32)), .val (.ref b98), .val (.int p2), .val (.int (1 : Int32)), .val (.int p1), .val (.int p5), .val (.int p3), .val (.int (1 : Int32))]) rfl k) ?_
      show own_G p e below _ (T108.setTop (mkF m 129 #[.val (.int p1), .val (.int p2), .val (.int p3), .val (.int p4), .val (.int p5), .val (.int (1 : Int32)), .val (.ref b98), .val (.int p2), .val (.int (1 : Int32)), .val (.int p1), .val (.int p5), .val (.int p3), .val (.int (1 : Int32))] []))
      refine own_via (fun t k => XS.iload X108.here hx rfl (hb hby at_129) rfl k) ?_
      show own_G p e below _ (T108.setTop (mkF m 131 #[.val (.int p1), .val (.int p2), .val (.int p3), .val (.int p4), .val (.int p5), .val (.int (1 : Int32)), .val (.ref b98), .val (.int p2), .val (.int (1 : Int32)), .val (.int p1), .val (.int p5), .val (.int p3), .val (.int (1 : Int32))] [(.int (1 : Int32))]))
      refine own_via (fun t k => XS.iload X108.here hx rfl (hb hby at_131) rfl k) ?_
      show own_G p e below _ (T108.setTop (mkF m 133 #[.val (.int p1), .val (.int p2), .val (.int p3), .val (.int p4), .val (.int p5), .val (.int (1 : Int32)), .val (.ref b98), .val (.int p2), .val (.int (1 : Int32)), .val (.int p1), .val (.int p5), .val (.int p3), .val (.int (1 : Int32))] [(.int (1 : Int32)), (.int (1 : Int32))]))
      refine own_via (fun t k => XS.icmpNo X108.here hx rfl (hb hby at_133) rfl (teq (by decide : (1 : Int32) = (1 : Int32))).2 k) ?_
      show own_G p e below _ (T108.setTop (mkF m 136 #[.val (.int p1), .val (.int p2), .val (.int p3), .val (.int p4), .val (.int p5), .val (.int (1 : Int32)), .val (.ref b98), .val (.int p2), .val (.int (1 : Int32)), .val (.int p1), .val (.int p5), .val (.int p3), .val (.int (1 : Int32))] []))
      refine own_via (fun t k => XS.aload X108.here hx rfl (hb hby at_136) rfl rfl k) ?_
      show own_G p e below _ (T108.setTop (mkF m 138 #[.val (.int p1), .val (.int p2), .val (.int p3), .val (.int p4), .val (.int p5), .val (.int (1 : Int32)), .val (.ref b98), .val (.int p2), .val (.int (1 : Int32)), .val (.int p1), .val (.int p5), .val (.int p3), .val (.int (1 : Int32))] [(.ref b98)]))
      refine own_via (fun t k => XS.iconst X108.here hx rfl (hb hby at_138) k) ?_
      show own_G p e below _ (T108.setTop (mkF m 139 #[.val (.int p1), .val (.int p2), .val (.int p3), .val (.int p4), .val (.int p5), .val (.int (1 : Int32)), .val (.ref b98), .val (.int p2), .val (.int (1 : Int32)), .val (.int p1), .val (.int p5), .val (.int p3), .val (.int (1 : Int32))] [(.int (0 : Int32)), (.ref b98)]))
      obtain ⟨cl112, Ar112, q112, S112, Ng112, Hs112, G112⟩ := id V104
      have hin112 : ¬ ((0 : Int32) < 0 ∨ cl112.slots.size ≤ ((0 : Int32)).toNatClampNeg) := inb_of S112 ⟨by decide, by decide⟩
      have hat112 : cl112.slots[((0 : Int32)).toNatClampNeg]? = some (.double (FP.i2d p1)) := Hs112.at hin112 rfl
      refine own_via (fun t k => X108.daload hx (j := (0 : Int32)) (v := (.double (FP.i2d p1))) (by rw [e108]; exact Ar112.1) (State.isArrayOf_alike hZ.alike Ar112.2.1) Ar112.2.2 hin112 hat112 (g := (mkF m 139 #[.val (.int p1), .val (.int p2), .val (.int p3), .val (.int p4), .val (.int p5), .val (.int (1 : Int32)), .val (.ref b98), .val (.int p2), .val (.int (1 : Int32)), .val (.int p1), .val (.int p5), .val (.int p3), .val (.int (1 : Int32))] [(.int (0 : Int32)), (.ref b98)])) rfl rfl (hb hby at_139) _ k) ?_
      show own_G p e below _ (T108.setTop (mkF m 140 #[.val (.int p1), .val (.int p2), .val (.int p3), .val (.int p4), .val (.int p5), .val (.int (1 : Int32)), .val (.ref b98), .val (.int p2), .val (.int (1 : Int32)), .val (.int p1), .val (.int p5), .val (.int p3), .val (.int (1 : Int32))] [(.double (FP.i2d p1))]))
      refine own_via (fun t k => XS.iload X108.here hx rfl (hb hby at_140) rfl k) ?_
      show own_G p e below _ (T108.setTop (mkF m 142 #[.val (.int p1), .val (.int p2), .val (.int p3), .val (.int p4), .val (.int p5), .val (.int (1 : Int32)), .val (.ref b98), .val (.int p2), .val (.int (1 : Int32)), .val (.int p1), .val (.int p5), .val (.int p3), .val (.int (1 : Int32))] [(.int p1), (.double (FP.i2d p1))]))
      refine own_via (fun t k => XS.i2dS X108.here hx rfl (hb hby at_142) rfl rfl k) ?_
      show own_G p e below _ (T108.setTop (mkF m 143 #[.val (.int p1), .val (.int p2), .val (.int p3), .val (.int p4), .val (.int p5), .val (.int (1 : Int32)), .val (.ref b98), .val (.int p2), .val (.int (1 : Int32)), .val (.int p1), .val (.int p5), .val (.int p3), .val (.int (1 : Int32))] [(.double (FP.i2d p1)), (.double (FP.i2d p1))]))
      refine own_via (fun t k => XS.dcmpS X108.here hx rfl (hb hby at_143) rfl (own_dc_eq rfl _) k) ?_
      show own_G p e below _ (T108.setTop (mkF m 144 #[.val (.int p1), .val (.int p2), .val (.int p3), .val (.int p4), .val (.int p5), .val (.int (1 : Int32)), .val (.ref b98), .val (.int p2), .val (.int (1 : Int32)), .val (.int p1), .val (.int p5), .val (.int p3), .val (.int (1 : Int32))] [(.int (0 : Int32))]))
      refine own_via (fun t k => XS.ifNo X108.here hx rfl (hb hby at_144) rfl ((if0 _ _).trans (teq (by decide : (0 : Int32) = (0 : Int32))).2) k) ?_
      show own_G p e below _ (T108.setTop (mkF m 147 #[.val (.int p1), .val (.int p2), .val (.int p3), .val (.int p4), .val (.int p5), .val (.int (1 : Int32)), .val (.ref b98), .val (.int p2), .val (.int (1 : Int32)), .val (.int p1), .val (.int p5), .val (.int p3), .val (.int (1 : Int32))] []))
      refine own_via (fun t k => XS.aload X108.here hx rfl (hb hby at_147) rfl rfl k) ?_
      show own_G p e below _ (T108.setTop (mkF m 149 #[.val (.int p1), .val (.int p2), .val (.int p3), .val (.int p4), .val (.int p5), .val (.int (1 : Int32)), .val (.ref b98), .val (.int p2), .val (.int (1 : Int32)), .val (.int p1), .val (.int p5), .val (.int p3), .val (.int (1 : Int32))] [(.ref b98)]))
      refine own_via (fun t k => XS.iconst X108.here hx rfl (hb hby at_149) k) ?_
      show own_G p e below _ (T108.setTop (mkF m 150 #[.val (.int p1), .val (.int p2), .val (.int p3), .val (.int p4), .val (.int p5), .val (.int (1 : Int32)), .val (.ref b98), .val (.int p2), .val (.int (1 : Int32)), .val (.int p1), .val (.int p5), .val (.int p3), .val (.int (1 : Int32))] [(.int (1 : Int32)), (.ref b98)]))
      obtain ⟨cl114, Ar114, q114, S114, Ng114, Hs114, G114⟩ := id V104
      have hin114 : ¬ ((1 : Int32) < 0 ∨ cl114.slots.size ≤ ((1 : Int32)).toNatClampNeg) := inb_of S114 ⟨by decide, by decide⟩
      have hat114 : cl114.slots[((1 : Int32)).toNatClampNeg]? = some (.double (FP.i2d p5)) := Hs114.at hin114 rfl
      refine own_via (fun t k => X108.daload hx (j := (1 : Int32)) (v := (.double (FP.i2d p5))) (by rw [e108]; exact Ar114.1) (State.isArrayOf_alike hZ.alike Ar114.2.1) Ar114.2.2 hin114 hat114 (g := (mkF m 150 #[.val (.int p1), .val (.int p2), .val (.int p3), .val (.int p4), .val (.int p5), .val (.int (1 : Int32)), .val (.ref b98), .val (.int p2), .val (.int (1 : Int32)), .val (.int p1), .val (.int p5), .val (.int p3), .val (.int (1 : Int32))] [(.int (1 : Int32)), (.ref b98)])) rfl rfl (hb hby at_150) _ k) ?_
      show own_G p e below _ (T108.setTop (mkF m 151 #[.val (.int p1), .val (.int p2), .val (.int p3), .val (.int p4), .val (.int p5), .val (.int (1 : Int32)), .val (.ref b98), .val (.int p2), .val (.int (1 : Int32)), .val (.int p1), .val (.int p5), .val (.int p3), .val (.int (1 : Int32))] [(.double (FP.i2d p5))]))
      refine own_via (fun t k => XS.iload X108.here hx rfl (hb hby at_151) rfl k) ?_
      show own_G p e below _ (T108.setTop (mkF m 153 #[.val (.int p1), .val (.int p2), .val (.int p3), .val (.int p4), .val (.int p5), .val (.int (1 : Int32)), .val (.ref b98), .val (.int p2), .val (.int (1 : Int32)), .val (.int p1), .val (.int p5), .val (.int p3), .val (.int (1 : Int32))] [(.int p5), (.double (FP.i2d p5))]))
      refine own_via (fun t k => XS.i2dS X108.here hx rfl (hb hby at_153) rfl rfl k) ?_
      show own_G p e below _ (T108.setTop (mkF m 154 #[.val (.int p1), .val (.int p2), .val (.int p3), .val (.int p4), .val (.int p5), .val (.int (1 : Int32)), .val (.ref b98), .val (.int p2), .val (.int (1 : Int32)), .val (.int p1), .val (.int p5), .val (.int p3), .val (.int (1 : Int32))] [(.double (FP.i2d p5)), (.double (FP.i2d p5))]))
      refine own_via (fun t k => XS.dcmpS X108.here hx rfl (hb hby at_154) rfl (own_dc_eq rfl _) k) ?_
      show own_G p e below _ (T108.setTop (mkF m 155 #[.val (.int p1), .val (.int p2), .val (.int p3), .val (.int p4), .val (.int p5), .val (.int (1 : Int32)), .val (.ref b98), .val (.int p2), .val (.int (1 : Int32)), .val (.int p1), .val (.int p5), .val (.int p3), .val (.int (1 : Int32))] [(.int (0 : Int32))]))
      refine own_via (fun t k => XS.ifNo X108.here hx rfl (hb hby at_155) rfl ((if0 _ _).trans (teq (by decide : (0 : Int32) = (0 : Int32))).2) k) ?_
      show own_G p e below _ (T108.setTop (mkF m 158 #[.val (.int p1), .val (.int p2), .val (.int p3), .val (.int p4), .val (.int p5), .val (.int (1 : Int32)), .val (.ref b98), .val (.int p2), .val (.int (1 : Int32)), .val (.int p1), .val (.int p5), .val (.int p3), .val (.int (1 : Int32))] []))
      refine own_via (fun t k => XS.aload X108.here hx rfl (hb hby at_158) rfl rfl k) ?_
      show own_G p e below _ (T108.setTop (mkF m 160 #[.val (.int p1), .val (.int p2), .val (.int p3), .val (.int p4), .val (.int p5), .val (.int (1 : Int32)), .val (.ref b98), .val (.int p2), .val (.int (1 : Int32)), .val (.int p1), .val (.int p5), .val (.int p3), .val (.int (1 : Int32))] [(.ref b98)]))
      refine own_via (fun t k => XS.iconst X108.here hx rfl (hb hby at_160) k) ?_
      show own_G p e below _ (T108.setTop (mkF m 161 #[.val (.int p1), .val (.int p2), .val (.int p3), .val (.int p4), .val (.int p5), .val (.int (1 : Int32)), .val (.ref b98), .val (.int p2), .val (.int (1 : Int32)), .val (.int p1), .val (.int p5), .val (.int p3), .val (.int (1 : Int32))] [(.int (2 : Int32)), (.ref b98)]))
      obtain ⟨cl116, Ar116, q116, S116, Ng116, Hs116, G116⟩ := id V104
      have hin116 : ¬ ((2 : Int32) < 0 ∨ cl116.slots.size ≤ ((2 : Int32)).toNatClampNeg) := inb_of S116 ⟨by decide, by decide⟩
      have hat116 : cl116.slots[((2 : Int32)).toNatClampNeg]? = some (.double (FP.i2d p3)) := Hs116.at hin116 rfl
      refine own_via (fun t k => X108.daload hx (j := (2 : Int32)) (v := (.double (FP.i2d p3))) (by rw [e108]; exact Ar116.1) (State.isArrayOf_alike hZ.alike Ar116.2.1) Ar116.2.2 hin116 hat116 (g := (mkF m 161 #[.val (.int p1), .val (.int p2), .val (.int p3), .val (.int p4), .val (.int p5), .val (.int (1 : Int32)), .val (.ref b98), .val (.int p2), .val (.int (1 : Int32)), .val (.int p1), .val (.int p5), .val (.int p3), .val (.int (1 : Int32))] [(.int (2 : Int32)), (.ref b98)])) rfl rfl (hb hby at_161) _ k) ?_
      show own_G p e below _ (T108.setTop (mkF m 162 #[.val (.int p1), .val (.int p2), .val (.int p3), .val (.int p4), .val (.int p5), .val (.int (1 : Int32)), .val (.ref b98), .val (.int p2), .val (.int (1 : Int32)), .val (.int p1), .val (.int p5), .val (.int p3), .val (.int (1 : Int32))] [(.double (FP.i2d p3))]))
      refine own_via (fun t k => XS.iload X108.here hx rfl (hb hby at_162) rfl k) ?_
      show own_G p e below _ (T108.setTop (mkF m 164 #[.val (.int p1), .val (.int p2), .val (.int p3), .val (.int p4), .val (.int p5), .val (.int (1 : Int32)), .val (.ref b98), .val (.int p2), .val (.int (1 : Int32)), .val (.int p1), .val (.int p5), .val (.int p3), .val (.int (1 : Int32))] [(.int p3), (.double (FP.i2d p3))]))
      refine own_via (fun t k => XS.i2dS X108.here hx rfl (hb hby at_164) rfl rfl k) ?_
      show own_G p e below _ (T108.setTop (mkF m 165 #[.val (.int p1), .val (.int p2), .val (.int p3), .val (.int p4), .val (.int p5), .val (.int (1 : Int32)), .val (.ref b98), .val (.int p2), .val (.int (1 : Int32)), .val (.int p1), .val (.int p5), .val (.int p3), .val (.int (1 : Int32))] [(.double (FP.i2d p3)), (.double (FP.i2d p3))]))
      refine own_via (fun t k => XS.dcmpS X108.here hx rfl (hb hby at_165) rfl (own_dc_eq rfl _) k) ?_
      show own_G p e below _ (T108.setTop (mkF m 166 #[.val (.int p1), .val (.int p2), .val (.int p3), .val (.int p4), .val (.int p5), .val (.int (1 : Int32)), .val (.ref b98), .val (.int p2), .val (.int (1 : Int32)), .val (.int p1), .val (.int p5), .val (.int p3), .val (.int (1 : Int32))] [(.int (0 : Int32))]))
      refine own_via (fun t k => XS.ifNo X108.here hx rfl (hb hby at_166) rfl ((if0 _ _).trans (teq (by decide : (0 : Int32) = (0 : Int32))).2) k) ?_
      show own_G p e below _ (T108.setTop (mkF m 169 #[.val (.int p1), .val (.int p2), .val (.int p3), .val (.int p4), .val (.int p5), .val (.int (1 : Int32)), .val (.ref b98), .val (.int p2), .val (.int (1 : Int32)), .val (.int p1), .val (.int p5), .val (.int p3), .val (.int (1 : Int32))] []))
      refine own_via (fun t k => XS.iconst X108.here hx rfl (hb hby at_169) k) ?_
      show own_G p e below _ (T108.setTop (mkF m 170 #[.val (.int p1), .val (.int p2), .val (.int p3), .val (.int p4), .val (.int p5), .val (.int (1 : Int32)), .val (.ref b98), .val (.int p2), .val (.int (1 : Int32)), .val (.int p1), .val (.int p5), .val (.int p3), .val (.int (1 : Int32))] [(.int (1 : Int32))]))
      refine own_via (fun t k => XS.goto X108.here hx rfl (pc0 := 170) (pc' := 174) rfl (hb hby at_170) (by decide) (by decide) k) ?_
      show own_G p e below _ (T108.setTop (mkF m 174 #[.val (.int p1), .val (.int p2), .val (.int p3), .val (.int p4), .val (.int p5), .val (.int (1 : Int32)), .val (.ref b98), .val (.int p2), .val (.int (1 : Int32)), .val (.int p1), .val (.int p5), .val (.int p3), .val (.int (1 : Int32))] [(.int (1 : Int32))]))
      obtain ⟨fs, hr, hrun, hended, hW, hsame⟩ := X108.leave (v := some (.int (1 : Int32))) (fun h => by rw [Bd.returns] at h; cases h)
      refine ⟨_, _, retN X108 hx (t := .boolean) Bd.returns (by simp) (hb hby at_174) hr, hrun, hended, _, _, rfl, ?_, ⟨_, rfl⟩, hW, hsame.mono (by decide) (by decide)⟩
      show rm0_Q Z p1 p2 p3 p4 p5 h0 n0 _ T108.heap _
      rw [e108]
      exact ⟨rfl, N108⟩
  · rcases own_tri p5 p3 with hob | hob | hob
    · rw [hk]
      show own_G p e below _ (s₁.setTop (mkF m 6 #[.val (.int p1), .val (.int p2), .val (.int p3), .val (.int p4), .val (.int p5), .unset, .unset, .unset, .unset, .unset, .unset, .unset, .unset] [(.int (2 : Int32))]))
      refine own_via (fun t k => XS.istore X0.here hx rfl (hb hby at_6) rfl (l' := #[.val (.int p1), .val (.int p2), .val (.int p3), .val (.int p4), .val (.int p5), .val (.int (2 : Int32)), .unset, .unset, .unset, .unset, .unset, .unset, .unset]) rfl k) ?_
      show own_G p e below _ (s₁.setTop (mkF m 8 #[.val (.int p1), .val (.int p2), .val (.int p3), .val (.int p4), .val (.int p5), .val (.int (2 : Int32)), .unset, .unset, .unset, .unset, .unset, .unset, .unset] []))
      refine own_via (fun t k => XS.iconst X0.here hx rfl (hb hby at_8) k) ?_
      show own_G p e below _ (s₁.setTop (mkF m 9 #[.val (.int p1), .val (.int p2), .val (.int p3), .val (.int p4), .val (.int p5), .val (.int (2 : Int32)), .unset, .unset, .unset, .unset, .unset, .unset, .unset] [(.int (3 : Int32))]))
      obtain ⟨T118, h118, k118, X118, e118, E118, A118, st118⟩ := newP X0 hx hZ (hw _ (List.mem_of_getElem? (i := 1) rfl)) e0 (g := (mkF m 9 #[.val (.int p1), .val (.int p2), .val (.int p3), .val (.int p4), .val (.int p5), .val (.int (2 : Int32)), .unset, .unset, .unset, .unset, .unset, .unset, .unset] [(.int (3 : Int32))])) rfl (hb hby at_9) rfl (by decide) (cap := 3) (by decide) (by decide) (by decide) (by decide)
      obtain ⟨b118, g118⟩ : ∃ z, z = h0.size := ⟨_, rfl⟩
      rw [← g118] at A118 st118
      have gx_b118 : n0 ≤ b118 := Nat.le_trans Z0 (Nat.le_of_eq g118.symm)
      have Z118 : n0 ≤ h118.size := Nat.le_trans Z0 E118.1
      have V118 : Arv Z h118 b118 k118 .double (3 : Int32) [(.double (0 : UInt64)), (.double (0 : UInt64)), (.double (0 : UInt64))] (.double (0 : UInt64)) := (Arv.new A118 (by decide)).pad (pad_rep [] (.double (0 : UInt64)) 3)
      refine own_via st118 ?_
      show own_G p e below _ (T118.setTop (mkF m 11 #[.val (.int p1), .val (.int p2), .val (.int p3), .val (.int p4), .val (.int p5), .val (.int (2 : Int32)), .unset, .unset, .unset, .unset, .unset, .unset, .unset] [(.ref b118)]))
      refine own_via (fun t k => XS.dup X118.here hx rfl (hb hby at_11) rfl rfl k) ?_
      show own_G p e below _ (T118.setTop (mkF m 12 #[.val (.int p1), .val (.int p2), .val (.int p3), .val (.int p4), .val (.int p5), .val (.int (2 : Int32)), .unset, .unset, .unset, .unset, .unset, .unset, .unset] [(.ref b118), (.ref b118)]))
      refine own_via (fun t k => XS.iconst X118.here hx rfl (hb hby at_12) k) ?_
      show own_G p e below _ (T118.setTop (mkF m 13 #[.val (.int p1), .val (.int p2), .val (.int p3), .val (.int p4), .val (.int p5), .val (.int (2 : Int32)), .unset, .unset, .unset, .unset, .unset, .unset, .unset] [(.int (0 : Int32)), (.ref b118), (.ref b118)]))
      refine own_via (fun t k => XS.iloadN X118.here hx rfl (hb hby at_13) rfl k) ?_
      show own_G p e below _ (T118.setTop (mkF m 14 #[.val (.int p1), .val (.int p2), .val (.int p3), .val (.int p4), .val (.int p5), .val (.int (2 : Int32)), .unset, .unset, .unset, .unset, .unset, .unset, .unset] [(.int p1), (.int (0 : Int32)), (.ref b118), (.ref b118)]))
      refine own_via (fun t k => XS.i2dS X118.here hx rfl (hb hby at_14) rfl rfl k) ?_
      show own_G p e below _ (T118.setTop (mkF m 15 #[.val (.int p1), .val (.int p2), .val (.int p3), .val (.int p4), .val (.int p5), .val (.int (2 : Int32)), .unset, .unset, .unset, .unset, .unset, .unset, .unset] [(.double (FP.i2d p1)), (.int (0 : Int32)), (.ref b118), (.ref b118)]))
      obtain ⟨cl119, Ar119, q119, S119, Ng119, Hs119, G119⟩ := id V118
      have hin119 : ¬ ((0 : Int32) < 0 ∨ cl119.slots.size ≤ ((0 : Int32)).toNatClampNeg) := inb_of S119 ⟨by decide, by decide⟩
      obtain ⟨T119, h119, X119, e119, W119, st119⟩ := stD X118 hx hZ e118 Ar119 (j := (0 : Int32)) hin119 (g := (mkF m 15 #[.val (.int p1), .val (.int p2), .val (.int p3), .val (.int p4), .val (.int p5), .val (.int (2 : Int32)), .unset, .unset, .unset, .unset, .unset, .unset, .unset] [(.double (FP.i2d p1)), (.int (0 : Int32)), (.ref b118), (.ref b118)])) rfl rfl (hb hby at_15)
      have V119 : Arv Z h119 b118 k118 .double (3 : Int32) [(.double (FP.i2d p1)), (.double (0 : UInt64)), (.double (0 : UInt64))] (.double (0 : UInt64)) := Arv.set Ar119 q119 S119 Ng119 Hs119 G119 rfl W119 0 rfl (Nat.le_of_ble_eq_true rfl)
      have N119 := Fr.snoc X119 N0 gx_b118
      have Z119 : n0 ≤ h119.size := Nat.le_trans Z118 (Nat.le_of_eq W119.size.symm)
      refine own_via st119 ?_
      show own_G p e below _ (T119.setTop (mkF m 16 #[.val (.int p1), .val (.int p2), .val (.int p3), .val (.int p4), .val (.int p5), .val (.int (2 : Int32)), .unset, .unset, .unset, .unset, .unset, .unset, .unset] [(.ref b118)]))
      refine own_via (fun t k => XS.dup X119.here hx rfl (hb hby at_16) rfl rfl k) ?_
      show own_G p e below _ (T119.setTop (mkF m 17 #[.val (.int p1), .val (.int p2), .val (.int p3), .val (.int p4), .val (.int p5), .val (.int (2 : Int32)), .unset, .unset, .unset, .unset, .unset, .unset, .unset] [(.ref b118), (.ref b118)]))
      refine own_via (fun t k => XS.iconst X119.here hx rfl (hb hby at_17) k) ?_
      show own_G p e below _ (T119.setTop (mkF m 18 #[.val (.int p1), .val (.int p2), .val (.int p3), .val (.int p4), .val (.int p5), .val (.int (2 : Int32)), .unset, .unset, .unset, .unset, .unset, .unset, .unset] [(.int (1 : Int32)), (.ref b118), (.ref b118)]))
      refine own_via (fun t k => XS.iloadN X119.here hx rfl (hb hby at_18) rfl k) ?_
      show own_G p e below _ (T119.setTop (mkF m 19 #[.val (.int p1), .val (.int p2), .val (.int p3), .val (.int p4), .val (.int p5), .val (.int (2 : Int32)), .unset, .unset, .unset, .unset, .unset, .unset, .unset] [(.int p2), (.int (1 : Int32)), (.ref b118), (.ref b118)]))
      refine own_via (fun t k => XS.i2dS X119.here hx rfl (hb hby at_19) rfl rfl k) ?_
      show own_G p e below _ (T119.setTop (mkF m 20 #[.val (.int p1), .val (.int p2), .val (.int p3), .val (.int p4), .val (.int p5), .val (.int (2 : Int32)), .unset, .unset, .unset, .unset, .unset, .unset, .unset] [(.double (FP.i2d p2)), (.int (1 : Int32)), (.ref b118), (.ref b118)]))
      obtain ⟨cl120, Ar120, q120, S120, Ng120, Hs120, G120⟩ := id V119
      have hin120 : ¬ ((1 : Int32) < 0 ∨ cl120.slots.size ≤ ((1 : Int32)).toNatClampNeg) := inb_of S120 ⟨by decide, by decide⟩
      obtain ⟨T120, h120, X120, e120, W120, st120⟩ := stD X119 hx hZ e119 Ar120 (j := (1 : Int32)) hin120 (g := (mkF m 20 #[.val (.int p1), .val (.int p2), .val (.int p3), .val (.int p4), .val (.int p5), .val (.int (2 : Int32)), .unset, .unset, .unset, .unset, .unset, .unset, .unset] [(.double (FP.i2d p2)), (.int (1 : Int32)), (.ref b118), (.ref b118)])) rfl rfl (hb hby at_20)
      have V120 : Arv Z h120 b118 k118 .double (3 : Int32) [(.double (FP.i2d p1)), (.double (FP.i2d p2)), (.double (0 : UInt64))] (.double (0 : UInt64)) := Arv.set Ar120 q120 S120 Ng120 Hs120 G120 rfl W120 1 rfl (Nat.le_of_ble_eq_true rfl)
      have N120 := Fr.snoc X120 N119 gx_b118
      have Z120 : n0 ≤ h120.size := Nat.le_trans Z119 (Nat.le_of_eq W120.size.symm)
      refine own_via st120 ?_
      show own_G p e below _ (T120.setTop (mkF m 21 #[.val (.int p1), .val (.int p2), .val (.int p3), .val (.int p4), .val (.int p5), .val (.int (2 : Int32)), .unset, .unset, .unset, .unset, .unset, .unset, .unset] [(.ref b118)]))
      refine own_via (fun t k => XS.dup X120.here hx rfl (hb hby at_21) rfl rfl k) ?_
      show own_G p e below _ (T120.setTop (mkF m 22 #[.val (.int p1), .val (.int p2), .val (.int p3), .val (.int p4), .val (.int p5), .val (.int (2 : Int32)), .unset, .unset, .unset, .unset, .unset, .unset, .unset] [(.ref b118), (.ref b118)]))
      refine own_via (fun t k => XS.iconst X120.here hx rfl (hb hby at_22) k) ?_
      show own_G p e below _ (T120.setTop (mkF m 23 #[.val (.int p1), .val (.int p2), .val (.int p3), .val (.int p4), .val (.int p5), .val (.int (2 : Int32)), .unset, .unset, .unset, .unset, .unset, .unset, .unset] [(.int (2 : Int32)), (.ref b118), (.ref b118)]))
      refine own_via (fun t k => XS.iloadN X120.here hx rfl (hb hby at_23) rfl k) ?_
      show own_G p e below _ (T120.setTop (mkF m 24 #[.val (.int p1), .val (.int p2), .val (.int p3), .val (.int p4), .val (.int p5), .val (.int (2 : Int32)), .unset, .unset, .unset, .unset, .unset, .unset, .unset] [(.int p3), (.int (2 : Int32)), (.ref b118), (.ref b118)]))
      refine own_via (fun t k => XS.i2dS X120.here hx rfl (hb hby at_24) rfl rfl k) ?_
      show own_G p e below _ (T120.setTop (mkF m 25 #[.val (.int p1), .val (.int p2), .val (.int p3), .val (.int p4), .val (.int p5), .val (.int (2 : Int32)), .unset, .unset, .unset, .unset, .unset, .unset, .unset] [(.double (FP.i2d p3)), (.int (2 : Int32)), (.ref b118), (.ref b118)]))
      obtain ⟨cl121, Ar121, q121, S121, Ng121, Hs121, G121⟩ := id V120
      have hin121 : ¬ ((2 : Int32) < 0 ∨ cl121.slots.size ≤ ((2 : Int32)).toNatClampNeg) := inb_of S121 ⟨by decide, by decide⟩
      obtain ⟨T121, h121, X121, e121, W121, st121⟩ := stD X120 hx hZ e120 Ar121 (j := (2 : Int32)) hin121 (g := (mkF m 25 #[.val (.int p1), .val (.int p2), .val (.int p3), .val (.int p4), .val (.int p5), .val (.int (2 : Int32)), .unset, .unset, .unset, .unset, .unset, .unset, .unset] [(.double (FP.i2d p3)), (.int (2 : Int32)), (.ref b118), (.ref b118)])) rfl rfl (hb hby at_25)
      have V121 : Arv Z h121 b118 k118 .double (3 : Int32) [(.double (FP.i2d p1)), (.double (FP.i2d p2)), (.double (FP.i2d p3))] (.double (0 : UInt64)) := Arv.set Ar121 q121 S121 Ng121 Hs121 G121 rfl W121 2 rfl (Nat.le_of_ble_eq_true rfl)
      have N121 := Fr.snoc X121 N120 gx_b118
      have Z121 : n0 ≤ h121.size := Nat.le_trans Z120 (Nat.le_of_eq W121.size.symm)
      refine own_via st121 ?_
      show own_G p e below _ (T121.setTop (mkF m 26 #[.val (.int p1), .val (.int p2), .val (.int p3), .val (.int p4), .val (.int p5), .val (.int (2 : Int32)), .unset, .unset, .unset, .unset, .unset, .unset, .unset] [(.ref b118)]))
      refine own_via (fun t k => XS.astore X121.here hx rfl (hb hby at_26) rfl rfl (l' := #[.val (.int p1), .val (.int p2), .val (.int p3), .val (.int p4), .val (.int p5), .val (.int (2 : Int32)), .val (.ref b118), .unset, .unset, .unset, .unset, .unset, .unset]) rfl k) ?_
      show own_G p e below _ (T121.setTop (mkF m 28 #[.val (.int p1), .val (.int p2), .val (.int p3), .val (.int p4), .val (.int p5), .val (.int (2 : Int32)), .val (.ref b118), .unset, .unset, .unset, .unset, .unset, .unset] []))
      refine own_via (fun t k => XS.iload X121.here hx rfl (hb hby at_28) rfl k) ?_
      show own_G p e below _ (T121.setTop (mkF m 30 #[.val (.int p1), .val (.int p2), .val (.int p3), .val (.int p4), .val (.int p5), .val (.int (2 : Int32)), .val (.ref b118), .unset, .unset, .unset, .unset, .unset, .unset] [(.int (2 : Int32))]))
      refine own_via (fun t k => XS.ifYes X121.here hx rfl (pc0 := 30) (pc' := 37) rfl (hb hby at_30) rfl ((if0 _ _).trans (feq (by decide : ¬ ((2 : Int32) = (0 : Int32)))).2) (by decide) (by decide) k) ?_
      show own_G p e below _ (T121.setTop (mkF m 37 #[.val (.int p1), .val (.int p2), .val (.int p3), .val (.int p4), .val (.int p5), .val (.int (2 : Int32)), .val (.ref b118), .unset, .unset, .unset, .unset, .unset, .unset] []))
      refine own_via (fun t k => XS.iload X121.here hx rfl (hb hby at_37) rfl k) ?_
      show own_G p e below _ (T121.setTop (mkF m 39 #[.val (.int p1), .val (.int p2), .val (.int p3), .val (.int p4), .val (.int p5), .val (.int (2 : Int32)), .val (.ref b118), .unset, .unset, .unset, .unset, .unset, .unset] [(.int (2 : Int32))]))
      refine own_via (fun t k => XS.iconst X121.here hx rfl (hb hby at_39) k) ?_
      show own_G p e below _ (T121.setTop (mkF m 40 #[.val (.int p1), .val (.int p2), .val (.int p3), .val (.int p4), .val (.int p5), .val (.int (2 : Int32)), .val (.ref b118), .unset, .unset, .unset, .unset, .unset, .unset] [(.int (1 : Int32)), (.int (2 : Int32))]))
      refine own_via (fun t k => XS.icmpYes X121.here hx rfl (pc0 := 40) (pc' := 47) rfl (hb hby at_40) rfl (feq (by decide : ¬ ((2 : Int32) = (1 : Int32)))).2 (by decide) (by decide) k) ?_
      show own_G p e below _ (T121.setTop (mkF m 47 #[.val (.int p1), .val (.int p2), .val (.int p3), .val (.int p4), .val (.int p5), .val (.int (2 : Int32)), .val (.ref b118), .unset, .unset, .unset, .unset, .unset, .unset] []))
      refine own_via (fun t k => XS.iloadN X121.here hx rfl (hb hby at_47) rfl k) ?_
      show own_G p e below _ (T121.setTop (mkF m 48 #[.val (.int p1), .val (.int p2), .val (.int p3), .val (.int p4), .val (.int p5), .val (.int (2 : Int32)), .val (.ref b118), .unset, .unset, .unset, .unset, .unset, .unset] [(.int p3)]))
      refine own_via (fun t k => XS.istore X121.here hx rfl (hb hby at_48) rfl (l' := #[.val (.int p1), .val (.int p2), .val (.int p3), .val (.int p4), .val (.int p5), .val (.int (2 : Int32)), .val (.ref b118), .val (.int p3), .unset, .unset, .unset, .unset, .unset]) rfl k) ?_
      show own_G p e below _ (T121.setTop (mkF m 50 #[.val (.int p1), .val (.int p2), .val (.int p3), .val (.int p4), .val (.int p5), .val (.int (2 : Int32)), .val (.ref b118), .val (.int p3), .unset, .unset, .unset, .unset, .unset] []))
      refine own_via (fun t k => XS.aload X121.here hx rfl (hb hby at_50) rfl rfl k) ?_
      show own_G p e below _ (T121.setTop (mkF m 52 #[.val (.int p1), .val (.int p2), .val (.int p3), .val (.int p4), .val (.int p5), .val (.int (2 : Int32)), .val (.ref b118), .val (.int p3), .unset, .unset, .unset, .unset, .unset] [(.ref b118)]))
      refine own_via (fun t k => XS.iload X121.here hx rfl (hb hby at_52) rfl k) ?_
      show own_G p e below _ (T121.setTop (mkF m 54 #[.val (.int p1), .val (.int p2), .val (.int p3), .val (.int p4), .val (.int p5), .val (.int (2 : Int32)), .val (.ref b118), .val (.int p3), .unset, .unset, .unset, .unset, .unset] [(.int (2 : Int32)), (.ref b118)]))
      refine own_via (fun t k => XS.iload X121.here hx rfl (hb hby at_54) rfl k) ?_
      show own_G p e below _ (T121.setTop (mkF m 56 #[.val (.int p1), .val (.int p2), .val (.int p3), .val (.int p4), .val (.int p5), .val (.int (2 : Int32)), .val (.ref b118), .val (.int p3), .unset, .unset, .unset, .unset, .unset] [(.int p5), (.int (2 : Int32)), (.ref b118)]))
      refine own_via (fun t k => XS.i2dS X121.here hx rfl (hb hby at_56) rfl rfl k) ?_
      show own_G p e below _ (T121.setTop (mkF m 57 #[.val (.int p1), .val (.int p2), .val (.int p3), .val (.int p4), .val (.int p5), .val (.int (2 : Int32)), .val (.ref b118), .val (.int p3), .unset, .unset, .unset, .unset, .unset] [(.double (FP.i2d p5)), (.int (2 : Int32)), (.ref b118)]))
      obtain ⟨_, _, ⟨T124, L124, k124, n124⟩, -, X124, ⟨Lc124, hQ124, l124, y124, z124⟩, st124⟩ := Jvm.LawKit.callS X121 hx (y := (⟨"com/example/odds2/odds2/engine/Bounds", "tightenLower", "([DID)Z"⟩ : MethodName)) hown (mvT hZ (hw _ (List.mem_of_getElem? (i := 2) rfl))) (mvT hZ (hw _ (List.mem_of_getElem? (i := 3) rfl))) (mvT hZ (hw _ (List.mem_of_getElem? (i := 4) rfl))) (mvT hZ (hw _ (List.mem_of_getElem? (i := 5) rfl))) (by decide) (backOf (W := 0) (rm1_2lt l Z a0 hw [] b118 p1 p2 p3 p5 k118 h121 n0 Z121 V121 gx_b118 hob) hZ (hw _ (List.mem_of_getElem? (i := 5) rfl)) (hw _ (List.mem_of_getElem? (i := 4) rfl)) (by decide) (by decide)) (g := (mkF m 57 #[.val (.int p1), .val (.int p2), .val (.int p3), .val (.int p4), .val (.int p5), .val (.int (2 : Int32)), .val (.ref b118), .val (.int p3), .unset, .unset, .unset, .unset, .unset] [(.double (FP.i2d p5)), (.int (2 : Int32)), (.ref b118)])) rfl (by rw [hml]; rfl) (argsL := [(.ref b118), (.int (2 : Int32)), (.double (FP.i2d p5))]) (rest := []) (lenOf pd_rm0_0 rfl) rfl (by show 2 * 0 + _ ≤ _; exact Nat.le_of_eq rfl) (hb hby at_57) (fun _ _ => ⟨rfl, e121, (by decide : 1 + 0 ≤ _), (by decide : 3 + 0 ≤ _)⟩)
      dsimp only [Pt.U, Pt.locs, Pt.cells, Pt.slots] at X124 l124 y124 z124 st124 hQ124
      subst l124 y124 z124
      obtain ⟨rfl, N124q, K124, V124⟩ := hQ124
      have N124 := Fr.app N121 N124q
      have Z124 : n0 ≤ T124.heap.size := Nat.le_trans Z121 K124.1
      refine own_via st124 ?_
      show own_G p e below _ (T124.setTop (mkF m 60 #[.val (.int p1), .val (.int p2), .val (.int p3), .val (.int p4), .val (.int p5), .val (.int (2 : Int32)), .val (.ref b118), .val (.int p3), .unset, .unset, .unset, .unset, .unset] [(.int (0 : Int32))]))
      refine own_via (fun t k => XS.istore X124.here hx rfl (hb hby at_60) rfl (l' := #[.val (.int p1), .val (.int p2), .val (.int p3), .val (.int p4), .val (.int p5), .val (.int (2 : Int32)), .val (.ref b118), .val (.int p3), .val (.int (0 : Int32)), .unset, .unset, .unset, .unset]) rfl k) ?_
      show own_G p e below _ (T124.setTop (mkF m 62 #[.val (.int p1), .val (.int p2), .val (.int p3), .val (.int p4), .val (.int p5), .val (.int (2 : Int32)), .val (.ref b118), .val (.int p3), .val (.int (0 : Int32)), .unset, .unset, .unset, .unset] []))
      refine own_via (fun t k => XS.iload X124.here hx rfl (hb hby at_62) rfl k) ?_
      show own_G p e below _ (T124.setTop (mkF m 64 #[.val (.int p1), .val (.int p2), .val (.int p3), .val (.int p4), .val (.int p5), .val (.int (2 : Int32)), .val (.ref b118), .val (.int p3), .val (.int (0 : Int32)), .unset, .unset, .unset, .unset] [(.int (2 : Int32))]))
      refine own_via (fun t k => XS.ifYes X124.here hx rfl (pc0 := 64) (pc' := 76) rfl (hb hby at_64) rfl ((if0 _ _).trans (feq (by decide : ¬ ((2 : Int32) = (0 : Int32)))).2) (by decide) (by decide) k) ?_
      show own_G p e below _ (T124.setTop (mkF m 76 #[.val (.int p1), .val (.int p2), .val (.int p3), .val (.int p4), .val (.int p5), .val (.int (2 : Int32)), .val (.ref b118), .val (.int p3), .val (.int (0 : Int32)), .unset, .unset, .unset, .unset] []))
      refine own_via (fun t k => XS.iloadN X124.here hx rfl (hb hby at_76) rfl k) ?_
      show own_G p e below _ (T124.setTop (mkF m 77 #[.val (.int p1), .val (.int p2), .val (.int p3), .val (.int p4), .val (.int p5), .val (.int (2 : Int32)), .val (.ref b118), .val (.int p3), .val (.int (0 : Int32)), .unset, .unset, .unset, .unset] [(.int p1)]))
      refine own_via (fun t k => XS.istore X124.here hx rfl (hb hby at_77) rfl (l' := #[.val (.int p1), .val (.int p2), .val (.int p3), .val (.int p4), .val (.int p5), .val (.int (2 : Int32)), .val (.ref b118), .val (.int p3), .val (.int (0 : Int32)), .val (.int p1), .unset, .unset, .unset]) rfl k) ?_
      show own_G p e below _ (T124.setTop (mkF m 79 #[.val (.int p1), .val (.int p2), .val (.int p3), .val (.int p4), .val (.int p5), .val (.int (2 : Int32)), .val (.ref b118), .val (.int p3), .val (.int (0 : Int32)), .val (.int p1), .unset, .unset, .unset] []))
      refine own_via (fun t k => XS.iload X124.here hx rfl (hb hby at_79) rfl k) ?_
      show own_G p e below _ (T124.setTop (mkF m 81 #[.val (.int p1), .val (.int p2), .val (.int p3), .val (.int p4), .val (.int p5), .val (.int (2 : Int32)), .val (.ref b118), .val (.int p3), .val (.int (0 : Int32)), .val (.int p1), .unset, .unset, .unset] [(.int (2 : Int32))]))
      refine own_via (fun t k => XS.iconst X124.here hx rfl (hb hby at_81) k) ?_
      show own_G p e below _ (T124.setTop (mkF m 82 #[.val (.int p1), .val (.int p2), .val (.int p3), .val (.int p4), .val (.int p5), .val (.int (2 : Int32)), .val (.ref b118), .val (.int p3), .val (.int (0 : Int32)), .val (.int p1), .unset, .unset, .unset] [(.int (1 : Int32)), (.int (2 : Int32))]))
      refine own_via (fun t k => XS.icmpYes X124.here hx rfl (pc0 := 82) (pc' := 94) rfl (hb hby at_82) rfl (feq (by decide : ¬ ((2 : Int32) = (1 : Int32)))).2 (by decide) (by decide) k) ?_
      show own_G p e below _ (T124.setTop (mkF m 94 #[.val (.int p1), .val (.int p2), .val (.int p3), .val (.int p4), .val (.int p5), .val (.int (2 : Int32)), .val (.ref b118), .val (.int p3), .val (.int (0 : Int32)), .val (.int p1), .unset, .unset, .unset] []))
      refine own_via (fun t k => XS.iloadN X124.here hx rfl (hb hby at_94) rfl k) ?_
      show own_G p e below _ (T124.setTop (mkF m 95 #[.val (.int p1), .val (.int p2), .val (.int p3), .val (.int p4), .val (.int p5), .val (.int (2 : Int32)), .val (.ref b118), .val (.int p3), .val (.int (0 : Int32)), .val (.int p1), .unset, .unset, .unset] [(.int p2)]))
      refine own_via (fun t k => XS.istore X124.here hx rfl (hb hby at_95) rfl (l' := #[.val (.int p1), .val (.int p2), .val (.int p3), .val (.int p4), .val (.int p5), .val (.int (2 : Int32)), .val (.ref b118), .val (.int p3), .val (.int (0 : Int32)), .val (.int p1), .val (.int p2), .unset, .unset]) rfl k) ?_
      show own_G p e below _ (T124.setTop (mkF m 97 #[.val (.int p1), .val (.int p2), .val (.int p3), .val (.int p4), .val (.int p5), .val (.int (2 : Int32)), .val (.ref b118), .val (.int p3), .val (.int (0 : Int32)), .val (.int p1), .val (.int p2), .unset, .unset] []))
      refine own_via (fun t k => XS.iload X124.here hx rfl (hb hby at_97) rfl k) ?_
      show own_G p e below _ (T124.setTop (mkF m 99 #[.val (.int p1), .val (.int p2), .val (.int p3), .val (.int p4), .val (.int p5), .val (.int (2 : Int32)), .val (.ref b118), .val (.int p3), .val (.int (0 : Int32)), .val (.int p1), .val (.int p2), .unset, .unset] [(.int (2 : Int32))]))
      refine own_via (fun t k => XS.iconst X124.here hx rfl (hb hby at_99) k) ?_
      show own_G p e below _ (T124.setTop (mkF m 100 #[.val (.int p1), .val (.int p2), .val (.int p3), .val (.int p4), .val (.int p5), .val (.int (2 : Int32)), .val (.ref b118), .val (.int p3), .val (.int (0 : Int32)), .val (.int p1), .val (.int p2), .unset, .unset] [(.int (2 : Int32)), (.int (2 : Int32))]))
      refine own_via (fun t k => XS.icmpNo X124.here hx rfl (hb hby at_100) rfl (teq (by decide : (2 : Int32) = (2 : Int32))).2 k) ?_
      show own_G p e below _ (T124.setTop (mkF m 103 #[.val (.int p1), .val (.int p2), .val (.int p3), .val (.int p4), .val (.int p5), .val (.int (2 : Int32)), .val (.ref b118), .val (.int p3), .val (.int (0 : Int32)), .val (.int p1), .val (.int p2), .unset, .unset] []))
      refine own_via (fun t k => XS.iloadN X124.here hx rfl (hb hby at_103) rfl k) ?_
      show own_G p e below _ (T124.setTop (mkF m 104 #[.val (.int p1), .val (.int p2), .val (.int p3), .val (.int p4), .val (.int p5), .val (.int (2 : Int32)), .val (.ref b118), .val (.int p3), .val (.int (0 : Int32)), .val (.int p1), .val (.int p2), .unset, .unset] [(.int p3)]))
      refine own_via (fun t k => XS.iload X124.here hx rfl (hb hby at_104) rfl k) ?_
      show own_G p e below _ (T124.setTop (mkF m 106 #[.val (.int p1), .val (.int p2), .val (.int p3), .val (.int p4), .val (.int p5), .val (.int (2 : Int32)), .val (.ref b118), .val (.int p3), .val (.int (0 : Int32)), .val (.int p1), .val (.int p2), .unset, .unset] [(.int p5), (.int p3)]))
      obtain ⟨_, _, ⟨T129, L129, k129, n129⟩, -, X129, ⟨Lc129, hQ129, l129, y129, z129⟩, st129⟩ := Jvm.LawKit.callS X124 hx (y := (⟨"java/lang/Math", "max", "(II)I"⟩ : MethodName)) hown (mvT hZ (hw _ (List.mem_of_getElem? (i := 6) rfl))) (mvT hZ (hw _ (List.mem_of_getElem? (i := 7) rfl))) (mvT hZ (hw _ (List.mem_of_getElem? (i := 8) rfl))) (mvT hZ (hw _ (List.mem_of_getElem? (i := 9) rfl))) (by decide) (backOf (W := 0) (rm2 l Z a0 hw [] p3 p5 T124.heap n0 Z124) hZ (hw _ (List.mem_of_getElem? (i := 9) rfl)) (hw _ (List.mem_of_getElem? (i := 8) rfl)) (by decide) (by decide)) (g := (mkF m 106 #[.val (.int p1), .val (.int p2), .val (.int p3), .val (.int p4), .val (.int p5), .val (.int (2 : Int32)), .val (.ref b118), .val (.int p3), .val (.int (0 : Int32)), .val (.int p1), .val (.int p2), .unset, .unset] [(.int p5), (.int p3)])) rfl (by rw [hml]; rfl) (argsL := [(.int p3), (.int p5)]) (rest := []) (lenOf pd_rm0_1 rfl) rfl (by show 2 * 0 + _ ≤ _; exact Nat.le_of_eq rfl) (hb hby at_106) (fun _ _ => ⟨rfl, rfl, (by decide : 1 + 0 ≤ _), (by decide : 3 + 0 ≤ _)⟩)
      dsimp only [Pt.U, Pt.locs, Pt.cells, Pt.slots] at X129 l129 y129 z129 st129 hQ129
      subst l129 y129 z129
      obtain ⟨rfl, N129q, e129⟩ := hQ129
      have N129 := Fr.app N124 N129q
      refine own_via st129 ?_
      show own_G p e below _ (T129.setTop (mkF m 109 #[.val (.int p1), .val (.int p2), .val (.int p3), .val (.int p4), .val (.int p5), .val (.int (2 : Int32)), .val (.ref b118), .val (.int p3), .val (.int (0 : Int32)), .val (.int p1), .val (.int p2), .unset, .unset] [(.int (own_max p3 p5))]))
      rw [show own_max p3 p5 = p3 from if_neg (fun z => Int32.lt_irrefl (Int32.lt_trans hob z))]
      show own_G p e below _ (T129.setTop (mkF m 109 #[.val (.int p1), .val (.int p2), .val (.int p3), .val (.int p4), .val (.int p5), .val (.int (2 : Int32)), .val (.ref b118), .val (.int p3), .val (.int (0 : Int32)), .val (.int p1), .val (.int p2), .unset, .unset] [(.int p3)]))
      refine own_via (fun t k => XS.goto X129.here hx rfl (pc0 := 109) (pc' := 113) rfl (hb hby at_109) (by decide) (by decide) k) ?_
      show own_G p e below _ (T129.setTop (mkF m 113 #[.val (.int p1), .val (.int p2), .val (.int p3), .val (.int p4), .val (.int p5), .val (.int (2 : Int32)), .val (.ref b118), .val (.int p3), .val (.int (0 : Int32)), .val (.int p1), .val (.int p2), .unset, .unset] [(.int p3)]))
      refine own_via (fun t k => XS.istore X129.here hx rfl (hb hby at_113) rfl (l' := #[.val (.int p1), .val (.int p2), .val (.int p3), .val (.int p4), .val (.int p5), .val (.int (2 : Int32)), .val (.ref b118), .val (.int p3), .val (.int (0 : Int32)), .val (.int p1), .val (.int p2), .val (.int p3), .unset]) rfl k) ?_
      show own_G p e below _ (T129.setTop (mkF m 115 #[.val (.int p1), .val (.int p2), .val (.int p3), .val (.int p4), .val (.int p5), .val (.int (2 : Int32)), .val (.ref b118), .val (.int p3), .val (.int (0 : Int32)), .val (.int p1), .val (.int p2), .val (.int p3), .unset] []))
      refine own_via (fun t k => XS.iload X129.here hx rfl (hb hby at_115) rfl k) ?_
      show own_G p e below _ (T129.setTop (mkF m 117 #[.val (.int p1), .val (.int p2), .val (.int p3), .val (.int p4), .val (.int p5), .val (.int (2 : Int32)), .val (.ref b118), .val (.int p3), .val (.int (0 : Int32)), .val (.int p1), .val (.int p2), .val (.int p3), .unset] [(.int p5)]))
      refine own_via (fun t k => XS.iload X129.here hx rfl (hb hby at_117) rfl k) ?_
      show own_G p e below _ (T129.setTop (mkF m 119 #[.val (.int p1), .val (.int p2), .val (.int p3), .val (.int p4), .val (.int p5), .val (.int (2 : Int32)), .val (.ref b118), .val (.int p3), .val (.int (0 : Int32)), .val (.int p1), .val (.int p2), .val (.int p3), .unset] [(.int p3), (.int p5)]))
      refine own_via (fun t k => XS.icmpYes X129.here hx rfl (pc0 := 119) (pc' := 126) rfl (hb hby at_119) rfl (flt (fun z => Int32.lt_irrefl (Int32.lt_trans hob z))).2.2.2 (by decide) (by decide) k) ?_
      show own_G p e below _ (T129.setTop (mkF m 126 #[.val (.int p1), .val (.int p2), .val (.int p3), .val (.int p4), .val (.int p5), .val (.int (2 : Int32)), .val (.ref b118), .val (.int p3), .val (.int (0 : Int32)), .val (.int p1), .val (.int p2), .val (.int p3), .unset] []))
      refine own_via (fun t k => XS.iconst X129.here hx rfl (hb hby at_126) k) ?_
      show own_G p e below _ (T129.setTop (mkF m 127 #[.val (.int p1), .val (.int p2), .val (.int p3), .val (.int p4), .val (.int p5), .val (.int (2 : Int32)), .val (.ref b118), .val (.int p3), .val (.int (0 : Int32)), .val (.int p1), .val (.int p2), .val (.int p3), .unset] [(.int (0 : Int32))]))
      refine own_via (fun t k => XS.istore X129.here hx rfl (hb hby at_127) rfl (l' := #[.val (.int p1), .val (.int p2), .val (.int p3), .val (.int p4), .val (.int p5), .val (.int (2 : Int32)), .val (.ref b118), .val (.int p3), .val (.int (0 : Int32)), .val (.int p1), .val (.int p2), .val (.int p3), .val (.int (0 : Int32))]) rfl k) ?_
      show own_G p e below _ (T129.setTop (mkF m 129 #[.val (.int p1), .val (.int p2), .val (.int p3), .val (.int p4), .val (.int p5), .val (.int (2 : Int32)), .val (.ref b118), .val (.int p3), .val (.int (0 : Int32)), .val (.int p1), .val (.int p2), .val (.int p3), .val (.int (0 : Int32))] []))
      refine own_via (fun t k => XS.iload X129.here hx rfl (hb hby at_129) rfl k) ?_
      show own_G p e below _ (T129.setTop (mkF m 131 #[.val (.int p1), .val (.int p2), .val (.int p3), .val (.int p4), .val (.int p5), .val (.int (2 : Int32)), .val (.ref b118), .val (.int p3), .val (.int (0 : Int32)), .val (.int p1), .val (.int p2), .val (.int p3), .val (.int (0 : Int32))] [(.int (0 : Int32))]))
      refine own_via (fun t k => XS.iload X129.here hx rfl (hb hby at_131) rfl k) ?_
      show own_G p e below _ (T129.setTop (mkF m 133 #[.val (.int p1), .val (.int p2), .val (.int p3), .val (.int p4), .val (.int p5), .val (.int (2 : Int32)), .val (.ref b118), .val (.int p3), .val (.int (0 : Int32)), .val (.int p1), .val (.int p2), .val (.int p3), .val (.int (0 : Int32))] [(.int (0 : Int32)), (.int (0 : Int32))]))
      refine own_via (fun t k => XS.icmpNo X129.here hx rfl (hb hby at_133) rfl (teq (by decide : (0 : Int32) = (0 : Int32))).2 k) ?_
      show own_G p e below _ (T129.setTop (mkF m 136 #[.val (.int p1), .val (.int p2), .val (.int p3), .val (.int p4), .val (.int p5), .val (.int (2 : Int32)), .val (.ref b118), .val (.int p3), .val (.int (0 : Int32)), .val (.int p1), .val (.int p2), .val (.int p3), .val (.int (0 : Int32))] []))
      refine own_via (fun t k => XS.aload X129.here hx rfl (hb hby at_136) rfl rfl k) ?_
      show own_G p e below _ (T129.setTop (mkF m 138 #[.val (.int p1), .val (.int p2), .val (.int p3), .val (.int p4), .val (.int p5), .val (.int (2 : Int32)), .val (.ref b118), .val (.int p3), .val (.int (0 : Int32)), .val (.int p1), .val (.int p2), .val (.int p3), .val (.int (0 : Int32))] [(.ref b118)]))
      refine own_via (fun t k => XS.iconst X129.here hx rfl (hb hby at_138) k) ?_
      show own_G p e below _ (T129.setTop (mkF m 139 #[.val (.int p1), .val (.int p2), .val (.int p3), .val (.int p4), .val (.int p5), .val (.int (2 : Int32)), .val (.ref b118), .val (.int p3), .val (.int (0 : Int32)), .val (.int p1), .val (.int p2), .val (.int p3), .val (.int (0 : Int32))] [(.int (0 : Int32)), (.ref b118)]))
      obtain ⟨cl132, Ar132, q132, S132, Ng132, Hs132, G132⟩ := id V124
      have hin132 : ¬ ((0 : Int32) < 0 ∨ cl132.slots.size ≤ ((0 : Int32)).toNatClampNeg) := inb_of S132 ⟨by decide, by decide⟩
      have hat132 : cl132.slots[((0 : Int32)).toNatClampNeg]? = some (.double (FP.i2d p1)) := Hs132.at hin132 rfl
      refine own_via (fun t k => X129.daload hx (j := (0 : Int32)) (v := (.double (FP.i2d p1))) (by rw [e129]; exact Ar132.1) (State.isArrayOf_alike hZ.alike Ar132.2.1) Ar132.2.2 hin132 hat132 (g := (mkF m 139 #[.val (.int p1), .val (.int p2), .val (.int p3), .val (.int p4), .val (.int p5), .val (.int (2 : Int32)), .val (.ref b118), .val (.int p3), .val (.int (0 : Int32)), .val (.int p1), .val (.int p2), .val (.int p3), .val (.int (0 : Int32))] [(.int (0 : Int32)), (.ref b118)])) rfl rfl (hb hby at_139) _ k) ?_
      show own_G p e below _ (T129.setTop (mkF m 140 #[.val (.int p1), .val (.int p2), .val (.int p3), .val (.int p4), .val (.int p5), .val (.int (2 : Int32)), .val (.ref b118), .val (.int p3), .val (.int (0 : Int32)), .val (.int p1), .val (.int p2), .val (.int p3), .val (.int (0 : Int32))] [(.double (FP.i2d p1))]))
      refine own_via (fun t k => XS.iload X129.here hx rfl (hb hby at_140) rfl k) ?_
      show own_G p e below _ (T129.setTop (mkF m 142 #[.val (.int p1), .val (.int p2), .val (.int p3), .val (.int p4), .val (.int p5), .val (.int (2 : Int32)), .val (.ref b118), .val (.int p3), .val (.int (0 : Int32)), .val (.int p1), .val (.int p2), .val (.int p3), .val (.int (0 : Int32))] [(.int p1), (.double (FP.i2d p1))]))
      refine own_via (fun t k => XS.i2dS X129.here hx rfl (hb hby at_142) rfl rfl k) ?_
      show own_G p e below _ (T129.setTop (mkF m 143 #[.val (.int p1), .val (.int p2), .val (.int p3), .val (.int p4), .val (.int p5), .val (.int (2 : Int32)), .val (.ref b118), .val (.int p3), .val (.int (0 : Int32)), .val (.int p1), .val (.int p2), .val (.int p3), .val (.int (0 : Int32))] [(.double (FP.i2d p1)), (.double (FP.i2d p1))]))
      refine own_via (fun t k => XS.dcmpS X129.here hx rfl (hb hby at_143) rfl (own_dc_eq rfl _) k) ?_
      show own_G p e below _ (T129.setTop (mkF m 144 #[.val (.int p1), .val (.int p2), .val (.int p3), .val (.int p4), .val (.int p5), .val (.int (2 : Int32)), .val (.ref b118), .val (.int p3), .val (.int (0 : Int32)), .val (.int p1), .val (.int p2), .val (.int p3), .val (.int (0 : Int32))] [(.int (0 : Int32))]))
      refine own_via (fun t k => XS.ifNo X129.here hx rfl (hb hby at_144) rfl ((if0 _ _).trans (teq (by decide : (0 : Int32) = (0 : Int32))).2) k) ?_
      show own_G p e below _ (T129.setTop (mkF m 147 #[.val (.int p1), .val (.int p2), .val (.int p3), .val (.int p4), .val (.int p5), .val (.int (2 : Int32)), .val (.ref b118), .val (.int p3), .val (.int (0 : Int32)), .val (.int p1), .val (.int p2), .val (.int p3), .val (.int (0 : Int32))] []))
      refine own_via (fun t k => XS.aload X129.here hx rfl (hb hby at_147) rfl rfl k) ?_
      show own_G p e below _ (T129.setTop (mkF m 149 #[.val (.int p1), .val (.int p2), .val (.int p3), .val (.int p4), .val (.int p5), .val (.int (2 : Int32)), .val (.ref b118), .val (.int p3), .val (.int (0 : Int32)), .val (.int p1), .val (.int p2), .val (.int p3), .val (.int (0 : Int32))] [(.ref b118)]))
      refine own_via (fun t k => XS.iconst X129.here hx rfl (hb hby at_149) k) ?_
      show own_G p e below _ (T129.setTop (mkF m 150 #[.val (.int p1), .val (.int p2), .val (.int p3), .val (.int p4), .val (.int p5), .val (.int (2 : Int32)), .val (.ref b118), .val (.int p3), .val (.int (0 : Int32)), .val (.int p1), .val (.int p2), .val (.int p3), .val (.int (0 : Int32))] [(.int (1 : Int32)), (.ref b118)]))
      obtain ⟨cl134, Ar134, q134, S134, Ng134, Hs134, G134⟩ := id V124
      have hin134 : ¬ ((1 : Int32) < 0 ∨ cl134.slots.size ≤ ((1 : Int32)).toNatClampNeg) := inb_of S134 ⟨by decide, by decide⟩
      have hat134 : cl134.slots[((1 : Int32)).toNatClampNeg]? = some (.double (FP.i2d p2)) := Hs134.at hin134 rfl
      refine own_via (fun t k => X129.daload hx (j := (1 : Int32)) (v := (.double (FP.i2d p2))) (by rw [e129]; exact Ar134.1) (State.isArrayOf_alike hZ.alike Ar134.2.1) Ar134.2.2 hin134 hat134 (g := (mkF m 150 #[.val (.int p1), .val (.int p2), .val (.int p3), .val (.int p4), .val (.int p5), .val (.int (2 : Int32)), .val (.ref b118), .val (.int p3), .val (.int (0 : Int32)), .val (.int p1), .val (.int p2), .val (.int p3), .val (.int (0 : Int32))] [(.int (1 : Int32)), (.ref b118)])) rfl rfl (hb hby at_150) _ k) ?_
      show own_G p e below _ (T129.setTop (mkF m 151 #[.val (.int p1), .val (.int p2), .val (.int p3), .val (.int p4), .val (.int p5), .val (.int (2 : Int32)), .val (.ref b118), .val (.int p3), .val (.int (0 : Int32)), .val (.int p1), .val (.int p2), .val (.int p3), .val (.int (0 : Int32))] [(.double (FP.i2d p2))]))
      refine own_via (fun t k => XS.iload X129.here hx rfl (hb hby at_151) rfl k) ?_
      show own_G p e below _ (T129.setTop (mkF m 153 #[.val (.int p1), .val (.int p2), .val (.int p3), .val (.int p4), .val (.int p5), .val (.int (2 : Int32)), .val (.ref b118), .val (.int p3), .val (.int (0 : Int32)), .val (.int p1), .val (.int p2), .val (.int p3), .val (.int (0 : Int32))] [(.int p2), (.double (FP.i2d p2))]))
      refine own_via (fun t k => XS.i2dS X129.here hx rfl (hb hby at_153) rfl rfl k) ?_
      show own_G p e below _ (T129.setTop (mkF m 154 #[.val (.int p1), .val (.int p2), .val (.int p3), .val (.int p4), .val (.int p5), .val (.int (2 : Int32)), .val (.ref b118), .val (.int p3), .val (.int (0 : Int32)), .val (.int p1), .val (.int p2), .val (.int p3), .val (.int (0 : Int32))] [(.double (FP.i2d p2)), (.double (FP.i2d p2))]))
      refine own_via (fun t k => XS.dcmpS X129.here hx rfl (hb hby at_154) rfl (own_dc_eq rfl _) k) ?_
      show own_G p e below _ (T129.setTop (mkF m 155 #[.val (.int p1), .val (.int p2), .val (.int p3), .val (.int p4), .val (.int p5), .val (.int (2 : Int32)), .val (.ref b118), .val (.int p3), .val (.int (0 : Int32)), .val (.int p1), .val (.int p2), .val (.int p3), .val (.int (0 : Int32))] [(.int (0 : Int32))]))
      refine own_via (fun t k => XS.ifNo X129.here hx rfl (hb hby at_155) rfl ((if0 _ _).trans (teq (by decide : (0 : Int32) = (0 : Int32))).2) k) ?_
      show own_G p e below _ (T129.setTop (mkF m 158 #[.val (.int p1), .val (.int p2), .val (.int p3), .val (.int p4), .val (.int p5), .val (.int (2 : Int32)), .val (.ref b118), .val (.int p3), .val (.int (0 : Int32)), .val (.int p1), .val (.int p2), .val (.int p3), .val (.int (0 : Int32))] []))
      refine own_via (fun t k => XS.aload X129.here hx rfl (hb hby at_158) rfl rfl k) ?_
      show own_G p e below _ (T129.setTop (mkF m 160 #[.val (.int p1), .val (.int p2), .val (.int p3), .val (.int p4), .val (.int p5), .val (.int (2 : Int32)), .val (.ref b118), .val (.int p3), .val (.int (0 : Int32)), .val (.int p1), .val (.int p2), .val (.int p3), .val (.int (0 : Int32))] [(.ref b118)]))
      refine own_via (fun t k => XS.iconst X129.here hx rfl (hb hby at_160) k) ?_
      show own_G p e below _ (T129.setTop (mkF m 161 #[.val (.int p1), .val (.int p2), .val (.int p3), .val (.int p4), .val (.int p5), .val (.int (2 : Int32)), .val (.ref b118), .val (.int p3), .val (.int (0 : Int32)), .val (.int p1), .val (.int p2), .val (.int p3), .val (.int (0 : Int32))] [(.int (2 : Int32)), (.ref b118)]))
      obtain ⟨cl136, Ar136, q136, S136, Ng136, Hs136, G136⟩ := id V124
      have hin136 : ¬ ((2 : Int32) < 0 ∨ cl136.slots.size ≤ ((2 : Int32)).toNatClampNeg) := inb_of S136 ⟨by decide, by decide⟩
      have hat136 : cl136.slots[((2 : Int32)).toNatClampNeg]? = some (.double (FP.i2d p3)) := Hs136.at hin136 rfl
      refine own_via (fun t k => X129.daload hx (j := (2 : Int32)) (v := (.double (FP.i2d p3))) (by rw [e129]; exact Ar136.1) (State.isArrayOf_alike hZ.alike Ar136.2.1) Ar136.2.2 hin136 hat136 (g := (mkF m 161 #[.val (.int p1), .val (.int p2), .val (.int p3), .val (.int p4), .val (.int p5), .val (.int (2 : Int32)), .val (.ref b118), .val (.int p3), .val (.int (0 : Int32)), .val (.int p1), .val (.int p2), .val (.int p3), .val (.int (0 : Int32))] [(.int (2 : Int32)), (.ref b118)])) rfl rfl (hb hby at_161) _ k) ?_
      show own_G p e below _ (T129.setTop (mkF m 162 #[.val (.int p1), .val (.int p2), .val (.int p3), .val (.int p4), .val (.int p5), .val (.int (2 : Int32)), .val (.ref b118), .val (.int p3), .val (.int (0 : Int32)), .val (.int p1), .val (.int p2), .val (.int p3), .val (.int (0 : Int32))] [(.double (FP.i2d p3))]))
      refine own_via (fun t k => XS.iload X129.here hx rfl (hb hby at_162) rfl k) ?_
      show own_G p e below _ (T129.setTop (mkF m 164 #[.val (.int p1), .val (.int p2), .val (.int p3), .val (.int p4), .val (.int p5), .val (.int (2 : Int32)), .val (.ref b118), .val (.int p3), .val (.int (0 : Int32)), .val (.int p1), .val (.int p2), .val (.int p3), .val (.int (0 : Int32))] [(.int p3), (.double (FP.i2d p3))]))
      refine own_via (fun t k => XS.i2dS X129.here hx rfl (hb hby at_164) rfl rfl k) ?_
      show own_G p e below _ (T129.setTop (mkF m 165 #[.val (.int p1), .val (.int p2), .val (.int p3), .val (.int p4), .val (.int p5), .val (.int (2 : Int32)), .val (.ref b118), .val (.int p3), .val (.int (0 : Int32)), .val (.int p1), .val (.int p2), .val (.int p3), .val (.int (0 : Int32))] [(.double (FP.i2d p3)), (.double (FP.i2d p3))]))
      refine own_via (fun t k => XS.dcmpS X129.here hx rfl (hb hby at_165) rfl (own_dc_eq rfl _) k) ?_
      show own_G p e below _ (T129.setTop (mkF m 166 #[.val (.int p1), .val (.int p2), .val (.int p3), .val (.int p4), .val (.int p5), .val (.int (2 : Int32)), .val (.ref b118), .val (.int p3), .val (.int (0 : Int32)), .val (.int p1), .val (.int p2), .val (.int p3), .val (.int (0 : Int32))] [(.int (0 : Int32))]))
      refine own_via (fun t k => XS.ifNo X129.here hx rfl (hb hby at_166) rfl ((if0 _ _).trans (teq (by decide : (0 : Int32) = (0 : Int32))).2) k) ?_
      show own_G p e below _ (T129.setTop (mkF m 169 #[.val (.int p1), .val (.int p2), .val (.int p3), .val (.int p4), .val (.int p5), .val (.int (2 : Int32)), .val (.ref b118), .val (.int p3), .val (.int (0 : Int32)), .val (.int p1), .val (.int p2), .val (.int p3), .val (.int (0 : Int32))] []))
      refine own_via (fun t k => XS.iconst X129.here hx rfl (hb hby at_169) k) ?_
      show own_G p e below _ (T129.setTop (mkF m 170 #[.val (.int p1), .val (.int p2), .val (.int p3), .val (.int p4), .val (.int p5), .val (.int (2 : Int32)), .val (.ref b118), .val (.int p3), .val (.int (0 : Int32)), .val (.int p1), .val (.int p2), .val (.int p3), .val (.int (0 : Int32))] [(.int (1 : Int32))]))
      refine own_via (fun t k => XS.goto X129.here hx rfl (pc0 := 170) (pc' := 174) rfl (hb hby at_170) (by decide) (by decide) k) ?_
      show own_G p e below _ (T129.setTop (mkF m 174 #[.val (.int p1), .val (.int p2), .val (.int p3), .val (.int p4), .val (.int p5), .val (.int (2 : Int32)), .val (.ref b118), .val (.int p3), .val (.int (0 : Int32)), .val (.int p1), .val (.int p2), .val (.int p3), .val (.int (0 : Int32))] [(.int (1 : Int32))]))
      obtain ⟨fs, hr, hrun, hended, hW, hsame⟩ := X129.leave (v := some (.int (1 : Int32))) (fun h => by rw [Bd.returns] at h; cases h)
      refine ⟨_, _, retN X129 hx (t := .boolean) Bd.returns (by simp) (hb hby at_174) hr, hrun, hended, _, _, rfl, ?_, ⟨_, rfl⟩, hW, hsame.mono (by decide) (by decide)⟩
      show rm0_Q Z p1 p2 p3 p4 p5 h0 n0 _ T129.heap _
      rw [e129]
      exact ⟨rfl, N129⟩
    · rw [hk]
      show own_G p e below _ (s₁.setTop (mkF m 6 #[.val (.int p1), .val (.int p2), .val (.int p3), .val (.int p4), .val (.int p5), .unset, .unset, .unset, .unset, .unset, .unset, .unset, .unset] [(.int (2 : Int32))]))
      refine own_via (fun t k => XS.istore X0.here hx rfl (hb hby at_6) rfl (l' := #[.val (.int p1), .val (.int p2), .val (.int p3), .val (.int p4), .val (.int p5), .val (.int (2 : Int32)), .unset, .unset, .unset, .unset, .unset, .unset, .unset]) rfl k) ?_
      show own_G p e below _ (s₁.setTop (mkF m 8 #[.val (.int p1), .val (.int p2), .val (.int p3), .val (.int p4), .val (.int p5), .val (.int (2 : Int32)), .unset, .unset, .unset, .unset, .unset, .unset, .unset] []))
      refine own_via (fun t k => XS.iconst X0.here hx rfl (hb hby at_8) k) ?_
      show own_G p e below _ (s₁.setTop (mkF m 9 #[.val (.int p1), .val (.int p2), .val (.int p3), .val (.int p4), .val (.int p5), .val (.int (2 : Int32)), .unset, .unset, .unset, .unset, .unset, .unset, .unset] [(.int (3 : Int32))]))
      obtain ⟨T138, h138, k138, X138, e138, E138, A138, st138⟩ := newP X0 hx hZ (hw _ (List.mem_of_getElem? (i := 1) rfl)) e0 (g := (mkF m 9 #[.val (.int p1), .val (.int p2), .val (.int p3), .val (.int p4), .val (.int p5), .val (.int (2 : Int32)), .unset, .unset, .unset, .unset, .unset, .unset, .unset] [(.int (3 : Int32))])) rfl (hb hby at_9) rfl (by decide) (cap := 3) (by decide) (by decide) (by decide) (by decide)
      obtain ⟨b138, g138⟩ : ∃ z, z = h0.size := ⟨_, rfl⟩
      rw [← g138] at A138 st138
      have gx_b138 : n0 ≤ b138 := Nat.le_trans Z0 (Nat.le_of_eq g138.symm)
      have Z138 : n0 ≤ h138.size := Nat.le_trans Z0 E138.1
      have V138 : Arv Z h138 b138 k138 .double (3 : Int32) [(.double (0 : UInt64)), (.double (0 : UInt64)), (.double (0 : UInt64))] (.double (0 : UInt64)) := (Arv.new A138 (by decide)).pad (pad_rep [] (.double (0 : UInt64)) 3)
      refine own_via st138 ?_
      show own_G p e below _ (T138.setTop (mkF m 11 #[.val (.int p1), .val (.int p2), .val (.int p3), .val (.int p4), .val (.int p5), .val (.int (2 : Int32)), .unset, .unset, .unset, .unset, .unset, .unset, .unset] [(.ref b138)]))
      refine own_via (fun t k => XS.dup X138.here hx rfl (hb hby at_11) rfl rfl k) ?_
      show own_G p e below _ (T138.setTop (mkF m 12 #[.val (.int p1), .val (.int p2), .val (.int p3), .val (.int p4), .val (.int p5), .val (.int (2 : Int32)), .unset, .unset, .unset, .unset, .unset, .unset, .unset] [(.ref b138), (.ref b138)]))
      refine own_via (fun t k => XS.iconst X138.here hx rfl (hb hby at_12) k) ?_
      show own_G p e below _ (T138.setTop (mkF m 13 #[.val (.int p1), .val (.int p2), .val (.int p3), .val (.int p4), .val (.int p5), .val (.int (2 : Int32)), .unset, .unset, .unset, .unset, .unset, .unset, .unset] [(.int (0 : Int32)), (.ref b138), (.ref b138)]))
      refine own_via (fun t k => XS.iloadN X138.here hx rfl (hb hby at_13) rfl k) ?_
      show own_G p e below _ (T138.setTop (mkF m 14 #[.val (.int p1), .val (.int p2), .val (.int p3), .val (.int p4), .val (.int p5), .val (.int (2 : Int32)), .unset, .unset, .unset, .unset, .unset, .unset, .unset] [(.int p1), (.int (0 : Int32)), (.ref b138), (.ref b138)]))
      refine own_via (fun t k => XS.i2dS X138.here hx rfl (hb hby at_14) rfl rfl k) ?_
      show own_G p e below _ (T138.setTop (mkF m 15 #[.val (.int p1), .val (.int p2), .val (.int p3), .val (.int p4), .val (.int p5), .val (.int (2 : Int32)), .unset, .unset, .unset, .unset, .unset, .unset, .unset] [(.double (FP.i2d p1)), (.int (0 : Int32)), (.ref b138), (.ref b138)]))
      obtain ⟨cl139, Ar139, q139, S139, Ng139, Hs139, G139⟩ := id V138
      have hin139 : ¬ ((0 : Int32) < 0 ∨ cl139.slots.size ≤ ((0 : Int32)).toNatClampNeg) := inb_of S139 ⟨by decide, by decide⟩
      obtain ⟨T139, h139, X139, e139, W139, st139⟩ := stD X138 hx hZ e138 Ar139 (j := (0 : Int32)) hin139 (g := (mkF m 15 #[.val (.int p1), .val (.int p2), .val (.int p3), .val (.int p4), .val (.int p5), .val (.int (2 : Int32)), .unset, .unset, .unset, .unset, .unset, .unset, .unset] [(.double (FP.i2d p1)), (.int (0 : Int32)), (.ref b138), (.ref b138)])) rfl rfl (hb hby at_15)
      have V139 : Arv Z h139 b138 k138 .double (3 : Int32) [(.double (FP.i2d p1)), (.double (0 : UInt64)), (.double (0 : UInt64))] (.double (0 : UInt64)) := Arv.set Ar139 q139 S139 Ng139 Hs139 G139 rfl W139 0 rfl (Nat.le_of_ble_eq_true rfl)
      have N139 := Fr.snoc X139 N0 gx_b138
      have Z139 : n0 ≤ h139.size := Nat.le_trans Z138 (Nat.le_of_eq W139.size.symm)
      refine own_via st139 ?_
      show own_G p e below _ (T139.setTop (mkF m 16 #[.val (.int p1), .val (.int p2), .val (.int p3), .val (.int p4), .val (.int p5), .val (.int (2 : Int32)), .unset, .unset, .unset, .unset, .unset, .unset, .unset] [(.ref b138)]))
      refine own_via (fun t k => XS.dup X139.here hx rfl (hb hby at_16) rfl rfl k) ?_
      show own_G p e below _ (T139.setTop (mkF m 17 #[.val (.int p1), .val (.int p2), .val (.int p3), .val (.int p4), .val (.int p5), .val (.int (2 : Int32)), .unset, .unset, .unset, .unset, .unset, .unset, .unset] [(.ref b138), (.ref b138)]))
      refine own_via (fun t k => XS.iconst X139.here hx rfl (hb hby at_17) k) ?_
      show own_G p e below _ (T139.setTop (mkF m 18 #[.val (.int p1), .val (.int p2), .val (.int p3), .val (.int p4), .val (.int p5), .val (.int (2 : Int32)), .unset, .unset, .unset, .unset, .unset, .unset, .unset] [(.int (1 : Int32)), (.ref b138), (.ref b138)]))
      refine own_via (fun t k => XS.iloadN X139.here hx rfl (hb hby at_18) rfl k) ?_
      show own_G p e below _ (T139.setTop (mkF m 19 #[.val (.int p1), .val (.int p2), .val (.int p3), .val (.int p4), .val (.int p5), .val (.int (2 : Int32)), .unset, .unset, .unset, .unset, .unset, .unset, .unset] [(.int p2), (.int (1 : Int32)), (.ref b138), (.ref b138)]))
      refine own_via (fun t k => XS.i2dS X139.here hx rfl (hb hby at_19) rfl rfl k) ?_
      show own_G p e below _ (T139.setTop (mkF m 20 #[.val (.int p1), .val (.int p2), .val (.int p3), .val (.int p4), .val (.int p5), .val (.int (2 : Int32)), .unset, .unset, .unset, .unset, .unset, .unset, .unset] [(.double (FP.i2d p2)), (.int (1 : Int32)), (.ref b138), (.ref b138)]))
      obtain ⟨cl140, Ar140, q140, S140, Ng140, Hs140, G140⟩ := id V139
      have hin140 : ¬ ((1 : Int32) < 0 ∨ cl140.slots.size ≤ ((1 : Int32)).toNatClampNeg) := inb_of S140 ⟨by decide, by decide⟩
      obtain ⟨T140, h140, X140, e140, W140, st140⟩ := stD X139 hx hZ e139 Ar140 (j := (1 : Int32)) hin140 (g := (mkF m 20 #[.val (.int p1), .val (.int p2), .val (.int p3), .val (.int p4), .val (.int p5), .val (.int (2 : Int32)), .unset, .unset, .unset, .unset, .unset, .unset, .unset] [(.double (FP.i2d p2)), (.int (1 : Int32)), (.ref b138), (.ref b138)])) rfl rfl (hb hby at_20)
      have V140 : Arv Z h140 b138 k138 .double (3 : Int32) [(.double (FP.i2d p1)), (.double (FP.i2d p2)), (.double (0 : UInt64))] (.double (0 : UInt64)) := Arv.set Ar140 q140 S140 Ng140 Hs140 G140 rfl W140 1 rfl (Nat.le_of_ble_eq_true rfl)
      have N140 := Fr.snoc X140 N139 gx_b138
      have Z140 : n0 ≤ h140.size := Nat.le_trans Z139 (Nat.le_of_eq W140.size.symm)
      refine own_via st140 ?_
      show own_G p e below _ (T140.setTop (mkF m 21 #[.val (.int p1), .val (.int p2), .val (.int p3), .val (.int p4), .val (.int p5), .val (.int (2 : Int32)), .unset, .unset, .unset, .unset, .unset, .unset, .unset] [(.ref b138)]))
      refine own_via (fun t k => XS.dup X140.here hx rfl (hb hby at_21) rfl rfl k) ?_
      show own_G p e below _ (T140.setTop (mkF m 22 #[.val (.int p1), .val (.int p2), .val (.int p3), .val (.int p4), .val (.int p5), .val (.int (2 : Int32)), .unset, .unset, .unset, .unset, .unset, .unset, .unset] [(.ref b138), (.ref b138)]))
      refine own_via (fun t k => XS.iconst X140.here hx rfl (hb hby at_22) k) ?_
      show own_G p e below _ (T140.setTop (mkF m 23 #[.val (.int p1), .val (.int p2), .val (.int p3), .val (.int p4), .val (.int p5), .val (.int (2 : Int32)), .unset, .unset, .unset, .unset, .unset, .unset, .unset] [(.int (2 : Int32)), (.ref b138), (.ref b138)]))
      refine own_via (fun t k => XS.iloadN X140.here hx rfl (hb hby at_23) rfl k) ?_
      show own_G p e below _ (T140.setTop (mkF m 24 #[.val (.int p1), .val (.int p2), .val (.int p3), .val (.int p4), .val (.int p5), .val (.int (2 : Int32)), .unset, .unset, .unset, .unset, .unset, .unset, .unset] [(.int p3), (.int (2 : Int32)), (.ref b138), (.ref b138)]))
      refine own_via (fun t k => XS.i2dS X140.here hx rfl (hb hby at_24) rfl rfl k) ?_
      show own_G p e below _ (T140.setTop (mkF m 25 #[.val (.int p1), .val (.int p2), .val (.int p3), .val (.int p4), .val (.int p5), .val (.int (2 : Int32)), .unset, .unset, .unset, .unset, .unset, .unset, .unset] [(.double (FP.i2d p3)), (.int (2 : Int32)), (.ref b138), (.ref b138)]))
      obtain ⟨cl141, Ar141, q141, S141, Ng141, Hs141, G141⟩ := id V140
      have hin141 : ¬ ((2 : Int32) < 0 ∨ cl141.slots.size ≤ ((2 : Int32)).toNatClampNeg) := inb_of S141 ⟨by decide, by decide⟩
      obtain ⟨T141, h141, X141, e141, W141, st141⟩ := stD X140 hx hZ e140 Ar141 (j := (2 : Int32)) hin141 (g := (mkF m 25 #[.val (.int p1), .val (.int p2), .val (.int p3), .val (.int p4), .val (.int p5), .val (.int (2 : Int32)), .unset, .unset, .unset, .unset, .unset, .unset, .unset] [(.double (FP.i2d p3)), (.int (2 : Int32)), (.ref b138), (.ref b138)])) rfl rfl (hb hby at_25)
      have V141 : Arv Z h141 b138 k138 .double (3 : Int32) [(.double (FP.i2d p1)), (.double (FP.i2d p2)), (.double (FP.i2d p3))] (.double (0 : UInt64)) := Arv.set Ar141 q141 S141 Ng141 Hs141 G141 rfl W141 2 rfl (Nat.le_of_ble_eq_true rfl)
      have N141 := Fr.snoc X141 N140 gx_b138
      have Z141 : n0 ≤ h141.size := Nat.le_trans Z140 (Nat.le_of_eq W141.size.symm)
      refine own_via st141 ?_
      show own_G p e below _ (T141.setTop (mkF m 26 #[.val (.int p1), .val (.int p2), .val (.int p3), .val (.int p4), .val (.int p5), .val (.int (2 : Int32)), .unset, .unset, .unset, .unset, .unset, .unset, .unset] [(.ref b138)]))
      refine own_via (fun t k => XS.astore X141.here hx rfl (hb hby at_26) rfl rfl (l' := #[.val (.int p1), .val (.int p2), .val (.int p3), .val (.int p4), .val (.int p5), .val (.int (2 : Int32)), .val (.ref b138), .unset, .unset, .unset, .unset, .unset, .unset]) rfl k) ?_
      show own_G p e below _ (T141.setTop (mkF m 28 #[.val (.int p1), .val (.int p2), .val (.int p3), .val (.int p4), .val (.int p5), .val (.int (2 : Int32)), .val (.ref b138), .unset, .unset, .unset, .unset, .unset, .unset] []))
      refine own_via (fun t k => XS.iload X141.here hx rfl (hb hby at_28) rfl k) ?_
      show own_G p e below _ (T141.setTop (mkF m 30 #[.val (.int p1), .val (.int p2), .val (.int p3), .val (.int p4), .val (.int p5), .val (.int (2 : Int32)), .val (.ref b138), .unset, .unset, .unset, .unset, .unset, .unset] [(.int (2 : Int32))]))
      refine own_via (fun t k => XS.ifYes X141.here hx rfl (pc0 := 30) (pc' := 37) rfl (hb hby at_30) rfl ((if0 _ _).trans (feq (by decide : ¬ ((2 : Int32) = (0 : Int32)))).2) (by decide) (by decide) k) ?_
      show own_G p e below _ (T141.setTop (mkF m 37 #[.val (.int p1), .val (.int p2), .val (.int p3), .val (.int p4), .val (.int p5), .val (.int (2 : Int32)), .val (.ref b138), .unset, .unset, .unset, .unset, .unset, .unset] []))
      refine own_via (fun t k => XS.iload X141.here hx rfl (hb hby at_37) rfl k) ?_
      show own_G p e below _ (T141.setTop (mkF m 39 #[.val (.int p1), .val (.int p2), .val (.int p3), .val (.int p4), .val (.int p5), .val (.int (2 : Int32)), .val (.ref b138), .unset, .unset, .unset, .unset, .unset, .unset] [(.int (2 : Int32))]))
      refine own_via (fun t k => XS.iconst X141.here hx rfl (hb hby at_39) k) ?_
      show own_G p e below _ (T141.setTop (mkF m 40 #[.val (.int p1), .val (.int p2), .val (.int p3), .val (.int p4), .val (.int p5), .val (.int (2 : Int32)), .val (.ref b138), .unset, .unset, .unset, .unset, .unset, .unset] [(.int (1 : Int32)), (.int (2 : Int32))]))
      refine own_via (fun t k => XS.icmpYes X141.here hx rfl (pc0 := 40) (pc' := 47) rfl (hb hby at_40) rfl (feq (by decide : ¬ ((2 : Int32) = (1 : Int32)))).2 (by decide) (by decide) k) ?_
      show own_G p e below _ (T141.setTop (mkF m 47 #[.val (.int p1), .val (.int p2), .val (.int p3), .val (.int p4), .val (.int p5), .val (.int (2 : Int32)), .val (.ref b138), .unset, .unset, .unset, .unset, .unset, .unset] []))
      refine own_via (fun t k => XS.iloadN X141.here hx rfl (hb hby at_47) rfl k) ?_
      show own_G p e below _ (T141.setTop (mkF m 48 #[.val (.int p1), .val (.int p2), .val (.int p3), .val (.int p4), .val (.int p5), .val (.int (2 : Int32)), .val (.ref b138), .unset, .unset, .unset, .unset, .unset, .unset] [(.int p3)]))
      refine own_via (fun t k => XS.istore X141.here hx rfl (hb hby at_48) rfl (l' := #[.val (.int p1), .val (.int p2), .val (.int p3), .val (.int p4), .val (.int p5), .val (.int (2 : Int32)), .val (.ref b138), .val (.int p3), .unset, .unset, .unset, .unset, .unset]) rfl k) ?_
      show own_G p e below _ (T141.setTop (mkF m 50 #[.val (.int p1), .val (.int p2), .val (.int p3), .val (.int p4), .val (.int p5), .val (.int (2 : Int32)), .val (.ref b138), .val (.int p3), .unset, .unset, .unset, .unset, .unset] []))
      refine own_via (fun t k => XS.aload X141.here hx rfl (hb hby at_50) rfl rfl k) ?_
      show own_G p e below _ (T141.setTop (mkF m 52 #[.val (.int p1), .val (.int p2), .val (.int p3), .val (.int p4), .val (.int p5), .val (.int (2 : Int32)), .val (.ref b138), .val (.int p3), .unset, .unset, .unset, .unset, .unset] [(.ref b138)]))
      refine own_via (fun t k => XS.iload X141.here hx rfl (hb hby at_52) rfl k) ?_
      show own_G p e below _ (T141.setTop (mkF m 54 #[.val (.int p1), .val (.int p2), .val (.int p3), .val (.int p4), .val (.int p5), .val (.int (2 : Int32)), .val (.ref b138), .val (.int p3), .unset, .unset, .unset, .unset, .unset] [(.int (2 : Int32)), (.ref b138)]))
      refine own_via (fun t k => XS.iload X141.here hx rfl (hb hby at_54) rfl k) ?_
      show own_G p e below _ (T141.setTop (mkF m 56 #[.val (.int p1), .val (.int p2), .val (.int p3), .val (.int p4), .val (.int p5), .val (.int (2 : Int32)), .val (.ref b138), .val (.int p3), .unset, .unset, .unset, .unset, .unset] [(.int p5), (.int (2 : Int32)), (.ref b138)]))
      refine own_via (fun t k => XS.i2dS X141.here hx rfl (hb hby at_56) rfl rfl k) ?_
      show own_G p e below _ (T141.setTop (mkF m 57 #[.val (.int p1), .val (.int p2), .val (.int p3), .val (.int p4), .val (.int p5), .val (.int (2 : Int32)), .val (.ref b138), .val (.int p3), .unset, .unset, .unset, .unset, .unset] [(.double (FP.i2d p5)), (.int (2 : Int32)), (.ref b138)]))
      obtain ⟨_, _, ⟨T144, L144, k144, n144⟩, -, X144, ⟨Lc144, hQ144, l144, y144, z144⟩, st144⟩ := Jvm.LawKit.callS X141 hx (y := (⟨"com/example/odds2/odds2/engine/Bounds", "tightenLower", "([DID)Z"⟩ : MethodName)) hown (mvT hZ (hw _ (List.mem_of_getElem? (i := 2) rfl))) (mvT hZ (hw _ (List.mem_of_getElem? (i := 3) rfl))) (mvT hZ (hw _ (List.mem_of_getElem? (i := 4) rfl))) (mvT hZ (hw _ (List.mem_of_getElem? (i := 5) rfl))) (by decide) (backOf (W := 0) (rm1_2eq l Z a0 hw [] b138 p1 p2 p3 p5 k138 h141 n0 Z141 V141 gx_b138 hob) hZ (hw _ (List.mem_of_getElem? (i := 5) rfl)) (hw _ (List.mem_of_getElem? (i := 4) rfl)) (by decide) (by decide)) (g := (mkF m 57 #[.val (.int p1), .val (.int p2), .val (.int p3), .val (.int p4), .val (.int p5), .val (.int (2 : Int32)), .val (.ref b138), .val (.int p3), .unset, .unset, .unset, .unset, .unset] [(.double (FP.i2d p5)), (.int (2 : Int32)), (.ref b138)])) rfl (by rw [hml]; rfl) (argsL := [(.ref b138), (.int (2 : Int32)), (.double (FP.i2d p5))]) (rest := []) (lenOf pd_rm0_0 rfl) rfl (by show 2 * 0 + _ ≤ _; exact Nat.le_of_eq rfl) (hb hby at_57) (fun _ _ => ⟨rfl, e141, (by decide : 1 + 0 ≤ _), (by decide : 3 + 0 ≤ _)⟩)
      dsimp only [Pt.U, Pt.locs, Pt.cells, Pt.slots] at X144 l144 y144 z144 st144 hQ144
      subst l144 y144 z144
      obtain ⟨rfl, N144q, K144, V144⟩ := hQ144
      have N144 := Fr.app N141 N144q
      have Z144 : n0 ≤ T144.heap.size := Nat.le_trans Z141 K144.1
      refine own_via st144 ?_
      show own_G p e below _ (T144.setTop (mkF m 60 #[.val (.int p1), .val (.int p2), .val (.int p3), .val (.int p4), .val (.int p5), .val (.int (2 : Int32)), .val (.ref b138), .val (.int p3), .unset, .unset, .unset, .unset, .unset] [(.int (0 : Int32))]))
      refine own_via (fun t k => XS.istore X144.here hx rfl (hb hby at_60) rfl (l' := #[.val (.int p1), .val (.int p2), .val (.int p3), .val (.int p4), .val (.int p5), .val (.int (2 : Int32)), .val (.ref b138), .val (.int p3), .val (.int (0 : Int32)), .unset, .unset, .unset, .unset]) rfl k) ?_
      show own_G p e below _ (T144.setTop (mkF m 62 #[.val (.int p1), .val (.int p2), .val (.int p3), .val (.int p4), .val (.int p5), .val (.int (2 : Int32)), .val (.ref b138), .val (.int p3), .val (.int (0 : Int32)), .unset, .unset, .unset, .unset] []))
      refine own_via (fun t k => XS.iload X144.here hx rfl (hb hby at_62) rfl k) ?_
      show own_G p e below _ (T144.setTop (mkF m 64 #[.val (.int p1), .val (.int p2), .val (.int p3), .val (.int p4), .val (.int p5), .val (.int (2 : Int32)), .val (.ref b138), .val (.int p3), .val (.int (0 : Int32)), .unset, .unset, .unset, .unset] [(.int (2 : Int32))]))
      refine own_via (fun t k => XS.ifYes X144.here hx rfl (pc0 := 64) (pc' := 76) rfl (hb hby at_64) rfl ((if0 _ _).trans (feq (by decide : ¬ ((2 : Int32) = (0 : Int32)))).2) (by decide) (by decide) k) ?_
      show own_G p e below _ (T144.setTop (mkF m 76 #[.val (.int p1), .val (.int p2), .val (.int p3), .val (.int p4), .val (.int p5), .val (.int (2 : Int32)), .val (.ref b138), .val (.int p3), .val (.int (0 : Int32)), .unset, .unset, .unset, .unset] []))
      refine own_via (fun t k => XS.iloadN X144.here hx rfl (hb hby at_76) rfl k) ?_
      show own_G p e below _ (T144.setTop (mkF m 77 #[.val (.int p1), .val (.int p2), .val (.int p3), .val (.int p4), .val (.int p5), .val (.int (2 : Int32)), .val (.ref b138), .val (.int p3), .val (.int (0 : Int32)), .unset, .unset, .unset, .unset] [(.int p1)]))
      refine own_via (fun t k => XS.istore X144.here hx rfl (hb hby at_77) rfl (l' := #[.val (.int p1), .val (.int p2), .val (.int p3), .val (.int p4), .val (.int p5), .val (.int (2 : Int32)), .val (.ref b138), .val (.int p3), .val (.int (0 : Int32)), .val (.int p1), .unset, .unset, .unset]) rfl k) ?_
      show own_G p e below _ (T144.setTop (mkF m 79 #[.val (.int p1), .val (.int p2), .val (.int p3), .val (.int p4), .val (.int p5), .val (.int (2 : Int32)), .val (.ref b138), .val (.int p3), .val (.int (0 : Int32)), .val (.int p1), .unset, .unset, .unset] []))
      refine own_via (fun t k => XS.iload X144.here hx rfl (hb hby at_79) rfl k) ?_
      show own_G p e below _ (T144.setTop (mkF m 81 #[.val (.int p1), .val (.int p2), .val (.int p3), .val (.int p4), .val (.int p5), .val (.int (2 : Int32)), .val (.ref b138), .val (.int p3), .val (.int (0 : Int32)), .val (.int p1), .unset, .unset, .unset] [(.int (2 : Int32))]))
      refine own_via (fun t k => XS.iconst X144.here hx rfl (hb hby at_81) k) ?_
      show own_G p e below _ (T144.setTop (mkF m 82 #[.val (.int p1), .val (.int p2), .val (.int p3), .val (.int p4), .val (.int p5), .val (.int (2 : Int32)), .val (.ref b138), .val (.int p3), .val (.int (0 : Int32)), .val (.int p1), .unset, .unset, .unset] [(.int (1 : Int32)), (.int (2 : Int32))]))
      refine own_via (fun t k => XS.icmpYes X144.here hx rfl (pc0 := 82) (pc' := 94) rfl (hb hby at_82) rfl (feq (by decide : ¬ ((2 : Int32) = (1 : Int32)))).2 (by decide) (by decide) k) ?_
      show own_G p e below _ (T144.setTop (mkF m 94 #[.val (.int p1), .val (.int p2), .val (.int p3), .val (.int p4), .val (.int p5), .val (.int (2 : Int32)), .val (.ref b138), .val (.int p3), .val (.int (0 : Int32)), .val (.int p1), .unset, .unset, .unset] []))
      refine own_via (fun t k => XS.iloadN X144.here hx rfl (hb hby at_94) rfl k) ?_
      show own_G p e below _ (T144.setTop (mkF m 95 #[.val (.int p1), .val (.int p2), .val (.int p3), .val (.int p4), .val (.int p5), .val (.int (2 : Int32)), .val (.ref b138), .val (.int p3), .val (.int (0 : Int32)), .val (.int p1), .unset, .unset, .unset] [(.int p2)]))
      refine own_via (fun t k => XS.istore X144.here hx rfl (hb hby at_95) rfl (l' := #[.val (.int p1), .val (.int p2), .val (.int p3), .val (.int p4), .val (.int p5), .val (.int (2 : Int32)), .val (.ref b138), .val (.int p3), .val (.int (0 : Int32)), .val (.int p1), .val (.int p2), .unset, .unset]) rfl k) ?_
      show own_G p e below _ (T144.setTop (mkF m 97 #[.val (.int p1), .val (.int p2), .val (.int p3), .val (.int p4), .val (.int p5), .val (.int (2 : Int32)), .val (.ref b138), .val (.int p3), .val (.int (0 : Int32)), .val (.int p1), .val (.int p2), .unset, .unset] []))
      refine own_via (fun t k => XS.iload X144.here hx rfl (hb hby at_97) rfl k) ?_
      show own_G p e below _ (T144.setTop (mkF m 99 #[.val (.int p1), .val (.int p2), .val (.int p3), .val (.int p4), .val (.int p5), .val (.int (2 : Int32)), .val (.ref b138), .val (.int p3), .val (.int (0 : Int32)), .val (.int p1), .val (.int p2), .unset, .unset] [(.int (2 : Int32))]))
      refine own_via (fun t k => XS.iconst X144.here hx rfl (hb hby at_99) k) ?_
      show own_G p e below _ (T144.setTop (mkF m 100 #[.val (.int p1), .val (.int p2), .val (.int p3), .val (.int p4), .val (.int p5), .val (.int (2 : Int32)), .val (.ref b138), .val (.int p3), .val (.int (0 : Int32)), .val (.int p1), .val (.int p2), .unset, .unset] [(.int (2 : Int32)), (.int (2 : Int32))]))
      refine own_via (fun t k => XS.icmpNo X144.here hx rfl (hb hby at_100) rfl (teq (by decide : (2 : Int32) = (2 : Int32))).2 k) ?_
      show own_G p e below _ (T144.setTop (mkF m 103 #[.val (.int p1), .val (.int p2), .val (.int p3), .val (.int p4), .val (.int p5), .val (.int (2 : Int32)), .val (.ref b138), .val (.int p3), .val (.int (0 : Int32)), .val (.int p1), .val (.int p2), .unset, .unset] []))
      refine own_via (fun t k => XS.iloadN X144.here hx rfl (hb hby at_103) rfl k) ?_
      show own_G p e below _ (T144.setTop (mkF m 104 #[.val (.int p1), .val (.int p2), .val (.int p3), .val (.int p4), .val (.int p5), .val (.int (2 : Int32)), .val (.ref b138), .val (.int p3), .val (.int (0 : Int32)), .val (.int p1), .val (.int p2), .unset, .unset] [(.int p3)]))
      refine own_via (fun t k => XS.iload X144.here hx rfl (hb hby at_104) rfl k) ?_
      show own_G p e below _ (T144.setTop (mkF m 106 #[.val (.int p1), .val (.int p2), .val (.int p3), .val (.int p4), .val (.int p5), .val (.int (2 : Int32)), .val (.ref b138), .val (.int p3), .val (.int (0 : Int32)), .val (.int p1), .val (.int p2), .unset, .unset] [(.int p5), (.int p3)]))
      obtain ⟨_, _, ⟨T149, L149, k149, n149⟩, -, X149, ⟨Lc149, hQ149, l149, y149, z149⟩, st149⟩ := Jvm.LawKit.callS X144 hx (y := (⟨"java/lang/Math", "max", "(II)I"⟩ : MethodName)) hown (mvT hZ (hw _ (List.mem_of_getElem? (i := 6) rfl))) (mvT hZ (hw _ (List.mem_of_getElem? (i := 7) rfl))) (mvT hZ (hw _ (List.mem_of_getElem? (i := 8) rfl))) (mvT hZ (hw _ (List.mem_of_getElem? (i := 9) rfl))) (by decide) (backOf (W := 0) (rm2 l Z a0 hw [] p3 p5 T144.heap n0 Z144) hZ (hw _ (List.mem_of_getElem? (i := 9) rfl)) (hw _ (List.mem_of_getElem? (i := 8) rfl)) (by decide) (by decide)) (g := (mkF m 106 #[.val (.int p1), .val (.int p2), .val (.int p3), .val (.int p4), .val (.int p5), .val (.int (2 : Int32)), .val (.ref b138), .val (.int p3), .val (.int (0 : Int32)), .val (.int p1), .val (.int p2), .unset, .unset] [(.int p5), (.int p3)])) rfl (by rw [hml]; rfl) (argsL := [(.int p3), (.int p5)]) (rest := []) (lenOf pd_rm0_1 rfl) rfl (by show 2 * 0 + _ ≤ _; exact Nat.le_of_eq rfl) (hb hby at_106) (fun _ _ => ⟨rfl, rfl, (by decide : 1 + 0 ≤ _), (by decide : 3 + 0 ≤ _)⟩)
      dsimp only [Pt.U, Pt.locs, Pt.cells, Pt.slots] at X149 l149 y149 z149 st149 hQ149
      subst l149 y149 z149
      obtain ⟨rfl, N149q, e149⟩ := hQ149
      have N149 := Fr.app N144 N149q
      refine own_via st149 ?_
      show own_G p e below _ (T149.setTop (mkF m 109 #[.val (.int p1), .val (.int p2), .val (.int p3), .val (.int p4), .val (.int p5), .val (.int (2 : Int32)), .val (.ref b138), .val (.int p3), .val (.int (0 : Int32)), .val (.int p1), .val (.int p2), .unset, .unset] [(.int (own_max p3 p5))]))
      rw [show own_max p3 p5 = p3 from if_neg (by rw [hob]; exact Int32.lt_irrefl)]
      show own_G p e below _ (T149.setTop (mkF m 109 #[.val (.int p1), .val (.int p2), .val (.int p3), .val (.int p4), .val (.int p5), .val (.int (2 : Int32)), .val (.ref b138), .val (.int p3), .val (.int (0 : Int32)), .val (.int p1), .val (.int p2), .unset, .unset] [(.int p3)]))
      refine own_via (fun t k => XS.goto X149.here hx rfl (pc0 := 109) (pc' := 113) rfl (hb hby at_109) (by decide) (by decide) k) ?_
      show own_G p e below _ (T149.setTop (mkF m 113 #[.val (.int p1), .val (.int p2), .val (.int p3), .val (.int p4), .val (.int p5), .val (.int (2 : Int32)), .val (.ref b138), .val (.int p3), .val (.int (0 : Int32)), .val (.int p1), .val (.int p2), .unset, .unset] [(.int p3)]))
      refine own_via (fun t k => XS.istore X149.here hx rfl (hb hby at_113) rfl (l' := #[.val (.int p1), .val (.int p2), .val (.int p3), .val (.int p4), .val (.int p5), .val (.int (2 : Int32)), .val (.ref b138), .val (.int p3), .val (.int (0 : Int32)), .val (.int p1), .val (.int p2), .val (.int p3), .unset]) rfl k) ?_
      show own_G p e below _ (T149.setTop (mkF m 115 #[.val (.int p1), .val (.int p2), .val (.int p3), .val (.int p4), .val (.int p5), .val (.int (2 : Int32)), .val (.ref b138), .val (.int p3), .val (.int (0 : Int32)), .val (.int p1), .val (.int p2), .val (.int p3), .unset] []))
      refine own_via (fun t k => XS.iload X149.here hx rfl (hb hby at_115) rfl k) ?_
      show own_G p e below _ (T149.setTop (mkF m 117 #[.val (.int p1), .val (.int p2), .val (.int p3), .val (.int p4), .val (.int p5), .val (.int (2 : Int32)), .val (.ref b138), .val (.int p3), .val (.int (0 : Int32)), .val (.int p1), .val (.int p2), .val (.int p3), .unset] [(.int p5)]))
      refine own_via (fun t k => XS.iload X149.here hx rfl (hb hby at_117) rfl k) ?_
      show own_G p e below _ (T149.setTop (mkF m 119 #[.val (.int p1), .val (.int p2), .val (.int p3), .val (.int p4), .val (.int p5), .val (.int (2 : Int32)), .val (.ref b138), .val (.int p3), .val (.int (0 : Int32)), .val (.int p1), .val (.int p2), .val (.int p3), .unset] [(.int p3), (.int p5)]))
      refine own_via (fun t k => XS.icmpYes X149.here hx rfl (pc0 := 119) (pc' := 126) rfl (hb hby at_119) rfl (flt (by rw [hob]; exact Int32.lt_irrefl)).2.2.2 (by decide) (by decide) k) ?_
      show own_G p e below _ (T149.setTop (mkF m 126 #[.val (.int p1), .val (.int p2), .val (.int p3), .val (.int p4), .val (.int p5), .val (.int (2 : Int32)), .val (.ref b138), .val (.int p3), .val (.int (0 : Int32)), .val (.int p1), .val (.int p2), .val (.int p3), .unset] []))
      refine own_via (fun t k => XS.iconst X149.here hx rfl (hb hby at_126) k) ?_
      show own_G p e below _ (T149.setTop (mkF m 127 #[.val (.int p1), .val (.int p2), .val (.int p3), .val (.int p4), .val (.int p5), .val (.int (2 : Int32)), .val (.ref b138), .val (.int p3), .val (.int (0 : Int32)), .val (.int p1), .val (.int p2), .val (.int p3), .unset] [(.int (0 : Int32))]))
      refine own_via (fun t k => XS.istore X149.here hx rfl (hb hby at_127) rfl (l' := #[.val (.int p1), .val (.int p2), .val (.int p3), .val (.int p4), .val (.int p5), .val (.int (2 : Int32)), .val (.ref b138), .val (.int p3), .val (.int (0 : Int32)), .val (.int p1), .val (.int p2), .val (.int p3), .val (.int (0 : Int32))]) rfl k) ?_
      show own_G p e below _ (T149.setTop (mkF m 129 #[.val (.int p1), .val (.int p2), .val (.int p3), .val (.int p4), .val (.int p5), .val (.int (2 : Int32)), .val (.ref b138), .val (.int p3), .val (.int (0 : Int32)), .val (.int p1), .val (.int p2), .val (.int p3), .val (.int (0 : Int32))] []))
      refine own_via (fun t k => XS.iload X149.here hx rfl (hb hby at_129) rfl k) ?_
      show own_G p e below _ (T149.setTop (mkF m 131 #[.val (.int p1), .val (.int p2), .val (.int p3), .val (.int p4), .val (.int p5), .val (.int (2 : Int32)), .val (.ref b138), .val (.int p3), .val (.int (0 : Int32)), .val (.int p1), .val (.int p2), .val (.int p3), .val (.int (0 : Int32))] [(.int (0 : Int32))]))
      refine own_via (fun t k => XS.iload X149.here hx rfl (hb hby at_131) rfl k) ?_
      show own_G p e below _ (T149.setTop (mkF m 133 #[.val (.int p1), .val (.int p2), .val (.int p3), .val (.int p4), .val (.int p5), .val (.int (2 : Int32)), .val (.ref b138), .val (.int p3), .val (.int (0 : Int32)), .val (.int p1), .val (.int p2), .val (.int p3), .val (.int (0 : Int32))] [(.int (0 : Int32)), (.int (0 : Int32))]))
      refine own_via (fun t k => XS.icmpNo X149.here hx rfl (hb hby at_133) rfl (teq (by decide : (0 : Int32) = (0 : Int32))).2 k) ?_
      show own_G p e below _ (T149.setTop (mkF m 136 #[.val (.int p1), .val (.int p2), .val (.int p3), .val (.int p4), .val (.int p5), .val (.int (2 : Int32)), .val (.ref b138), .val (.int p3), .val (.int (0 : Int32)), .val (.int p1), .val (.int p2), .val (.int p3), .val (.int (0 : Int32))] []))
      refine own_via (fun t k => XS.aload X149.here hx rfl (hb hby at_136) rfl rfl k) ?_
      show own_G p e below _ (T149.setTop (mkF m 138 #[.val (.int p1), .val (.int p2), .val (.int p3), .val (.int p4), .val (.int p5), .val (.int (2 : Int32)), .val (.ref b138), .val (.int p3), .val (.int (0 : Int32)), .val (.int p1), .val (.int p2), .val (.int p3), .val (.int (0 : Int32))] [(.ref b138)]))
      refine own_via (fun t k => XS.iconst X149.here hx rfl (hb hby at_138) k) ?_
      show own_G p e below _ (T149.setTop (mkF m 139 #[.val (.int p1), .val (.int p2), .val (.int p3), .val (.int p4), .val (.int p5), .val (.int (2 : Int32)), .val (.ref b138), .val (.int p3), .val (.int (0 : Int32)), .val (.int p1), .val (.int p2), .val (.int p3), .val (.int (0 : Int32))] [(.int (0 : Int32)), (.ref b138)]))
      obtain ⟨cl152, Ar152, q152, S152, Ng152, Hs152, G152⟩ := id V144
      have hin152 : ¬ ((0 : Int32) < 0 ∨ cl152.slots.size ≤ ((0 : Int32)).toNatClampNeg) := inb_of S152 ⟨by decide, by decide⟩
      have hat152 : cl152.slots[((0 : Int32)).toNatClampNeg]? = some (.double (FP.i2d p1)) := Hs152.at hin152 rfl
      refine own_via (fun t k => X149.daload hx (j := (0 : Int32)) (v := (.double (FP.i2d p1))) (by rw [e149]; exact Ar152.1) (State.isArrayOf_alike hZ.alike Ar152.2.1) Ar152.2.2 hin152 hat152 (g := (mkF m 139 #[.val (.int p1), .val (.int p2), .val (.int p3), .val (.int p4), .val (.int p5), .val (.int (2 : Int32)), .val (.ref b138), .val (.int p3), .val (.int (0 : Int32)), .val (.int p1), .val (.int p2), .val (.int p3), .val (.int (0 : Int32))] [(.int (0 : Int32)), (.ref b138)])) rfl rfl (hb hby at_139) _ k) ?_
      show own_G p e below _ (T149.setTop (mkF m 140 #[.val (.int p1), .val (.int p2), .val (.int p3), .val (.int p4), .val (.int p5), .val (.int (2 : Int32)), .val (.ref b138), .val (.int p3), .val (.int (0 : Int32)), .val (.int p1), .val (.int p2), .val (.int p3), .val (.int (0 : Int32))] [(.double (FP.i2d p1))]))
      refine own_via (fun t k => XS.iload X149.here hx rfl (hb hby at_140) rfl k) ?_
      show own_G p e below _ (T149.setTop (mkF m 142 #[.val (.int p1), .val (.int p2), .val (.int p3), .val (.int p4), .val (.int p5), .val (.int (2 : Int32)), .val (.ref b138), .val (.int p3), .val (.int (0 : Int32)), .val (.int p1), .val (.int p2), .val (.int p3), .val (.int (0 : Int32))] [(.int p1), (.double (FP.i2d p1))]))
      refine own_via (fun t k => XS.i2dS X149.here hx rfl (hb hby at_142) rfl rfl k) ?_
      show own_G p e below _ (T149.setTop (mkF m 143 #[.val (.int p1), .val (.int p2), .val (.int p3), .val (.int p4), .val (.int p5), .val (.int (2 : Int32)), .val (.ref b138), .val (.int p3), .val (.int (0 : Int32)), .val (.int p1), .val (.int p2), .val (.int p3), .val (.int (0 : Int32))] [(.double (FP.i2d p1)), (.double (FP.i2d p1))]))
      refine own_via (fun t k => XS.dcmpS X149.here hx rfl (hb hby at_143) rfl (own_dc_eq rfl _) k) ?_
      show own_G p e below _ (T149.setTop (mkF m 144 #[.val (.int p1), .val (.int p2), .val (.int p3), .val (.int p4), .val (.int p5), .val (.int (2 : Int32)), .val (.ref b138), .val (.int p3), .val (.int (0 : Int32)), .val (.int p1), .val (.int p2), .val (.int p3), .val (.int (0 : Int32))] [(.int (0 : Int32))]))
      refine own_via (fun t k => XS.ifNo X149.here hx rfl (hb hby at_144) rfl ((if0 _ _).trans (teq (by decide : (0 : Int32) = (0 : Int32))).2) k) ?_
      show own_G p e below _ (T149.setTop (mkF m 147 #[.val (.int p1), .val (.int p2), .val (.int p3), .val (.int p4), .val (.int p5), .val (.int (2 : Int32)), .val (.ref b138), .val (.int p3), .val (.int (0 : Int32)), .val (.int p1), .val (.int p2), .val (.int p3), .val (.int (0 : Int32))] []))
      refine own_via (fun t k => XS.aload X149.here hx rfl (hb hby at_147) rfl rfl k) ?_
      show own_G p e below _ (T149.setTop (mkF m 149 #[.val (.int p1), .val (.int p2), .val (.int p3), .val (.int p4), .val (.int p5), .val (.int (2 : Int32)), .val (.ref b138), .val (.int p3), .val (.int (0 : Int32)), .val (.int p1), .val (.int p2), .val (.int p3), .val (.int (0 : Int32))] [(.ref b138)]))
      refine own_via (fun t k => XS.iconst X149.here hx rfl (hb hby at_149) k) ?_
      show own_G p e below _ (T149.setTop (mkF m 150 #[.val (.int p1), .val (.int p2), .val (.int p3), .val (.int p4), .val (.int p5), .val (.int (2 : Int32)), .val (.ref b138), .val (.int p3), .val (.int (0 : Int32)), .val (.int p1), .val (.int p2), .val (.int p3), .val (.int (0 : Int32))] [(.int (1 : Int32)), (.ref b138)]))
      obtain ⟨cl154, Ar154, q154, S154, Ng154, Hs154, G154⟩ := id V144
      have hin154 : ¬ ((1 : Int32) < 0 ∨ cl154.slots.size ≤ ((1 : Int32)).toNatClampNeg) := inb_of S154 ⟨by decide, by decide⟩
      have hat154 : cl154.slots[((1 : Int32)).toNatClampNeg]? = some (.double (FP.i2d p2)) := Hs154.at hin154 rfl
      refine own_via (fun t k => X149.daload hx (j := (1 : Int32)) (v := (.double (FP.i2d p2))) (by rw [e149]; exact Ar154.1) (State.isArrayOf_alike hZ.alike Ar154.2.1) Ar154.2.2 hin154 hat154 (g := (mkF m 150 #[.val (.int p1), .val (.int p2), .val (.int p3), .val (.int p4), .val (.int p5), .val (.int (2 : Int32)), .val (.ref b138), .val (.int p3), .val (.int (0 : Int32)), .val (.int p1), .val (.int p2), .val (.int p3), .val (.int (0 : Int32))] [(.int (1 : Int32)), (.ref b138)])) rfl rfl (hb hby at_150) _ k) ?_
      show own_G p e below _ (T149.setTop (mkF m 151 #[.val (.int p1), .val (.int p2), .val (.int p3), .val (.int p4), .val (.int p5), .val (.int (2 : Int32)), .val (.ref b138), .val (.int p3), .val (.int (0 : Int32)), .val (.int p1), .val (.int p2), .val (.int p3), .val (.int (0 : Int32))] [(.double (FP.i2d p2))]))
      refine own_via (fun t k => XS.iload X149.here hx rfl (hb hby at_151) rfl k) ?_
      show own_G p e below _ (T149.setTop (mkF m 153 #[.val (.int p1), .val (.int p2), .val (.int p3), .val (.int p4), .val (.int p5), .val (.int (2 : Int32)), .val (.ref b138), .val (.int p3), .val (.int (0 : Int32)), .val (.int p1), .val (.int p2), .val (.int p3), .val (.int (0 : Int32))] [(.int p2), (.double (FP.i2d p2))]))
      refine own_via (fun t k => XS.i2dS X149.here hx rfl (hb hby at_153) rfl rfl k) ?_
      show own_G p e below _ (T149.setTop (mkF m 154 #[.val (.int p1), .val (.int p2), .val (.int p3), .val (.int p4), .val (.int p5), .val (.int (2 : Int32)), .val (.ref b138), .val (.int p3), .val (.int (0 : Int32)), .val (.int p1), .val (.int p2), .val (.int p3), .val (.int (0 : Int32))] [(.double (FP.i2d p2)), (.double (FP.i2d p2))]))
      refine own_via (fun t k => XS.dcmpS X149.here hx rfl (hb hby at_154) rfl (own_dc_eq rfl _) k) ?_
      show own_G p e below _ (T149.setTop (mkF m 155 #[.val (.int p1), .val (.int p2), .val (.int p3), .val (.int p4), .val (.int p5), .val (.int (2 : Int32)), .val (.ref b138), .val (.int p3), .val (.int (0 : Int32)), .val (.int p1), .val (.int p2), .val (.int p3), .val (.int (0 : Int32))] [(.int (0 : Int32))]))
      refine own_via (fun t k => XS.ifNo X149.here hx rfl (hb hby at_155) rfl ((if0 _ _).trans (teq (by decide : (0 : Int32) = (0 : Int32))).2) k) ?_
      show own_G p e below _ (T149.setTop (mkF m 158 #[.val (.int p1), .val (.int p2), .val (.int p3), .val (.int p4), .val (.int p5), .val (.int (2 : Int32)), .val (.ref b138), .val (.int p3), .val (.int (0 : Int32)), .val (.int p1), .val (.int p2), .val (.int p3), .val (.int (0 : Int32))] []))
      refine own_via (fun t k => XS.aload X149.here hx rfl (hb hby at_158) rfl rfl k) ?_
      show own_G p e below _ (T149.setTop (mkF m 160 #[.val (.int p1), .val (.int p2), .val (.int p3), .val (.int p4), .val (.int p5), .val (.int (2 : Int32)), .val (.ref b138), .val (.int p3), .val (.int (0 : Int32)), .val (.int p1), .val (.int p2), .val (.int p3), .val (.int (0 : Int32))] [(.ref b138)]))
      refine own_via (fun t k => XS.iconst X149.here hx rfl (hb hby at_160) k) ?_
      show own_G p e below _ (T149.setTop (mkF m 161 #[.val (.int p1), .val (.int p2), .val (.int p3), .val (.int p4), .val (.int p5), .val (.int (2 : Int32)), .val (.ref b138), .val (.int p3), .val (.int (0 : Int32)), .val (.int p1), .val (.int p2), .val (.int p3), .val (.int (0 : Int32))] [(.int (2 : Int32)), (.ref b138)]))
      obtain ⟨cl156, Ar156, q156, S156, Ng156, Hs156, G156⟩ := id V144
      have hin156 : ¬ ((2 : Int32) < 0 ∨ cl156.slots.size ≤ ((2 : Int32)).toNatClampNeg) := inb_of S156 ⟨by decide, by decide⟩
      have hat156 : cl156.slots[((2 : Int32)).toNatClampNeg]? = some (.double (FP.i2d p3)) := Hs156.at hin156 rfl
      refine own_via (fun t k => X149.daload hx (j := (2 : Int32)) (v := (.double (FP.i2d p3))) (by rw [e149]; exact Ar156.1) (State.isArrayOf_alike hZ.alike Ar156.2.1) Ar156.2.2 hin156 hat156 (g := (mkF m 161 #[.val (.int p1), .val (.int p2), .val (.int p3), .val (.int p4), .val (.int p5), .val (.int (2 : Int32)), .val (.ref b138), .val (.int p3), .val (.int (0 : Int32)), .val (.int p1), .val (.int p2), .val (.int p3), .val (.int (0 : Int32))] [(.int (2 : Int32)), (.ref b138)])) rfl rfl (hb hby at_161) _ k) ?_
      show own_G p e below _ (T149.setTop (mkF m 162 #[.val (.int p1), .val (.int p2), .val (.int p3), .val (.int p4), .val (.int p5), .val (.int (2 : Int32)), .val (.ref b138), .val (.int p3), .val (.int (0 : Int32)), .val (.int p1), .val (.int p2), .val (.int p3), .val (.int (0 : Int32))] [(.double (FP.i2d p3))]))
      refine own_via (fun t k => XS.iload X149.here hx rfl (hb hby at_162) rfl k) ?_
      show own_G p e below _ (T149.setTop (mkF m 164 #[.val (.int p1), .val (.int p2), .val (.int p3), .val (.int p4), .val (.int p5), .val (.int (2 : Int32)), .val (.ref b138), .val (.int p3), .val (.int (0 : Int32)), .val (.int p1), .val (.int p2), .val (.int p3), .val (.int (0 : Int32))] [(.int p3), (.double (FP.i2d p3))]))
      refine own_via (fun t k => XS.i2dS X149.here hx rfl (hb hby at_164) rfl rfl k) ?_
      show own_G p e below _ (T149.setTop (mkF m 165 #[.val (.int p1), .val (.int p2), .val (.int p3), .val (.int p4), .val (.int p5), .val (.int (2 : Int32)), .val (.ref b138), .val (.int p3), .val (.int (0 : Int32)), .val (.int p1), .val (.int p2), .val (.int p3), .val (.int (0 : Int32))] [(.double (FP.i2d p3)), (.double (FP.i2d p3))]))
      refine own_via (fun t k => XS.dcmpS X149.here hx rfl (hb hby at_165) rfl (own_dc_eq rfl _) k) ?_
      show own_G p e below _ (T149.setTop (mkF m 166 #[.val (.int p1), .val (.int p2), .val (.int p3), .val (.int p4), .val (.int p5), .val (.int (2 : Int32)), .val (.ref b138), .val (.int p3), .val (.int (0 : Int32)), .val (.int p1), .val (.int p2), .val (.int p3), .val (.int (0 : Int32))] [(.int (0 : Int32))]))
      refine own_via (fun t k => XS.ifNo X149.here hx rfl (hb hby at_166) rfl ((if0 _ _).trans (teq (by decide : (0 : Int32) = (0 : Int32))).2) k) ?_
      show own_G p e below _ (T149.setTop (mkF m 169 #[.val (.int p1), .val (.int p2), .val (.int p3), .val (.int p4), .val (.int p5), .val (.int (2 : Int32)), .val (.ref b138), .val (.int p3), .val (.int (0 : Int32)), .val (.int p1), .val (.int p2), .val (.int p3), .val (.int (0 : Int32))] []))
      refine own_via (fun t k => XS.iconst X149.here hx rfl (hb hby at_169) k) ?_
      show own_G p e below _ (T149.setTop (mkF m 170 #[.val (.int p1), .val (.int p2), .val (.int p3), .val (.int p4), .val (.int p5), .val (.int (2 : Int32)), .val (.ref b138), .val (.int p3), .val (.int (0 : Int32)), .val (.int p1), .val (.int p2), .val (.int p3), .val (.int (0 : Int32))] [(.int (1 : Int32))]))
      refine own_via (fun t k => XS.goto X149.here hx rfl (pc0 := 170) (pc' := 174) rfl (hb hby at_170) (by decide) (by decide) k) ?_
      show own_G p e below _ (T149.setTop (mkF m 174 #[.val (.int p1), .val (.int p2), .val (.int p3), .val (.int p4), .val (.int p5), .val (.int (2 : Int32)), .val (.ref b138), .val (.int p3), .val (.int (0 : Int32)), .val (.int p1), .val (.int p2), .val (.int p3), .val (.int (0 : Int32))] [(.int (1 : Int32))]))
      obtain ⟨fs, hr, hrun, hended, hW, hsame⟩ := X149.leave (v := some (.int (1 : Int32))) (fun h => by rw [Bd.returns] at h; cases h)
      refine ⟨_, _, retN X149 hx (t := .boolean) Bd.returns (by simp) (hb hby at_174) hr, hrun, hended, _, _, rfl, ?_, ⟨_, rfl⟩, hW, hsame.mono (by decide) (by decide)⟩
      show rm0_Q Z p1 p2 p3 p4 p5 h0 n0 _ T149.heap _
      rw [e149]
      exact ⟨rfl, N149⟩
    · rw [hk]
      show own_G p e below _ (s₁.setTop (mkF m 6 #[.val (.int p1), .val (.int p2), .val (.int p3), .val (.int p4), .val (.int p5), .unset, .unset, .unset, .unset, .unset, .unset, .unset, .unset] [(.int (2 : Int32))]))
      refine own_via (fun t k => XS.istore X0.here hx rfl (hb hby at_6) rfl (l' := #[.val (.int p1), .val (.int p2), .val (.int p3), .val (.int p4), .val (.int p5), .val (.int (2 : Int32)), .unset, .unset, .unset, .unset, .unset, .unset, .unset]) rfl k) ?_
      show own_G p e below _ (s₁.setTop (mkF m 8 #[.val (.int p1), .val (.int p2), .val (.int p3), .val (.int p4), .val (.int p5), .val (.int (2 : Int32)), .unset, .unset, .unset, .unset, .unset, .unset, .unset] []))
      refine own_via (fun t k => XS.iconst X0.here hx rfl (hb hby at_8) k) ?_
      show own_G p e below _ (s₁.setTop (mkF m 9 #[.val (.int p1), .val (.int p2), .val (.int p3), .val (.int p4), .val (.int p5), .val (.int (2 : Int32)), .unset, .unset, .unset, .unset, .unset, .unset, .unset] [(.int (3 : Int32))]))
      obtain ⟨T158, h158, k158, X158, e158, E158, A158, st158⟩ := newP X0 hx hZ (hw _ (List.mem_of_getElem? (i := 1) rfl)) e0 (g := (mkF m 9 #[.val (.int p1), .val (.int p2), .val (.int p3), .val (.int p4), .val (.int p5), .val (.int (2 : Int32)), .unset, .unset, .unset, .unset, .unset, .unset, .unset] [(.int (3 : Int32))])) rfl (hb hby at_9) rfl (by decide) (cap := 3) (by decide) (by decide) (by decide) (by decide)
      obtain ⟨b158, g158⟩ : ∃ z, z = h0.size := ⟨_, rfl⟩
      rw [← g158] at A158 st158
      have gx_b158 : n0 ≤ b158 := Nat.le_trans Z0 (Nat.le_of_eq g158.symm)
      have Z158 : n0 ≤ h158.size := Nat.le_trans Z0 E158.1
      have V158 : Arv Z h158 b158 k158 .double (3 : Int32) [(.double (0 : UInt64)), (.double (0 : UInt64)), (.double (0 : UInt64))] (.double (0 : UInt64)) := (Arv.new A158 (by decide)).pad (pad_rep [] (.double (0 : UInt64)) 3)
      refine own_via st158 ?_
      show own_G p e below _ (T158.setTop (mkF m 11 #[.val (.int p1), .val (.int p2), .val (.int p3), .val (.int p4), .val (.int p5), .val (.int (2 : Int32)), .unset, .unset, .unset, .unset, .unset, .unset, .unset] [(.ref b158)]))
      refine own_via (fun t k => XS.dup X158.here hx rfl (hb hby at_11) rfl rfl k) ?_
      show own_G p e below _ (T158.setTop (mkF m 12 #[.val (.int p1), .val (.int p2), .val (.int p3), .val (.int p4), .val (.int p5), .val (.int (2 : Int32)), .unset, .unset, .unset, .unset, .unset, .unset, .unset] [(.ref b158), (.ref b158)]))
      refine own_via (fun t k => XS.iconst X158.here hx rfl (hb hby at_12) k) ?_
      show own_G p e below _ (T158.setTop (mkF m 13 #[.val (.int p1), .val (.int p2), .val (.int p3), .val (.int p4), .val (.int p5), .val (.int (2 : Int32)), .unset, .unset, .unset, .unset, .unset, .unset, .unset] [(.int (0 : Int32)), (.ref b158), (.ref b158)]))
      refine own_via (fun t k => XS.iloadN X158.here hx rfl (hb hby at_13) rfl k) ?_
      show own_G p e below _ (T158.setTop (mkF m 14 #[.val (.int p1), .val (.int p2), .val (.int p3), .val (.int p4), .val (.int p5), .val (.int (2 : Int32)), .unset, .unset, .unset, .unset, .unset, .unset, .unset] [(.int p1), (.int (0 : Int32)), (.ref b158), (.ref b158)]))
      refine own_via (fun t k => XS.i2dS X158.here hx rfl (hb hby at_14) rfl rfl k) ?_
      show own_G p e below _ (T158.setTop (mkF m 15 #[.val (.int p1), .val (.int p2), .val (.int p3), .val (.int p4), .val (.int p5), .val (.int (2 : Int32)), .unset, .unset, .unset, .unset, .unset, .unset, .unset] [(.double (FP.i2d p1)), (.int (0 : Int32)), (.ref b158), (.ref b158)]))
      obtain ⟨cl159, Ar159, q159, S159, Ng159, Hs159, G159⟩ := id V158
      have hin159 : ¬ ((0 : Int32) < 0 ∨ cl159.slots.size ≤ ((0 : Int32)).toNatClampNeg) := inb_of S159 ⟨by decide, by decide⟩
      obtain ⟨T159, h159, X159, e159, W159, st159⟩ := stD X158 hx hZ e158 Ar159 (j := (0 : Int32)) hin159 (g := (mkF m 15 #[.val (.int p1), .val (.int p2), .val (.int p3), .val (.int p4), .val (.int p5), .val (.int (2 : Int32)), .unset, .unset, .unset, .unset, .unset, .unset, .unset] [(.double (FP.i2d p1)), (.int (0 : Int32)), (.ref b158), (.ref b158)])) rfl rfl (hb hby at_15)
      have V159 : Arv Z h159 b158 k158 .double (3 : Int32) [(.double (FP.i2d p1)), (.double (0 : UInt64)), (.double (0 : UInt64))] (.double (0 : UInt64)) := Arv.set Ar159 q159 S159 Ng159 Hs159 G159 rfl W159 0 rfl (Nat.le_of_ble_eq_true rfl)
      have N159 := Fr.snoc X159 N0 gx_b158
      have Z159 : n0 ≤ h159.size := Nat.le_trans Z158 (Nat.le_of_eq W159.size.symm)
      refine own_via st159 ?_
      show own_G p e below _ (T159.setTop (mkF m 16 #[.val (.int p1), .val (.int p2), .val (.int p3), .val (.int p4), .val (.int p5), .val (.int (2 : Int32)), .unset, .unset, .unset, .unset, .unset, .unset, .unset] [(.ref b158)]))
      refine own_via (fun t k => XS.dup X159.here hx rfl (hb hby at_16) rfl rfl k) ?_
      show own_G p e below _ (T159.setTop (mkF m 17 #[.val (.int p1), .val (.int p2), .val (.int p3), .val (.int p4), .val (.int p5), .val (.int (2 : Int32)), .unset, .unset, .unset, .unset, .unset, .unset, .unset] [(.ref b158), (.ref b158)]))
      refine own_via (fun t k => XS.iconst X159.here hx rfl (hb hby at_17) k) ?_
      show own_G p e below _ (T159.setTop (mkF m 18 #[.val (.int p1), .val (.int p2), .val (.int p3), .val (.int p4), .val (.int p5), .val (.int (2 : Int32)), .unset, .unset, .unset, .unset, .unset, .unset, .unset] [(.int (1 : Int32)), (.ref b158), (.ref b158)]))
      refine own_via (fun t k => XS.iloadN X159.here hx rfl (hb hby at_18) rfl k) ?_
      show own_G p e below _ (T159.setTop (mkF m 19 #[.val (.int p1), .val (.int p2), .val (.int p3), .val (.int p4), .val (.int p5), .val (.int (2 : Int32)), .unset, .unset, .unset, .unset, .unset, .unset, .unset] [(.int p2), (.int (1 : Int32)), (.ref b158), (.ref b158)]))
      refine own_via (fun t k => XS.i2dS X159.here hx rfl (hb hby at_19) rfl rfl k) ?_
      show own_G p e below _ (T159.setTop (mkF m 20 #[.val (.int p1), .val (.int p2), .val (.int p3), .val (.int p4), .val (.int p5), .val (.int (2 : Int32)), .unset, .unset, .unset, .unset, .unset, .unset, .unset] [(.double (FP.i2d p2)), (.int (1 : Int32)), (.ref b158), (.ref b158)]))
      obtain ⟨cl160, Ar160, q160, S160, Ng160, Hs160, G160⟩ := id V159
      have hin160 : ¬ ((1 : Int32) < 0 ∨ cl160.slots.size ≤ ((1 : Int32)).toNatClampNeg) := inb_of S160 ⟨by decide, by decide⟩
      obtain ⟨T160, h160, X160, e160, W160, st160⟩ := stD X159 hx hZ e159 Ar160 (j := (1 : Int32)) hin160 (g := (mkF m 20 #[.val (.int p1), .val (.int p2), .val (.int p3), .val (.int p4), .val (.int p5), .val (.int (2 : Int32)), .unset, .unset, .unset, .unset, .unset, .unset, .unset] [(.double (FP.i2d p2)), (.int (1 : Int32)), (.ref b158), (.ref b158)])) rfl rfl (hb hby at_20)
      have V160 : Arv Z h160 b158 k158 .double (3 : Int32) [(.double (FP.i2d p1)), (.double (FP.i2d p2)), (.double (0 : UInt64))] (.double (0 : UInt64)) := Arv.set Ar160 q160 S160 Ng160 Hs160 G160 rfl W160 1 rfl (Nat.le_of_ble_eq_true rfl)
      have N160 := Fr.snoc X160 N159 gx_b158
      have Z160 : n0 ≤ h160.size := Nat.le_trans Z159 (Nat.le_of_eq W160.size.symm)
      refine own_via st160 ?_
      show own_G p e below _ (T160.setTop (mkF m 21 #[.val (.int p1), .val (.int p2), .val (.int p3), .val (.int p4), .val (.int p5), .val (.int (2 : Int32)), .unset, .unset, .unset, .unset, .unset, .unset, .unset] [(.ref b158)]))
      refine own_via (fun t k => XS.dup X160.here hx rfl (hb hby at_21) rfl rfl k) ?_
      show own_G p e below _ (T160.setTop (mkF m 22 #[.val (.int p1), .val (.int p2), .val (.int p3), .val (.int p4), .val (.int p5), .val (.int (2 : Int32)), .unset, .unset, .unset, .unset, .unset, .unset, .unset] [(.ref b158), (.ref b158)]))
      refine own_via (fun t k => XS.iconst X160.here hx rfl (hb hby at_22) k) ?_
      show own_G p e below _ (T160.setTop (mkF m 23 #[.val (.int p1), .val (.int p2), .val (.int p3), .val (.int p4), .val (.int p5), .val (.int (2 : Int32)), .unset, .unset, .unset, .unset, .unset, .unset, .unset] [(.int (2 : Int32)), (.ref b158), (.ref b158)]))
      refine own_via (fun t k => XS.iloadN X160.here hx rfl (hb hby at_23) rfl k) ?_
      show own_G p e below _ (T160.setTop (mkF m 24 #[.val (.int p1), .val (.int p2), .val (.int p3), .val (.int p4), .val (.int p5), .val (.int (2 : Int32)), .unset, .unset, .unset, .unset, .unset, .unset, .unset] [(.int p3), (.int (2 : Int32)), (.ref b158), (.ref b158)]))
      refine own_via (fun t k => XS.i2dS X160.here hx rfl (hb hby at_24) rfl rfl k) ?_
      show own_G p e below _ (T160.setTop (mkF m 25 #[.val (.int p1), .val (.int p2), .val (.int p3), .val (.int p4), .val (.int p5), .val (.int (2 : Int32)), .unset, .unset, .unset, .unset, .unset, .unset, .unset] [(.double (FP.i2d p3)), (.int (2 : Int32)), (.ref b158), (.ref b158)]))
      obtain ⟨cl161, Ar161, q161, S161, Ng161, Hs161, G161⟩ := id V160
      have hin161 : ¬ ((2 : Int32) < 0 ∨ cl161.slots.size ≤ ((2 : Int32)).toNatClampNeg) := inb_of S161 ⟨by decide, by decide⟩
      obtain ⟨T161, h161, X161, e161, W161, st161⟩ := stD X160 hx hZ e160 Ar161 (j := (2 : Int32)) hin161 (g := (mkF m 25 #[.val (.int p1), .val (.int p2), .val (.int p3), .val (.int p4), .val (.int p5), .val (.int (2 : Int32)), .unset, .unset, .unset, .unset, .unset, .unset, .unset] [(.double (FP.i2d p3)), (.int (2 : Int32)), (.ref b158), (.ref b158)])) rfl rfl (hb hby at_25)
      have V161 : Arv Z h161 b158 k158 .double (3 : Int32) [(.double (FP.i2d p1)), (.double (FP.i2d p2)), (.double (FP.i2d p3))] (.double (0 : UInt64)) := Arv.set Ar161 q161 S161 Ng161 Hs161 G161 rfl W161 2 rfl (Nat.le_of_ble_eq_true rfl)
      have N161 := Fr.snoc X161 N160 gx_b158
      have Z161 : n0 ≤ h161.size := Nat.le_trans Z160 (Nat.le_of_eq W161.size.symm)
      refine own_via st161 ?_
      show own_G p e below _ (T161.setTop (mkF m 26 #[.val (.int p1), .val (.int p2), .val (.int p3), .val (.int p4), .val (.int p5), .val (.int (2 : Int32)), .unset, .unset, .unset, .unset, .unset, .unset, .unset] [(.ref b158)]))
      refine own_via (fun t k => XS.astore X161.here hx rfl (hb hby at_26) rfl rfl (l' := #[.val (.int p1), .val (.int p2), .val (.int p3), .val (.int p4), .val (.int p5), .val (.int (2 : Int32)), .val (.ref b158), .unset, .unset, .unset, .unset, .unset, .unset]) rfl k) ?_
      show own_G p e below _ (T161.setTop (mkF m 28 #[.val (.int p1), .val (.int p2), .val (.int p3), .val (.int p4), .val (.int p5), .val (.int (2 : Int32)), .val (.ref b158), .unset, .unset, .unset, .unset, .unset, .unset] []))
      refine own_via (fun t k => XS.iload X161.here hx rfl (hb hby at_28) rfl k) ?_
      show own_G p e below _ (T161.setTop (mkF m 30 #[.val (.int p1), .val (.int p2), .val (.int p3), .val (.int p4), .val (.int p5), .val (.int (2 : Int32)), .val (.ref b158), .unset, .unset, .unset, .unset, .unset, .unset] [(.int (2 : Int32))]))
      refine own_via (fun t k => XS.ifYes X161.here hx rfl (pc0 := 30) (pc' := 37) rfl (hb hby at_30) rfl ((if0 _ _).trans (feq (by decide : ¬ ((2 : Int32) = (0 : Int32)))).2) (by decide) (by decide) k) ?_
      show own_G p e below _ (T161.setTop (mkF m 37 #[.val (.int p1), .val (.int p2), .val (.int p3), .val (.int p4), .val (.int p5), .val (.int (2 : Int32)), .val (.ref b158), .unset, .unset, .unset, .unset, .unset, .unset] []))
      refine own_via (fun t k => XS.iload X161.here hx rfl (hb hby at_37) rfl k) ?_
      show own_G p e below _ (T161.setTop (mkF m 39 #[.val (.int p1), .val (.int p2), .val (.int p3), .val (.int p4), .val (.int p5), .val (.int (2 : Int32)), .val (.ref b158), .unset, .unset, .unset, .unset, .unset, .unset] [(.int (2 : Int32))]))
      refine own_via (fun t k => XS.iconst X161.here hx rfl (hb hby at_39) k) ?_
      show own_G p e below _ (T161.setTop (mkF m 40 #[.val (.int p1), .val (.int p2), .val (.int p3), .val (.int p4), .val (.int p5), .val (.int (2 : Int32)), .val (.ref b158), .unset, .unset, .unset, .unset, .unset, .unset] [(.int (1 : Int32)), (.int (2 : Int32))]))
      refine own_via (fun t k => XS.icmpYes X161.here hx rfl (pc0 := 40) (pc' := 47) rfl (hb hby at_40) rfl (feq (by decide : ¬ ((2 : Int32) = (1 : Int32)))).2 (by decide) (by decide) k) ?_
      show own_G p e below _ (T161.setTop (mkF m 47 #[.val (.int p1), .val (.int p2), .val (.int p3), .val (.int p4), .val (.int p5), .val (.int (2 : Int32)), .val (.ref b158), .unset, .unset, .unset, .unset, .unset, .unset] []))
      refine own_via (fun t k => XS.iloadN X161.here hx rfl (hb hby at_47) rfl k) ?_
      show own_G p e below _ (T161.setTop (mkF m 48 #[.val (.int p1), .val (.int p2), .val (.int p3), .val (.int p4), .val (.int p5), .val (.int (2 : Int32)), .val (.ref b158), .unset, .unset, .unset, .unset, .unset, .unset] [(.int p3)]))
      refine own_via (fun t k => XS.istore X161.here hx rfl (hb hby at_48) rfl (l' := #[.val (.int p1), .val (.int p2), .val (.int p3), .val (.int p4), .val (.int p5), .val (.int (2 : Int32)), .val (.ref b158), .val (.int p3), .unset, .unset, .unset, .unset, .unset]) rfl k) ?_
      show own_G p e below _ (T161.setTop (mkF m 50 #[.val (.int p1), .val (.int p2), .val (.int p3), .val (.int p4), .val (.int p5), .val (.int (2 : Int32)), .val (.ref b158), .val (.int p3), .unset, .unset, .unset, .unset, .unset] []))
      refine own_via (fun t k => XS.aload X161.here hx rfl (hb hby at_50) rfl rfl k) ?_
      show own_G p e below _ (T161.setTop (mkF m 52 #[.val (.int p1), .val (.int p2), .val (.int p3), .val (.int p4), .val (.int p5), .val (.int (2 : Int32)), .val (.ref b158), .val (.int p3), .unset, .unset, .unset, .unset, .unset] [(.ref b158)]))
      refine own_via (fun t k => XS.iload X161.here hx rfl (hb hby at_52) rfl k) ?_
      show own_G p e below _ (T161.setTop (mkF m 54 #[.val (.int p1), .val (.int p2), .val (.int p3), .val (.int p4), .val (.int p5), .val (.int (2 : Int32)), .val (.ref b158), .val (.int p3), .unset, .unset, .unset, .unset, .unset] [(.int (2 : Int32)), (.ref b158)]))
      refine own_via (fun t k => XS.iload X161.here hx rfl (hb hby at_54) rfl k) ?_
      show own_G p e below _ (T161.setTop (mkF m 56 #[.val (.int p1), .val (.int p2), .val (.int p3), .val (.int p4), .val (.int p5), .val (.int (2 : Int32)), .val (.ref b158), .val (.int p3), .unset, .unset, .unset, .unset, .unset] [(.int p5), (.int (2 : Int32)), (.ref b158)]))
      refine own_via (fun t k => XS.i2dS X161.here hx rfl (hb hby at_56) rfl rfl k) ?_
      show own_G p e below _ (T161.setTop (mkF m 57 #[.val (.int p1), .val (.int p2), .val (.int p3), .val (.int p4), .val (.int p5), .val (.int (2 : Int32)), .val (.ref b158), .val (.int p3), .unset, .unset, .unset, .unset, .unset] [(.double (FP.i2d p5)), (.int (2 : Int32)), (.ref b158)]))
      obtain ⟨_, _, ⟨T164, L164, k164, n164⟩, -, X164, ⟨Lc164, hQ164, l164, y164, z164⟩, st164⟩ := Jvm.LawKit.callS X161 hx (y := (⟨"com/example/odds2/odds2/engine/Bounds", "tightenLower", "([DID)Z"⟩ : MethodName)) hown (mvT hZ (hw _ (List.mem_of_getElem? (i := 2) rfl))) (mvT hZ (hw _ (List.mem_of_getElem? (i := 3) rfl))) (mvT hZ (hw _ (List.mem_of_getElem? (i := 4) rfl))) (mvT hZ (hw _ (List.mem_of_getElem? (i := 5) rfl))) (by decide) (backOf (W := 0) (rm1_2gt l Z a0 hw [] b158 p1 p2 p3 p5 k158 h161 n0 Z161 V161 gx_b158 hob) hZ (hw _ (List.mem_of_getElem? (i := 5) rfl)) (hw _ (List.mem_of_getElem? (i := 4) rfl)) (by decide) (by decide)) (g := (mkF m 57 #[.val (.int p1), .val (.int p2), .val (.int p3), .val (.int p4), .val (.int p5), .val (.int (2 : Int32)), .val (.ref b158), .val (.int p3), .unset, .unset, .unset, .unset, .unset] [(.double (FP.i2d p5)), (.int (2 : Int32)), (.ref b158)])) rfl (by rw [hml]; rfl) (argsL := [(.ref b158), (.int (2 : Int32)), (.double (FP.i2d p5))]) (rest := []) (lenOf pd_rm0_0 rfl) rfl (by show 2 * 0 + _ ≤ _; exact Nat.le_of_eq rfl) (hb hby at_57) (fun _ _ => ⟨rfl, e161, (by decide : 1 + 0 ≤ _), (by decide : 3 + 0 ≤ _)⟩)
      dsimp only [Pt.U, Pt.locs, Pt.cells, Pt.slots] at X164 l164 y164 z164 st164 hQ164
      subst l164 y164 z164
      obtain ⟨rfl, N164q, K164, V164⟩ := hQ164
      have N164 := Fr.app N161 N164q
      have Z164 : n0 ≤ T164.heap.size := Nat.le_trans Z161 K164.1
      refine own_via st164 ?_
      show own_G p e below _ (T164.setTop (mkF m 60 #[.val (.int p1), .val (.int p2), .val (.int p3), .val (.int p4), .val (.int p5), .val (.int (2 : Int32)), .val (.ref b158), .val (.int p3), .unset, .unset, .unset, .unset, .unset] [(.int (1 : Int32))]))
      refine own_via (fun t k => XS.istore X164.here hx rfl (hb hby at_60) rfl (l' := #[.val (.int p1), .val (.int p2), .val (.int p3), .val (.int p4), .val (.int p5), .val (.int (2 : Int32)), .val (.ref b158), .val (.int p3), .val (.int (1 : Int32)), .unset, .unset, .unset, .unset]) rfl k) ?_
      show own_G p e below _ (T164.setTop (mkF m 62 #[.val (.int p1), .val (.int p2), .val (.int p3), .val (.int p4), .val (.int p5), .val (.int (2 : Int32)), .val (.ref b158), .val (.int p3), .val (.int (1 : Int32)), .unset, .unset, .unset, .unset] []))
      refine own_via (fun t k => XS.iload X164.here hx rfl (hb hby at_62) rfl k) ?_
      show own_G p e below _ (T164.setTop (mkF m 64 #[.val (.int p1), .val (.int p2), .val (.int p3), .val (.int p4), .val (.int p5), .val (.int (2 : Int32)), .val (.ref b158), .val (.int p3), .val (.int (1 : Int32)), .unset, .unset, .unset, .unset] [(.int (2 : Int32))]))
      refine own_via (fun t k => XS.ifYes X164.here hx rfl (pc0 := 64) (pc' := 76) rfl (hb hby at_64) rfl ((if0 _ _).trans (feq (by decide : ¬ ((2 : Int32) = (0 : Int32)))).2) (by decide) (by decide) k) ?_
      show own_G p e below _ (T164.setTop (mkF m 76 #[.val (.int p1), .val (.int p2), .val (.int p3), .val (.int p4), .val (.int p5), .val (.int (2 : Int32)), .val (.ref b158), .val (.int p3), .val (.int (1 : Int32)), .unset, .unset, .unset, .unset] []))
      refine own_via (fun t k => XS.iloadN X164.here hx rfl (hb hby at_76) rfl k) ?_
      show own_G p e below _ (T164.setTop (mkF m 77 #[.val (.int p1), .val (.int p2), .val (.int p3), .val (.int p4), .val (.int p5), .val (.int (2 : Int32)), .val (.ref b158), .val (.int p3), .val (.int (1 : Int32)), .unset, .unset, .unset, .unset] [(.int p1)]))
      refine own_via (fun t k => XS.istore X164.here hx rfl (hb hby at_77) rfl (l' := #[.val (.int p1), .val (.int p2), .val (.int p3), .val (.int p4), .val (.int p5), .val (.int (2 : Int32)), .val (.ref b158), .val (.int p3), .val (.int (1 : Int32)), .val (.int p1), .unset, .unset, .unset]) rfl k) ?_
      show own_G p e below _ (T164.setTop (mkF m 79 #[.val (.int p1), .val (.int p2), .val (.int p3), .val (.int p4), .val (.int p5), .val (.int (2 : Int32)), .val (.ref b158), .val (.int p3), .val (.int (1 : Int32)), .val (.int p1), .unset, .unset, .unset] []))
      refine own_via (fun t k => XS.iload X164.here hx rfl (hb hby at_79) rfl k) ?_
      show own_G p e below _ (T164.setTop (mkF m 81 #[.val (.int p1), .val (.int p2), .val (.int p3), .val (.int p4), .val (.int p5), .val (.int (2 : Int32)), .val (.ref b158), .val (.int p3), .val (.int (1 : Int32)), .val (.int p1), .unset, .unset, .unset] [(.int (2 : Int32))]))
      refine own_via (fun t k => XS.iconst X164.here hx rfl (hb hby at_81) k) ?_
      show own_G p e below _ (T164.setTop (mkF m 82 #[.val (.int p1), .val (.int p2), .val (.int p3), .val (.int p4), .val (.int p5), .val (.int (2 : Int32)), .val (.ref b158), .val (.int p3), .val (.int (1 : Int32)), .val (.int p1), .unset, .unset, .unset] [(.int (1 : Int32)), (.int (2 : Int32))]))
      refine own_via (fun t k => XS.icmpYes X164.here hx rfl (pc0 := 82) (pc' := 94) rfl (hb hby at_82) rfl (feq (by decide : ¬ ((2 : Int32) = (1 : Int32)))).2 (by decide) (by decide) k) ?_
      show own_G p e below _ (T164.setTop (mkF m 94 #[.val (.int p1), .val (.int p2), .val (.int p3), .val (.int p4), .val (.int p5), .val (.int (2 : Int32)), .val (.ref b158), .val (.int p3), .val (.int (1 : Int32)), .val (.int p1), .unset, .unset, .unset] []))
      refine own_via (fun t k => XS.iloadN X164.here hx rfl (hb hby at_94) rfl k) ?_
      show own_G p e below _ (T164.setTop (mkF m 95 #[.val (.int p1), .val (.int p2), .val (.int p3), .val (.int p4), .val (.int p5), .val (.int (2 : Int32)), .val (.ref b158), .val (.int p3), .val (.int (1 : Int32)), .val (.int p1), .unset, .unset, .unset] [(.int p2)]))
      refine own_via (fun t k => XS.istore X164.here hx rfl (hb hby at_95) rfl (l' := #[.val (.int p1), .val (.int p2), .val (.int p3), .val (.int p4), .val (.int p5), .val (.int (2 : Int32)), .val (.ref b158), .val (.int p3), .val (.int (1 : Int32)), .val (.int p1), .val (.int p2), .unset, .unset]) rfl k) ?_
      show own_G p e below _ (T164.setTop (mkF m 97 #[.val (.int p1), .val (.int p2), .val (.int p3), .val (.int p4), .val (.int p5), .val (.int (2 : Int32)), .val (.ref b158), .val (.int p3), .val (.int (1 : Int32)), .val (.int p1), .val (.int p2), .unset, .unset] []))
      refine own_via (fun t k => XS.iload X164.here hx rfl (hb hby at_97) rfl k) ?_
      show own_G p e below _ (T164.setTop (mkF m 99 #[.val (.int p1), .val (.int p2), .val (.int p3), .val (.int p4), .val (.int p5), .val (.int (2 : Int32)), .val (.ref b158), .val (.int p3), .val (.int (1 : Int32)), .val (.int p1), .val (.int p2), .unset, .unset] [(.int (2 : Int32))]))
      refine own_via (fun t k => XS.iconst X164.here hx rfl (hb hby at_99) k) ?_
      show own_G p e below _ (T164.setTop (mkF m 100 #[.val (.int p1), .val (.int p2), .val (.int p3), .val (.int p4), .val (.int p5), .val (.int (2 : Int32)), .val (.ref b158), .val (.int p3), .val (.int (1 : Int32)), .val (.int p1), .val (.int p2), .unset, .unset] [(.int (2 : Int32)), (.int (2 : Int32))]))
      refine own_via (fun t k => XS.icmpNo X164.here hx rfl (hb hby at_100) rfl (teq (by decide : (2 : Int32) = (2 : Int32))).2 k) ?_
      show own_G p e below _ (T164.setTop (mkF m 103 #[.val (.int p1), .val (.int p2), .val (.int p3), .val (.int p4), .val (.int p5), .val (.int (2 : Int32)), .val (.ref b158), .val (.int p3), .val (.int (1 : Int32)), .val (.int p1), .val (.int p2), .unset, .unset] []))
      refine own_via (fun t k => XS.iloadN X164.here hx rfl (hb hby at_103) rfl k) ?_
      show own_G p e below _ (T164.setTop (mkF m 104 #[.val (.int p1), .val (.int p2), .val (.int p3), .val (.int p4), .val (.int p5), .val (.int (2 : Int32)), .val (.ref b158), .val (.int p3), .val (.int (1 : Int32)), .val (.int p1), .val (.int p2), .unset, .unset] [(.int p3)]))
      refine own_via (fun t k => XS.iload X164.here hx rfl (hb hby at_104) rfl k) ?_
      show own_G p e below _ (T164.setTop (mkF m 106 #[.val (.int p1), .val (.int p2), .val (.int p3), .val (.int p4), .val (.int p5), .val (.int (2 : Int32)), .val (.ref b158), .val (.int p3), .val (.int (1 : Int32)), .val (.int p1), .val (.int p2), .unset, .unset] [(.int p5), (.int p3)]))
      obtain ⟨_, _, ⟨T169, L169, k169, n169⟩, -, X169, ⟨Lc169, hQ169, l169, y169, z169⟩, st169⟩ := Jvm.LawKit.callS X164 hx (y := (⟨"java/lang/Math", "max", "(II)I"⟩ : MethodName)) hown (mvT hZ (hw _ (List.mem_of_getElem? (i := 6) rfl))) (mvT hZ (hw _ (List.mem_of_getElem? (i := 7) rfl))) (mvT hZ (hw _ (List.mem_of_getElem? (i := 8) rfl))) (mvT hZ (hw _ (List.mem_of_getElem? (i := 9) rfl))) (by decide) (backOf (W := 0) (rm2 l Z a0 hw [] p3 p5 T164.heap n0 Z164) hZ (hw _ (List.mem_of_getElem? (i := 9) rfl)) (hw _ (List.mem_of_getElem? (i := 8) rfl)) (by decide) (by decide)) (g := (mkF m 106 #[.val (.int p1), .val (.int p2), .val (.int p3), .val (.int p4), .val (.int p5), .val (.int (2 : Int32)), .val (.ref b158), .val (.int p3), .val (.int (1 : Int32)), .val (.int p1), .val (.int p2), .unset, .unset] [(.int p5), (.int p3)])) rfl (by rw [hml]; rfl) (argsL := [(.int p3), (.int p5)]) (rest := []) (lenOf pd_rm0_1 rfl) rfl (by show 2 * 0 + _ ≤ _; exact Nat.le_of_eq rfl) (hb hby at_106) (fun _ _ => ⟨rfl, rfl, (by decide : 1 + 0 ≤ _), (by decide : 3 + 0 ≤ _)⟩)
      dsimp only [Pt.U, Pt.locs, Pt.cells, Pt.slots] at X169 l169 y169 z169 st169 hQ169
      subst l169 y169 z169
      obtain ⟨rfl, N169q, e169⟩ := hQ169
      have N169 := Fr.app N164 N169q
      refine own_via st169 ?_
      show own_G p e below _ (T169.setTop (mkF m 109 #[.val (.int p1), .val (.int p2), .val (.int p3), .val (.int p4), .val (.int p5), .val (.int (2 : Int32)), .val (.ref b158), .val (.int p3), .val (.int (1 : Int32)), .val (.int p1), .val (.int p2), .unset, .unset] [(.int (own_max p3 p5))]))
      rw [show own_max p3 p5 = p5 from if_pos hob]
      show own_G p e below _ (T169.setTop (mkF m 109 #[.val (.int p1), .val (.int p2), .val (.int p3), .val (.int p4), .val (.int p5), .val (.int (2 : Int32)), .val (.ref b158), .val (.int p3), .val (.int (1 : Int32)), .val (.int p1), .val (.int p2), .unset, .unset] [(.int p5)]))
      refine own_via (fun t k => XS.goto X169.here hx rfl (pc0 := 109) (pc' := 113) rfl (hb hby at_109) (by decide) (by decide) k) ?_
      show own_G p e below _ (T169.setTop (mkF m 113 #[.val (.int p1), .val (.int p2), .val (.int p3), .val (.int p4), .val (.int p5), .val (.int (2 : Int32)), .val (.ref b158), .val (.int p3), .val (.int (1 : Int32)), .val (.int p1), .val (.int p2), .unset, .unset] [(.int p5)]))
      refine own_via (fun t k => XS.istore X169.here hx rfl (hb hby at_113) rfl (l' := #[.val (.int p1), .val (.int p2), .val (.int p3), .val (.int p4), .val (.int p5), .val (.int (2 : Int32)), .val (.ref b158), .val (.int p3), .val (.int (1 : Int32)), .val (.int p1), .val (.int p2), .val (.int p5), .unset]) rfl k) ?_
      show own_G p e below _ (T169.setTop (mkF m 115 #[.val (.int p1), .val (.int p2), .val (.int p3), .val (.int p4), .val (.int p5), .val (.int (2 : Int32)), .val (.ref b158), .val (.int p3), .val (.int (1 : Int32)), .val (.int p1), .val (.int p2), .val (.int p5), .unset] []))
      refine own_via (fun t k => XS.iload X169.here hx rfl (hb hby at_115) rfl k) ?_
      show own_G p e below _ (T169.setTop (mkF m 117 #[.val (.int p1), .val (.int p2), .val (.int p3), .val (.int p4), .val (.int p5), .val (.int (2 : Int32)), .val (.ref b158), .val (.int p3), .val (.int (1 : Int32)), .val (.int p1), .val (.int p2), .val (.int p5), .unset] [(.int p5)]))
      refine own_via (fun t k => XS.iload X169.here hx rfl (hb hby at_117) rfl k) ?_
      show own_G p e below _ (T169.setTop (mkF m 119 #[.val (.int p1), .val (.int p2), .val (.int p3), .val (.int p4), .val (.int p5), .val (.int (2 : Int32)), .val (.ref b158), .val (.int p3), .val (.int (1 : Int32)), .val (.int p1), .val (.int p2), .val (.int p5), .unset] [(.int p3), (.int p5)]))
      refine own_via (fun t k => XS.icmpNo X169.here hx rfl (hb hby at_119) rfl (tlt hob).2.2.2 k) ?_
      show own_G p e below _ (T169.setTop (mkF m 122 #[.val (.int p1), .val (.int p2), .val (.int p3), .val (.int p4), .val (.int p5), .val (.int (2 : Int32)), .val (.ref b158), .val (.int p3), .val (.int (1 : Int32)), .val (.int p1), .val (.int p2), .val (.int p5), .unset] []))
      refine own_via (fun t k => XS.iconst X169.here hx rfl (hb hby at_122) k) ?_
      show own_G p e below _ (T169.setTop (mkF m 123 #[.val (.int p1), .val (.int p2), .val (.int p3), .val (.int p4), .val (.int p5), .val (.int (2 : Int32)), .val (.ref b158), .val (.int p3), .val (.int (1 : Int32)), .val (.int p1), .val (.int p2), .val (.int p5), .unset] [(.int (1 : Int32))]))
      refine own_via (fun t k => XS.goto X169.here hx rfl (pc0 := 123) (pc' := 127) rfl (hb hby at_123) (by decide) (by decide) k) ?_
      show own_G p e below _ (T169.setTop (mkF m 127 #[.val (.int p1), .val (.int p2), .val (.int p3), .val (.int p4), .val (.int p5), .val (.int (2 : Int32)), .val (.ref b158), .val (.int p3), .val (.int (1 : Int32)), .val (.int p1), .val (.int p2), .val (.int p5), .unset] [(.int (1 : Int32))]))
      refine own_via (fun t k => XS.istore X169.here hx rfl (hb hby at_127) rfl (l' := #[.val (.int p1), .val (.int p2), .val (.int p3), .val (.int p4), .val (.int p5), .val (.int (2 : Int32)), .val (.ref b158), .val (.int p3), .val (.int (1 : Int32)), .val (.int p1), .val (.int p2), .val (.int p5), .val (.int (1 : Int32))]) rfl k) ?_
      show own_G p e below _ (T169.setTop (mkF m 129 #[.val (.int p1), .val (.int p2), .val (.int p3), .val (.int p4), .val (.int p5), .val (.int (2 : Int32)), .val (.ref b158), .val (.int p3), .val (.int (1 : Int32)), .val (.int p1), .val (.int p2), .val (.int p5), .val (.int (1 : Int32))] []))
      refine own_via (fun t k => XS.iload X169.here hx rfl (hb hby at_129) rfl k) ?_
      show own_G p e below _ (T169.setTop (mkF m 131 #[.val (.int p1), .val (.int p2), .val (.int p3), .val (.int p4), .val (.int p5), .val (.int (2 : Int32)), .val (.ref b158), .val (.int p3), .val (.int (1 : Int32)), .val (.int p1), .val (.int p2), .val (.int p5), .val (.int (1 : Int32))] [(.int (1 : Int32))]))
      refine own_via (fun t k => XS.iload X169.here hx rfl (hb hby at_131) rfl k) ?_
      show own_G p e below _ (T169.setTop (mkF m 133 #[.val (.int p1), .val (.int p2), .val (.int p3), .val (.int p4), .val (.int p5), .val (.int (2 : Int32)), .val (.ref b158), .val (.int p3), .val (.int (1 : Int32)), .val (.int p1), .val (.int p2), .val (.int p5), .val (.int (1 : Int32))] [(.int (1 : Int32)), (.int (1 : Int32))]))
      refine own_via (fun t k => XS.icmpNo X169.here hx rfl (hb hby at_133) rfl (teq (by decide : (1 : Int32) = (1 : Int32))).2 k) ?_
      show own_G p e below _ (T169.setTop (mkF m 136 #[.val (.int p1), .val (.int p2), .val (.int p3), .val (.int p4), .val (.int p5), .val (.int (2 : Int32)), .val (.ref b158), .val (.int p3), .val (.int (1 : Int32)), .val (.int p1), .val (.int p2), .val (.int p5), .val (.int (1 : Int32))] []))
      refine own_via (fun t k => XS.aload X169.here hx rfl (hb hby at_136) rfl rfl k) ?_
      show own_G p e below _ (T169.setTop (mkF m 138 #[.val (.int p1), .val (.int p2), .val (.int p3), .val (.int p4), .val (.int p5), .val (.int (2 : Int32)), .val (.ref b158), .val (.int p3), .val (.int (1 : Int32)), .val (.int p1), .val (.int p2), .val (.int p5), .val (.int (1 : Int32))] [(.ref b158)]))
      refine own_via (fun t k => XS.iconst X169.here hx rfl (hb hby at_138) k) ?_
      show own_G p e below _ (T169.setTop (mkF m 139 #[.val (.int p1), .val (.int p2), .val (.int p3), .val (.int p4), .val (.int p5), .val (.int (2 : Int32)), .val (.ref b158), .val (.int p3), .val (.int (1 : Int32)), .val (.int p1), .val (.int p2), .val (.int p5), .val (.int (1 : Int32))] [(.int (0 : Int32)), (.ref b158)]))
      obtain ⟨cl172, Ar172, q172, S172, Ng172, Hs172, G172⟩ := id V164
      have hin172 : ¬ ((0 : Int32) < 0 ∨ cl172.slots.size ≤ ((0 : Int32)).toNatClampNeg) := inb_of S172 ⟨by decide, by decide⟩
      have hat172 : cl172.slots[((0 : Int32)).toNatClampNeg]? = some (.double (FP.i2d p1)) := Hs172.at hin172 rfl
      refine own_via (fun t k => X169.daload hx (j := (0 : Int32)) (v := (.double (FP.i2d p1))) (by rw [e169]; exact Ar172.1) (State.isArrayOf_alike hZ.alike Ar172.2.1) Ar172.2.2 hin172 hat172 (g := (mkF m 139 #[.val (.int p1), .val (.int p2), .val (.int p3), .val (.int p4), .val (.int p5), .val (.int (2 : Int32)), .val (.ref b158), .val (.int p3), .val (.int (1 : Int32)), .val (.int p1), .val (.int p2), .val (.int p5), .val (.int (1 : Int32))] [(.int (0 : Int32)), (.ref b158)])) rfl rfl (hb hby at_139) _ k) ?_
      show own_G p e below _ (T169.setTop (mkF m 140 #[.val (.int p1), .val (.int p2), .val (.int p3), .val (.int p4), .val (.int p5), .val (.int (2 : Int32)), .val (.ref b158), .val (.int p3), .val (.int (1 : Int32)), .val (.int p1), .val (.int p2), .val (.int p5), .val (.int (1 : Int32))] [(.double (FP.i2d p1))]))
      refine own_via (fun t k => XS.iload X169.here hx rfl (hb hby at_140) rfl k) ?_
      show own_G p e below _ (T169.setTop (mkF m 142 #[.val (.int p1), .val (.int p2), .val (.int p3), .val (.int p4), .val (.int p5), .val (.int (2 : Int32)), .val (.ref b158), .val (.int p3), .val (.int (1 : Int32)), .val (.int p1), .val (.int p2), .val (.int p5), .val (.int (1 : Int32))] [(.int p1), (.double (FP.i2d p1))]))
      refine own_via (fun t k => XS.i2dS X169.here hx rfl (hb hby at_142) rfl rfl k) ?_
      show own_G p e below _ (T169.setTop (mkF m 143 #[.val (.int p1), .val (.int p2), .val (.int p3), .val (.int p4), .val (.int p5), .val (.int (2 : Int32)), .val (.ref b158), .val (.int p3), .val (.int (1 : Int32)), .val (.int p1), .val (.int p2), .val (.int p5), .val (.int (1 : Int32))] [(.double (FP.i2d p1)), (.double (FP.i2d p1))]))
      refine own_via (fun t k => XS.dcmpS X169.here hx rfl (hb hby at_143) rfl (own_dc_eq rfl _) k) ?_
      show own_G p e below _ (T169.setTop (mkF m 144 #[.val (.int p1), .val (.int p2), .val (.int p3), .val (.int p4), .val (.int p5), .val (.int (2 : Int32)), .val (.ref b158), .val (.int p3), .val (.int (1 : Int32)), .val (.int p1), .val (.int p2), .val (.int p5), .val (.int (1 : Int32))] [(.int (0 : Int32))]))
      refine own_via (fun t k => XS.ifNo X169.here hx rfl (hb hby at_144) rfl ((if0 _ _).trans (teq (by decide : (0 : Int32) = (0 : Int32))).2) k) ?_
      show own_G p e below _ (T169.setTop (mkF m 147 #[.val (.int p1), .val (.int p2), .val (.int p3), .val (.int p4), .val (.int p5), .val (.int (2 : Int32)), .val (.ref b158), .val (.int p3), .val (.int (1 : Int32)), .val (.int p1), .val (.int p2), .val (.int p5), .val (.int (1 : Int32))] []))
      refine own_via (fun t k => XS.aload X169.here hx rfl (hb hby at_147) rfl rfl k) ?_
      show own_G p e below _ (T169.setTop (mkF m 149 #[.val (.int p1), .val (.int p2), .val (.int p3), .val (.int p4), .val (.int p5), .val (.int (2 : Int32)), .val (.ref b158), .val (.int p3), .val (.int (1 : Int32)), .val (.int p1), .val (.int p2), .val (.int p5), .val (.int (1 : Int32))] [(.ref b158)]))
      refine own_via (fun t k => XS.iconst X169.here hx rfl (hb hby at_149) k) ?_
      show own_G p e below _ (T169.setTop (mkF m 150 #[.val (.int p1), .val (.int p2), .val (.int p3), .val (.int p4), .val (.int p5), .val (.int (2 : Int32)), .val (.ref b158), .val (.int p3), .val (.int (1 : Int32)), .val (.int p1), .val (.int p2), .val (.int p5), .val (.int (1 : Int32))] [(.int (1 : Int32)), (.ref b158)]))
      obtain ⟨cl174, Ar174, q174, S174, Ng174, Hs174, G174⟩ := id V164
      have hin174 : ¬ ((1 : Int32) < 0 ∨ cl174.slots.size ≤ ((1 : Int32)).toNatClampNeg) := inb_of S174 ⟨by decide, by decide⟩
      have hat174 : cl174.slots[((1 : Int32)).toNatClampNeg]? = some (.double (FP.i2d p2)) := Hs174.at hin174 rfl
      refine own_via (fun t k => X169.daload hx (j := (1 : Int32)) (v := (.double (FP.i2d p2))) (by rw [e169]; exact Ar174.1) (State.isArrayOf_alike hZ.alike Ar174.2.1) Ar174.2.2 hin174 hat174 (g := (mkF m 150 #[.val (.int p1), .val (.int p2), .val (.int p3), .val (.int p4), .val (.int p5), .val (.int (2 : Int32)), .val (.ref b158), .val (.int p3), .val (.int (1 : Int32)), .val (.int p1), .val (.int p2), .val (.int p5), .val (.int (1 : Int32))] [(.int (1 : Int32)), (.ref b158)])) rfl rfl (hb hby at_150) _ k) ?_
      show own_G p e below _ (T169.setTop (mkF m 151 #[.val (.int p1), .val (.int p2), .val (.int p3), .val (.int p4), .val (.int p5), .val (.int (2 : Int32)), .val (.ref b158), .val (.int p3), .val (.int (1 : Int32)), .val (.int p1), .val (.int p2), .val (.int p5), .val (.int (1 : Int32))] [(.double (FP.i2d p2))]))
      refine own_via (fun t k => XS.iload X169.here hx rfl (hb hby at_151) rfl k) ?_
      show own_G p e below _ (T169.setTop (mkF m 153 #[.val (.int p1), .val (.int p2), .val (.int p3), .val (.int p4), .val (.int p5), .val (.int (2 : Int32)), .val (.ref b158), .val (.int p3), .val (.int (1 : Int32)), .val (.int p1), .val (.int p2), .val (.int p5), .val (.int (1 : Int32))] [(.int p2), (.double (FP.i2d p2))]))
      refine own_via (fun t k => XS.i2dS X169.here hx rfl (hb hby at_153) rfl rfl k) ?_
      show own_G p e below _ (T169.setTop (mkF m 154 #[.val (.int p1), .val (.int p2), .val (.int p3), .val (.int p4), .val (.int p5), .val (.int (2 : Int32)), .val (.ref b158), .val (.int p3), .val (.int (1 : Int32)), .val (.int p1), .val (.int p2), .val (.int p5), .val (.int (1 : Int32))] [(.double (FP.i2d p2)), (.double (FP.i2d p2))]))
      refine own_via (fun t k => XS.dcmpS X169.here hx rfl (hb hby at_154) rfl (own_dc_eq rfl _) k) ?_
      show own_G p e below _ (T169.setTop (mkF m 155 #[.val (.int p1), .val (.int p2), .val (.int p3), .val (.int p4), .val (.int p5), .val (.int (2 : Int32)), .val (.ref b158), .val (.int p3), .val (.int (1 : Int32)), .val (.int p1), .val (.int p2), .val (.int p5), .val (.int (1 : Int32))] [(.int (0 : Int32))]))
      refine own_via (fun t k => XS.ifNo X169.here hx rfl (hb hby at_155) rfl ((if0 _ _).trans (teq (by decide : (0 : Int32) = (0 : Int32))).2) k) ?_
      show own_G p e below _ (T169.setTop (mkF m 158 #[.val (.int p1), .val (.int p2), .val (.int p3), .val (.int p4), .val (.int p5), .val (.int (2 : Int32)), .val (.ref b158), .val (.int p3), .val (.int (1 : Int32)), .val (.int p1), .val (.int p2), .val (.int p5), .val (.int (1 : Int32))] []))
      refine own_via (fun t k => XS.aload X169.here hx rfl (hb hby at_158) rfl rfl k) ?_
      show own_G p e below _ (T169.setTop (mkF m 160 #[.val (.int p1), .val (.int p2), .val (.int p3), .val (.int p4), .val (.int p5), .val (.int (2 : Int32)), .val (.ref b158), .val (.int p3), .val (.int (1 : Int32)), .val (.int p1), .val (.int p2), .val (.int p5), .val (.int (1 : Int32))] [(.ref b158)]))
      refine own_via (fun t k => XS.iconst X169.here hx rfl (hb hby at_160) k) ?_
      show own_G p e below _ (T169.setTop (mkF m 161 #[.val (.int p1), .val (.int p2), .val (.int p3), .val (.int p4), .val (.int p5), .val (.int (2 : Int32)), .val (.ref b158), .val (.int p3), .val (.int (1 : Int32)), .val (.int p1), .val (.int p2), .val (.int p5), .val (.int (1 : Int32))] [(.int (2 : Int32)), (.ref b158)]))
      obtain ⟨cl176, Ar176, q176, S176, Ng176, Hs176, G176⟩ := id V164
      have hin176 : ¬ ((2 : Int32) < 0 ∨ cl176.slots.size ≤ ((2 : Int32)).toNatClampNeg) := inb_of S176 ⟨by decide, by decide⟩
      have hat176 : cl176.slots[((2 : Int32)).toNatClampNeg]? = some (.double (FP.i2d p5)) := Hs176.at hin176 rfl
      refine own_via (fun t k => X169.daload hx (j := (2 : Int32)) (v := (.double (FP.i2d p5))) (by rw [e169]; exact Ar176.1) (State.isArrayOf_alike hZ.alike Ar176.2.1) Ar176.2.2 hin176 hat176 (g := (mkF m 161 #[.val (.int p1), .val (.int p2), .val (.int p3), .val (.int p4), .val (.int p5), .val (.int (2 : Int32)), .val (.ref b158), .val (.int p3), .val (.int (1 : Int32)), .val (.int p1), .val (.int p2), .val (.int p5), .val (.int (1 : Int32))] [(.int (2 : Int32)), (.ref b158)])) rfl rfl (hb hby at_161) _ k) ?_
      show own_G p e below _ (T169.setTop (mkF m 162 #[.val (.int p1), .val (.int p2), .val (.int p3), .val (.int p4), .val (.int p5), .val (.int (2 : Int32)), .val (.ref b158), .val (.int p3), .val (.int (1 : Int32)), .val (.int p1), .val (.int p2), .val (.int p5), .val (.int (1 : Int32))] [(.double (FP.i2d p5))]))
      refine own_via (fun t k => XS.iload X169.here hx rfl (hb hby at_162) rfl k) ?_
      show own_G p e below _ (T169.setTop (mkF m 164 #[.val (.int p1), .val (.int p2), .val (.int p3), .val (.int p4), .val (.int p5), .val (.int (2 : Int32)), .val (.ref b158), .val (.int p3), .val (.int (1 : Int32)), .val (.int p1), .val (.int p2), .val (.int p5), .val (.int (1 : Int32))] [(.int p5), (.double (FP.i2d p5))]))
      refine own_via (fun t k => XS.i2dS X169.here hx rfl (hb hby at_164) rfl rfl k) ?_
      show own_G p e below _ (T169.setTop (mkF m 165 #[.val (.int p1), .val (.int p2), .val (.int p3), .val (.int p4), .val (.int p5), .val (.int (2 : Int32)), .val (.ref b158), .val (.int p3), .val (.int (1 : Int32)), .val (.int p1), .val (.int p2), .val (.int p5), .val (.int (1 : Int32))] [(.double (FP.i2d p5)), (.double (FP.i2d p5))]))
      refine own_via (fun t k => XS.dcmpS X169.here hx rfl (hb hby at_165) rfl (own_dc_eq rfl _) k) ?_
      show own_G p e below _ (T169.setTop (mkF m 166 #[.val (.int p1), .val (.int p2), .val (.int p3), .val (.int p4), .val (.int p5), .val (.int (2 : Int32)), .val (.ref b158), .val (.int p3), .val (.int (1 : Int32)), .val (.int p1), .val (.int p2), .val (.int p5), .val (.int (1 : Int32))] [(.int (0 : Int32))]))
      refine own_via (fun t k => XS.ifNo X169.here hx rfl (hb hby at_166) rfl ((if0 _ _).trans (teq (by decide : (0 : Int32) = (0 : Int32))).2) k) ?_
      show own_G p e below _ (T169.setTop (mkF m 169 #[.val (.int p1), .val (.int p2), .val (.int p3), .val (.int p4), .val (.int p5), .val (.int (2 : Int32)), .val (.ref b158), .val (.int p3), .val (.int (1 : Int32)), .val (.int p1), .val (.int p2), .val (.int p5), .val (.int (1 : Int32))] []))
      refine own_via (fun t k => XS.iconst X169.here hx rfl (hb hby at_169) k) ?_
      show own_G p e below _ (T169.setTop (mkF m 170 #[.val (.int p1), .val (.int p2), .val (.int p3), .val (.int p4), .val (.int p5), .val (.int (2 : Int32)), .val (.ref b158), .val (.int p3), .val (.int (1 : Int32)), .val (.int p1), .val (.int p2), .val (.int p5), .val (.int (1 : Int32))] [(.int (1 : Int32))]))
      refine own_via (fun t k => XS.goto X169.here hx rfl (pc0 := 170) (pc' := 174) rfl (hb hby at_170) (by decide) (by decide) k) ?_
      show own_G p e below _ (T169.setTop (mkF m 174 #[.val (.int p1), .val (.int p2), .val (.int p3), .val (.int p4), .val (.int p5), .val (.int (2 : Int32)), .val (.ref b158), .val (.int p3), .val (.int (1 : Int32)), .val (.int p1), .val (.int p2), .val (.int p5), .val (.int (1 : Int32))] [(.int (1 : Int32))]))
      obtain ⟨fs, hr, hrun, hended, hW, hsame⟩ := X169.leave (v := some (.int (1 : Int32))) (fun h => by rw [Bd.returns] at h; cases h)
      refine ⟨_, _, retN X169 hx (t := .boolean) Bd.returns (by simp) (hb hby at_174) hr, hrun, hended, _, _, rfl, ?_, ⟨_, rfl⟩, hW, hsame.mono (by decide) (by decide)⟩
      show rm0_Q Z p1 p2 p3 p4 p5 h0 n0 _ T169.heap _
      rw [e169]
      exact ⟨rfl, N169⟩

set_option maxRecDepth 65536 in
set_option maxHeartbeats 40000000 in
theorem comes_1 {Post : Tables → Env → Array Value → State → Outcome → State → Prop} (hpost : ∀ tb e args s v u, (limb_1_1.after args s (.returned v) u = true ∧ limb_1_2.after args s (.returned v) u = true ∧ True) → FrameEnd s (.returned v) u (Jvm.fieldLocs frame_1_writes args s ++ Jvm.arrayLocs frame_1_arrays args s ++ Jvm.staticLocs frame_1_statics s) 16 128 → Post tb e args s (.returned v) u) :
    ArmFor flags0 classFile x code maxLocals ret World_1 tables_1 room_1 Calls_1 rest_1 Pre_1 Post := by
  intro l hfl _ _ p e ha hc hk s m args below hf hA hF happ hP
  obtain ⟨hcalls, hrest, hpre⟩ := hP
  obtain ⟨-, -, -, hnamed, -, -, -, hat⟩ := (Spec.applies_iff hf).mp happ
  obtain ⟨hg, hn⟩ := and_e (Cond.before_iff.mp (show (Jvm.Cond.and given_1 narrow_1).before args s = true from hpre))
  obtain ⟨gg1, gg2⟩ := and_e hg
  obtain ⟨gg3, gg4⟩ := and_e gg2
  obtain ⟨gg5, gg6⟩ := and_e gg4
  obtain ⟨gg7, gg8⟩ := and_e gg6
  obtain ⟨gg9, gg10⟩ := and_e gg8
  obtain ⟨w0, w1, w2, w3, w4, rfl⟩ : ∃ w0 w1 w2 w3 w4 : Value, args = #[w0, w1, w2, w3, w4] := by
    have hs : args.size = 5 := by simpa [Cond.value, given_1] using gg1
    obtain ⟨L⟩ := args
    match L, hs with
    | [w0, w1, w2, w3, w4], _ => exact ⟨w0, w1, w2, w3, w4, rfl⟩
  have hw := fun d (hd : d ∈ tables_1) => atoms_spec (ws := Jvm.Cond.code x code maxLocals ret :: tables_1) hat d (List.mem_cons_of_mem _ hd)
  obtain ⟨i0, ei0⟩ := is_v gg3
  obtain rfl : w0 = (.int i0) := Option.some.inj ei0
  obtain ⟨i1, ei1⟩ := is_v gg5
  obtain rfl : w1 = (.int i1) := Option.some.inj ei1
  obtain ⟨i2, ei2⟩ := is_v gg7
  obtain rfl : w2 = (.int i2) := Option.some.inj ei2
  obtain ⟨i3, ei3⟩ := is_v gg9
  obtain rfl : w3 = (.int i3) := Option.some.inj ei3
  obtain ⟨i4, ei4⟩ := is_v gg10
  obtain rfl : w4 = (.int i4) := Option.some.inj ei4
  obtain ⟨n, o, h1, h2, h3, _, L, rfl, ⟨rfl, N⟩, hq⟩ := rm0 l s _ hw tables_1 i0 i1 i2 i3 i4 s.heap s.heap.size (Nat.le_refl _) p e ha hc hk s m _ below hf ((Spec.applies_iff_loose hf).mp happ).1 ⟨rfl, State.Warmed39.refl s, rfl⟩ trivial
  refine ⟨n, _, h1, h2, h3, hpost _ _ _ _ _ _ ⟨Cond.after_iff.mpr rfl, Cond.after_iff.mpr (eq_i res_at (Term.int_eval (1)) rfl), trivial⟩ ⟨hq.1, hq.2.1, (hq.2.2.sift fun y hy => Or.inr (N y hy)).mono (by decide) (by decide)⟩⟩
theorem main_1_1 : Claimed_1_1 := comes_1 fun _ _ _ _ _ _ h hF => ⟨h.1, hF⟩
theorem main_1_2 : Claimed_1_2 := comes_1 fun _ _ _ _ _ _ h hF => ⟨h.2.1, hF⟩

end Jvm.Pilot.@@N@@
namespace Jvm.Pilot.@@N@@
open Jvm Jvm.ClassFile Sem Op Lib Jvm.Free Jvm.Stand Jvm.Pilot.@@N@@.Jvm.D
/-! MADE BY PROGRAM (witnessworld.py) out of the Statement's table words and the real class files: 12 classes; the members and pool entries that the words name. The judged class is class 1, her method 1. -/
namespace start1
open Jvm.ClassFile
def u (s : String) : CpInfo := .utf8 (stringToUtf16 s)
/-- a pool by its gaps: so many unusable entries, then the entry; so many at the end -/
def gap : Nat → List CpInfo → List CpInfo
  | 0, r => r
  | n + 1, r => .unusable :: gap n r
def poolList (es : List (Nat × CpInfo)) (last : Nat) : List CpInfo := es.foldr (fun e r => gap e.1 (e.2 :: r)) (gap last [])
def pool (es : List (Nat × CpInfo)) (last : Nat) : Array CpInfo := ⟨poolList es last⟩
def fileOf (pool : Array CpInfo) (this : Nat) (attrs : Array Attribute := #[]) (ms : Array MethodInfo := #[]) (fl : Nat := 33) (sup : Nat := 0) (ifs : Array Nat := #[]) (fds : Array FieldInfo := #[]) : ClassFile where
  minorVersion := 0
  majorVersion := 65
  constantPool := pool
  accessFlags := fl
  thisClass := this
  superClass := sup
  interfaces := ifs
  fields := fds
  methods := ms
  attributes := attrs
def plain (name : String) (sup : Option ClassId) : Class where
  name := name
  kind := .ordinary
  loader := none
  accessFlags := 33
  super := sup
  interfaces := #[]
  cf := none
  fields := #[]
  methods := #[]
  instanceTypes := #[]
  staticTypes := #[]
  resolved := #[]
  callSites := []
  init := .initialized
  statics := none
  mirror := none

def pool0 : Array CpInfo := pool [(5, u "<init>"), (0, u "()V"), (1, .class_ 10), (1, u "java/lang/Object")] 113

def k0m0 : Method := { name := "<init>", desc := "()V", sig := { parameters := [], returnType := none }, accessFlags := 1, code := none }
/-- java/lang/Object -/
def k0 : Class := { plain "java/lang/Object" none with
  accessFlags := 33
  interfaces := #[]
  cf := some (fileOf pool0 8 #[] #[{ accessFlags := 1, nameIndex := 5, descriptorIndex := 6, attributes := #[] }] 33 0 #[] #[])
  fields := #[]
  methods := #[k0m0]
  instanceTypes := #[]
  staticTypes := #[]
  resolved := Array.replicate 124 none
  statics := none }

def pool1 : Array CpInfo := pool [(2, .class_ 4), (1, u "java/lang/Object"), (0, u "<init>"), (0, u "()V"), (0, .integer 2147483647), (0, .methodref 9 10), (0, .class_ 11), (0, .nameAndType 12 13), (0, u "com/example/odds2/odds2/engine/Bounds"), (0, u "tightenLower"), (0, u "([DID)Z"), (0, .methodref 15 16), (0, .class_ 17), (0, .nameAndType 18 19), (0, u "java/lang/Math"), (0, u "max"), (0, u "(II)I"), (0, .class_ 21), (0, u "com/example/odds2/odds2/engine/BoundsTightenLowerPinLaw"), (2, u "law"), (0, u "(IIIII)Z")] 5

def k1m0 : Method := { name := "<init>", desc := "()V", sig := { parameters := [], returnType := none }, accessFlags := 1, code := none }
def k1c1 : Code := { maxStack := 5, maxLocals := 13, code := code, exceptionTable := #[], attributes := #[] }
def k1m1 : Method := { name := "law", desc := "(IIIII)Z", sig := { parameters := [.int, .int, .int, .int, .int], returnType := some .boolean }, accessFlags := 9, code := some k1c1 }
/-- com/example/odds2/odds2/engine/BoundsTightenLowerPinLaw -/
def k1 : Class := { plain "com/example/odds2/odds2/engine/BoundsTightenLowerPinLaw" (some 0) with
  accessFlags := 49
  interfaces := #[]
  cf := some (fileOf pool1 20 #[] #[{ accessFlags := 1, nameIndex := 5, descriptorIndex := 6, attributes := #[] }, { accessFlags := 9, nameIndex := 24, descriptorIndex := 25, attributes := #[] }] 49 2 #[] #[])
  fields := #[]
  methods := #[k1m0, k1m1]
  instanceTypes := #[]
  staticTypes := #[]
  resolved := Array.replicate 31 none
  statics := none }

def pool2 : Array CpInfo := pool [(2, .class_ 4), (1, u "java/lang/Object"), (19, .class_ 26), (1, u "com/example/odds2/odds2/engine/Bounds"), (0, u "lower"), (0, u "D"), (2, u "upper"), (43, u "tightenLower"), (0, u "([DID)Z")] 22

def k2c0 : Code := { maxStack := 4, maxLocals := 5, code := prog_7_method_6_code, exceptionTable := #[], attributes := #[] }
def k2m0 : Method := { name := "tightenLower", desc := "([DID)Z", sig := { parameters := [(.array .double), .int, .double], returnType := some .boolean }, accessFlags := 8, code := some k2c0 }
/-- com/example/odds2/odds2/engine/Bounds -/
def k2 : Class := { plain "com/example/odds2/odds2/engine/Bounds" (some 0) with
  accessFlags := 49
  interfaces := #[]
  cf := some (fileOf pool2 24 #[] #[{ accessFlags := 8, nameIndex := 75, descriptorIndex := 76, attributes := #[] }] 49 2 #[] #[{ accessFlags := 18, nameIndex := 27, descriptorIndex := 28, attributes := #[] }, { accessFlags := 18, nameIndex := 31, descriptorIndex := 28, attributes := #[] }])
  fields := #[{ name := "lower", type := .double, accessFlags := 18, slot := 0, constantValue := 0 }, { name := "upper", type := .double, accessFlags := 18, slot := 1, constantValue := 0 }]
  methods := #[k2m0]
  instanceTypes := #[.double, .double]
  staticTypes := #[]
  resolved := Array.replicate 99 none
  statics := none }

def pool3 : Array CpInfo := pool [(1, .class_ 2), (0, u "java/lang/Math"), (1, .class_ 6), (1, u "java/lang/Object"), (0, u "<init>"), (0, u "()V"), (89, .class_ 100), (1, u "java/lang/Math$RandomNumberGeneratorHolder"), (71, u "negativeZeroFloatBits"), (0, u "J"), (2, u "negativeZeroDoubleBits"), (21, u "max"), (46, u "$assertionsDisabled"), (0, u "Z"), (88, u "(II)I"), (2, u "twoToTheDoubleScaleDown"), (0, u "D"), (4, u "twoToTheDoubleScaleUp"), (9, u "E"), (3, u "PI"), (2, u "TAU"), (2, u "DEGREES_TO_RADIANS"), (0, u "RADIANS_TO_DEGREES")] 94

def k3m0 : Method := { name := "<init>", desc := "()V", sig := { parameters := [], returnType := none }, accessFlags := 2, code := none }
def k3c1 : Code := { maxStack := 2, maxLocals := 2, code := jdk_29_method_65_code, exceptionTable := #[], attributes := #[] }
def k3m1 : Method := { name := "max", desc := "(II)I", sig := { parameters := [.int, .int], returnType := some .int }, accessFlags := 9, code := some k3c1 }
/-- java/lang/Math -/
def k3 : Class := { plain "java/lang/Math" (some 0) with
  accessFlags := 49
  interfaces := #[]
  cf := some (fileOf pool3 1 #[.nestMembers #[98]] #[{ accessFlags := 2, nameIndex := 7, descriptorIndex := 8, attributes := #[] }, { accessFlags := 9, nameIndex := 198, descriptorIndex := 335, attributes := #[] }] 49 4 #[] #[{ accessFlags := 25, nameIndex := 354, descriptorIndex := 339, attributes := #[] }, { accessFlags := 25, nameIndex := 358, descriptorIndex := 339, attributes := #[] }, { accessFlags := 25, nameIndex := 361, descriptorIndex := 339, attributes := #[] }, { accessFlags := 26, nameIndex := 364, descriptorIndex := 339, attributes := #[] }, { accessFlags := 26, nameIndex := 365, descriptorIndex := 339, attributes := #[] }, { accessFlags := 26, nameIndex := 172, descriptorIndex := 173, attributes := #[] }, { accessFlags := 26, nameIndex := 176, descriptorIndex := 173, attributes := #[] }, { accessFlags := 8, nameIndex := 344, descriptorIndex := 339, attributes := #[] }, { accessFlags := 8, nameIndex := 338, descriptorIndex := 339, attributes := #[] }, { accessFlags := 4120, nameIndex := 245, descriptorIndex := 246, attributes := #[] }])
  fields := #[{ name := "E", type := .double, accessFlags := 25, slot := 0, constantValue := 0 }, { name := "PI", type := .double, accessFlags := 25, slot := 1, constantValue := 0 }, { name := "TAU", type := .double, accessFlags := 25, slot := 2, constantValue := 0 }, { name := "DEGREES_TO_RADIANS", type := .double, accessFlags := 26, slot := 3, constantValue := 0 }, { name := "RADIANS_TO_DEGREES", type := .double, accessFlags := 26, slot := 4, constantValue := 0 }, { name := "negativeZeroFloatBits", type := .long, accessFlags := 26, slot := 5, constantValue := 0 }, { name := "negativeZeroDoubleBits", type := .long, accessFlags := 26, slot := 6, constantValue := 0 }, { name := "twoToTheDoubleScaleUp", type := .double, accessFlags := 8, slot := 7, constantValue := 0 }, { name := "twoToTheDoubleScaleDown", type := .double, accessFlags := 8, slot := 8, constantValue := 0 }, { name := "$assertionsDisabled", type := .boolean, accessFlags := 4120, slot := 9, constantValue := 0 }]
  methods := #[k3m0, k3m1]
  instanceTypes := #[]
  staticTypes := #[.double, .double, .double, .double, .double, .long, .long, .double, .double, .boolean]
  resolved := Array.replicate 460 none
  statics := none }

def pool4 : Array CpInfo := pool [(1, u "java/lang/Cloneable"), (0, .class_ 1), (0, u "java/lang/Object"), (0, .class_ 3)] 3

/-- java/lang/Cloneable -/
def k4 : Class := { plain "java/lang/Cloneable" (some 0) with
  accessFlags := 1537
  interfaces := #[]
  cf := some (fileOf pool4 2 #[] #[] 1537 4 #[] #[])
  fields := #[]
  methods := #[]
  instanceTypes := #[]
  staticTypes := #[]
  resolved := Array.replicate 8 none
  statics := none }

def pool5 : Array CpInfo := pool [(1, u "java/io/Serializable"), (0, .class_ 1), (0, u "java/lang/Object"), (0, .class_ 3)] 3

/-- java/io/Serializable -/
def k5 : Class := { plain "java/io/Serializable" (some 0) with
  accessFlags := 1537
  interfaces := #[]
  cf := some (fileOf pool5 2 #[] #[] 1537 4 #[] #[])
  fields := #[]
  methods := #[]
  instanceTypes := #[]
  staticTypes := #[]
  resolved := Array.replicate 8 none
  statics := none }

/-- the primitive byte -/
def k6 : Class := { plain "byte" none with kind := .primitive 'B', accessFlags := 0x411 }
/-- [B -/
def k7 : Class := { plain "[B" (some 0) with kind := .array 6 .byte, interfaces := #[4, 5], accessFlags := 1041 }

/-- the primitive double -/
def k8 : Class := { plain "double" none with kind := .primitive 'D', accessFlags := 0x411 }
/-- [D -/
def k9 : Class := { plain "[D" (some 0) with kind := .array 8 .double, interfaces := #[4, 5], accessFlags := 1041 }

/-- the primitive int -/
def k10 : Class := { plain "int" none with kind := .primitive 'I', accessFlags := 0x411 }
/-- [I -/
def k11 : Class := { plain "[I" (some 0) with kind := .array 10 .int, interfaces := #[4, 5], accessFlags := 1041 }

def heap : Heap := #[]
def classes : Array Class := #[k0, k1, k2, k3, k4, k5, k6, k7, k8, k9, k10, k11]
def interned : List (Array UInt16 × Addr) := []
def slotsUsed : Nat := 0
def theMethod : MethodId := ⟨1, 1⟩
def args0 : Array Value := #[.int 1, .int 2, .int 3, .int 4, .int 5]
def aboutOver (below : List Frame) : State where
  vm := { classes := classes, interned := interned.toArray }
  heap := heap
  slotsUsed := slotsUsed
  threads := #[{ frames := .invoking theMethod args0 :: below }]
def below0 : List Frame := [.native { method := ⟨0, 0⟩, args := #[] }]
def about1 : State := aboutOver below0
def p0 : Program := .bare "" "" ""
def e0 : Env := launch0.env 0 0 0
theorem w_frames : about1.frames = Frame.invoking theMethod args0 :: below0 := rfl
set_option maxRecDepth 65536 in
theorem w_args : argsFit about1.vm theMethod args0 = true := by decide +kernel
set_option maxRecDepth 65536 in
theorem w_heap : heapFits about1 = true := by decide +kernel
set_option maxRecDepth 65536 in
theorem w_runnable : about1.curStatus? = some .runnable := by decide +kernel
set_option maxRecDepth 65536 in
theorem w_alone : about1.alone = true := by decide +kernel
set_option maxRecDepth 65536 in
theorem w_named : about1.methodNamed? x = some theMethod := by decide +kernel
set_option maxRecDepth 65536 in
theorem w_hears : about1.hears theMethod below0 = true := by decide +kernel
set_option maxRecDepth 65536 in
theorem w_ripe : about1.ripe theMethod args0 below0 = true := by decide +kernel
theorem w_running : about1.status = .running := rfl
set_option maxRecDepth 65536 in
theorem w_room : about1.hasRoom e0.platform room_1 = true :=
  launch0.hasRoom_least _ room_1 (by decide +kernel) (by decide +kernel) (by decide +kernel) (by decide +kernel) (by decide +kernel) (by decide +kernel)
theorem allAtoms_all (ts : List Jvm.Cond) (a : Array Jvm.Value) (st : Jvm.State) : (allAtoms ts).before a st = ts.all (fun c => c.before a st) := by
  induction ts with
  | nil => rfl
  | cons c t ih =>
    show (Jvm.Cond.and c (allAtoms t)).before a st = _
    rw [Jvm.Cond.before_and, ih, List.all_cons]
def words1 : List Jvm.Cond := Jvm.Cond.code x code maxLocals ret :: tables_1
/-- a 'code' word, met by the world's own term for the bytes: nothing is compared byte by byte -/
theorem code_word {y : MethodName} {bytes : ByteArray} {mx : Nat} {rt : Option FieldType} {a : Array Value} {s : State} {m : MethodId} {meth : Method} {c : Code} (h1 : s.methodNamed? y = some m) (h2 : s.vm.method? m = some meth) (h3 : meth.code = some c) (h4 : c.code = bytes)
    (h5 : (c.maxLocals == mx && c.exceptionTable.isEmpty && decide (c.maxStack ≤ mostOperands) && decide (meth.sig.returnType = rt) && !meth.locks && decide (parseMethodDescriptor y.desc = some meth.sig)) = true) : (Jvm.Cond.code y bytes mx rt).before a s = true := by
  simp only [Bool.and_eq_true, beq_iff_eq, Bool.not_eq_true', decide_eq_true_eq] at h5
  obtain ⟨⟨⟨⟨⟨g1, g2⟩, g3⟩, g4⟩, g5⟩, g6⟩ := h5
  simp [Cond.before, Cond.holds, Cond.value, h1, h2, h3, h4, g1, g2, g3, g4, g5, g6]
def isCode : Jvm.Cond → Bool
  | .code _ _ _ _ => true
  | _ => false
theorem all_split {L : List Jvm.Cond} {P : Jvm.Cond → Bool} (h1 : L.all (fun c => isCode c || P c) = true) (h2 : ∀ c ∈ L.filter isCode, P c = true) : L.all P = true := by
  refine List.all_eq_true.mpr fun c hc => ?_
  have h := List.all_eq_true.mp h1 c hc
  rcases Bool.eq_false_or_eq_true (isCode c) with hi | hi
  · exact h2 c (List.mem_filter.mpr ⟨hc, hi⟩)
  · simpa [hi] using h
set_option maxRecDepth 65536 in
theorem w_c0 : (Jvm.Cond.code x code maxLocals ret).before args0 about1 = true := code_word (m := ⟨1, 1⟩) (meth := k1m1) (c := k1c1) (by decide +kernel) rfl rfl rfl (by decide +kernel)
set_option maxRecDepth 65536 in
theorem w_c1 : (Jvm.Cond.code ({ cls := "com/example/odds2/odds2/engine/Bounds", name := "tightenLower", desc := "([DID)Z" } : Jvm.MethodName) prog_7_method_6_code (5 : Nat) (Option.some Jvm.ClassFile.FieldType.boolean)).before args0 about1 = true := code_word (m := ⟨2, 0⟩) (meth := k2m0) (c := k2c0) (by decide +kernel) rfl rfl rfl (by decide +kernel)
set_option maxRecDepth 65536 in
theorem w_c2 : (Jvm.Cond.code ({ cls := "java/lang/Math", name := "max", desc := "(II)I" } : Jvm.MethodName) jdk_29_method_65_code (2 : Nat) (Option.some Jvm.ClassFile.FieldType.int)).before args0 about1 = true := code_word (m := ⟨3, 1⟩) (meth := k3m1) (c := k3c1) (by decide +kernel) rfl rfl rfl (by decide +kernel)
def codes1 : List Jvm.Cond := [Jvm.Cond.code x code maxLocals ret, Jvm.Cond.code ({ cls := "com/example/odds2/odds2/engine/Bounds", name := "tightenLower", desc := "([DID)Z" } : Jvm.MethodName) prog_7_method_6_code (5 : Nat) (Option.some Jvm.ClassFile.FieldType.boolean), Jvm.Cond.code ({ cls := "java/lang/Math", name := "max", desc := "(II)I" } : Jvm.MethodName) jdk_29_method_65_code (2 : Nat) (Option.some Jvm.ClassFile.FieldType.int)]
set_option maxRecDepth 65536 in
theorem codes_eq : words1.filter isCode = codes1 := rfl
theorem w_codes : ∀ c ∈ words1.filter isCode, c.before args0 about1 = true := by
  rw [codes_eq]
  intro c hc
  simp only [codes1, List.mem_cons, List.not_mem_nil, or_false] at hc
  rcases hc with rfl | rfl | rfl
  · exact w_c0
  · exact w_c1
  · exact w_c2
set_option maxRecDepth 65536 in
theorem w_t1 : words1.all (fun c => isCode c || c.before args0 about1) = true := by decide +kernel
theorem w_tables : (allAtoms (Jvm.Cond.code x code maxLocals ret :: tables_1)).before args0 about1 = true := by
  rw [allAtoms_all]
  show words1.all (fun c => c.before args0 about1) = true
  refine all_split ?_ w_codes
  rw [w_t1]
set_option maxRecDepth 65536 in
theorem w_case : (Jvm.Cond.and given_1 narrow_1).before args0 about1 = true := by decide +kernel
theorem w_applies : (headSpec (Jvm.Cond.code x code maxLocals ret :: tables_1) room_1).applies x e0.platform about1 = true :=
  (Spec.applies_iff w_frames).mpr ⟨w_running, w_runnable, w_alone, w_named, w_hears, w_ripe, w_room, w_tables⟩
theorem atStart : AtStart classFile x code maxLocals ret World_1 tables_1 room_1 Calls_1 rest_1 Pre_1 launch0 p0 e0 about1 theMethod args0 below0 :=
  ⟨lists_1, trivial, launch0.admits_env _ _ _, launch0.least_env, fairChoices_fair.cas, fairChoices_fair.clock, w_frames, w_args, w_heap, w_applies, trivial, trivial, w_case⟩
end start1
theorem witness_1 : WitnessClaimed_1 := ⟨start1.p0, start1.e0, start1.about1, start1.theMethod, start1.args0, start1.below0, start1.atStart⟩
end Jvm.Pilot.@@N@@
