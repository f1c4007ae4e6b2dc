import JvmDerived
import JvmDerived.Pilot.@@N@@Statement
import JvmDerived.Pilot.@@N@@Code
set_option linter.unusedVariables false
set_option linter.unusedSimpArgs false
@@BLOCK:NumsL.lean.txt@@
namespace Jvm.Pilot.@@N@@
open Jvm Jvm.ClassFile Sem Op Lib Jvm.Free Jvm.Stand Jvm.LawKit Jvm.RoadKit Bundle Jvm.Pilot.@@N@@.Jvm.D

def own_G (p : Program) (e : Env) (below : List Frame) (B : State → Outcome → Prop) (U : State) : Prop := ∃ t o, Steps p.tables e below U t ∧ t.status = .running ∧ Ended t below o ∧ B t o
theorem own_via {p : Program} {e : Env} {below : List Frame} {B : State → Outcome → Prop} {U U' : State} (h : ∀ t, Steps p.tables e below U' t → Steps p.tables e below U t) (k : own_G p e below B U') : own_G p e below B U := by
  obtain ⟨t, o, a, r⟩ := k
  exact ⟨t, o, h t a, r⟩
theorem own_start {p : Program} {e : Env} {below : List Frame} {B : State → Outcome → Prop} {U : State} (k : own_G p e below B U) : ∃ t o, Steps p.tables e below U t ∧ t.status = .running ∧ Ended t below o ∧ B t o := k

section Num
open Jvm.FP.Core
set_option maxHeartbeats 4000000 in
/-- a whole number below 2^63, rounded to a double, is a whole number not far off, and itself where its last digits are nought -/
theorem own_round {i : Int} {d : Datum} (h : Whole i d) (hi : i.natAbs < 2 ^ 63) : ∃ n : Int, Whole n (round b64 d) ∧ (n - i).natAbs ≤ 1024 ∧ ∀ e : Nat, 2 ^ e ∣ i.natAbs → i.natAbs < 2 ^ (e + 53) → n = i := by
  cases d with
  | nan => exact h.elim
  | inf => exact h.elim
  | fin s c q =>
    by_cases hs : i.natAbs ≤ 2 ^ 53
    · exact ⟨i, whole_round good_b64 wide_b64 hs h, by simp, fun _ _ _ => rfl⟩
    · have hi0 : i ≠ 0 := by intro z; subst z; simp at hs
      have hsg := whole_sign h hi0
      rw [round_whole h]
      have hiA : i = signed s i.natAbs := by
        unfold signed; rw [hsg]; by_cases z : i < 0 <;> simp [z] <;> omega
      generalize hA : i.natAbs = A at *
      have l1 : 2 ^ A.log2 ≤ A := Nat.log2_self_le (by omega)
      have l2 : A < 2 ^ (A.log2 + 1) := Nat.lt_log2_self
      have l3 : 53 ≤ A.log2 := by
        have := (Nat.pow_lt_pow_iff_right (by decide : 1 < 2)).mp (Nat.lt_trans (Nat.lt_of_not_le hs) l2)
        omega
      have l4 : A.log2 < 63 := (Nat.pow_lt_pow_iff_right (by decide : 1 < 2)).mp (Nat.lt_of_le_of_lt l1 hi)
      generalize A.log2 = L at *
      obtain ⟨k, rfl⟩ : ∃ k, L = k + 53 := ⟨L - 53, by omega⟩
      have hp53 : b64.p = 53 := rfl
      have hqm : b64.qmin = -1074 := by decide
      have hqx : b64.qmax = 971 := by decide
      have f1 : (-(((k + 1 : Nat) : Int) - 0 + (b64.p : Int))).toNat = 0 := by rw [hp53]; omega
      have f2 : (((k + 1 : Nat) : Int) - 0 + (b64.p : Int)).toNat = k + 53 + 1 := by rw [hp53]; omega
      have f3 : (-(((k + 1 : Nat) : Int) - 0 + ((b64.p : Int) - 1))).toNat = 0 := by rw [hp53]; omega
      have f4 : (((k + 1 : Nat) : Int) - 0 + ((b64.p : Int) - 1)).toNat = k + 53 := by rw [hp53]; omega
      have hq : quantum b64 A 1 0 = ((k + 1 : Nat) : Int) := by
        refine quantum_eq (by omega) (by decide) (by rw [hqm]; omega) ?_ (Or.inr ?_)
        · unfold Below
          rw [f1, f2]; omega
        · unfold Below
          rw [f3, f4]; omega
      have hr : roundRatio b64 s A 1 0 = settle b64 s (nearest A (2 ^ (k + 1))) ((k + 1 : Nat) : Int) := by
        unfold roundRatio roundAt
        rw [if_neg (by omega), hq]
        congr 1
        unfold unitsNum unitsDen
        rw [show (0 - ((k + 1 : Nat) : Int)).toNat = 0 from by omega, show (((k + 1 : Nat) : Int) - 0).toNat = k + 1 from by omega, Nat.pow_zero, Nat.mul_one, Nat.one_mul]
      rw [hr]
      have mpos : 0 < 2 ^ (k + 1) := Nat.two_pow_pos _
      have mle : 2 ^ (k + 1) ≤ 1024 := by
        have : 2 ^ (k + 1) ≤ 2 ^ 10 := Nat.pow_le_pow_right (by decide) (by omega)
        simpa using this
      have hp : 2 ^ (k + 53 + 1) = 2 ^ 53 * 2 ^ (k + 1) := by rw [← Nat.pow_add, show k + 53 + 1 = 53 + (k + 1) from by omega]
      have N := nearest_spec A (2 ^ (k + 1)) mpos
      have Nle : nearest A (2 ^ (k + 1)) ≤ 2 ^ 53 := nearest_le mpos (by rw [← hp]; omega)
      have Nex : ∀ e : Nat, 2 ^ e ∣ A → A < 2 ^ (e + 53) → nearest A (2 ^ (k + 1)) * 2 ^ (k + 1) = A := by
        intro e he hlt
        have : k + 53 < e + 53 := (Nat.pow_lt_pow_iff_right (by decide : 1 < 2)).mp (Nat.lt_of_le_of_lt l1 hlt)
        have hd : 2 ^ (k + 1) ∣ A := Nat.dvd_trans (Nat.pow_dvd_pow 2 (by omega)) he
        obtain ⟨z, rfl⟩ := hd
        rw [Nat.mul_comm (2 ^ (k + 1)) z, nearest_exact z mpos]
      have em1 : (2 * nearest A (2 ^ (k + 1)) + 1) * 2 ^ (k + 1) = 2 * (nearest A (2 ^ (k + 1)) * 2 ^ (k + 1)) + 2 ^ (k + 1) := by rw [Nat.add_mul, Nat.one_mul, Nat.mul_assoc]
      have em2 : 2 * nearest A (2 ^ (k + 1)) * 2 ^ (k + 1) = 2 * (nearest A (2 ^ (k + 1)) * 2 ^ (k + 1)) := Nat.mul_assoc ..
      rw [em1, em2] at N
      obtain ⟨N1, N2, -⟩ := N
      have fin : ∃ c' : Nat, ∃ q' : Nat, settle b64 s (nearest A (2 ^ (k + 1))) ((k + 1 : Nat) : Int) = .fin s c' (q' : Int) ∧ c' * 2 ^ q' = nearest A (2 ^ (k + 1)) * 2 ^ (k + 1) := by
        unfold settle bound
        by_cases hc : nearest A (2 ^ (k + 1)) < 2 ^ b64.p
        · rw [if_pos hc, if_pos (by rw [hqx]; omega)]
          exact ⟨_, k + 1, rfl, rfl⟩
        · have hc' : nearest A (2 ^ (k + 1)) = 2 ^ 53 := Nat.le_antisymm Nle (Nat.le_of_not_lt hc)
          rw [if_neg hc, if_pos (by rw [hqx]; omega)]
          refine ⟨b64.tails, k + 2, by congr 1, ?_⟩
          rw [hc', show b64.tails = 2 ^ 52 from rfl, ← Nat.pow_add, ← Nat.pow_add, show 52 + (k + 2) = 53 + (k + 1) from by omega]
      obtain ⟨c', q', ef, ev⟩ := fin
      rw [ef]
      refine ⟨signed s (c' * 2 ^ q'), ?_, ?_, ?_⟩
      · show signed s (c' * 2 ^ ((q' : Int)).toNat) = signed s (c' * 2 ^ q') * ((2 ^ (-(q' : Int)).toNat : Nat) : Int)
        rw [show (-(q' : Int)).toNat = 0 from by omega, show ((q' : Int)).toNat = q' from by omega, Nat.pow_zero]; simp
      · rw [ev, hiA]
        generalize nearest A (2 ^ (k + 1)) * 2 ^ (k + 1) = Y at *
        generalize 2 ^ (k + 1) = M at *
        unfold signed; cases s <;> simp <;> omega
      · intro e he hlt
        rw [ev, Nex e he hlt]; exact hiA.symm
theorem own_rep {k : Int} {x y : Datum} (hx : Whole k x) (hy : Whole k y) (fy : Jvm.FP.Core.fits b64 y) : Whole k (round b64 x) := by
  by_cases h0 : k = 0
  · exact whole_round good_b64 wide_b64 (by rw [h0]; decide) hx
  · cases x with
    | nan => exact hx.elim
    | inf => exact hx.elim
    | fin s c q =>
      cases y with
      | nan => exact hy.elim
      | inf => exact hy.elim
      | fin t d r =>
        have e1 := round_of_fits good_b64 fy
        rw [round_whole hy, whole_sign hy h0] at e1
        rw [round_whole hx, whole_sign hx h0, e1, ← whole_sign hy h0]
        exact hy
theorem own_addR {i j : Int} {a b : UInt64} (ha : DInt i a) (hb : DInt j b) (h : (i + j).natAbs < 2 ^ 63) : ∃ n : Int, DInt n (dadd a b) ∧ (n - (i + j)).natAbs ≤ 1024 := by
  obtain ⟨n, h1, h2, -⟩ := own_round (whole_sum ha hb) h
  exact ⟨n, by unfold DInt; rw [val64_dadd]; exact h1, h2⟩
theorem own_subR {i j : Int} {a b : UInt64} (ha : DInt i a) (hb : DInt j b) (h : (i - j).natAbs < 2 ^ 63) : ∃ n : Int, DInt n (dsub a b) ∧ (n - (i - j)).natAbs ≤ 1024 := by
  obtain ⟨n, h1, h2, -⟩ := own_round (whole_sum ha (whole_negate hb)) (show (i + -j).natAbs < 2 ^ 63 from h)
  exact ⟨n, by unfold DInt; rw [val64_dsub]; exact h1, h2⟩
theorem own_subE {i j : Int} {a b d : UInt64} (ha : DInt i a) (hb : DInt j b) (hd : DInt (i - j) d) : DInt (i - j) (dsub a b) := by
  unfold DInt; rw [val64_dsub]
  exact own_rep (whole_sum ha (whole_negate hb)) hd (val64_fits d)
theorem own_nn {i : Int} {a : UInt64} (h : DInt i a) : Jvm.Free.Fl.NoNaN64 a := by
  refine Jvm.Free.Fl.noNaN64_no.mpr ?_
  show decide (val64 a = .nan) = false
  exact decide_eq_false (Whole.ne_nan h)
def own_t (T X : UInt64) : UInt64 := dadd T X
def own_p (T X : UInt64) : UInt64 := dsub (dadd T X) T
def own_e (T X : UInt64) : UInt64 := dadd (dsub T (dsub (dadd T X) (own_p T X))) (dsub X (own_p T X))
def own_k (T X K : UInt64) : UInt64 := dadd K (own_e T X)
def own_ok (T X K : UInt64) : Prop := Jvm.Free.Fl.NoNaN64 (dadd T X) ∧ Jvm.Free.Fl.NoNaN64 (own_p T X) ∧ Jvm.Free.Fl.NoNaN64 (dsub (dadd T X) (own_p T X)) ∧ Jvm.Free.Fl.NoNaN64 (dsub T (dsub (dadd T X) (own_p T X))) ∧ Jvm.Free.Fl.NoNaN64 (dsub X (own_p T X)) ∧ Jvm.Free.Fl.NoNaN64 (own_e T X) ∧ Jvm.Free.Fl.NoNaN64 (own_k T X K)
set_option maxHeartbeats 4000000 in
/-- the error of an addition, found exactly -/
theorem own_two {t x k : Int} {T X K : UInt64} (hT : DInt t T) (hX : DInt x X) (hK : DInt k K) (ht : t.natAbs ≤ 2 ^ 62 + 2 ^ 40) (hx : x.natAbs ≤ 2 ^ 62) (hk : k.natAbs ≤ 2 ^ 20) (hs : t.natAbs ≤ 2 ^ 40 ∨ x.natAbs ≤ 2 ^ 40) :
    ∃ n k' : Int, DInt n (own_t T X) ∧ DInt k' (own_k T X K) ∧ n + k' = t + x + k ∧ (n - (t + x)).natAbs ≤ 1024 ∧ own_ok T X K := by
  obtain ⟨n, hN, bn⟩ := own_addR hT hX (by omega)
  have key : ∃ w : Int, DInt w (own_p T X) ∧ DInt (n - w) (dsub (dadd T X) (own_p T X)) ∧ DInt (t - (n - w)) (dsub T (dsub (dadd T X) (own_p T X))) ∧ DInt (x - w) (dsub X (own_p T X)) ∧ (t - (n - w)).natAbs ≤ 2 ^ 45 ∧ (x - w).natAbs ≤ 2 ^ 45 := by
    by_cases hxs : x.natAbs ≤ 2 ^ 40
    · have h1 : DInt (n - t) (own_p T X) := dsub_int hN hT (by omega)
      have e2 : n - (n - t) = t := by omega
      have h2 : DInt (n - (n - t)) (dsub (dadd T X) (own_p T X)) := own_subE (d := T) hN h1 (by rw [e2]; exact hT)
      refine ⟨n - t, h1, h2, dsub_int hT h2 (by omega), dsub_int hX h1 (by omega), by omega, by omega⟩
    · obtain ⟨w, h1, bw⟩ := own_subR hN hT (by omega)
      have h2 : DInt (n - w) (dsub (dadd T X) (own_p T X)) := dsub_int hN h1 (by omega)
      exact ⟨w, h1, h2, dsub_int hT h2 (by omega), dsub_int hX h1 (by omega), by omega, by omega⟩
  obtain ⟨w, h1, h2, h3, h4, b3, b4⟩ := key
  have h5 : DInt ((t - (n - w)) + (x - w)) (own_e T X) := dadd_int h3 h4 (by omega)
  have h6 : DInt (k + ((t - (n - w)) + (x - w))) (own_k T X K) := dadd_int hK h5 (by omega)
  exact ⟨n, _, hN, h6, by omega, bn, own_nn hN, own_nn h1, own_nn h2, own_nn h3, own_nn h4, own_nn h5, own_nn h6⟩
theorem own_val {n k : Int} {T K : UInt64} {S : Int64} (hT : DInt n T) (hK : DInt k K) (hS : S.toInt = n + k) (hb : (n + k).natAbs < 2 ^ 63) : Jvm.Free.Fl.NoNaN64 (dadd T K) ∧ dcmp (dadd T K) (l2d S) = some .eq := by
  obtain ⟨v, h1, -, -⟩ := own_round (whole_sum hT hK) hb
  have h2 : DInt v (dadd T K) := by unfold DInt; rw [val64_dadd]; exact h1
  refine ⟨own_nn h2, ?_⟩
  have e : DInt v (l2d S) := by
    unfold DInt; rw [val64_l2d, hS]
    by_cases h0 : n + k = 0
    · have z1 := whole_round good_b64 wide_b64 (by rw [h0]; decide) (whole_sum hT hK)
      have z2 := whole_round good_b64 wide_b64 (by rw [h0]; decide) (whole_ofInt (n + k))
      have z3 : v = n + k := by
        have o1 := order_whole h1 z1
        have o2 := order_whole z1 z1
        rw [o2] at o1
        have : compare v (n + k) = compare (n + k) (n + k) := (Option.some.inj o1).symm
        rw [compare_ite, compare_ite] at this
        simp at this
        split at this
        · cases this
        · split at this
          · assumption
          · cases this
      rw [z3]; exact z2
    · have q1 : round b64 (exactSum (val64 T) (val64 K)) = round b64 (ofInt (n + k)) := by
        have w1 := whole_sum hT hK
        have w2 := whole_ofInt (n + k)
        generalize exactSum (val64 T) (val64 K) = x at *
        generalize ofInt (n + k) = y at *
        cases x with
        | nan => exact w1.elim
        | inf => exact w1.elim
        | fin s c q =>
          cases y with
          | nan => exact w2.elim
          | inf => exact w2.elim
          | fin t d r => rw [round_whole w1, round_whole w2, whole_sign w1 h0, whole_sign w2 h0]
      rw [← q1]; exact h1
  rw [dcmp_int h2 e, compare_ite]; simp
def own_sm (x : Int) : Prop := -((2 ^ 31 : Nat) : Int) ≤ x ∧ x ≤ ((2 ^ 31 : Nat) : Int)
def own_sm' (x : Int) : Prop := -(2 ^ 40) ≤ x ∧ x ≤ 2 ^ 40
def own_lg (x : Int) : Prop := -(2 ^ 62 + 2 ^ 40) ≤ x ∧ x ≤ 2 ^ 62 + 2 ^ 40
def own_kk (x B : Int) : Prop := -B ≤ x ∧ x ≤ B
theorem own_lin {x : Int} {B : Nat} (h : x.natAbs ≤ B) : -(B : Int) ≤ x ∧ x ≤ (B : Int) := by omega
theorem own_abs {x : Int} (h : own_lg x) : x.natAbs ≤ 2 ^ 62 + 2 ^ 40 := by unfold own_lg at h; omega
theorem own_abs40 {x : Int} (h : own_sm' x) : x.natAbs ≤ 2 ^ 40 := by unfold own_sm' at h; omega
theorem own_abs' {x B : Int} (h : own_kk x B) (hB : B ≤ 2 ^ 20) : x.natAbs ≤ 2 ^ 20 := by unfold own_kk at h; omega
set_option maxHeartbeats 4000000 in
theorem own_four {x0 x1 x2 x3 : Int} {X0 X1 X2 X3 : UInt64} (h0 : DInt x0 X0) (h1 : DInt x1 X1) (h2 : DInt x2 X2) (h3 : DInt x3 X3) (b0 : x0.natAbs ≤ 2 ^ 62) (b1 : x1.natAbs ≤ 2 ^ 62) (b2 : x2.natAbs ≤ 2 ^ 62) (b3 : x3.natAbs ≤ 2 ^ 62)
    (hb : (x1.natAbs ≤ 2 ^ 31 ∧ x2.natAbs ≤ 2 ^ 31 ∧ x3.natAbs ≤ 2 ^ 31) ∨ (x0.natAbs ≤ 2 ^ 31 ∧ x2.natAbs ≤ 2 ^ 31 ∧ x3.natAbs ≤ 2 ^ 31) ∨ (x0.natAbs ≤ 2 ^ 31 ∧ x1.natAbs ≤ 2 ^ 31 ∧ x3.natAbs ≤ 2 ^ 31) ∨ (x0.natAbs ≤ 2 ^ 31 ∧ x1.natAbs ≤ 2 ^ 31 ∧ x2.natAbs ≤ 2 ^ 31)) {S : Int64} (hS : S.toInt = x0 + x1 + x2 + x3) :
    own_ok 0 X0 0 ∧ own_ok (own_t 0 X0) X1 (own_k 0 X0 0) ∧ own_ok (own_t (own_t 0 X0) X1) X2 (own_k (own_t 0 X0) X1 (own_k 0 X0 0)) ∧ own_ok (own_t (own_t (own_t 0 X0) X1) X2) X3 (own_k (own_t (own_t 0 X0) X1) X2 (own_k (own_t 0 X0) X1 (own_k 0 X0 0))) ∧
    Jvm.Free.Fl.NoNaN64 (dadd (own_t (own_t (own_t (own_t 0 X0) X1) X2) X3) (own_k (own_t (own_t (own_t 0 X0) X1) X2) X3 (own_k (own_t (own_t 0 X0) X1) X2 (own_k (own_t 0 X0) X1 (own_k 0 X0 0))))) ∧
    dcmp (dadd (own_t (own_t (own_t (own_t 0 X0) X1) X2) X3) (own_k (own_t (own_t (own_t 0 X0) X1) X2) X3 (own_k (own_t (own_t 0 X0) X1) X2 (own_k (own_t 0 X0) X1 (own_k 0 X0 0))))) (l2d S) = some .eq := by
  have hz : DInt 0 (0 : UInt64) := by
    have := l2d_int (a := 0) (by decide)
    rw [Jvm.FP.Core.l2d_zero] at this; exact this
  have A0 := own_lin b0; have A1 := own_lin b1; have A2 := own_lin b2; have A3 := own_lin b3
  have hb' : (own_sm x1 ∧ own_sm x2 ∧ own_sm x3) ∨ (own_sm x0 ∧ own_sm x2 ∧ own_sm x3) ∨ (own_sm x0 ∧ own_sm x1 ∧ own_sm x3) ∨ (own_sm x0 ∧ own_sm x1 ∧ own_sm x2) := hb.imp (fun h => ⟨own_lin h.1, own_lin h.2.1, own_lin h.2.2⟩) fun h => h.imp (fun h => ⟨own_lin h.1, own_lin h.2.1, own_lin h.2.2⟩) fun h => h.imp (fun h => ⟨own_lin h.1, own_lin h.2.1, own_lin h.2.2⟩) fun h => ⟨own_lin h.1, own_lin h.2.1, own_lin h.2.2⟩
  obtain ⟨n0, k0, t0, c0, e0, d0, o0⟩ := own_two hz h0 hz (by decide) b0 (by decide) (Or.inl (by decide))
  have D0 := own_lin d0
  clear d0 hb
  have S1 : (own_sm' n0 ∨ own_sm' x1) ∧ own_lg n0 ∧ own_kk k0 1024 := by
    unfold own_sm at hb'; unfold own_sm' own_lg own_kk
    rcases hb' with ⟨p1, p2, p3⟩ | ⟨p1, p2, p3⟩ | ⟨p1, p2, p3⟩ | ⟨p1, p2, p3⟩ <;> refine ⟨?_, by omega, by omega⟩ <;> omega
  obtain ⟨n1, k1, t1, c1, e1, d1, o1⟩ := own_two t0 h1 c0 (own_abs S1.2.1) b1 (own_abs' S1.2.2 (by decide)) (S1.1.imp own_abs40 own_abs40)
  have D1 := own_lin d1
  clear d1
  have S2 : (own_sm' n1 ∨ own_sm' x2) ∧ own_lg n1 ∧ own_kk k1 2048 := by
    unfold own_sm at hb'; unfold own_sm' own_lg own_kk at *
    obtain ⟨-, q1, q2⟩ := S1
    rcases hb' with ⟨p1, p2, p3⟩ | ⟨p1, p2, p3⟩ | ⟨p1, p2, p3⟩ | ⟨p1, p2, p3⟩ <;> refine ⟨?_, by omega, by omega⟩ <;> omega
  obtain ⟨n2, k2, t2, c2, e2, d2, o2⟩ := own_two t1 h2 c1 (own_abs S2.2.1) b2 (own_abs' S2.2.2 (by decide)) (S2.1.imp own_abs40 own_abs40)
  have D2 := own_lin d2
  clear d2
  have S3 : (own_sm' n2 ∨ own_sm' x3) ∧ own_lg n2 ∧ own_kk k2 4096 := by
    unfold own_sm at hb'; unfold own_sm' own_lg own_kk at *
    obtain ⟨-, q1, q2⟩ := S1
    obtain ⟨-, q3, q4⟩ := S2
    rcases hb' with ⟨p1, p2, p3⟩ | ⟨p1, p2, p3⟩ | ⟨p1, p2, p3⟩ | ⟨p1, p2, p3⟩ <;> refine ⟨?_, by omega, by omega⟩ <;> omega
  obtain ⟨n3, k3, t3, c3, e3, d3, o3⟩ := own_two t2 h3 c2 (own_abs S3.2.1) b3 (own_abs' S3.2.2 (by decide)) (S3.1.imp own_abs40 own_abs40)
  have e4 : n3 + k3 = x0 + x1 + x2 + x3 := by omega
  have e5 : (x0 + x1 + x2 + x3).natAbs < 2 ^ 63 := by
    have h1 := S.toInt_lt; have h2 := S.le_toInt
    rw [hS] at h1 h2
    have : -2 ^ 62 - 3 * 2 ^ 31 ≤ x0 + x1 + x2 + x3 ∧ x0 + x1 + x2 + x3 ≤ 2 ^ 62 + 3 * 2 ^ 31 := by
      unfold own_sm at hb'
      rcases hb' with ⟨p1, p2, p3⟩ | ⟨p1, p2, p3⟩ | ⟨p1, p2, p3⟩ | ⟨p1, p2, p3⟩ <;> omega
    omega
  obtain ⟨v1, v2⟩ := own_val t3 c3 (S := S) (by rw [e4]; exact hS) (by rw [e4]; exact e5)
  exact ⟨o0, o1, o2, o3, v1, v2⟩
theorem own_i2d (a : Int32) : DInt a.toInt (FP.i2d a) := i2d_int a
theorem own_sh : ∀ j : Fin 32, (((Int32.ofNat j.val) &&& 0x3f).toInt64.toBitVec.smod 64).toNat = j.val := by decide +kernel
theorem own_big (m p : Int32) : ∃ e : Nat, e ≤ 31 ∧ (m.toInt64 <<< ((p &&& (31 : Int32)) &&& 0x3f).toInt64).toInt = m.toInt * 2 ^ e := by
  have q : (p &&& 31).toInt = p.toInt % 2 ^ 5 := Jvm.Kit.i32_mask p 31 (k := 5) (by decide) (by decide)
  have q2 : p &&& 31 = Int32.ofNat ((p &&& 31).toInt.toNat) := by
    rw [← Int32.toInt_inj, Int32.toInt_ofNat_small (by omega)]; omega
  have lt : (p &&& 31).toInt.toNat < 32 := by omega
  generalize (p &&& 31).toInt.toNat = j at *
  rw [q2]
  have hm1 := m.toInt_lt; have hm2 := m.le_toInt
  have hp : (2 : Int) ^ j ≤ 2 ^ 31 := by
    have : (2 : Nat) ^ j ≤ 2 ^ 31 := Nat.pow_le_pow_right (by decide) (by omega)
    exact_mod_cast this
  have hp0 : (0 : Int) < 2 ^ j := Int.pow_pos (by decide)
  have u1 : m.toInt * 2 ^ j ≤ 2 ^ 31 * 2 ^ 31 := Int.le_trans (Int.mul_le_mul_of_nonneg_right (by omega) (Int.le_of_lt hp0)) (Int.mul_le_mul_of_nonneg_left hp (by decide))
  have u2 : -(2 ^ 31 * 2 ^ 31) ≤ m.toInt * 2 ^ j := by
    have a1 : (-(2 ^ 31)) * 2 ^ j ≤ m.toInt * 2 ^ j := Int.mul_le_mul_of_nonneg_right (by omega) (Int.le_of_lt hp0)
    have a2 : (2 : Int) ^ 31 * 2 ^ j ≤ 2 ^ 31 * 2 ^ 31 := Int.mul_le_mul_of_nonneg_left hp (by decide)
    have a3 : (-(2 ^ 31 : Int)) * 2 ^ j = -(2 ^ 31 * 2 ^ j) := Int.neg_mul ..
    omega
  refine ⟨j, by omega, ?_⟩
  rw [Jvm.Kit.i64_shl m.toInt64 _ (k := j) (own_sh ⟨j, lt⟩) (by rw [Int32.toInt_toInt64]; omega) (by rw [Int32.toInt_toInt64]; omega), Int32.toInt_toInt64]
theorem own_bigD (m p : Int32) : DInt (m.toInt64 <<< ((p &&& (31 : Int32)) &&& 0x3f).toInt64).toInt (l2d (m.toInt64 <<< ((p &&& (31 : Int32)) &&& 0x3f).toInt64)) ∧ (m.toInt64 <<< ((p &&& (31 : Int32)) &&& 0x3f).toInt64).toInt.natAbs ≤ 2 ^ 62 := by
  obtain ⟨e, he, hb⟩ := own_big m p
  generalize m.toInt64 <<< ((p &&& (31 : Int32)) &&& 0x3f).toInt64 = B at *
  have hm1 := m.toInt_lt; have hm2 := m.le_toInt
  have na : B.toInt.natAbs = m.toInt.natAbs * 2 ^ e := by
    rw [hb, Int.natAbs_mul, Int.natAbs_pow]; rfl
  have p1 : (2 : Nat) ^ e ≤ 2 ^ 31 := Nat.pow_le_pow_right (by decide) he
  have m31 : m.toInt.natAbs ≤ 2 ^ 31 := by omega
  have le : B.toInt.natAbs ≤ 2 ^ 62 := by
    rw [na]; exact Nat.le_trans (Nat.mul_le_mul m31 p1) (by decide)
  refine ⟨?_, le⟩
  obtain ⟨n, h1, -, h3⟩ := own_round (whole_ofInt B.toInt) (by omega)
  have : n = B.toInt := h3 e ⟨m.toInt.natAbs, by rw [na, Nat.mul_comm]⟩ (by
    rw [na, Nat.pow_add, Nat.mul_comm]
    exact Nat.mul_lt_mul_of_pos_left (by omega) (Nat.two_pow_pos e))
  unfold DInt; rw [val64_l2d, ← this]; rw [← this] at h1; exact h1
theorem own_exact (m p a b c : Int32) : ((((m.toInt64 <<< ((p &&& (31 : Int32)) &&& 0x3f).toInt64) + a.toInt64) + b.toInt64) + c.toInt64).toInt = (m.toInt64 <<< ((p &&& (31 : Int32)) &&& 0x3f).toInt64).toInt + a.toInt + b.toInt + c.toInt := by
  have hB := (own_bigD m p).2
  generalize m.toInt64 <<< ((p &&& (31 : Int32)) &&& 0x3f).toInt64 = B at *
  have a1 := a.toInt_lt; have a2 := a.le_toInt; have b1 := b.toInt_lt; have b2 := b.le_toInt; have c1 := c.toInt_lt; have c2 := c.le_toInt
  have e1 : (B + a.toInt64).toInt = B.toInt + a.toInt := by rw [Jvm.Kit.i64_add (by rw [Int32.toInt_toInt64]; omega) (by rw [Int32.toInt_toInt64]; omega), Int32.toInt_toInt64]
  have e2 : (B + a.toInt64 + b.toInt64).toInt = B.toInt + a.toInt + b.toInt := by rw [Jvm.Kit.i64_add (by rw [Int32.toInt_toInt64, e1]; omega) (by rw [Int32.toInt_toInt64, e1]; omega), Int32.toInt_toInt64, e1]
  rw [Jvm.Kit.i64_add (by rw [Int32.toInt_toInt64, e2]; omega) (by rw [Int32.toInt_toInt64, e2]; omega), Int32.toInt_toInt64, e2]
theorem own_abs31 (a : Int32) : a.toInt.natAbs ≤ 2 ^ 31 := by
  have := a.toInt_lt; have := a.le_toInt; omega
theorem own_and3 (x : Int32) : x &&& 3 = 0 ∨ x &&& 3 = 1 ∨ x &&& 3 = 2 ∨ x &&& 3 = 3 := by
  have e : (x &&& 3).toInt = x.toInt % 2 ^ 2 := Jvm.Kit.i32_mask x 3 (k := 2) (by decide) (by decide)
  generalize x &&& 3 = y at *
  have q : ∀ k : Int32, (y = k) ↔ (y.toInt = k.toInt) := fun k => Int32.toInt_inj.symm
  simp only [q]
  rw [show (0 : Int32).toInt = 0 from by decide, show (1 : Int32).toInt = 1 from by decide, show (2 : Int32).toInt = 2 from by decide, show (3 : Int32).toInt = 3 from by decide]
  omega
end Num

theorem d1_0 : decode prog_2_method_1_code 0 = .ok (.aload_n 0, 1) := by decide +kernel
theorem d1_1 : decode prog_2_method_1_code 1 = .ok (.invokespecial 1, 3) := by decide +kernel
theorem d1_4 : decode prog_2_method_1_code 4 = .ok (.return_, 1) := by decide +kernel
theorem rm1_pn : plainName "com/example/fee_simple/feesimple/CompensatedSum" = true := by first | (simp [plainName, overriddenIn]; done) | decide +kernel
theorem rm1_ef (m : MethodId) (z0 : Addr) : entryFrame m #[(.ref z0)] 1 = mkF m 0 #[.val (.ref z0)] [] := by first | (simp [entryFrame, mkF, argsToLocals, Value.category]; done) | rfl
def rm1_Q (Z : State) (a1 : Addr)  (h0 : Heap) (n0 : Nat) (v : Option Value) (h : Heap) (L : List Loc) : Prop := v = none ∧ Fr n0 L ∧ h = h0
set_option maxRecDepth 65536 in
set_option maxHeartbeats 40000000 in
theorem rm1 (l : Launch) (Z : State) (a0 : Array Value) (hw : ∀ d ∈ tables_1, d.before a0 Z = true) (ws : List Jvm.Cond) (a1 : Addr)  (h0 : Heap) (n0 : Nat) (Z0 : n0 ≤ h0.size)  :
    MetFree l (⟨"com/example/fee_simple/feesimple/CompensatedSum", "<init>", "()V"⟩ : MethodName) (head1 (Jvm.Cond.code (⟨"com/example/fee_simple/feesimple/CompensatedSum", "<init>", "()V"⟩ : MethodName) prog_2_method_1_code 1 none :: ws) ({ frames := 1, cells := 0, slots := 0, locals := 12 } : Room)) (fun a U => a = #[(.ref a1)] ∧ Z.Warmed39 U.vm ∧ U.heap = h0) (fun _ _ _ _ _ => True) (fun _ U o U' => ∃ v L, o = .returned v ∧ rm1_Q Z a1 h0 n0 v U'.heap L ∧ FrameEnd U o U' L ({ frames := 1, cells := 0, slots := 0, locals := 12 } : Room).cells ({ frames := 1, cells := 0, slots := 0, locals := 12 } : Room).slots) := by
  refine MetFree.of_bodySF (plainFor_of_name rm1_pn) hisR ?_
  intro p e s m args below meth c s₁ Bd hml0 hP hK
  obtain ⟨rfl, hZ, hh⟩ := hP
  have hx := Bd.exec
  have hby := Bd.bytes
  have hml : c.maxLocals = 1 := hml0
  have hown : s.vm.findClass "com/example/fee_simple/feesimple/CompensatedSum" = some m.cls := findClass_of_methodNamed Bd.named
  have hnm := (name_of_methodNamed Bd.named Bd.method).1
  have X0 : Stand p l e ({ frames := 1, cells := 0, slots := 0, locals := 12 } : Room) s m #[(.ref a1)] below meth c s₁ [] 0 0 := Stand.of_body Bd
  have e0 : s₁.heap = h0 := by rw [← hh, Bd.state]; rfl
  have N0 := Fr.nil n0
  refine own_via (fun t k => castTop (rm1_ef m a1) k) ?_
  show own_G p e below _ (s₁.setTop (mkF m 0 #[.val (.ref a1)] []))
  refine own_via (fun t k => XS.aloadN X0.here hx rfl (hb hby d1_0) rfl rfl k) ?_
  show own_G p e below _ (s₁.setTop (mkF m 1 #[.val (.ref a1)] [(.ref a1)]))
  obtain ⟨T1, X1, e1, st1⟩ := initO X0 hx hZ hown (hw _ (List.mem_of_getElem? (i := 7) rfl)) (hw _ (List.mem_of_getElem? (i := 8) rfl)) (hw _ (List.mem_of_getElem? (i := 9) rfl)) e0 (g := (mkF m 1 #[.val (.ref a1)] [(.ref a1)])) rfl (by rw [hml]; rfl) rfl (hb hby d1_1) (by decide) (W := 0) (by show 2 * 0 + _ ≤ _; exact Nat.le_of_eq rfl) (by decide)
  refine own_via st1 ?_
  show own_G p e below _ (T1.setTop (mkF m 4 #[.val (.ref a1)] []))
  obtain ⟨fs, hr, hrun, hended, hW, hsame⟩ := X1.leave (v := none) (fun _ => rfl)
  refine ⟨_, _, X1.returnOut hx Bd.returns (hb hby d1_4) hr, hrun, hended, _, _, rfl, ?_, ⟨_, rfl⟩, hW, hsame.mono (by decide) (by decide)⟩
  show rm1_Q Z a1 h0 n0 _ T1.heap _
  rw [e1]
  exact ⟨rfl, N0, rfl⟩

theorem d3_0 : decode prog_2_method_2_code 0 = .ok (.aload_n 0, 1) := by decide +kernel
theorem d3_1 : decode prog_2_method_2_code 1 = .ok (.getfield 7, 3) := by decide +kernel
theorem d3_4 : decode prog_2_method_2_code 4 = .ok (.dload_n 1, 1) := by decide +kernel
theorem d3_5 : decode prog_2_method_2_code 5 = .ok (.dadd, 1) := by decide +kernel
theorem d3_6 : decode prog_2_method_2_code 6 = .ok (.dstore_n 3, 1) := by decide +kernel
theorem d3_7 : decode prog_2_method_2_code 7 = .ok (.dload_n 3, 1) := by decide +kernel
theorem d3_8 : decode prog_2_method_2_code 8 = .ok (.aload_n 0, 1) := by decide +kernel
theorem d3_9 : decode prog_2_method_2_code 9 = .ok (.getfield 7, 3) := by decide +kernel
theorem d3_12 : decode prog_2_method_2_code 12 = .ok (.dsub, 1) := by decide +kernel
theorem d3_13 : decode prog_2_method_2_code 13 = .ok (.dstore 5, 2) := by decide +kernel
theorem d3_15 : decode prog_2_method_2_code 15 = .ok (.aload_n 0, 1) := by decide +kernel
theorem d3_16 : decode prog_2_method_2_code 16 = .ok (.dup, 1) := by decide +kernel
theorem d3_17 : decode prog_2_method_2_code 17 = .ok (.getfield 13, 3) := by decide +kernel
theorem d3_20 : decode prog_2_method_2_code 20 = .ok (.aload_n 0, 1) := by decide +kernel
theorem d3_21 : decode prog_2_method_2_code 21 = .ok (.getfield 7, 3) := by decide +kernel
theorem d3_24 : decode prog_2_method_2_code 24 = .ok (.dload_n 3, 1) := by decide +kernel
theorem d3_25 : decode prog_2_method_2_code 25 = .ok (.dload 5, 2) := by decide +kernel
theorem d3_27 : decode prog_2_method_2_code 27 = .ok (.dsub, 1) := by decide +kernel
theorem d3_28 : decode prog_2_method_2_code 28 = .ok (.dsub, 1) := by decide +kernel
theorem d3_29 : decode prog_2_method_2_code 29 = .ok (.dload_n 1, 1) := by decide +kernel
theorem d3_30 : decode prog_2_method_2_code 30 = .ok (.dload 5, 2) := by decide +kernel
theorem d3_32 : decode prog_2_method_2_code 32 = .ok (.dsub, 1) := by decide +kernel
theorem d3_33 : decode prog_2_method_2_code 33 = .ok (.dadd, 1) := by decide +kernel
theorem d3_34 : decode prog_2_method_2_code 34 = .ok (.dadd, 1) := by decide +kernel
theorem d3_35 : decode prog_2_method_2_code 35 = .ok (.putfield 13, 3) := by decide +kernel
theorem d3_38 : decode prog_2_method_2_code 38 = .ok (.aload_n 0, 1) := by decide +kernel
theorem d3_39 : decode prog_2_method_2_code 39 = .ok (.dload_n 3, 1) := by decide +kernel
theorem d3_40 : decode prog_2_method_2_code 40 = .ok (.putfield 7, 3) := by decide +kernel
theorem d3_43 : decode prog_2_method_2_code 43 = .ok (.return_, 1) := by decide +kernel
theorem rm3_pn : plainName "com/example/fee_simple/feesimple/CompensatedSum" = true := by first | (simp [plainName, overriddenIn]; done) | decide +kernel
theorem rm3_ef (m : MethodId) (z0 : Addr) (z1 : UInt64) : entryFrame m #[(.ref z0), (.double z1)] 7 = mkF m 0 #[.val (.ref z0), .val (.double z1), .second, .unset, .unset, .unset, .unset] [] := by first | (simp [entryFrame, mkF, argsToLocals, Value.category]; done) | rfl
def rm3_Q (Z : State) (a1 : Addr) (x : UInt64) (T : UInt64) (K : UInt64) (h0 : Heap) (n0 : Nat) (v : Option Value) (h : Heap) (L : List Loc) : Prop := v = none ∧ Fr n0 L ∧ Keep h0 h [a1] ∧ Exa Z h a1 "com/example/fee_simple/feesimple/CompensatedSum" ∧ Fld Z h a1 "com/example/fee_simple/feesimple/CompensatedSum" "total" "D" (.double (own_t T x)) ∧ Fld Z h a1 "com/example/fee_simple/feesimple/CompensatedSum" "compensation" "D" (.double (own_k T x K))
set_option maxRecDepth 65536 in
set_option maxHeartbeats 40000000 in
theorem rm3 (l : Launch) (Z : State) (a0 : Array Value) (hw : ∀ d ∈ tables_1, d.before a0 Z = true) (ws : List Jvm.Cond) (a1 : Addr) (x : UInt64) (T : UInt64) (K : UInt64) (h0 : Heap) (n0 : Nat) (Z0 : n0 ≤ h0.size) (E_a1 : Exa Z h0 a1 "com/example/fee_simple/feesimple/CompensatedSum") (F_t : Fld Z h0 a1 "com/example/fee_simple/feesimple/CompensatedSum" "total" "D" (.double T)) (F_c : Fld Z h0 a1 "com/example/fee_simple/feesimple/CompensatedSum" "compensation" "D" (.double K)) (gx_a1 : n0 ≤ a1) (ok : own_ok T x K) :
    MetFree l (⟨"com/example/fee_simple/feesimple/CompensatedSum", "add", "(D)V"⟩ : MethodName) (head1 (Jvm.Cond.code (⟨"com/example/fee_simple/feesimple/CompensatedSum", "add", "(D)V"⟩ : MethodName) prog_2_method_2_code 7 none :: ws) ({ frames := 0, cells := 0, slots := 0, locals := 0 } : Room)) (fun a U => a = #[(.ref a1), (.double x)] ∧ Z.Warmed39 U.vm ∧ U.heap = h0) (fun _ _ _ _ _ => True) (fun _ U o U' => ∃ v L, o = .returned v ∧ rm3_Q Z a1 x T K h0 n0 v U'.heap L ∧ FrameEnd U o U' L ({ frames := 0, cells := 0, slots := 0, locals := 0 } : Room).cells ({ frames := 0, cells := 0, slots := 0, locals := 0 } : Room).slots) := by
  refine MetFree.of_bodySF (plainFor_of_name rm3_pn) hisR ?_
  intro p e s m args below meth c s₁ Bd hml0 hP hK
  obtain ⟨rfl, hZ, hh⟩ := hP
  have hx := Bd.exec
  have hby := Bd.bytes
  have hml : c.maxLocals = 7 := hml0
  have hown : s.vm.findClass "com/example/fee_simple/feesimple/CompensatedSum" = some m.cls := findClass_of_methodNamed Bd.named
  have hnm := (name_of_methodNamed Bd.named Bd.method).1
  have X0 : Stand p l e ({ frames := 0, cells := 0, slots := 0, locals := 0 } : Room) s m #[(.ref a1), (.double x)] below meth c s₁ [] 0 0 := Stand.of_body Bd
  have e0 : s₁.heap = h0 := by rw [← hh, Bd.state]; rfl
  have N0 := Fr.nil n0
  refine own_via (fun t k => castTop (rm3_ef m a1 x) k) ?_
  have K0 := Keep.refl h0 [a1]
  obtain ⟨ok1, ok2, ok3, ok4, ok5, ok6, ok7⟩ := ok
  show own_G p e below _ (s₁.setTop (mkF m 0 #[.val (.ref a1), .val (.double x), .second, .unset, .unset, .unset, .unset] []))
  refine own_via (fun t k => XS.aloadN X0.here hx rfl (hb hby d3_0) rfl rfl k) ?_
  show own_G p e below _ (s₁.setTop (mkF m 1 #[.val (.ref a1), .val (.double x), .second, .unset, .unset, .unset, .unset] [(.ref a1)]))
  obtain ⟨T1, X1, e1, st1⟩ := getF X0 hx hZ hown (host := "") (Or.inl (hw _ (List.mem_of_getElem? (i := 15) rfl))) Via.refl e0 F_t (g := (mkF m 1 #[.val (.ref a1), .val (.double x), .second, .unset, .unset, .unset, .unset] [(.ref a1)])) rfl rfl (hb hby d3_1)
  refine own_via st1 ?_
  show own_G p e below _ (T1.setTop (mkF m 4 #[.val (.ref a1), .val (.double x), .second, .unset, .unset, .unset, .unset] [(.double T)]))
  refine own_via (fun t k => XS.dloadN X1.here hx rfl (hb hby d3_4) rfl k) ?_
  show own_G p e below _ (T1.setTop (mkF m 5 #[.val (.ref a1), .val (.double x), .second, .unset, .unset, .unset, .unset] [(.double x), (.double T)]))
  refine own_via (fun t k => XS.daddS X1.here hx rfl (hb hby d3_5) rfl ok1 rfl k) ?_
  show own_G p e below _ (T1.setTop (mkF m 6 #[.val (.ref a1), .val (.double x), .second, .unset, .unset, .unset, .unset] [(.double (FP.dadd T x))]))
  refine own_via (fun t k => XS.dstoreN X1.here hx rfl (hb hby d3_6) rfl (l' := #[.val (.ref a1), .val (.double x), .second, .val (.double (FP.dadd T x)), .second, .unset, .unset]) rfl k) ?_
  show own_G p e below _ (T1.setTop (mkF m 7 #[.val (.ref a1), .val (.double x), .second, .val (.double (FP.dadd T x)), .second, .unset, .unset] []))
  refine own_via (fun t k => XS.dloadN X1.here hx rfl (hb hby d3_7) rfl k) ?_
  show own_G p e below _ (T1.setTop (mkF m 8 #[.val (.ref a1), .val (.double x), .second, .val (.double (FP.dadd T x)), .second, .unset, .unset] [(.double (FP.dadd T x))]))
  refine own_via (fun t k => XS.aloadN X1.here hx rfl (hb hby d3_8) rfl rfl k) ?_
  show own_G p e below _ (T1.setTop (mkF m 9 #[.val (.ref a1), .val (.double x), .second, .val (.double (FP.dadd T x)), .second, .unset, .unset] [(.ref a1), (.double (FP.dadd T x))]))
  obtain ⟨T2, X2, e2, st2⟩ := getF X1 hx hZ hown (host := "") (Or.inl (hw _ (List.mem_of_getElem? (i := 15) rfl))) Via.refl e1 F_t (g := (mkF m 9 #[.val (.ref a1), .val (.double x), .second, .val (.double (FP.dadd T x)), .second, .unset, .unset] [(.ref a1), (.double (FP.dadd T x))])) rfl rfl (hb hby d3_9)
  refine own_via st2 ?_
  show own_G p e below _ (T2.setTop (mkF m 12 #[.val (.ref a1), .val (.double x), .second, .val (.double (FP.dadd T x)), .second, .unset, .unset] [(.double T), (.double (FP.dadd T x))]))
  refine own_via (fun t k => XS.dsubS X2.here hx rfl (hb hby d3_12) rfl ok2 rfl k) ?_
  show own_G p e below _ (T2.setTop (mkF m 13 #[.val (.ref a1), .val (.double x), .second, .val (.double (FP.dadd T x)), .second, .unset, .unset] [(.double (FP.dsub (FP.dadd T x) T))]))
  refine own_via (fun t k => XS.dstore X2.here hx rfl (hb hby d3_13) rfl (l' := #[.val (.ref a1), .val (.double x), .second, .val (.double (FP.dadd T x)), .second, .val (.double (FP.dsub (FP.dadd T x) T)), .second]) rfl k) ?_
  show own_G p e below _ (T2.setTop (mkF m 15 #[.val (.ref a1), .val (.double x), .second, .val (.double (FP.dadd T x)), .second, .val (.double (FP.dsub (FP.dadd T x) T)), .second] []))
  refine own_via (fun t k => XS.aloadN X2.here hx rfl (hb hby d3_15) rfl rfl k) ?_
  show own_G p e below _ (T2.setTop (mkF m 16 #[.val (.ref a1), .val (.double x), .second, .val (.double (FP.dadd T x)), .second, .val (.double (FP.dsub (FP.dadd T x) T)), .second] [(.ref a1)]))
  refine own_via (fun t k => XS.dup X2.here hx rfl (hb hby d3_16) rfl rfl k) ?_
  show own_G p e below _ (T2.setTop (mkF m 17 #[.val (.ref a1), .val (.double x), .second, .val (.double (FP.dadd T x)), .second, .val (.double (FP.dsub (FP.dadd T x) T)), .second] [(.ref a1), (.ref a1)]))
  obtain ⟨T3, X3, e3, st3⟩ := getF X2 hx hZ hown (host := "") (Or.inl (hw _ (List.mem_of_getElem? (i := 17) rfl))) Via.refl e2 F_c (g := (mkF m 17 #[.val (.ref a1), .val (.double x), .second, .val (.double (FP.dadd T x)), .second, .val (.double (FP.dsub (FP.dadd T x) T)), .second] [(.ref a1), (.ref a1)])) rfl rfl (hb hby d3_17)
  refine own_via st3 ?_
  show own_G p e below _ (T3.setTop (mkF m 20 #[.val (.ref a1), .val (.double x), .second, .val (.double (FP.dadd T x)), .second, .val (.double (FP.dsub (FP.dadd T x) T)), .second] [(.double K), (.ref a1)]))
  refine own_via (fun t k => XS.aloadN X3.here hx rfl (hb hby d3_20) rfl rfl k) ?_
  show own_G p e below _ (T3.setTop (mkF m 21 #[.val (.ref a1), .val (.double x), .second, .val (.double (FP.dadd T x)), .second, .val (.double (FP.dsub (FP.dadd T x) T)), .second] [(.ref a1), (.double K), (.ref a1)]))
  obtain ⟨T4, X4, e4, st4⟩ := getF X3 hx hZ hown (host := "") (Or.inl (hw _ (List.mem_of_getElem? (i := 15) rfl))) Via.refl e3 F_t (g := (mkF m 21 #[.val (.ref a1), .val (.double x), .second, .val (.double (FP.dadd T x)), .second, .val (.double (FP.dsub (FP.dadd T x) T)), .second] [(.ref a1), (.double K), (.ref a1)])) rfl rfl (hb hby d3_21)
  refine own_via st4 ?_
  show own_G p e below _ (T4.setTop (mkF m 24 #[.val (.ref a1), .val (.double x), .second, .val (.double (FP.dadd T x)), .second, .val (.double (FP.dsub (FP.dadd T x) T)), .second] [(.double T), (.double K), (.ref a1)]))
  refine own_via (fun t k => XS.dloadN X4.here hx rfl (hb hby d3_24) rfl k) ?_
  show own_G p e below _ (T4.setTop (mkF m 25 #[.val (.ref a1), .val (.double x), .second, .val (.double (FP.dadd T x)), .second, .val (.double (FP.dsub (FP.dadd T x) T)), .second] [(.double (FP.dadd T x)), (.double T), (.double K), (.ref a1)]))
  refine own_via (fun t k => XS.dload X4.here hx rfl (hb hby d3_25) rfl k) ?_
  show own_G p e below _ (T4.setTop (mkF m 27 #[.val (.ref a1), .val (.double x), .second, .val (.double (FP.dadd T x)), .second, .val (.double (FP.dsub (FP.dadd T x) T)), .second] [(.double (FP.dsub (FP.dadd T x) T)), (.double (FP.dadd T x)), (.double T), (.double K), (.ref a1)]))
  refine own_via (fun t k => XS.dsubS X4.here hx rfl (hb hby d3_27) rfl ok3 rfl k) ?_
  show own_G p e below _ (T4.setTop (mkF m 28 #[.val (.ref a1), .val (.double x), .second, .val (.double (FP.dadd T x)), .second, .val (.double (FP.dsub (FP.dadd T x) T)), .second] [(.double (FP.dsub (FP.dadd T x) (FP.dsub (FP.dadd T x) T))), (.double T), (.double K), (.ref a1)]))
  refine own_via (fun t k => XS.dsubS X4.here hx rfl (hb hby d3_28) rfl ok4 rfl k) ?_
  show own_G p e below _ (T4.setTop (mkF m 29 #[.val (.ref a1), .val (.double x), .second, .val (.double (FP.dadd T x)), .second, .val (.double (FP.dsub (FP.dadd T x) T)), .second] [(.double (FP.dsub T (FP.dsub (FP.dadd T x) (FP.dsub (FP.dadd T x) T)))), (.double K), (.ref a1)]))
  refine own_via (fun t k => XS.dloadN X4.here hx rfl (hb hby d3_29) rfl k) ?_
  show own_G p e below _ (T4.setTop (mkF m 30 #[.val (.ref a1), .val (.double x), .second, .val (.double (FP.dadd T x)), .second, .val (.double (FP.dsub (FP.dadd T x) T)), .second] [(.double x), (.double (FP.dsub T (FP.dsub (FP.dadd T x) (FP.dsub (FP.dadd T x) T)))), (.double K), (.ref a1)]))
  refine own_via (fun t k => XS.dload X4.here hx rfl (hb hby d3_30) rfl k) ?_
  show own_G p e below _ (T4.setTop (mkF m 32 #[.val (.ref a1), .val (.double x), .second, .val (.double (FP.dadd T x)), .second, .val (.double (FP.dsub (FP.dadd T x) T)), .second] [(.double (FP.dsub (FP.dadd T x) T)), (.double x), (.double (FP.dsub T (FP.dsub (FP.dadd T x) (FP.dsub (FP.dadd T x) T)))), (.double K), (.ref a1)]))
  refine own_via (fun t k => XS.dsubS X4.here hx rfl (hb hby d3_32) rfl ok5 rfl k) ?_
  show own_G p e below _ (T4.setTop (mkF m 33 #[.val (.ref a1), .val (.double x), .second, .val (.double (FP.dadd T x)), .second, .val (.double (FP.dsub (FP.dadd T x) T)), .second] [(.double (FP.dsub x (FP.dsub (FP.dadd T x) T))), (.double (FP.dsub T (FP.dsub (FP.dadd T x) (FP.dsub (FP.dadd T x) T)))), (.double K), (.ref a1)]))
  refine own_via (fun t k => XS.daddS X4.here hx rfl (hb hby d3_33) rfl ok6 rfl k) ?_
  show own_G p e below _ (T4.setTop (mkF m 34 #[.val (.ref a1), .val (.double x), .second, .val (.double (FP.dadd T x)), .second, .val (.double (FP.dsub (FP.dadd T x) T)), .second] [(.double (FP.dadd (FP.dsub T (FP.dsub (FP.dadd T x) (FP.dsub (FP.dadd T x) T))) (FP.dsub x (FP.dsub (FP.dadd T x) T)))), (.double K), (.ref a1)]))
  refine own_via (fun t k => XS.daddS X4.here hx rfl (hb hby d3_34) rfl ok7 rfl k) ?_
  show own_G p e below _ (T4.setTop (mkF m 35 #[.val (.ref a1), .val (.double x), .second, .val (.double (FP.dadd T x)), .second, .val (.double (FP.dsub (FP.dadd T x) T)), .second] [(.double (FP.dadd K (FP.dadd (FP.dsub T (FP.dsub (FP.dadd T x) (FP.dsub (FP.dadd T x) T))) (FP.dsub x (FP.dsub (FP.dadd T x) T))))), (.ref a1)]))
  obtain ⟨T5, h5, X5, e5, W5, st5⟩ := putF X4 hx hZ hown (host := "") (Or.inl (hw _ (List.mem_of_getElem? (i := 17) rfl))) Via.refl e4 F_c E_a1 (Or.inl (hw _ (List.mem_of_getElem? (i := 18) rfl))) (hw _ (List.mem_of_getElem? (i := 2) rfl)) (ty := .double) (by decide) rfl rfl (g := (mkF m 35 #[.val (.ref a1), .val (.double x), .second, .val (.double (FP.dadd T x)), .second, .val (.double (FP.dsub (FP.dadd T x) T)), .second] [(.double (FP.dadd K (FP.dadd (FP.dsub T (FP.dsub (FP.dadd T x) (FP.dsub (FP.dadd T x) T))) (FP.dsub x (FP.dsub (FP.dadd T x) T))))), (.ref a1)])) rfl rfl (hb hby d3_35)
  have Fw5 := F_c.same W5
  have F6 := E_a1.wr W5
  have F7 := F_t.other W5 (Or.inr (slot_ne (Or.inl (hw _ (List.mem_of_getElem? (i := 16) rfl))) (Or.inl (hw _ (List.mem_of_getElem? (i := 18) rfl))) (by decide) (t := .double) (t' := .double) (by decide) (by decide)))
  have N5 := Fr.snoc X5 N0 gx_a1
  have Z5 : n0 ≤ h5.size := Nat.le_trans Z0 (Nat.le_of_eq W5.size.symm)
  have K5 := K0.wr W5 (Or.inl (List.mem_of_getElem? (i := 0) rfl))
  refine own_via st5 ?_
  show own_G p e below _ (T5.setTop (mkF m 38 #[.val (.ref a1), .val (.double x), .second, .val (.double (FP.dadd T x)), .second, .val (.double (FP.dsub (FP.dadd T x) T)), .second] []))
  refine own_via (fun t k => XS.aloadN X5.here hx rfl (hb hby d3_38) rfl rfl k) ?_
  show own_G p e below _ (T5.setTop (mkF m 39 #[.val (.ref a1), .val (.double x), .second, .val (.double (FP.dadd T x)), .second, .val (.double (FP.dsub (FP.dadd T x) T)), .second] [(.ref a1)]))
  refine own_via (fun t k => XS.dloadN X5.here hx rfl (hb hby d3_39) rfl k) ?_
  show own_G p e below _ (T5.setTop (mkF m 40 #[.val (.ref a1), .val (.double x), .second, .val (.double (FP.dadd T x)), .second, .val (.double (FP.dsub (FP.dadd T x) T)), .second] [(.double (FP.dadd T x)), (.ref a1)]))
  obtain ⟨T8, h8, X8, e8, W8, st8⟩ := putF X5 hx hZ hown (host := "") (Or.inl (hw _ (List.mem_of_getElem? (i := 15) rfl))) Via.refl e5 F7 F6 (Or.inl (hw _ (List.mem_of_getElem? (i := 16) rfl))) (hw _ (List.mem_of_getElem? (i := 2) rfl)) (ty := .double) (by decide) rfl rfl (g := (mkF m 40 #[.val (.ref a1), .val (.double x), .second, .val (.double (FP.dadd T x)), .second, .val (.double (FP.dsub (FP.dadd T x) T)), .second] [(.double (FP.dadd T x)), (.ref a1)])) rfl rfl (hb hby d3_40)
  have Fw8 := F7.same W8
  have F9 := F6.wr W8
  have F10 := Fw5.other W8 (Or.inr (slot_ne (Or.inl (hw _ (List.mem_of_getElem? (i := 18) rfl))) (Or.inl (hw _ (List.mem_of_getElem? (i := 16) rfl))) (by decide) (t := .double) (t' := .double) (by decide) (by decide)))
  have N8 := Fr.snoc X8 N5 gx_a1
  have Z8 : n0 ≤ h8.size := Nat.le_trans Z5 (Nat.le_of_eq W8.size.symm)
  have K8 := K5.wr W8 (Or.inl (List.mem_of_getElem? (i := 0) rfl))
  refine own_via st8 ?_
  show own_G p e below _ (T8.setTop (mkF m 43 #[.val (.ref a1), .val (.double x), .second, .val (.double (FP.dadd T x)), .second, .val (.double (FP.dsub (FP.dadd T x) T)), .second] []))
  obtain ⟨fs, hr, hrun, hended, hW, hsame⟩ := X8.leave (v := none) (fun _ => rfl)
  refine ⟨_, _, X8.returnOut hx Bd.returns (hb hby d3_43) hr, hrun, hended, _, _, rfl, ?_, ⟨_, rfl⟩, hW, hsame.mono (by decide) (by decide)⟩
  show rm3_Q Z a1 x T K h0 n0 _ T8.heap _
  rw [e8]
  exact ⟨rfl, N8, K8, F9, Fw8, F10⟩

theorem d4_0 : decode prog_2_method_3_code 0 = .ok (.aload_n 0, 1) := by decide +kernel
theorem d4_1 : decode prog_2_method_3_code 1 = .ok (.getfield 7, 3) := by decide +kernel
theorem d4_4 : decode prog_2_method_3_code 4 = .ok (.aload_n 0, 1) := by decide +kernel
theorem d4_5 : decode prog_2_method_3_code 5 = .ok (.getfield 13, 3) := by decide +kernel
theorem d4_8 : decode prog_2_method_3_code 8 = .ok (.dadd, 1) := by decide +kernel
theorem d4_9 : decode prog_2_method_3_code 9 = .ok (.dreturn, 1) := by decide +kernel
theorem rm4_pn : plainName "com/example/fee_simple/feesimple/CompensatedSum" = true := by first | (simp [plainName, overriddenIn]; done) | decide +kernel
theorem rm4_ef (m : MethodId) (z0 : Addr) : entryFrame m #[(.ref z0)] 1 = mkF m 0 #[.val (.ref z0)] [] := by first | (simp [entryFrame, mkF, argsToLocals, Value.category]; done) | rfl
def rm4_Q (Z : State) (a1 : Addr) (T : UInt64) (K : UInt64) (h0 : Heap) (n0 : Nat) (v : Option Value) (h : Heap) (L : List Loc) : Prop := v = some (.double (FP.dadd T K)) ∧ Fr n0 L ∧ h = h0
set_option maxRecDepth 65536 in
set_option maxHeartbeats 40000000 in
theorem rm4 (l : Launch) (Z : State) (a0 : Array Value) (hw : ∀ d ∈ tables_1, d.before a0 Z = true) (ws : List Jvm.Cond) (a1 : Addr) (T : UInt64) (K : UInt64) (h0 : Heap) (n0 : Nat) (Z0 : n0 ≤ h0.size) (F_t : Fld Z h0 a1 "com/example/fee_simple/feesimple/CompensatedSum" "total" "D" (.double T)) (F_c : Fld Z h0 a1 "com/example/fee_simple/feesimple/CompensatedSum" "compensation" "D" (.double K)) (nv : Jvm.Free.Fl.NoNaN64 (FP.dadd T K)) :
    MetFree l (⟨"com/example/fee_simple/feesimple/CompensatedSum", "value", "()D"⟩ : MethodName) (head1 (Jvm.Cond.code (⟨"com/example/fee_simple/feesimple/CompensatedSum", "value", "()D"⟩ : MethodName) prog_2_method_3_code 1 (some .double) :: ws) ({ frames := 0, cells := 0, slots := 0, locals := 0 } : Room)) (fun a U => a = #[(.ref a1)] ∧ Z.Warmed39 U.vm ∧ U.heap = h0) (fun _ _ _ _ _ => True) (fun _ U o U' => ∃ v L, o = .returned v ∧ rm4_Q Z a1 T K h0 n0 v U'.heap L ∧ FrameEnd U o U' L ({ frames := 0, cells := 0, slots := 0, locals := 0 } : Room).cells ({ frames := 0, cells := 0, slots := 0, locals := 0 } : Room).slots) := by
  refine MetFree.of_bodySF (plainFor_of_name rm4_pn) hisR ?_
  intro p e s m args below meth c s₁ Bd hml0 hP hK
  obtain ⟨rfl, hZ, hh⟩ := hP
  have hx := Bd.exec
  have hby := Bd.bytes
  have hml : c.maxLocals = 1 := hml0
  have hown : s.vm.findClass "com/example/fee_simple/feesimple/CompensatedSum" = some m.cls := findClass_of_methodNamed Bd.named
  have hnm := (name_of_methodNamed Bd.named Bd.method).1
  have X0 : Stand p l e ({ frames := 0, cells := 0, slots := 0, locals := 0 } : Room) s m #[(.ref a1)] below meth c s₁ [] 0 0 := Stand.of_body Bd
  have e0 : s₁.heap = h0 := by rw [← hh, Bd.state]; rfl
  have N0 := Fr.nil n0
  refine own_via (fun t k => castTop (rm4_ef m a1) k) ?_
  show own_G p e below _ (s₁.setTop (mkF m 0 #[.val (.ref a1)] []))
  refine own_via (fun t k => XS.aloadN X0.here hx rfl (hb hby d4_0) rfl rfl k) ?_
  show own_G p e below _ (s₁.setTop (mkF m 1 #[.val (.ref a1)] [(.ref a1)]))
  obtain ⟨T1, X1, e1, st1⟩ := getF X0 hx hZ hown (host := "") (Or.inl (hw _ (List.mem_of_getElem? (i := 15) rfl))) Via.refl e0 F_t (g := (mkF m 1 #[.val (.ref a1)] [(.ref a1)])) rfl rfl (hb hby d4_1)
  refine own_via st1 ?_
  show own_G p e below _ (T1.setTop (mkF m 4 #[.val (.ref a1)] [(.double T)]))
  refine own_via (fun t k => XS.aloadN X1.here hx rfl (hb hby d4_4) rfl rfl k) ?_
  show own_G p e below _ (T1.setTop (mkF m 5 #[.val (.ref a1)] [(.ref a1), (.double T)]))
  obtain ⟨T2, X2, e2, st2⟩ := getF X1 hx hZ hown (host := "") (Or.inl (hw _ (List.mem_of_getElem? (i := 17) rfl))) Via.refl e1 F_c (g := (mkF m 5 #[.val (.ref a1)] [(.ref a1), (.double T)])) rfl rfl (hb hby d4_5)
  refine own_via st2 ?_
  show own_G p e below _ (T2.setTop (mkF m 8 #[.val (.ref a1)] [(.double K), (.double T)]))
  refine own_via (fun t k => XS.daddS X2.here hx rfl (hb hby d4_8) rfl nv rfl k) ?_
  show own_G p e below _ (T2.setTop (mkF m 9 #[.val (.ref a1)] [(.double (FP.dadd T K))]))
  obtain ⟨fs, hr, hrun, hended, hW, hsame⟩ := X2.leave (v := some (.double (FP.dadd T K))) (fun h => by rw [Bd.returns] at h; cases h)
  refine ⟨_, _, retOut X2 hx Bd.returns rfl (Or.inr (Or.inr (Or.inl ⟨rfl, rfl, _, rfl⟩))) (hb hby d4_9) hr, hrun, hended, _, _, rfl, ?_, ⟨_, rfl⟩, hW, hsame.mono (by decide) (by decide)⟩
  show rm4_Q Z a1 T K h0 n0 _ T2.heap _
  rw [e2]
  exact ⟨rfl, N0, rfl⟩

theorem rm0_pn : plainName "com/example/fee_simple/feesimple/CompensatedSumAddPinLaw" = true := by first | (simp [plainName, overriddenIn]; done) | decide +kernel
theorem pd_rm0_0 : parseMethodDescriptor "()V" = some ⟨[], none⟩ := by decide +kernel
theorem pd_rm0_1 : parseMethodDescriptor "(D)V" = some ⟨[.double], none⟩ := by decide +kernel
theorem pd_rm0_2 : parseMethodDescriptor "()D" = some ⟨[], some .double⟩ := by decide +kernel
theorem rm0_ef (m : MethodId) (z0 : Int32) (z1 : Int32) (z2 : Int32) (z3 : Int32) (z4 : Int32) : entryFrame m #[(.int z0), (.int z1), (.int z2), (.int z3), (.int z4)] maxLocals = mkF m 0 #[.val (.int z0), .val (.int z1), .val (.int z2), .val (.int z3), .val (.int z4), .unset, .unset, .unset, .unset, .unset, .unset, .unset, .unset] [] := by first | (simp [entryFrame, mkF, argsToLocals, Value.category, maxLocals]; done) | rfl
def rm0_Q (Z : State) (p1 : Int32) (p2 : Int32) (p3 : Int32) (p4 : Int32) (p5 : Int32)  (h0 : Heap) (n0 : Nat) (v : Option Value) (h : Heap) (L : List Loc) : Prop := v = some (.int 1) ∧ Fr n0 L
set_option maxRecDepth 65536 in
set_option maxHeartbeats 40000000 in
theorem rm0 (l : Launch) (Z : State) (a0 : Array Value) (hw : ∀ d ∈ tables_1, d.before a0 Z = true) (ws : List Jvm.Cond) (p1 : Int32) (p2 : Int32) (p3 : Int32) (p4 : Int32) (p5 : Int32)  (h0 : Heap) (n0 : Nat) (Z0 : n0 ≤ h0.size)  :
    MetFree l x (head1 (Jvm.Cond.code x code maxLocals ret :: ws) room_1) (fun a U => a = #[(.int p1), (.int p2), (.int p3), (.int p4), (.int p5)] ∧ Z.Warmed39 U.vm ∧ U.heap = h0) (fun _ _ _ _ _ => True) (fun _ U o U' => ∃ v L, o = .returned v ∧ rm0_Q Z p1 p2 p3 p4 p5 h0 n0 v U'.heap L ∧ FrameEnd U o U' L room_1.cells room_1.slots) := by
  refine MetFree.of_bodySF (plainFor_of_name rm0_pn) hisR ?_
  intro p e s m args below meth c s₁ Bd hml0 hP hK
  obtain ⟨rfl, hZ, hh⟩ := hP
  have hx := Bd.exec
  have hby := Bd.bytes
  have hml : c.maxLocals = 13 := hml0
  have hown : s.vm.findClass "com/example/fee_simple/feesimple/CompensatedSumAddPinLaw" = some m.cls := findClass_of_methodNamed Bd.named
  have hnm := (name_of_methodNamed Bd.named Bd.method).1
  have X0 : Stand p l e room_1 s m #[(.int p1), (.int p2), (.int p3), (.int p4), (.int p5)] below meth c s₁ [] 0 0 := Stand.of_body Bd
  have e0 : s₁.heap = h0 := by rw [← hh, Bd.state]; rfl
  have N0 := Fr.nil n0
  refine own_via (fun t k => castTop (rm0_ef m p1 p2 p3 p4 p5) k) ?_
  show own_G p e below _ (s₁.setTop (mkF m 0 #[.val (.int p1), .val (.int p2), .val (.int p3), .val (.int p4), .val (.int p5), .unset, .unset, .unset, .unset, .unset, .unset, .unset, .unset] []))
  refine own_via (fun t k => XS.iload X0.here hx rfl (hb hby at_0) rfl k) ?_
  show own_G p e below _ (s₁.setTop (mkF m 2 #[.val (.int p1), .val (.int p2), .val (.int p3), .val (.int p4), .val (.int p5), .unset, .unset, .unset, .unset, .unset, .unset, .unset, .unset] [(.int p5)]))
  refine own_via (fun t k => XS.bipush X0.here hx rfl (hb hby at_2) k) ?_
  show own_G p e below _ (s₁.setTop (mkF m 4 #[.val (.int p1), .val (.int p2), .val (.int p3), .val (.int p4), .val (.int p5), .unset, .unset, .unset, .unset, .unset, .unset, .unset, .unset] [(.int (31 : Int32)), (.int p5)]))
  refine own_via (fun t k => XS.iand X0.here hx rfl (hb hby at_4) rfl k) ?_
  show own_G p e below _ (s₁.setTop (mkF m 5 #[.val (.int p1), .val (.int p2), .val (.int p3), .val (.int p4), .val (.int p5), .unset, .unset, .unset, .unset, .unset, .unset, .unset, .unset] [(.int (p5 &&& (31 : Int32)))]))
  refine own_via (fun t k => XS.istore X0.here hx rfl (hb hby at_5) rfl (l' := #[.val (.int p1), .val (.int p2), .val (.int p3), .val (.int p4), .val (.int p5), .val (.int (p5 &&& (31 : Int32))), .unset, .unset, .unset, .unset, .unset, .unset, .unset]) rfl k) ?_
  show own_G p e below _ (s₁.setTop (mkF m 7 #[.val (.int p1), .val (.int p2), .val (.int p3), .val (.int p4), .val (.int p5), .val (.int (p5 &&& (31 : Int32))), .unset, .unset, .unset, .unset, .unset, .unset, .unset] []))
  refine own_via (fun t k => XS.iload X0.here hx rfl (hb hby at_7) rfl k) ?_
  show own_G p e below _ (s₁.setTop (mkF m 9 #[.val (.int p1), .val (.int p2), .val (.int p3), .val (.int p4), .val (.int p5), .val (.int (p5 &&& (31 : Int32))), .unset, .unset, .unset, .unset, .unset, .unset, .unset] [(.int p5)]))
  refine own_via (fun t k => XS.iconst X0.here hx rfl (hb hby at_9) k) ?_
  show own_G p e below _ (s₁.setTop (mkF m 10 #[.val (.int p1), .val (.int p2), .val (.int p3), .val (.int p4), .val (.int p5), .val (.int (p5 &&& (31 : Int32))), .unset, .unset, .unset, .unset, .unset, .unset, .unset] [(.int (5 : Int32)), (.int p5)]))
  refine own_via (fun t k => XS.iushr X0.here hx rfl (hb hby at_10) rfl k) ?_
  show own_G p e below _ (s₁.setTop (mkF m 11 #[.val (.int p1), .val (.int p2), .val (.int p3), .val (.int p4), .val (.int p5), .val (.int (p5 &&& (31 : Int32))), .unset, .unset, .unset, .unset, .unset, .unset, .unset] [(.int ((p5.toUInt32 >>> ((5 : Int32) &&& 31).toUInt32).toInt32))]))
  refine own_via (fun t k => XS.iconst X0.here hx rfl (hb hby at_11) k) ?_
  show own_G p e below _ (s₁.setTop (mkF m 12 #[.val (.int p1), .val (.int p2), .val (.int p3), .val (.int p4), .val (.int p5), .val (.int (p5 &&& (31 : Int32))), .unset, .unset, .unset, .unset, .unset, .unset, .unset] [(.int (3 : Int32)), (.int ((p5.toUInt32 >>> ((5 : Int32) &&& 31).toUInt32).toInt32))]))
  refine own_via (fun t k => XS.iand X0.here hx rfl (hb hby at_12) rfl k) ?_
  show own_G p e below _ (s₁.setTop (mkF m 13 #[.val (.int p1), .val (.int p2), .val (.int p3), .val (.int p4), .val (.int p5), .val (.int (p5 &&& (31 : Int32))), .unset, .unset, .unset, .unset, .unset, .unset, .unset] [(.int (((p5.toUInt32 >>> ((5 : Int32) &&& 31).toUInt32).toInt32) &&& (3 : Int32)))]))
  rcases own_and3 ((p5.toUInt32 >>> ((5 : Int32) &&& 31).toUInt32).toInt32) with hk | hk | hk | hk
  · rw [hk]
    obtain ⟨ok0, ok1, ok2, ok3, nv, hcmp⟩ := own_four (own_bigD p4 p5).1 (own_i2d p1) (own_i2d p2) (own_i2d p3) (own_bigD p4 p5).2 (Nat.le_trans (own_abs31 p1) (by decide)) (Nat.le_trans (own_abs31 p2) (by decide)) (Nat.le_trans (own_abs31 p3) (by decide)) (Or.inl ⟨own_abs31 p1, own_abs31 p2, own_abs31 p3⟩) (S := ((((p4.toInt64 <<< ((p5 &&& (31 : Int32)) &&& 0x3f).toInt64) + p1.toInt64) + p2.toInt64) + p3.toInt64)) (by rw [own_exact p4 p5 p1 p2 p3] <;> omega)
    show own_G p e below _ (s₁.setTop (mkF m 13 #[.val (.int p1), .val (.int p2), .val (.int p3), .val (.int p4), .val (.int p5), .val (.int (p5 &&& (31 : Int32))), .unset, .unset, .unset, .unset, .unset, .unset, .unset] [(.int (0 : Int32))]))
    refine own_via (fun t k => XS.istore X0.here hx rfl (hb hby at_13) rfl (l' := #[.val (.int p1), .val (.int p2), .val (.int p3), .val (.int p4), .val (.int p5), .val (.int (p5 &&& (31 : Int32))), .val (.int (0 : Int32)), .unset, .unset, .unset, .unset, .unset, .unset]) rfl k) ?_
    show own_G p e below _ (s₁.setTop (mkF m 15 #[.val (.int p1), .val (.int p2), .val (.int p3), .val (.int p4), .val (.int p5), .val (.int (p5 &&& (31 : Int32))), .val (.int (0 : Int32)), .unset, .unset, .unset, .unset, .unset, .unset] []))
    refine own_via (fun t k => XS.iloadN X0.here hx rfl (hb hby at_15) rfl k) ?_
    show own_G p e below _ (s₁.setTop (mkF m 16 #[.val (.int p1), .val (.int p2), .val (.int p3), .val (.int p4), .val (.int p5), .val (.int (p5 &&& (31 : Int32))), .val (.int (0 : Int32)), .unset, .unset, .unset, .unset, .unset, .unset] [(.int p4)]))
    refine own_via (fun t k => XS.i2l X0.here hx rfl (hb hby at_16) rfl k) ?_
    show own_G p e below _ (s₁.setTop (mkF m 17 #[.val (.int p1), .val (.int p2), .val (.int p3), .val (.int p4), .val (.int p5), .val (.int (p5 &&& (31 : Int32))), .val (.int (0 : Int32)), .unset, .unset, .unset, .unset, .unset, .unset] [(.long (p4.toInt64))]))
    refine own_via (fun t k => XS.iload X0.here hx rfl (hb hby at_17) rfl k) ?_
    show own_G p e below _ (s₁.setTop (mkF m 19 #[.val (.int p1), .val (.int p2), .val (.int p3), .val (.int p4), .val (.int p5), .val (.int (p5 &&& (31 : Int32))), .val (.int (0 : Int32)), .unset, .unset, .unset, .unset, .unset, .unset] [(.int (p5 &&& (31 : Int32))), (.long (p4.toInt64))]))
    refine own_via (fun t k => XS.lshl X0.here hx rfl (hb hby at_19) rfl k) ?_
    show own_G p e below _ (s₁.setTop (mkF m 20 #[.val (.int p1), .val (.int p2), .val (.int p3), .val (.int p4), .val (.int p5), .val (.int (p5 &&& (31 : Int32))), .val (.int (0 : Int32)), .unset, .unset, .unset, .unset, .unset, .unset] [(.long ((p4.toInt64) <<< ((p5 &&& (31 : Int32)) &&& 0x3f).toInt64))]))
    refine own_via (fun t k => XS.lstore X0.here hx rfl (hb hby at_20) rfl (l' := #[.val (.int p1), .val (.int p2), .val (.int p3), .val (.int p4), .val (.int p5), .val (.int (p5 &&& (31 : Int32))), .val (.int (0 : Int32)), .val (.long ((p4.toInt64) <<< ((p5 &&& (31 : Int32)) &&& 0x3f).toInt64)), .second, .unset, .unset, .unset, .unset]) rfl k) ?_
    show own_G p e below _ (s₁.setTop (mkF m 22 #[.val (.int p1), .val (.int p2), .val (.int p3), .val (.int p4), .val (.int p5), .val (.int (p5 &&& (31 : Int32))), .val (.int (0 : Int32)), .val (.long ((p4.toInt64) <<< ((p5 &&& (31 : Int32)) &&& 0x3f).toInt64)), .second, .unset, .unset, .unset, .unset] []))
    refine own_via (fun t k => XS.iconst X0.here hx rfl (hb hby at_22) k) ?_
    show own_G p e below _ (s₁.setTop (mkF m 23 #[.val (.int p1), .val (.int p2), .val (.int p3), .val (.int p4), .val (.int p5), .val (.int (p5 &&& (31 : Int32))), .val (.int (0 : Int32)), .val (.long ((p4.toInt64) <<< ((p5 &&& (31 : Int32)) &&& 0x3f).toInt64)), .second, .unset, .unset, .unset, .unset] [(.int (4 : Int32))]))
    obtain ⟨T1, h1, k1, X1, e1, E1, A1, st1⟩ := newP X0 hx hZ (hw _ (List.mem_of_getElem? (i := 0) rfl)) e0 (g := (mkF m 23 #[.val (.int p1), .val (.int p2), .val (.int p3), .val (.int p4), .val (.int p5), .val (.int (p5 &&& (31 : Int32))), .val (.int (0 : Int32)), .val (.long ((p4.toInt64) <<< ((p5 &&& (31 : Int32)) &&& 0x3f).toInt64)), .second, .unset, .unset, .unset, .unset] [(.int (4 : Int32))])) rfl (hb hby at_23) rfl (by decide) (cap := 4) (by decide) (by decide) (by decide) (by decide)
    obtain ⟨b1, g1⟩ : ∃ z, z = h0.size := ⟨_, rfl⟩
    rw [← g1] at A1 st1
    have gx_b1 : n0 ≤ b1 := Nat.le_trans Z0 (Nat.le_of_eq g1.symm)
    have Z1 : n0 ≤ h1.size := Nat.le_trans Z0 E1.1
    have V1 : Arv Z h1 b1 k1 .double (4 : Int32) [(.double (0 : UInt64)), (.double (0 : UInt64)), (.double (0 : UInt64)), (.double (0 : UInt64))] (.double (0 : UInt64)) := (Arv.new A1 (by decide)).pad (pad_rep [] (.double (0 : UInt64)) 4)
    refine own_via st1 ?_
    show own_G p e below _ (T1.setTop (mkF m 25 #[.val (.int p1), .val (.int p2), .val (.int p3), .val (.int p4), .val (.int p5), .val (.int (p5 &&& (31 : Int32))), .val (.int (0 : Int32)), .val (.long ((p4.toInt64) <<< ((p5 &&& (31 : Int32)) &&& 0x3f).toInt64)), .second, .unset, .unset, .unset, .unset] [(.ref b1)]))
    refine own_via (fun t k => XS.astore X1.here hx rfl (hb hby at_25) rfl rfl (l' := #[.val (.int p1), .val (.int p2), .val (.int p3), .val (.int p4), .val (.int p5), .val (.int (p5 &&& (31 : Int32))), .val (.int (0 : Int32)), .val (.long ((p4.toInt64) <<< ((p5 &&& (31 : Int32)) &&& 0x3f).toInt64)), .second, .val (.ref b1), .unset, .unset, .unset]) rfl k) ?_
    show own_G p e below _ (T1.setTop (mkF m 27 #[.val (.int p1), .val (.int p2), .val (.int p3), .val (.int p4), .val (.int p5), .val (.int (p5 &&& (31 : Int32))), .val (.int (0 : Int32)), .val (.long ((p4.toInt64) <<< ((p5 &&& (31 : Int32)) &&& 0x3f).toInt64)), .second, .val (.ref b1), .unset, .unset, .unset] []))
    refine own_via (fun t k => XS.aload X1.here hx rfl (hb hby at_27) rfl rfl k) ?_
    show own_G p e below _ (T1.setTop (mkF m 29 #[.val (.int p1), .val (.int p2), .val (.int p3), .val (.int p4), .val (.int p5), .val (.int (p5 &&& (31 : Int32))), .val (.int (0 : Int32)), .val (.long ((p4.toInt64) <<< ((p5 &&& (31 : Int32)) &&& 0x3f).toInt64)), .second, .val (.ref b1), .unset, .unset, .unset] [(.ref b1)]))
    refine own_via (fun t k => XS.iload X1.here hx rfl (hb hby at_29) rfl k) ?_
    show own_G p e below _ (T1.setTop (mkF m 31 #[.val (.int p1), .val (.int p2), .val (.int p3), .val (.int p4), .val (.int p5), .val (.int (p5 &&& (31 : Int32))), .val (.int (0 : Int32)), .val (.long ((p4.toInt64) <<< ((p5 &&& (31 : Int32)) &&& 0x3f).toInt64)), .second, .val (.ref b1), .unset, .unset, .unset] [(.int (0 : Int32)), (.ref b1)]))
    refine own_via (fun t k => XS.lload X1.here hx rfl (hb hby at_31) rfl k) ?_
    show own_G p e below _ (T1.setTop (mkF m 33 #[.val (.int p1), .val (.int p2), .val (.int p3), .val (.int p4), .val (.int p5), .val (.int (p5 &&& (31 : Int32))), .val (.int (0 : Int32)), .val (.long ((p4.toInt64) <<< ((p5 &&& (31 : Int32)) &&& 0x3f).toInt64)), .second, .val (.ref b1), .unset, .unset, .unset] [(.long ((p4.toInt64) <<< ((p5 &&& (31 : Int32)) &&& 0x3f).toInt64)), (.int (0 : Int32)), (.ref b1)]))
    refine own_via (fun t k => XS.l2dS X1.here hx rfl (hb hby at_33) rfl rfl k) ?_
    show own_G p e below _ (T1.setTop (mkF m 34 #[.val (.int p1), .val (.int p2), .val (.int p3), .val (.int p4), .val (.int p5), .val (.int (p5 &&& (31 : Int32))), .val (.int (0 : Int32)), .val (.long ((p4.toInt64) <<< ((p5 &&& (31 : Int32)) &&& 0x3f).toInt64)), .second, .val (.ref b1), .unset, .unset, .unset] [(.double (FP.l2d ((p4.toInt64) <<< ((p5 &&& (31 : Int32)) &&& 0x3f).toInt64))), (.int (0 : Int32)), (.ref b1)]))
    obtain ⟨cl2, Ar2, q2, S2, Ng2, Hs2, G2⟩ := id V1
    have hin2 : ¬ ((0 : Int32) < 0 ∨ cl2.slots.size ≤ ((0 : Int32)).toNatClampNeg) := inb_of S2 ⟨by decide, by decide⟩
    obtain ⟨T2, h2, X2, e2, W2, st2⟩ := stD X1 hx hZ e1 Ar2 (j := (0 : Int32)) hin2 (g := (mkF m 34 #[.val (.int p1), .val (.int p2), .val (.int p3), .val (.int p4), .val (.int p5), .val (.int (p5 &&& (31 : Int32))), .val (.int (0 : Int32)), .val (.long ((p4.toInt64) <<< ((p5 &&& (31 : Int32)) &&& 0x3f).toInt64)), .second, .val (.ref b1), .unset, .unset, .unset] [(.double (FP.l2d ((p4.toInt64) <<< ((p5 &&& (31 : Int32)) &&& 0x3f).toInt64))), (.int (0 : Int32)), (.ref b1)])) rfl rfl (hb hby at_34)
    have V2 : Arv Z h2 b1 k1 .double (4 : Int32) [(.double (FP.l2d ((p4.toInt64) <<< ((p5 &&& (31 : Int32)) &&& 0x3f).toInt64))), (.double (0 : UInt64)), (.double (0 : UInt64)), (.double (0 : UInt64))] (.double (0 : UInt64)) := Arv.set Ar2 q2 S2 Ng2 Hs2 G2 rfl W2 0 rfl (Nat.le_of_ble_eq_true rfl)
    have N2 := Fr.snoc X2 N0 gx_b1
    have Z2 : n0 ≤ h2.size := Nat.le_trans Z1 (Nat.le_of_eq W2.size.symm)
    refine own_via st2 ?_
    show own_G p e below _ (T2.setTop (mkF m 35 #[.val (.int p1), .val (.int p2), .val (.int p3), .val (.int p4), .val (.int p5), .val (.int (p5 &&& (31 : Int32))), .val (.int (0 : Int32)), .val (.long ((p4.toInt64) <<< ((p5 &&& (31 : Int32)) &&& 0x3f).toInt64)), .second, .val (.ref b1), .unset, .unset, .unset] []))
    refine own_via (fun t k => XS.aload X2.here hx rfl (hb hby at_35) rfl rfl k) ?_
    show own_G p e below _ (T2.setTop (mkF m 37 #[.val (.int p1), .val (.int p2), .val (.int p3), .val (.int p4), .val (.int p5), .val (.int (p5 &&& (31 : Int32))), .val (.int (0 : Int32)), .val (.long ((p4.toInt64) <<< ((p5 &&& (31 : Int32)) &&& 0x3f).toInt64)), .second, .val (.ref b1), .unset, .unset, .unset] [(.ref b1)]))
    refine own_via (fun t k => XS.iload X2.here hx rfl (hb hby at_37) rfl k) ?_
    show own_G p e below _ (T2.setTop (mkF m 39 #[.val (.int p1), .val (.int p2), .val (.int p3), .val (.int p4), .val (.int p5), .val (.int (p5 &&& (31 : Int32))), .val (.int (0 : Int32)), .val (.long ((p4.toInt64) <<< ((p5 &&& (31 : Int32)) &&& 0x3f).toInt64)), .second, .val (.ref b1), .unset, .unset, .unset] [(.int (0 : Int32)), (.ref b1)]))
    refine own_via (fun t k => XS.iconst X2.here hx rfl (hb hby at_39) k) ?_
    show own_G p e below _ (T2.setTop (mkF m 40 #[.val (.int p1), .val (.int p2), .val (.int p3), .val (.int p4), .val (.int p5), .val (.int (p5 &&& (31 : Int32))), .val (.int (0 : Int32)), .val (.long ((p4.toInt64) <<< ((p5 &&& (31 : Int32)) &&& 0x3f).toInt64)), .second, .val (.ref b1), .unset, .unset, .unset] [(.int (1 : Int32)), (.int (0 : Int32)), (.ref b1)]))
    refine own_via (fun t k => XS.iadd X2.here hx rfl (hb hby at_40) rfl k) ?_
    show own_G p e below _ (T2.setTop (mkF m 41 #[.val (.int p1), .val (.int p2), .val (.int p3), .val (.int p4), .val (.int p5), .val (.int (p5 &&& (31 : Int32))), .val (.int (0 : Int32)), .val (.long ((p4.toInt64) <<< ((p5 &&& (31 : Int32)) &&& 0x3f).toInt64)), .second, .val (.ref b1), .unset, .unset, .unset] [(.int (1 : Int32)), (.ref b1)]))
    refine own_via (fun t k => XS.iconst X2.here hx rfl (hb hby at_41) k) ?_
    show own_G p e below _ (T2.setTop (mkF m 42 #[.val (.int p1), .val (.int p2), .val (.int p3), .val (.int p4), .val (.int p5), .val (.int (p5 &&& (31 : Int32))), .val (.int (0 : Int32)), .val (.long ((p4.toInt64) <<< ((p5 &&& (31 : Int32)) &&& 0x3f).toInt64)), .second, .val (.ref b1), .unset, .unset, .unset] [(.int (3 : Int32)), (.int (1 : Int32)), (.ref b1)]))
    refine own_via (fun t k => XS.iand X2.here hx rfl (hb hby at_42) rfl k) ?_
    show own_G p e below _ (T2.setTop (mkF m 43 #[.val (.int p1), .val (.int p2), .val (.int p3), .val (.int p4), .val (.int p5), .val (.int (p5 &&& (31 : Int32))), .val (.int (0 : Int32)), .val (.long ((p4.toInt64) <<< ((p5 &&& (31 : Int32)) &&& 0x3f).toInt64)), .second, .val (.ref b1), .unset, .unset, .unset] [(.int (1 : Int32)), (.ref b1)]))
    refine own_via (fun t k => XS.iloadN X2.here hx rfl (hb hby at_43) rfl k) ?_
    show own_G p e below _ (T2.setTop (mkF m 44 #[.val (.int p1), .val (.int p2), .val (.int p3), .val (.int p4), .val (.int p5), .val (.int (p5 &&& (31 : Int32))), .val (.int (0 : Int32)), .val (.long ((p4.toInt64) <<< ((p5 &&& (31 : Int32)) &&& 0x3f).toInt64)), .second, .val (.ref b1), .unset, .unset, .unset] [(.int p1), (.int (1 : Int32)), (.ref b1)]))
    refine own_via (fun t k => XS.i2dS X2.here hx rfl (hb hby at_44) rfl rfl k) ?_
    show own_G p e below _ (T2.setTop (mkF m 45 #[.val (.int p1), .val (.int p2), .val (.int p3), .val (.int p4), .val (.int p5), .val (.int (p5 &&& (31 : Int32))), .val (.int (0 : Int32)), .val (.long ((p4.toInt64) <<< ((p5 &&& (31 : Int32)) &&& 0x3f).toInt64)), .second, .val (.ref b1), .unset, .unset, .unset] [(.double (FP.i2d p1)), (.int (1 : Int32)), (.ref b1)]))
    obtain ⟨cl3, Ar3, q3, S3, Ng3, Hs3, G3⟩ := id V2
    have hin3 : ¬ ((1 : Int32) < 0 ∨ cl3.slots.size ≤ ((1 : Int32)).toNatClampNeg) := inb_of S3 ⟨by decide, by decide⟩
    obtain ⟨T3, h3, X3, e3, W3, st3⟩ := stD X2 hx hZ e2 Ar3 (j := (1 : Int32)) hin3 (g := (mkF m 45 #[.val (.int p1), .val (.int p2), .val (.int p3), .val (.int p4), .val (.int p5), .val (.int (p5 &&& (31 : Int32))), .val (.int (0 : Int32)), .val (.long ((p4.toInt64) <<< ((p5 &&& (31 : Int32)) &&& 0x3f).toInt64)), .second, .val (.ref b1), .unset, .unset, .unset] [(.double (FP.i2d p1)), (.int (1 : Int32)), (.ref b1)])) rfl rfl (hb hby at_45)
    have V3 : Arv Z h3 b1 k1 .double (4 : Int32) [(.double (FP.l2d ((p4.toInt64) <<< ((p5 &&& (31 : Int32)) &&& 0x3f).toInt64))), (.double (FP.i2d p1)), (.double (0 : UInt64)), (.double (0 : UInt64))] (.double (0 : UInt64)) := Arv.set Ar3 q3 S3 Ng3 Hs3 G3 rfl W3 1 rfl (Nat.le_of_ble_eq_true rfl)
    have N3 := Fr.snoc X3 N2 gx_b1
    have Z3 : n0 ≤ h3.size := Nat.le_trans Z2 (Nat.le_of_eq W3.size.symm)
    refine own_via st3 ?_
    show own_G p e below _ (T3.setTop (mkF m 46 #[.val (.int p1), .val (.int p2), .val (.int p3), .val (.int p4), .val (.int p5), .val (.int (p5 &&& (31 : Int32))), .val (.int (0 : Int32)), .val (.long ((p4.toInt64) <<< ((p5 &&& (31 : Int32)) &&& 0x3f).toInt64)), .second, .val (.ref b1), .unset, .unset, .unset] []))
    refine own_via (fun t k => XS.aload X3.here hx rfl (hb hby at_46) rfl rfl k) ?_
    show own_G p e below _ (T3.setTop (mkF m 48 #[.val (.int p1), .val (.int p2), .val (.int p3), .val (.int p4), .val (.int p5), .val (.int (p5 &&& (31 : Int32))), .val (.int (0 : Int32)), .val (.long ((p4.toInt64) <<< ((p5 &&& (31 : Int32)) &&& 0x3f).toInt64)), .second, .val (.ref b1), .unset, .unset, .unset] [(.ref b1)]))
    refine own_via (fun t k => XS.iload X3.here hx rfl (hb hby at_48) rfl k) ?_
    show own_G p e below _ (T3.setTop (mkF m 50 #[.val (.int p1), .val (.int p2), .val (.int p3), .val (.int p4), .val (.int p5), .val (.int (p5 &&& (31 : Int32))), .val (.int (0 : Int32)), .val (.long ((p4.toInt64) <<< ((p5 &&& (31 : Int32)) &&& 0x3f).toInt64)), .second, .val (.ref b1), .unset, .unset, .unset] [(.int (0 : Int32)), (.ref b1)]))
    refine own_via (fun t k => XS.iconst X3.here hx rfl (hb hby at_50) k) ?_
    show own_G p e below _ (T3.setTop (mkF m 51 #[.val (.int p1), .val (.int p2), .val (.int p3), .val (.int p4), .val (.int p5), .val (.int (p5 &&& (31 : Int32))), .val (.int (0 : Int32)), .val (.long ((p4.toInt64) <<< ((p5 &&& (31 : Int32)) &&& 0x3f).toInt64)), .second, .val (.ref b1), .unset, .unset, .unset] [(.int (2 : Int32)), (.int (0 : Int32)), (.ref b1)]))
    refine own_via (fun t k => XS.iadd X3.here hx rfl (hb hby at_51) rfl k) ?_
    show own_G p e below _ (T3.setTop (mkF m 52 #[.val (.int p1), .val (.int p2), .val (.int p3), .val (.int p4), .val (.int p5), .val (.int (p5 &&& (31 : Int32))), .val (.int (0 : Int32)), .val (.long ((p4.toInt64) <<< ((p5 &&& (31 : Int32)) &&& 0x3f).toInt64)), .second, .val (.ref b1), .unset, .unset, .unset] [(.int (2 : Int32)), (.ref b1)]))
    refine own_via (fun t k => XS.iconst X3.here hx rfl (hb hby at_52) k) ?_
    show own_G p e below _ (T3.setTop (mkF m 53 #[.val (.int p1), .val (.int p2), .val (.int p3), .val (.int p4), .val (.int p5), .val (.int (p5 &&& (31 : Int32))), .val (.int (0 : Int32)), .val (.long ((p4.toInt64) <<< ((p5 &&& (31 : Int32)) &&& 0x3f).toInt64)), .second, .val (.ref b1), .unset, .unset, .unset] [(.int (3 : Int32)), (.int (2 : Int32)), (.ref b1)]))
    refine own_via (fun t k => XS.iand X3.here hx rfl (hb hby at_53) rfl k) ?_
    show own_G p e below _ (T3.setTop (mkF m 54 #[.val (.int p1), .val (.int p2), .val (.int p3), .val (.int p4), .val (.int p5), .val (.int (p5 &&& (31 : Int32))), .val (.int (0 : Int32)), .val (.long ((p4.toInt64) <<< ((p5 &&& (31 : Int32)) &&& 0x3f).toInt64)), .second, .val (.ref b1), .unset, .unset, .unset] [(.int (2 : Int32)), (.ref b1)]))
    refine own_via (fun t k => XS.iloadN X3.here hx rfl (hb hby at_54) rfl k) ?_
    show own_G p e below _ (T3.setTop (mkF m 55 #[.val (.int p1), .val (.int p2), .val (.int p3), .val (.int p4), .val (.int p5), .val (.int (p5 &&& (31 : Int32))), .val (.int (0 : Int32)), .val (.long ((p4.toInt64) <<< ((p5 &&& (31 : Int32)) &&& 0x3f).toInt64)), .second, .val (.ref b1), .unset, .unset, .unset] [(.int p2), (.int (2 : Int32)), (.ref b1)]))
    refine own_via (fun t k => XS.i2dS X3.here hx rfl (hb hby at_55) rfl rfl k) ?_
    show own_G p e below _ (T3.setTop (mkF m 56 #[.val (.int p1), .val (.int p2), .val (.int p3), .val (.int p4), .val (.int p5), .val (.int (p5 &&& (31 : Int32))), .val (.int (0 : Int32)), .val (.long ((p4.toInt64) <<< ((p5 &&& (31 : Int32)) &&& 0x3f).toInt64)), .second, .val (.ref b1), .unset, .unset, .unset] [(.double (FP.i2d p2)), (.int (2 : Int32)), (.ref b1)]))
    obtain ⟨cl4, Ar4, q4, S4, Ng4, Hs4, G4⟩ := id V3
    have hin4 : ¬ ((2 : Int32) < 0 ∨ cl4.slots.size ≤ ((2 : Int32)).toNatClampNeg) := inb_of S4 ⟨by decide, by decide⟩
    obtain ⟨T4, h4, X4, e4, W4, st4⟩ := stD X3 hx hZ e3 Ar4 (j := (2 : Int32)) hin4 (g := (mkF m 56 #[.val (.int p1), .val (.int p2), .val (.int p3), .val (.int p4), .val (.int p5), .val (.int (p5 &&& (31 : Int32))), .val (.int (0 : Int32)), .val (.long ((p4.toInt64) <<< ((p5 &&& (31 : Int32)) &&& 0x3f).toInt64)), .second, .val (.ref b1), .unset, .unset, .unset] [(.double (FP.i2d p2)), (.int (2 : Int32)), (.ref b1)])) rfl rfl (hb hby at_56)
    have V4 : Arv Z h4 b1 k1 .double (4 : Int32) [(.double (FP.l2d ((p4.toInt64) <<< ((p5 &&& (31 : Int32)) &&& 0x3f).toInt64))), (.double (FP.i2d p1)), (.double (FP.i2d p2)), (.double (0 : UInt64))] (.double (0 : UInt64)) := Arv.set Ar4 q4 S4 Ng4 Hs4 G4 rfl W4 2 rfl (Nat.le_of_ble_eq_true rfl)
    have N4 := Fr.snoc X4 N3 gx_b1
    have Z4 : n0 ≤ h4.size := Nat.le_trans Z3 (Nat.le_of_eq W4.size.symm)
    refine own_via st4 ?_
    show own_G p e below _ (T4.setTop (mkF m 57 #[.val (.int p1), .val (.int p2), .val (.int p3), .val (.int p4), .val (.int p5), .val (.int (p5 &&& (31 : Int32))), .val (.int (0 : Int32)), .val (.long ((p4.toInt64) <<< ((p5 &&& (31 : Int32)) &&& 0x3f).toInt64)), .second, .val (.ref b1), .unset, .unset, .unset] []))
    refine own_via (fun t k => XS.aload X4.here hx rfl (hb hby at_57) rfl rfl k) ?_
    show own_G p e below _ (T4.setTop (mkF m 59 #[.val (.int p1), .val (.int p2), .val (.int p3), .val (.int p4), .val (.int p5), .val (.int (p5 &&& (31 : Int32))), .val (.int (0 : Int32)), .val (.long ((p4.toInt64) <<< ((p5 &&& (31 : Int32)) &&& 0x3f).toInt64)), .second, .val (.ref b1), .unset, .unset, .unset] [(.ref b1)]))
    refine own_via (fun t k => XS.iload X4.here hx rfl (hb hby at_59) rfl k) ?_
    show own_G p e below _ (T4.setTop (mkF m 61 #[.val (.int p1), .val (.int p2), .val (.int p3), .val (.int p4), .val (.int p5), .val (.int (p5 &&& (31 : Int32))), .val (.int (0 : Int32)), .val (.long ((p4.toInt64) <<< ((p5 &&& (31 : Int32)) &&& 0x3f).toInt64)), .second, .val (.ref b1), .unset, .unset, .unset] [(.int (0 : Int32)), (.ref b1)]))
    refine own_via (fun t k => XS.iconst X4.here hx rfl (hb hby at_61) k) ?_
    show own_G p e below _ (T4.setTop (mkF m 62 #[.val (.int p1), .val (.int p2), .val (.int p3), .val (.int p4), .val (.int p5), .val (.int (p5 &&& (31 : Int32))), .val (.int (0 : Int32)), .val (.long ((p4.toInt64) <<< ((p5 &&& (31 : Int32)) &&& 0x3f).toInt64)), .second, .val (.ref b1), .unset, .unset, .unset] [(.int (3 : Int32)), (.int (0 : Int32)), (.ref b1)]))
    refine own_via (fun t k => XS.iadd X4.here hx rfl (hb hby at_62) rfl k) ?_
    show own_G p e below _ (T4.setTop (mkF m 63 #[.val (.int p1), .val (.int p2), .val (.int p3), .val (.int p4), .val (.int p5), .val (.int (p5 &&& (31 : Int32))), .val (.int (0 : Int32)), .val (.long ((p4.toInt64) <<< ((p5 &&& (31 : Int32)) &&& 0x3f).toInt64)), .second, .val (.ref b1), .unset, .unset, .unset] [(.int (3 : Int32)), (.ref b1)]))
    refine own_via (fun t k => XS.iconst X4.here hx rfl (hb hby at_63) k) ?_
    show own_G p e below _ (T4.setTop (mkF m 64 #[.val (.int p1), .val (.int p2), .val (.int p3), .val (.int p4), .val (.int p5), .val (.int (p5 &&& (31 : Int32))), .val (.int (0 : Int32)), .val (.long ((p4.toInt64) <<< ((p5 &&& (31 : Int32)) &&& 0x3f).toInt64)), .second, .val (.ref b1), .unset, .unset, .unset] [(.int (3 : Int32)), (.int (3 : Int32)), (.ref b1)]))
    refine own_via (fun t k => XS.iand X4.here hx rfl (hb hby at_64) rfl k) ?_
    show own_G p e below _ (T4.setTop (mkF m 65 #[.val (.int p1), .val (.int p2), .val (.int p3), .val (.int p4), .val (.int p5), .val (.int (p5 &&& (31 : Int32))), .val (.int (0 : Int32)), .val (.long ((p4.toInt64) <<< ((p5 &&& (31 : Int32)) &&& 0x3f).toInt64)), .second, .val (.ref b1), .unset, .unset, .unset] [(.int (3 : Int32)), (.ref b1)]))
    refine own_via (fun t k => XS.iloadN X4.here hx rfl (hb hby at_65) rfl k) ?_
    show own_G p e below _ (T4.setTop (mkF m 66 #[.val (.int p1), .val (.int p2), .val (.int p3), .val (.int p4), .val (.int p5), .val (.int (p5 &&& (31 : Int32))), .val (.int (0 : Int32)), .val (.long ((p4.toInt64) <<< ((p5 &&& (31 : Int32)) &&& 0x3f).toInt64)), .second, .val (.ref b1), .unset, .unset, .unset] [(.int p3), (.int (3 : Int32)), (.ref b1)]))
    refine own_via (fun t k => XS.i2dS X4.here hx rfl (hb hby at_66) rfl rfl k) ?_
    show own_G p e below _ (T4.setTop (mkF m 67 #[.val (.int p1), .val (.int p2), .val (.int p3), .val (.int p4), .val (.int p5), .val (.int (p5 &&& (31 : Int32))), .val (.int (0 : Int32)), .val (.long ((p4.toInt64) <<< ((p5 &&& (31 : Int32)) &&& 0x3f).toInt64)), .second, .val (.ref b1), .unset, .unset, .unset] [(.double (FP.i2d p3)), (.int (3 : Int32)), (.ref b1)]))
    obtain ⟨cl5, Ar5, q5, S5, Ng5, Hs5, G5⟩ := id V4
    have hin5 : ¬ ((3 : Int32) < 0 ∨ cl5.slots.size ≤ ((3 : Int32)).toNatClampNeg) := inb_of S5 ⟨by decide, by decide⟩
    obtain ⟨T5, h5, X5, e5, W5, st5⟩ := stD X4 hx hZ e4 Ar5 (j := (3 : Int32)) hin5 (g := (mkF m 67 #[.val (.int p1), .val (.int p2), .val (.int p3), .val (.int p4), .val (.int p5), .val (.int (p5 &&& (31 : Int32))), .val (.int (0 : Int32)), .val (.long ((p4.toInt64) <<< ((p5 &&& (31 : Int32)) &&& 0x3f).toInt64)), .second, .val (.ref b1), .unset, .unset, .unset] [(.double (FP.i2d p3)), (.int (3 : Int32)), (.ref b1)])) rfl rfl (hb hby at_67)
    have V5 : Arv Z h5 b1 k1 .double (4 : Int32) [(.double (FP.l2d ((p4.toInt64) <<< ((p5 &&& (31 : Int32)) &&& 0x3f).toInt64))), (.double (FP.i2d p1)), (.double (FP.i2d p2)), (.double (FP.i2d p3))] (.double (0 : UInt64)) := Arv.set Ar5 q5 S5 Ng5 Hs5 G5 rfl W5 3 rfl (Nat.le_of_ble_eq_true rfl)
    have N5 := Fr.snoc X5 N4 gx_b1
    have Z5 : n0 ≤ h5.size := Nat.le_trans Z4 (Nat.le_of_eq W5.size.symm)
    refine own_via st5 ?_
    show own_G p e below _ (T5.setTop (mkF m 68 #[.val (.int p1), .val (.int p2), .val (.int p3), .val (.int p4), .val (.int p5), .val (.int (p5 &&& (31 : Int32))), .val (.int (0 : Int32)), .val (.long ((p4.toInt64) <<< ((p5 &&& (31 : Int32)) &&& 0x3f).toInt64)), .second, .val (.ref b1), .unset, .unset, .unset] []))
    obtain ⟨T6, h6, X6, e6, E6, A6, D6, -, st6⟩ := newO X5 hx hZ hown (hw _ (List.mem_of_getElem? (i := 1) rfl)) (hw _ (List.mem_of_getElem? (i := 2) rfl)) (hw _ (List.mem_of_getElem? (i := 3) rfl)) e5 (g := (mkF m 68 #[.val (.int p1), .val (.int p2), .val (.int p3), .val (.int p4), .val (.int p5), .val (.int (p5 &&& (31 : Int32))), .val (.int (0 : Int32)), .val (.long ((p4.toInt64) <<< ((p5 &&& (31 : Int32)) &&& 0x3f).toInt64)), .second, .val (.ref b1), .unset, .unset, .unset] [])) rfl (hb hby at_68) (by decide) (by decide)
    obtain ⟨b6, g6⟩ : ∃ z, z = h5.size := ⟨_, rfl⟩
    rw [← g6] at A6 D6 st6
    have gx_b6 : n0 ≤ b6 := Nat.le_trans Z5 (Nat.le_of_eq g6.symm)
    have Z6 : n0 ≤ h6.size := Nat.le_trans Z5 E6.1
    have ne_b1_b6 : b1 ≠ b6 := Nat.ne_of_lt (Nat.lt_of_lt_of_le V5.lt (Nat.le_of_eq g6.symm))
    have F7 := V5.ext E6
    have F6_total : Fld Z h6 b6 "com/example/fee_simple/feesimple/CompensatedSum" "total" "D" (.double (0 : UInt64)) := D6 (Or.inl (hw _ (List.mem_of_getElem? (i := 16) rfl))) (ty := .double) (by decide)
    have F6_compensation : Fld Z h6 b6 "com/example/fee_simple/feesimple/CompensatedSum" "compensation" "D" (.double (0 : UInt64)) := D6 (Or.inl (hw _ (List.mem_of_getElem? (i := 18) rfl))) (ty := .double) (by decide)
    refine own_via st6 ?_
    show own_G p e below _ (T6.setTop (mkF m 71 #[.val (.int p1), .val (.int p2), .val (.int p3), .val (.int p4), .val (.int p5), .val (.int (p5 &&& (31 : Int32))), .val (.int (0 : Int32)), .val (.long ((p4.toInt64) <<< ((p5 &&& (31 : Int32)) &&& 0x3f).toInt64)), .second, .val (.ref b1), .unset, .unset, .unset] [(.ref b6)]))
    refine own_via (fun t k => XS.dup X6.here hx rfl (hb hby at_71) rfl rfl k) ?_
    show own_G p e below _ (T6.setTop (mkF m 72 #[.val (.int p1), .val (.int p2), .val (.int p3), .val (.int p4), .val (.int p5), .val (.int (p5 &&& (31 : Int32))), .val (.int (0 : Int32)), .val (.long ((p4.toInt64) <<< ((p5 &&& (31 : Int32)) &&& 0x3f).toInt64)), .second, .val (.ref b1), .unset, .unset, .unset] [(.ref b6), (.ref b6)]))
    obtain ⟨_, _, ⟨T8, L8, k8, n8⟩, -, X8, ⟨Lc8, hQ8, l8, y8, z8⟩, st8⟩ := X6.specialBack hx (y := (⟨"com/example/fee_simple/feesimple/CompensatedSum", "<init>", "()V"⟩ : MethodName)) rfl hown (mvT hZ (hw _ (List.mem_of_getElem? (i := 4) rfl))) (mvT hZ (hw _ (List.mem_of_getElem? (i := 5) rfl))) (mvT hZ (hw _ (List.mem_of_getElem? (i := 6) rfl))) (by decide) (backOf (W := 1) (rm1 l Z a0 hw [] b6 h6 n0 Z6) hZ (hw _ (List.mem_of_getElem? (i := 6) rfl)) (hw _ (List.mem_of_getElem? (i := 3) rfl)) (by decide) (by decide)) (g := (mkF m 72 #[.val (.int p1), .val (.int p2), .val (.int p3), .val (.int p4), .val (.int p5), .val (.int (p5 &&& (31 : Int32))), .val (.int (0 : Int32)), .val (.long ((p4.toInt64) <<< ((p5 &&& (31 : Int32)) &&& 0x3f).toInt64)), .second, .val (.ref b1), .unset, .unset, .unset] [(.ref b6), (.ref b6)])) rfl (by rw [hml]; rfl) (Steps.refl _) (a := b6) (argsL := []) (rest := [(.ref b6)]) (lenOf pd_rm0_0 rfl) rfl (by show 2 * 0 + _ ≤ _; exact Nat.le_of_eq rfl) (hb hby at_72) (fun _ _ => ⟨rfl, e6, (by decide : 2 + 0 ≤ _), (by decide : 6 + 0 ≤ _)⟩)
    dsimp only [Pt.U, Pt.locs, Pt.cells, Pt.slots] at X8 l8 y8 z8 st8 hQ8
    subst l8 y8 z8
    obtain ⟨rfl, N8q, e8⟩ := hQ8
    have N8 := Fr.app N5 N8q
    refine own_via (fun t k => st8.trans k) ?_
    show own_G p e below _ (T8.setTop (mkF m 75 #[.val (.int p1), .val (.int p2), .val (.int p3), .val (.int p4), .val (.int p5), .val (.int (p5 &&& (31 : Int32))), .val (.int (0 : Int32)), .val (.long ((p4.toInt64) <<< ((p5 &&& (31 : Int32)) &&& 0x3f).toInt64)), .second, .val (.ref b1), .unset, .unset, .unset] [(.ref b6)]))
    refine own_via (fun t k => XS.astore X8.here hx rfl (hb hby at_75) rfl rfl (l' := #[.val (.int p1), .val (.int p2), .val (.int p3), .val (.int p4), .val (.int p5), .val (.int (p5 &&& (31 : Int32))), .val (.int (0 : Int32)), .val (.long ((p4.toInt64) <<< ((p5 &&& (31 : Int32)) &&& 0x3f).toInt64)), .second, .val (.ref b1), .val (.ref b6), .unset, .unset]) rfl k) ?_
    show own_G p e below _ (T8.setTop (mkF m 77 #[.val (.int p1), .val (.int p2), .val (.int p3), .val (.int p4), .val (.int p5), .val (.int (p5 &&& (31 : Int32))), .val (.int (0 : Int32)), .val (.long ((p4.toInt64) <<< ((p5 &&& (31 : Int32)) &&& 0x3f).toInt64)), .second, .val (.ref b1), .val (.ref b6), .unset, .unset] []))
    refine own_via (fun t k => XS.aload X8.here hx rfl (hb hby at_77) rfl rfl k) ?_
    show own_G p e below _ (T8.setTop (mkF m 79 #[.val (.int p1), .val (.int p2), .val (.int p3), .val (.int p4), .val (.int p5), .val (.int (p5 &&& (31 : Int32))), .val (.int (0 : Int32)), .val (.long ((p4.toInt64) <<< ((p5 &&& (31 : Int32)) &&& 0x3f).toInt64)), .second, .val (.ref b1), .val (.ref b6), .unset, .unset] [(.ref b6)]))
    refine own_via (fun t k => XS.aload X8.here hx rfl (hb hby at_79) rfl rfl k) ?_
    show own_G p e below _ (T8.setTop (mkF m 81 #[.val (.int p1), .val (.int p2), .val (.int p3), .val (.int p4), .val (.int p5), .val (.int (p5 &&& (31 : Int32))), .val (.int (0 : Int32)), .val (.long ((p4.toInt64) <<< ((p5 &&& (31 : Int32)) &&& 0x3f).toInt64)), .second, .val (.ref b1), .val (.ref b6), .unset, .unset] [(.ref b1), (.ref b6)]))
    refine own_via (fun t k => XS.iconst X8.here hx rfl (hb hby at_81) k) ?_
    show own_G p e below _ (T8.setTop (mkF m 82 #[.val (.int p1), .val (.int p2), .val (.int p3), .val (.int p4), .val (.int p5), .val (.int (p5 &&& (31 : Int32))), .val (.int (0 : Int32)), .val (.long ((p4.toInt64) <<< ((p5 &&& (31 : Int32)) &&& 0x3f).toInt64)), .second, .val (.ref b1), .val (.ref b6), .unset, .unset] [(.int (0 : Int32)), (.ref b1), (.ref b6)]))
    obtain ⟨cl9, Ar9, q9, S9, Ng9, Hs9, G9⟩ := id F7
    have hin9 : ¬ ((0 : Int32) < 0 ∨ cl9.slots.size ≤ ((0 : Int32)).toNatClampNeg) := inb_of S9 ⟨by decide, by decide⟩
    have hat9 : cl9.slots[((0 : Int32)).toNatClampNeg]? = some (.double (FP.l2d ((p4.toInt64) <<< ((p5 &&& (31 : Int32)) &&& 0x3f).toInt64))) := Hs9.at hin9 rfl
    refine own_via (fun t k => X8.daload hx (j := (0 : Int32)) (v := (.double (FP.l2d ((p4.toInt64) <<< ((p5 &&& (31 : Int32)) &&& 0x3f).toInt64)))) (by rw [e8]; exact Ar9.1) (State.isArrayOf_alike hZ.alike Ar9.2.1) Ar9.2.2 hin9 hat9 (g := (mkF m 82 #[.val (.int p1), .val (.int p2), .val (.int p3), .val (.int p4), .val (.int p5), .val (.int (p5 &&& (31 : Int32))), .val (.int (0 : Int32)), .val (.long ((p4.toInt64) <<< ((p5 &&& (31 : Int32)) &&& 0x3f).toInt64)), .second, .val (.ref b1), .val (.ref b6), .unset, .unset] [(.int (0 : Int32)), (.ref b1), (.ref b6)])) rfl rfl (hb hby at_82) _ k) ?_
    show own_G p e below _ (T8.setTop (mkF m 83 #[.val (.int p1), .val (.int p2), .val (.int p3), .val (.int p4), .val (.int p5), .val (.int (p5 &&& (31 : Int32))), .val (.int (0 : Int32)), .val (.long ((p4.toInt64) <<< ((p5 &&& (31 : Int32)) &&& 0x3f).toInt64)), .second, .val (.ref b1), .val (.ref b6), .unset, .unset] [(.double (FP.l2d ((p4.toInt64) <<< ((p5 &&& (31 : Int32)) &&& 0x3f).toInt64))), (.ref b6)]))
    obtain ⟨cq10, kq10, q10a, q10b, q10c⟩ := isOf hZ e8 A6
    obtain ⟨_, _, ⟨T10, L10, k10, n10⟩, -, X10, ⟨Lc10, hQ10, l10, y10, z10⟩, st10⟩ := X8.virtualBack hx (y := (⟨"com/example/fee_simple/feesimple/CompensatedSum", "add", "(D)V"⟩ : MethodName)) (z := (⟨"com/example/fee_simple/feesimple/CompensatedSum", "add", "(D)V"⟩ : MethodName)) hown (mvT hZ (hw _ (List.mem_of_getElem? (i := 10) rfl))) (mvT hZ (hw _ (List.mem_of_getElem? (i := 11) rfl))) (notFace_of_selects (args := #[]) (mvT hZ (hw _ (List.mem_of_getElem? (i := 13) rfl)))) (mvT hZ (hw _ (List.mem_of_getElem? (i := 13) rfl))) (mvT hZ (hw _ (List.mem_of_getElem? (i := 12) rfl))) (by decide) (backOf (W := 0) (rm3 l Z a0 hw [] b6 (FP.l2d ((p4.toInt64) <<< ((p5 &&& (31 : Int32)) &&& 0x3f).toInt64)) (0 : UInt64) (0 : UInt64) h6 n0 Z6 A6 F6_total F6_compensation gx_b6 ok0) hZ (hw _ (List.mem_of_getElem? (i := 14) rfl)) (hw _ (List.mem_of_getElem? (i := 3) rfl)) (by decide) (by decide)) q10a q10c (g := (mkF m 83 #[.val (.int p1), .val (.int p2), .val (.int p3), .val (.int p4), .val (.int p5), .val (.int (p5 &&& (31 : Int32))), .val (.int (0 : Int32)), .val (.long ((p4.toInt64) <<< ((p5 &&& (31 : Int32)) &&& 0x3f).toInt64)), .second, .val (.ref b1), .val (.ref b6), .unset, .unset] [(.double (FP.l2d ((p4.toInt64) <<< ((p5 &&& (31 : Int32)) &&& 0x3f).toInt64))), (.ref b6)])) rfl (by rw [hml]; rfl) (Steps.refl _) (argsL := [(.double (FP.l2d ((p4.toInt64) <<< ((p5 &&& (31 : Int32)) &&& 0x3f).toInt64)))]) (rest := []) (lenOf pd_rm0_1 rfl) rfl (by show 2 * 0 + _ ≤ _; exact Nat.le_of_eq rfl) (hb hby at_83) (fun _ _ => ⟨rfl, e8, (by decide : 2 + 0 ≤ _), (by decide : 6 + 0 ≤ _)⟩)
    dsimp only [Pt.U, Pt.locs, Pt.cells, Pt.slots] at X10 l10 y10 z10 st10 hQ10
    subst l10 y10 z10
    obtain ⟨rfl, N10q, K10, E10q, Ft10, Fc10⟩ := hQ10
    have N10 := Fr.app N8 N10q
    have F11 := F7.keep K10 (ninS ne_b1_b6 nin0)
    have F12 := A6.keep K10
    have Z10 : n0 ≤ T10.heap.size := Nat.le_trans Z6 K10.1
    refine own_via (fun t k => st10.trans k) ?_
    show own_G p e below _ (T10.setTop (mkF m 86 #[.val (.int p1), .val (.int p2), .val (.int p3), .val (.int p4), .val (.int p5), .val (.int (p5 &&& (31 : Int32))), .val (.int (0 : Int32)), .val (.long ((p4.toInt64) <<< ((p5 &&& (31 : Int32)) &&& 0x3f).toInt64)), .second, .val (.ref b1), .val (.ref b6), .unset, .unset] []))
    refine own_via (fun t k => XS.aload X10.here hx rfl (hb hby at_86) rfl rfl k) ?_
    show own_G p e below _ (T10.setTop (mkF m 88 #[.val (.int p1), .val (.int p2), .val (.int p3), .val (.int p4), .val (.int p5), .val (.int (p5 &&& (31 : Int32))), .val (.int (0 : Int32)), .val (.long ((p4.toInt64) <<< ((p5 &&& (31 : Int32)) &&& 0x3f).toInt64)), .second, .val (.ref b1), .val (.ref b6), .unset, .unset] [(.ref b6)]))
    refine own_via (fun t k => XS.aload X10.here hx rfl (hb hby at_88) rfl rfl k) ?_
    show own_G p e below _ (T10.setTop (mkF m 90 #[.val (.int p1), .val (.int p2), .val (.int p3), .val (.int p4), .val (.int p5), .val (.int (p5 &&& (31 : Int32))), .val (.int (0 : Int32)), .val (.long ((p4.toInt64) <<< ((p5 &&& (31 : Int32)) &&& 0x3f).toInt64)), .second, .val (.ref b1), .val (.ref b6), .unset, .unset] [(.ref b1), (.ref b6)]))
    refine own_via (fun t k => XS.iconst X10.here hx rfl (hb hby at_90) k) ?_
    show own_G p e below _ (T10.setTop (mkF m 91 #[.val (.int p1), .val (.int p2), .val (.int p3), .val (.int p4), .val (.int p5), .val (.int (p5 &&& (31 : Int32))), .val (.int (0 : Int32)), .val (.long ((p4.toInt64) <<< ((p5 &&& (31 : Int32)) &&& 0x3f).toInt64)), .second, .val (.ref b1), .val (.ref b6), .unset, .unset] [(.int (1 : Int32)), (.ref b1), (.ref b6)]))
    obtain ⟨cl15, Ar15, q15, S15, Ng15, Hs15, G15⟩ := id F11
    have hin15 : ¬ ((1 : Int32) < 0 ∨ cl15.slots.size ≤ ((1 : Int32)).toNatClampNeg) := inb_of S15 ⟨by decide, by decide⟩
    have hat15 : cl15.slots[((1 : Int32)).toNatClampNeg]? = some (.double (FP.i2d p1)) := Hs15.at hin15 rfl
    refine own_via (fun t k => X10.daload hx (j := (1 : Int32)) (v := (.double (FP.i2d p1))) Ar15.1 (State.isArrayOf_alike hZ.alike Ar15.2.1) Ar15.2.2 hin15 hat15 (g := (mkF m 91 #[.val (.int p1), .val (.int p2), .val (.int p3), .val (.int p4), .val (.int p5), .val (.int (p5 &&& (31 : Int32))), .val (.int (0 : Int32)), .val (.long ((p4.toInt64) <<< ((p5 &&& (31 : Int32)) &&& 0x3f).toInt64)), .second, .val (.ref b1), .val (.ref b6), .unset, .unset] [(.int (1 : Int32)), (.ref b1), (.ref b6)])) rfl rfl (hb hby at_91) _ k) ?_
    show own_G p e below _ (T10.setTop (mkF m 92 #[.val (.int p1), .val (.int p2), .val (.int p3), .val (.int p4), .val (.int p5), .val (.int (p5 &&& (31 : Int32))), .val (.int (0 : Int32)), .val (.long ((p4.toInt64) <<< ((p5 &&& (31 : Int32)) &&& 0x3f).toInt64)), .second, .val (.ref b1), .val (.ref b6), .unset, .unset] [(.double (FP.i2d p1)), (.ref b6)]))
    obtain ⟨cq16, kq16, q16a, q16b, q16c⟩ := isOf hZ rfl E10q
    obtain ⟨_, _, ⟨T16, L16, k16, n16⟩, -, X16, ⟨Lc16, hQ16, l16, y16, z16⟩, st16⟩ := X10.virtualBack hx (y := (⟨"com/example/fee_simple/feesimple/CompensatedSum", "add", "(D)V"⟩ : MethodName)) (z := (⟨"com/example/fee_simple/feesimple/CompensatedSum", "add", "(D)V"⟩ : MethodName)) hown (mvT hZ (hw _ (List.mem_of_getElem? (i := 10) rfl))) (mvT hZ (hw _ (List.mem_of_getElem? (i := 11) rfl))) (notFace_of_selects (args := #[]) (mvT hZ (hw _ (List.mem_of_getElem? (i := 13) rfl)))) (mvT hZ (hw _ (List.mem_of_getElem? (i := 13) rfl))) (mvT hZ (hw _ (List.mem_of_getElem? (i := 12) rfl))) (by decide) (backOf (W := 0) (rm3 l Z a0 hw [] b6 (FP.i2d p1) (own_t (0 : UInt64) (FP.l2d ((p4.toInt64) <<< ((p5 &&& (31 : Int32)) &&& 0x3f).toInt64))) (own_k (0 : UInt64) (FP.l2d ((p4.toInt64) <<< ((p5 &&& (31 : Int32)) &&& 0x3f).toInt64)) (0 : UInt64)) T10.heap n0 Z10 E10q Ft10 Fc10 gx_b6 ok1) hZ (hw _ (List.mem_of_getElem? (i := 14) rfl)) (hw _ (List.mem_of_getElem? (i := 3) rfl)) (by decide) (by decide)) q16a q16c (g := (mkF m 92 #[.val (.int p1), .val (.int p2), .val (.int p3), .val (.int p4), .val (.int p5), .val (.int (p5 &&& (31 : Int32))), .val (.int (0 : Int32)), .val (.long ((p4.toInt64) <<< ((p5 &&& (31 : Int32)) &&& 0x3f).toInt64)), .second, .val (.ref b1), .val (.ref b6), .unset, .unset] [(.double (FP.i2d p1)), (.ref b6)])) rfl (by rw [hml]; rfl) (Steps.refl _) (argsL := [(.double (FP.i2d p1))]) (rest := []) (lenOf pd_rm0_1 rfl) rfl (by show 2 * 0 + _ ≤ _; exact Nat.le_of_eq rfl) (hb hby at_92) (fun _ _ => ⟨rfl, rfl, (by decide : 2 + 0 ≤ _), (by decide : 6 + 0 ≤ _)⟩)
    dsimp only [Pt.U, Pt.locs, Pt.cells, Pt.slots] at X16 l16 y16 z16 st16 hQ16
    subst l16 y16 z16
    obtain ⟨rfl, N16q, K16, E16q, Ft16, Fc16⟩ := hQ16
    have N16 := Fr.app N10 N16q
    have F17 := F11.keep K16 (ninS ne_b1_b6 nin0)
    have F18 := E10q.keep K16
    have Z16 : n0 ≤ T16.heap.size := Nat.le_trans Z10 K16.1
    refine own_via (fun t k => st16.trans k) ?_
    show own_G p e below _ (T16.setTop (mkF m 95 #[.val (.int p1), .val (.int p2), .val (.int p3), .val (.int p4), .val (.int p5), .val (.int (p5 &&& (31 : Int32))), .val (.int (0 : Int32)), .val (.long ((p4.toInt64) <<< ((p5 &&& (31 : Int32)) &&& 0x3f).toInt64)), .second, .val (.ref b1), .val (.ref b6), .unset, .unset] []))
    refine own_via (fun t k => XS.aload X16.here hx rfl (hb hby at_95) rfl rfl k) ?_
    show own_G p e below _ (T16.setTop (mkF m 97 #[.val (.int p1), .val (.int p2), .val (.int p3), .val (.int p4), .val (.int p5), .val (.int (p5 &&& (31 : Int32))), .val (.int (0 : Int32)), .val (.long ((p4.toInt64) <<< ((p5 &&& (31 : Int32)) &&& 0x3f).toInt64)), .second, .val (.ref b1), .val (.ref b6), .unset, .unset] [(.ref b6)]))
    refine own_via (fun t k => XS.aload X16.here hx rfl (hb hby at_97) rfl rfl k) ?_
    show own_G p e below _ (T16.setTop (mkF m 99 #[.val (.int p1), .val (.int p2), .val (.int p3), .val (.int p4), .val (.int p5), .val (.int (p5 &&& (31 : Int32))), .val (.int (0 : Int32)), .val (.long ((p4.toInt64) <<< ((p5 &&& (31 : Int32)) &&& 0x3f).toInt64)), .second, .val (.ref b1), .val (.ref b6), .unset, .unset] [(.ref b1), (.ref b6)]))
    refine own_via (fun t k => XS.iconst X16.here hx rfl (hb hby at_99) k) ?_
    show own_G p e below _ (T16.setTop (mkF m 100 #[.val (.int p1), .val (.int p2), .val (.int p3), .val (.int p4), .val (.int p5), .val (.int (p5 &&& (31 : Int32))), .val (.int (0 : Int32)), .val (.long ((p4.toInt64) <<< ((p5 &&& (31 : Int32)) &&& 0x3f).toInt64)), .second, .val (.ref b1), .val (.ref b6), .unset, .unset] [(.int (2 : Int32)), (.ref b1), (.ref b6)]))
    obtain ⟨cl21, Ar21, q21, S21, Ng21, Hs21, G21⟩ := id F17
    have hin21 : ¬ ((2 : Int32) < 0 ∨ cl21.slots.size ≤ ((2 : Int32)).toNatClampNeg) := inb_of S21 ⟨by decide, by decide⟩
    have hat21 : cl21.slots[((2 : Int32)).toNatClampNeg]? = some (.double (FP.i2d p2)) := Hs21.at hin21 rfl
    refine own_via (fun t k => X16.daload hx (j := (2 : Int32)) (v := (.double (FP.i2d p2))) Ar21.1 (State.isArrayOf_alike hZ.alike Ar21.2.1) Ar21.2.2 hin21 hat21 (g := (mkF m 100 #[.val (.int p1), .val (.int p2), .val (.int p3), .val (.int p4), .val (.int p5), .val (.int (p5 &&& (31 : Int32))), .val (.int (0 : Int32)), .val (.long ((p4.toInt64) <<< ((p5 &&& (31 : Int32)) &&& 0x3f).toInt64)), .second, .val (.ref b1), .val (.ref b6), .unset, .unset] [(.int (2 : Int32)), (.ref b1), (.ref b6)])) rfl rfl (hb hby at_100) _ k) ?_
    show own_G p e below _ (T16.setTop (mkF m 101 #[.val (.int p1), .val (.int p2), .val (.int p3), .val (.int p4), .val (.int p5), .val (.int (p5 &&& (31 : Int32))), .val (.int (0 : Int32)), .val (.long ((p4.toInt64) <<< ((p5 &&& (31 : Int32)) &&& 0x3f).toInt64)), .second, .val (.ref b1), .val (.ref b6), .unset, .unset] [(.double (FP.i2d p2)), (.ref b6)]))
    obtain ⟨cq22, kq22, q22a, q22b, q22c⟩ := isOf hZ rfl E16q
    obtain ⟨_, _, ⟨T22, L22, k22, n22⟩, -, X22, ⟨Lc22, hQ22, l22, y22, z22⟩, st22⟩ := X16.virtualBack hx (y := (⟨"com/example/fee_simple/feesimple/CompensatedSum", "add", "(D)V"⟩ : MethodName)) (z := (⟨"com/example/fee_simple/feesimple/CompensatedSum", "add", "(D)V"⟩ : MethodName)) hown (mvT hZ (hw _ (List.mem_of_getElem? (i := 10) rfl))) (mvT hZ (hw _ (List.mem_of_getElem? (i := 11) rfl))) (notFace_of_selects (args := #[]) (mvT hZ (hw _ (List.mem_of_getElem? (i := 13) rfl)))) (mvT hZ (hw _ (List.mem_of_getElem? (i := 13) rfl))) (mvT hZ (hw _ (List.mem_of_getElem? (i := 12) rfl))) (by decide) (backOf (W := 0) (rm3 l Z a0 hw [] b6 (FP.i2d p2) (own_t (own_t (0 : UInt64) (FP.l2d ((p4.toInt64) <<< ((p5 &&& (31 : Int32)) &&& 0x3f).toInt64))) (FP.i2d p1)) (own_k (own_t (0 : UInt64) (FP.l2d ((p4.toInt64) <<< ((p5 &&& (31 : Int32)) &&& 0x3f).toInt64))) (FP.i2d p1) (own_k (0 : UInt64) (FP.l2d ((p4.toInt64) <<< ((p5 &&& (31 : Int32)) &&& 0x3f).toInt64)) (0 : UInt64))) T16.heap n0 Z16 E16q Ft16 Fc16 gx_b6 ok2) hZ (hw _ (List.mem_of_getElem? (i := 14) rfl)) (hw _ (List.mem_of_getElem? (i := 3) rfl)) (by decide) (by decide)) q22a q22c (g := (mkF m 101 #[.val (.int p1), .val (.int p2), .val (.int p3), .val (.int p4), .val (.int p5), .val (.int (p5 &&& (31 : Int32))), .val (.int (0 : Int32)), .val (.long ((p4.toInt64) <<< ((p5 &&& (31 : Int32)) &&& 0x3f).toInt64)), .second, .val (.ref b1), .val (.ref b6), .unset, .unset] [(.double (FP.i2d p2)), (.ref b6)])) rfl (by rw [hml]; rfl) (Steps.refl _) (argsL := [(.double (FP.i2d p2))]) (rest := []) (lenOf pd_rm0_1 rfl) rfl (by show 2 * 0 + _ ≤ _; exact Nat.le_of_eq rfl) (hb hby at_101) (fun _ _ => ⟨rfl, rfl, (by decide : 2 + 0 ≤ _), (by decide : 6 + 0 ≤ _)⟩)
    dsimp only [Pt.U, Pt.locs, Pt.cells, Pt.slots] at X22 l22 y22 z22 st22 hQ22
    subst l22 y22 z22
    obtain ⟨rfl, N22q, K22, E22q, Ft22, Fc22⟩ := hQ22
    have N22 := Fr.app N16 N22q
    have F23 := F17.keep K22 (ninS ne_b1_b6 nin0)
    have F24 := E16q.keep K22
    have Z22 : n0 ≤ T22.heap.size := Nat.le_trans Z16 K22.1
    refine own_via (fun t k => st22.trans k) ?_
    show own_G p e below _ (T22.setTop (mkF m 104 #[.val (.int p1), .val (.int p2), .val (.int p3), .val (.int p4), .val (.int p5), .val (.int (p5 &&& (31 : Int32))), .val (.int (0 : Int32)), .val (.long ((p4.toInt64) <<< ((p5 &&& (31 : Int32)) &&& 0x3f).toInt64)), .second, .val (.ref b1), .val (.ref b6), .unset, .unset] []))
    refine own_via (fun t k => XS.aload X22.here hx rfl (hb hby at_104) rfl rfl k) ?_
    show own_G p e below _ (T22.setTop (mkF m 106 #[.val (.int p1), .val (.int p2), .val (.int p3), .val (.int p4), .val (.int p5), .val (.int (p5 &&& (31 : Int32))), .val (.int (0 : Int32)), .val (.long ((p4.toInt64) <<< ((p5 &&& (31 : Int32)) &&& 0x3f).toInt64)), .second, .val (.ref b1), .val (.ref b6), .unset, .unset] [(.ref b6)]))
    refine own_via (fun t k => XS.aload X22.here hx rfl (hb hby at_106) rfl rfl k) ?_
    show own_G p e below _ (T22.setTop (mkF m 108 #[.val (.int p1), .val (.int p2), .val (.int p3), .val (.int p4), .val (.int p5), .val (.int (p5 &&& (31 : Int32))), .val (.int (0 : Int32)), .val (.long ((p4.toInt64) <<< ((p5 &&& (31 : Int32)) &&& 0x3f).toInt64)), .second, .val (.ref b1), .val (.ref b6), .unset, .unset] [(.ref b1), (.ref b6)]))
    refine own_via (fun t k => XS.iconst X22.here hx rfl (hb hby at_108) k) ?_
    show own_G p e below _ (T22.setTop (mkF m 109 #[.val (.int p1), .val (.int p2), .val (.int p3), .val (.int p4), .val (.int p5), .val (.int (p5 &&& (31 : Int32))), .val (.int (0 : Int32)), .val (.long ((p4.toInt64) <<< ((p5 &&& (31 : Int32)) &&& 0x3f).toInt64)), .second, .val (.ref b1), .val (.ref b6), .unset, .unset] [(.int (3 : Int32)), (.ref b1), (.ref b6)]))
    obtain ⟨cl27, Ar27, q27, S27, Ng27, Hs27, G27⟩ := id F23
    have hin27 : ¬ ((3 : Int32) < 0 ∨ cl27.slots.size ≤ ((3 : Int32)).toNatClampNeg) := inb_of S27 ⟨by decide, by decide⟩
    have hat27 : cl27.slots[((3 : Int32)).toNatClampNeg]? = some (.double (FP.i2d p3)) := Hs27.at hin27 rfl
    refine own_via (fun t k => X22.daload hx (j := (3 : Int32)) (v := (.double (FP.i2d p3))) Ar27.1 (State.isArrayOf_alike hZ.alike Ar27.2.1) Ar27.2.2 hin27 hat27 (g := (mkF m 109 #[.val (.int p1), .val (.int p2), .val (.int p3), .val (.int p4), .val (.int p5), .val (.int (p5 &&& (31 : Int32))), .val (.int (0 : Int32)), .val (.long ((p4.toInt64) <<< ((p5 &&& (31 : Int32)) &&& 0x3f).toInt64)), .second, .val (.ref b1), .val (.ref b6), .unset, .unset] [(.int (3 : Int32)), (.ref b1), (.ref b6)])) rfl rfl (hb hby at_109) _ k) ?_
    show own_G p e below _ (T22.setTop (mkF m 110 #[.val (.int p1), .val (.int p2), .val (.int p3), .val (.int p4), .val (.int p5), .val (.int (p5 &&& (31 : Int32))), .val (.int (0 : Int32)), .val (.long ((p4.toInt64) <<< ((p5 &&& (31 : Int32)) &&& 0x3f).toInt64)), .second, .val (.ref b1), .val (.ref b6), .unset, .unset] [(.double (FP.i2d p3)), (.ref b6)]))
    obtain ⟨cq28, kq28, q28a, q28b, q28c⟩ := isOf hZ rfl E22q
    obtain ⟨_, _, ⟨T28, L28, k28, n28⟩, -, X28, ⟨Lc28, hQ28, l28, y28, z28⟩, st28⟩ := X22.virtualBack hx (y := (⟨"com/example/fee_simple/feesimple/CompensatedSum", "add", "(D)V"⟩ : MethodName)) (z := (⟨"com/example/fee_simple/feesimple/CompensatedSum", "add", "(D)V"⟩ : MethodName)) hown (mvT hZ (hw _ (List.mem_of_getElem? (i := 10) rfl))) (mvT hZ (hw _ (List.mem_of_getElem? (i := 11) rfl))) (notFace_of_selects (args := #[]) (mvT hZ (hw _ (List.mem_of_getElem? (i := 13) rfl)))) (mvT hZ (hw _ (List.mem_of_getElem? (i := 13) rfl))) (mvT hZ (hw _ (List.mem_of_getElem? (i := 12) rfl))) (by decide) (backOf (W := 0) (rm3 l Z a0 hw [] b6 (FP.i2d p3) (own_t (own_t (own_t (0 : UInt64) (FP.l2d ((p4.toInt64) <<< ((p5 &&& (31 : Int32)) &&& 0x3f).toInt64))) (FP.i2d p1)) (FP.i2d p2)) (own_k (own_t (own_t (0 : UInt64) (FP.l2d ((p4.toInt64) <<< ((p5 &&& (31 : Int32)) &&& 0x3f).toInt64))) (FP.i2d p1)) (FP.i2d p2) (own_k (own_t (0 : UInt64) (FP.l2d ((p4.toInt64) <<< ((p5 &&& (31 : Int32)) &&& 0x3f).toInt64))) (FP.i2d p1) (own_k (0 : UInt64) (FP.l2d ((p4.toInt64) <<< ((p5 &&& (31 : Int32)) &&& 0x3f).toInt64)) (0 : UInt64)))) T22.heap n0 Z22 E22q Ft22 Fc22 gx_b6 ok3) hZ (hw _ (List.mem_of_getElem? (i := 14) rfl)) (hw _ (List.mem_of_getElem? (i := 3) rfl)) (by decide) (by decide)) q28a q28c (g := (mkF m 110 #[.val (.int p1), .val (.int p2), .val (.int p3), .val (.int p4), .val (.int p5), .val (.int (p5 &&& (31 : Int32))), .val (.int (0 : Int32)), .val (.long ((p4.toInt64) <<< ((p5 &&& (31 : Int32)) &&& 0x3f).toInt64)), .second, .val (.ref b1), .val (.ref b6), .unset, .unset] [(.double (FP.i2d p3)), (.ref b6)])) rfl (by rw [hml]; rfl) (Steps.refl _) (argsL := [(.double (FP.i2d p3))]) (rest := []) (lenOf pd_rm0_1 rfl) rfl (by show 2 * 0 + _ ≤ _; exact Nat.le_of_eq rfl) (hb hby at_110) (fun _ _ => ⟨rfl, rfl, (by decide : 2 + 0 ≤ _), (by decide : 6 + 0 ≤ _)⟩)
    dsimp only [Pt.U, Pt.locs, Pt.cells, Pt.slots] at X28 l28 y28 z28 st28 hQ28
    subst l28 y28 z28
    obtain ⟨rfl, N28q, K28, E28q, Ft28, Fc28⟩ := hQ28
    have N28 := Fr.app N22 N28q
    have F29 := F23.keep K28 (ninS ne_b1_b6 nin0)
    have F30 := E22q.keep K28
    have Z28 : n0 ≤ T28.heap.size := Nat.le_trans Z22 K28.1
    refine own_via (fun t k => st28.trans k) ?_
    show own_G p e below _ (T28.setTop (mkF m 113 #[.val (.int p1), .val (.int p2), .val (.int p3), .val (.int p4), .val (.int p5), .val (.int (p5 &&& (31 : Int32))), .val (.int (0 : Int32)), .val (.long ((p4.toInt64) <<< ((p5 &&& (31 : Int32)) &&& 0x3f).toInt64)), .second, .val (.ref b1), .val (.ref b6), .unset, .unset] []))
    refine own_via (fun t k => XS.lload X28.here hx rfl (hb hby at_113) rfl k) ?_
    show own_G p e below _ (T28.setTop (mkF m 115 #[.val (.int p1), .val (.int p2), .val (.int p3), .val (.int p4), .val (.int p5), .val (.int (p5 &&& (31 : Int32))), .val (.int (0 : Int32)), .val (.long ((p4.toInt64) <<< ((p5 &&& (31 : Int32)) &&& 0x3f).toInt64)), .second, .val (.ref b1), .val (.ref b6), .unset, .unset] [(.long ((p4.toInt64) <<< ((p5 &&& (31 : Int32)) &&& 0x3f).toInt64))]))
    refine own_via (fun t k => XS.iloadN X28.here hx rfl (hb hby at_115) rfl k) ?_
    show own_G p e below _ (T28.setTop (mkF m 116 #[.val (.int p1), .val (.int p2), .val (.int p3), .val (.int p4), .val (.int p5), .val (.int (p5 &&& (31 : Int32))), .val (.int (0 : Int32)), .val (.long ((p4.toInt64) <<< ((p5 &&& (31 : Int32)) &&& 0x3f).toInt64)), .second, .val (.ref b1), .val (.ref b6), .unset, .unset] [(.int p1), (.long ((p4.toInt64) <<< ((p5 &&& (31 : Int32)) &&& 0x3f).toInt64))]))
    refine own_via (fun t k => XS.i2l X28.here hx rfl (hb hby at_116) rfl k) ?_
    show own_G p e below _ (T28.setTop (mkF m 117 #[.val (.int p1), .val (.int p2), .val (.int p3), .val (.int p4), .val (.int p5), .val (.int (p5 &&& (31 : Int32))), .val (.int (0 : Int32)), .val (.long ((p4.toInt64) <<< ((p5 &&& (31 : Int32)) &&& 0x3f).toInt64)), .second, .val (.ref b1), .val (.ref b6), .unset, .unset] [(.long (p1.toInt64)), (.long ((p4.toInt64) <<< ((p5 &&& (31 : Int32)) &&& 0x3f).toInt64))]))
    refine own_via (fun t k => XS.ladd X28.here hx rfl (hb hby at_117) rfl k) ?_
    show own_G p e below _ (T28.setTop (mkF m 118 #[.val (.int p1), .val (.int p2), .val (.int p3), .val (.int p4), .val (.int p5), .val (.int (p5 &&& (31 : Int32))), .val (.int (0 : Int32)), .val (.long ((p4.toInt64) <<< ((p5 &&& (31 : Int32)) &&& 0x3f).toInt64)), .second, .val (.ref b1), .val (.ref b6), .unset, .unset] [(.long (((p4.toInt64) <<< ((p5 &&& (31 : Int32)) &&& 0x3f).toInt64) + (p1.toInt64)))]))
    refine own_via (fun t k => XS.iloadN X28.here hx rfl (hb hby at_118) rfl k) ?_
    show own_G p e below _ (T28.setTop (mkF m 119 #[.val (.int p1), .val (.int p2), .val (.int p3), .val (.int p4), .val (.int p5), .val (.int (p5 &&& (31 : Int32))), .val (.int (0 : Int32)), .val (.long ((p4.toInt64) <<< ((p5 &&& (31 : Int32)) &&& 0x3f).toInt64)), .second, .val (.ref b1), .val (.ref b6), .unset, .unset] [(.int p2), (.long (((p4.toInt64) <<< ((p5 &&& (31 : Int32)) &&& 0x3f).toInt64) + (p1.toInt64)))]))
    refine own_via (fun t k => XS.i2l X28.here hx rfl (hb hby at_119) rfl k) ?_
    show own_G p e below _ (T28.setTop (mkF m 120 #[.val (.int p1), .val (.int p2), .val (.int p3), .val (.int p4), .val (.int p5), .val (.int (p5 &&& (31 : Int32))), .val (.int (0 : Int32)), .val (.long ((p4.toInt64) <<< ((p5 &&& (31 : Int32)) &&& 0x3f).toInt64)), .second, .val (.ref b1), .val (.ref b6), .unset, .unset] [(.long (p2.toInt64)), (.long (((p4.toInt64) <<< ((p5 &&& (31 : Int32)) &&& 0x3f).toInt64) + (p1.toInt64)))]))
    refine own_via (fun t k => XS.ladd X28.here hx rfl (hb hby at_120) rfl k) ?_
    show own_G p e below _ (T28.setTop (mkF m 121 #[.val (.int p1), .val (.int p2), .val (.int p3), .val (.int p4), .val (.int p5), .val (.int (p5 &&& (31 : Int32))), .val (.int (0 : Int32)), .val (.long ((p4.toInt64) <<< ((p5 &&& (31 : Int32)) &&& 0x3f).toInt64)), .second, .val (.ref b1), .val (.ref b6), .unset, .unset] [(.long ((((p4.toInt64) <<< ((p5 &&& (31 : Int32)) &&& 0x3f).toInt64) + (p1.toInt64)) + (p2.toInt64)))]))
    refine own_via (fun t k => XS.iloadN X28.here hx rfl (hb hby at_121) rfl k) ?_
    show own_G p e below _ (T28.setTop (mkF m 122 #[.val (.int p1), .val (.int p2), .val (.int p3), .val (.int p4), .val (.int p5), .val (.int (p5 &&& (31 : Int32))), .val (.int (0 : Int32)), .val (.long ((p4.toInt64) <<< ((p5 &&& (31 : Int32)) &&& 0x3f).toInt64)), .second, .val (.ref b1), .val (.ref b6), .unset, .unset] [(.int p3), (.long ((((p4.toInt64) <<< ((p5 &&& (31 : Int32)) &&& 0x3f).toInt64) + (p1.toInt64)) + (p2.toInt64)))]))
    refine own_via (fun t k => XS.i2l X28.here hx rfl (hb hby at_122) rfl k) ?_
    show own_G p e below _ (T28.setTop (mkF m 123 #[.val (.int p1), .val (.int p2), .val (.int p3), .val (.int p4), .val (.int p5), .val (.int (p5 &&& (31 : Int32))), .val (.int (0 : Int32)), .val (.long ((p4.toInt64) <<< ((p5 &&& (31 : Int32)) &&& 0x3f).toInt64)), .second, .val (.ref b1), .val (.ref b6), .unset, .unset] [(.long (p3.toInt64)), (.long ((((p4.toInt64) <<< ((p5 &&& (31 : Int32)) &&& 0x3f).toInt64) + (p1.toInt64)) + (p2.toInt64)))]))
    refine own_via (fun t k => XS.ladd X28.here hx rfl (hb hby at_123) rfl k) ?_
    show own_G p e below _ (T28.setTop (mkF m 124 #[.val (.int p1), .val (.int p2), .val (.int p3), .val (.int p4), .val (.int p5), .val (.int (p5 &&& (31 : Int32))), .val (.int (0 : Int32)), .val (.long ((p4.toInt64) <<< ((p5 &&& (31 : Int32)) &&& 0x3f).toInt64)), .second, .val (.ref b1), .val (.ref b6), .unset, .unset] [(.long (((((p4.toInt64) <<< ((p5 &&& (31 : Int32)) &&& 0x3f).toInt64) + (p1.toInt64)) + (p2.toInt64)) + (p3.toInt64)))]))
    refine own_via (fun t k => XS.lstore X28.here hx rfl (hb hby at_124) rfl (l' := #[.val (.int p1), .val (.int p2), .val (.int p3), .val (.int p4), .val (.int p5), .val (.int (p5 &&& (31 : Int32))), .val (.int (0 : Int32)), .val (.long ((p4.toInt64) <<< ((p5 &&& (31 : Int32)) &&& 0x3f).toInt64)), .second, .val (.ref b1), .val (.ref b6), .val (.long (((((p4.toInt64) <<< ((p5 &&& (31 : Int32)) &&& 0x3f).toInt64) + (p1.toInt64)) + (p2.toInt64)) + (p3.toInt64))), .second]) rfl k) ?_
    show own_G p e below _ (T28.setTop (mkF m 126 #[.val (.int p1), .val (.int p2), .val (.int p3), .val (.int p4), .val (.int p5), .val (.int (p5 &&& (31 : Int32))), .val (.int (0 : Int32)), .val (.long ((p4.toInt64) <<< ((p5 &&& (31 : Int32)) &&& 0x3f).toInt64)), .second, .val (.ref b1), .val (.ref b6), .val (.long (((((p4.toInt64) <<< ((p5 &&& (31 : Int32)) &&& 0x3f).toInt64) + (p1.toInt64)) + (p2.toInt64)) + (p3.toInt64))), .second] []))
    refine own_via (fun t k => XS.aload X28.here hx rfl (hb hby at_126) rfl rfl k) ?_
    show own_G p e below _ (T28.setTop (mkF m 128 #[.val (.int p1), .val (.int p2), .val (.int p3), .val (.int p4), .val (.int p5), .val (.int (p5 &&& (31 : Int32))), .val (.int (0 : Int32)), .val (.long ((p4.toInt64) <<< ((p5 &&& (31 : Int32)) &&& 0x3f).toInt64)), .second, .val (.ref b1), .val (.ref b6), .val (.long (((((p4.toInt64) <<< ((p5 &&& (31 : Int32)) &&& 0x3f).toInt64) + (p1.toInt64)) + (p2.toInt64)) + (p3.toInt64))), .second] [(.ref b6)]))
    obtain ⟨cq33, kq33, q33a, q33b, q33c⟩ := isOf hZ rfl E28q
    obtain ⟨_, _, ⟨T33, L33, k33, n33⟩, -, X33, ⟨Lc33, hQ33, l33, y33, z33⟩, st33⟩ := X28.virtualBack hx (y := (⟨"com/example/fee_simple/feesimple/CompensatedSum", "value", "()D"⟩ : MethodName)) (z := (⟨"com/example/fee_simple/feesimple/CompensatedSum", "value", "()D"⟩ : MethodName)) hown (mvT hZ (hw _ (List.mem_of_getElem? (i := 19) rfl))) (mvT hZ (hw _ (List.mem_of_getElem? (i := 20) rfl))) (notFace_of_selects (args := #[]) (mvT hZ (hw _ (List.mem_of_getElem? (i := 22) rfl)))) (mvT hZ (hw _ (List.mem_of_getElem? (i := 22) rfl))) (mvT hZ (hw _ (List.mem_of_getElem? (i := 21) rfl))) (by decide) (backOf (W := 0) (rm4 l Z a0 hw [] b6 (own_t (own_t (own_t (own_t (0 : UInt64) (FP.l2d ((p4.toInt64) <<< ((p5 &&& (31 : Int32)) &&& 0x3f).toInt64))) (FP.i2d p1)) (FP.i2d p2)) (FP.i2d p3)) (own_k (own_t (own_t (own_t (0 : UInt64) (FP.l2d ((p4.toInt64) <<< ((p5 &&& (31 : Int32)) &&& 0x3f).toInt64))) (FP.i2d p1)) (FP.i2d p2)) (FP.i2d p3) (own_k (own_t (own_t (0 : UInt64) (FP.l2d ((p4.toInt64) <<< ((p5 &&& (31 : Int32)) &&& 0x3f).toInt64))) (FP.i2d p1)) (FP.i2d p2) (own_k (own_t (0 : UInt64) (FP.l2d ((p4.toInt64) <<< ((p5 &&& (31 : Int32)) &&& 0x3f).toInt64))) (FP.i2d p1) (own_k (0 : UInt64) (FP.l2d ((p4.toInt64) <<< ((p5 &&& (31 : Int32)) &&& 0x3f).toInt64)) (0 : UInt64))))) T28.heap n0 Z28 Ft28 Fc28 nv) hZ (hw _ (List.mem_of_getElem? (i := 23) rfl)) (hw _ (List.mem_of_getElem? (i := 3) rfl)) (by decide) (by decide)) q33a q33c (g := (mkF m 128 #[.val (.int p1), .val (.int p2), .val (.int p3), .val (.int p4), .val (.int p5), .val (.int (p5 &&& (31 : Int32))), .val (.int (0 : Int32)), .val (.long ((p4.toInt64) <<< ((p5 &&& (31 : Int32)) &&& 0x3f).toInt64)), .second, .val (.ref b1), .val (.ref b6), .val (.long (((((p4.toInt64) <<< ((p5 &&& (31 : Int32)) &&& 0x3f).toInt64) + (p1.toInt64)) + (p2.toInt64)) + (p3.toInt64))), .second] [(.ref b6)])) rfl (by rw [hml]; rfl) (Steps.refl _) (argsL := []) (rest := []) (lenOf pd_rm0_2 rfl) rfl (by show 2 * 0 + _ ≤ _; exact Nat.le_of_eq rfl) (hb hby at_128) (fun _ _ => ⟨rfl, rfl, (by decide : 2 + 0 ≤ _), (by decide : 6 + 0 ≤ _)⟩)
    dsimp only [Pt.U, Pt.locs, Pt.cells, Pt.slots] at X33 l33 y33 z33 st33 hQ33
    subst l33 y33 z33
    obtain ⟨rfl, N33q, e33⟩ := hQ33
    have N33 := Fr.app N28 N33q
    refine own_via (fun t k => st33.trans k) ?_
    show own_G p e below _ (T33.setTop (mkF m 131 #[.val (.int p1), .val (.int p2), .val (.int p3), .val (.int p4), .val (.int p5), .val (.int (p5 &&& (31 : Int32))), .val (.int (0 : Int32)), .val (.long ((p4.toInt64) <<< ((p5 &&& (31 : Int32)) &&& 0x3f).toInt64)), .second, .val (.ref b1), .val (.ref b6), .val (.long (((((p4.toInt64) <<< ((p5 &&& (31 : Int32)) &&& 0x3f).toInt64) + (p1.toInt64)) + (p2.toInt64)) + (p3.toInt64))), .second] [(.double (FP.dadd (own_t (own_t (own_t (own_t (0 : UInt64) (FP.l2d ((p4.toInt64) <<< ((p5 &&& (31 : Int32)) &&& 0x3f).toInt64))) (FP.i2d p1)) (FP.i2d p2)) (FP.i2d p3)) (own_k (own_t (own_t (own_t (0 : UInt64) (FP.l2d ((p4.toInt64) <<< ((p5 &&& (31 : Int32)) &&& 0x3f).toInt64))) (FP.i2d p1)) (FP.i2d p2)) (FP.i2d p3) (own_k (own_t (own_t (0 : UInt64) (FP.l2d ((p4.toInt64) <<< ((p5 &&& (31 : Int32)) &&& 0x3f).toInt64))) (FP.i2d p1)) (FP.i2d p2) (own_k (own_t (0 : UInt64) (FP.l2d ((p4.toInt64) <<< ((p5 &&& (31 : Int32)) &&& 0x3f).toInt64))) (FP.i2d p1) (own_k (0 : UInt64) (FP.l2d ((p4.toInt64) <<< ((p5 &&& (31 : Int32)) &&& 0x3f).toInt64)) (0 : UInt64)))))))]))
    refine own_via (fun t k => XS.lload X33.here hx rfl (hb hby at_131) rfl k) ?_
    show own_G p e below _ (T33.setTop (mkF m 133 #[.val (.int p1), .val (.int p2), .val (.int p3), .val (.int p4), .val (.int p5), .val (.int (p5 &&& (31 : Int32))), .val (.int (0 : Int32)), .val (.long ((p4.toInt64) <<< ((p5 &&& (31 : Int32)) &&& 0x3f).toInt64)), .second, .val (.ref b1), .val (.ref b6), .val (.long (((((p4.toInt64) <<< ((p5 &&& (31 : Int32)) &&& 0x3f).toInt64) + (p1.toInt64)) + (p2.toInt64)) + (p3.toInt64))), .second] [(.long (((((p4.toInt64) <<< ((p5 &&& (31 : Int32)) &&& 0x3f).toInt64) + (p1.toInt64)) + (p2.toInt64)) + (p3.toInt64))), (.double (FP.dadd (own_t (own_t (own_t (own_t (0 : UInt64) (FP.l2d ((p4.toInt64) <<< ((p5 &&& (31 : Int32)) &&& 0x3f).toInt64))) (FP.i2d p1)) (FP.i2d p2)) (FP.i2d p3)) (own_k (own_t (own_t (own_t (0 : UInt64) (FP.l2d ((p4.toInt64) <<< ((p5 &&& (31 : Int32)) &&& 0x3f).toInt64))) (FP.i2d p1)) (FP.i2d p2)) (FP.i2d p3) (own_k (own_t (own_t (0 : UInt64) (FP.l2d ((p4.toInt64) <<< ((p5 &&& (31 : Int32)) &&& 0x3f).toInt64))) (FP.i2d p1)) (FP.i2d p2) (own_k (own_t (0 : UInt64) (FP.l2d ((p4.toInt64) <<< ((p5 &&& (31 : Int32)) &&& 0x3f).toInt64))) (FP.i2d p1) (own_k (0 : UInt64) (FP.l2d ((p4.toInt64) <<< ((p5 &&& (31 : Int32)) &&& 0x3f).toInt64)) (0 : UInt64)))))))]))
    refine own_via (fun t k => XS.l2dS X33.here hx rfl (hb hby at_133) rfl rfl k) ?_
    show own_G p e below _ (T33.setTop (mkF m 134 #[.val (.int p1), .val (.int p2), .val (.int p3), .val (.int p4), .val (.int p5), .val (.int (p5 &&& (31 : Int32))), .val (.int (0 : Int32)), .val (.long ((p4.toInt64) <<< ((p5 &&& (31 : Int32)) &&& 0x3f).toInt64)), .second, .val (.ref b1), .val (.ref b6), .val (.long (((((p4.toInt64) <<< ((p5 &&& (31 : Int32)) &&& 0x3f).toInt64) + (p1.toInt64)) + (p2.toInt64)) + (p3.toInt64))), .second] [(.double (FP.l2d (((((p4.toInt64) <<< ((p5 &&& (31 : Int32)) &&& 0x3f).toInt64) + (p1.toInt64)) + (p2.toInt64)) + (p3.toInt64)))), (.double (FP.dadd (own_t (own_t (own_t (own_t (0 : UInt64) (FP.l2d ((p4.toInt64) <<< ((p5 &&& (31 : Int32)) &&& 0x3f).toInt64))) (FP.i2d p1)) (FP.i2d p2)) (FP.i2d p3)) (own_k (own_t (own_t (own_t (0 : UInt64) (FP.l2d ((p4.toInt64) <<< ((p5 &&& (31 : Int32)) &&& 0x3f).toInt64))) (FP.i2d p1)) (FP.i2d p2)) (FP.i2d p3) (own_k (own_t (own_t (0 : UInt64) (FP.l2d ((p4.toInt64) <<< ((p5 &&& (31 : Int32)) &&& 0x3f).toInt64))) (FP.i2d p1)) (FP.i2d p2) (own_k (own_t (0 : UInt64) (FP.l2d ((p4.toInt64) <<< ((p5 &&& (31 : Int32)) &&& 0x3f).toInt64))) (FP.i2d p1) (own_k (0 : UInt64) (FP.l2d ((p4.toInt64) <<< ((p5 &&& (31 : Int32)) &&& 0x3f).toInt64)) (0 : UInt64)))))))]))
    refine own_via (fun t k => XS.dcmpS X33.here hx rfl (hb hby at_134) rfl (by rw [show FP.dcmp _ _ = some .eq from hcmp] <;> rfl) k) ?_
    show own_G p e below _ (T33.setTop (mkF m 135 #[.val (.int p1), .val (.int p2), .val (.int p3), .val (.int p4), .val (.int p5), .val (.int (p5 &&& (31 : Int32))), .val (.int (0 : Int32)), .val (.long ((p4.toInt64) <<< ((p5 &&& (31 : Int32)) &&& 0x3f).toInt64)), .second, .val (.ref b1), .val (.ref b6), .val (.long (((((p4.toInt64) <<< ((p5 &&& (31 : Int32)) &&& 0x3f).toInt64) + (p1.toInt64)) + (p2.toInt64)) + (p3.toInt64))), .second] [(.int (0 : Int32))]))
    refine own_via (fun t k => XS.ifNo X33.here hx rfl (hb hby at_135) rfl ((if0 _ _).trans (teq (by decide : (0 : Int32) = (0 : Int32))).2) k) ?_
    show own_G p e below _ (T33.setTop (mkF m 138 #[.val (.int p1), .val (.int p2), .val (.int p3), .val (.int p4), .val (.int p5), .val (.int (p5 &&& (31 : Int32))), .val (.int (0 : Int32)), .val (.long ((p4.toInt64) <<< ((p5 &&& (31 : Int32)) &&& 0x3f).toInt64)), .second, .val (.ref b1), .val (.ref b6), .val (.long (((((p4.toInt64) <<< ((p5 &&& (31 : Int32)) &&& 0x3f).toInt64) + (p1.toInt64)) + (p2.toInt64)) + (p3.toInt64))), .second] []))
    refine own_via (fun t k => XS.iconst X33.here hx rfl (hb hby at_138) k) ?_
    show own_G p e below _ (T33.setTop (mkF m 139 #[.val (.int p1), .val (.int p2), .val (.int p3), .val (.int p4), .val (.int p5), .val (.int (p5 &&& (31 : Int32))), .val (.int (0 : Int32)), .val (.long ((p4.toInt64) <<< ((p5 &&& (31 : Int32)) &&& 0x3f).toInt64)), .second, .val (.ref b1), .val (.ref b6), .val (.long (((((p4.toInt64) <<< ((p5 &&& (31 : Int32)) &&& 0x3f).toInt64) + (p1.toInt64)) + (p2.toInt64)) + (p3.toInt64))), .second] [(.int (1 : Int32))]))
    refine own_via (fun t k => XS.goto X33.here hx rfl (pc0 := 139) (pc' := 143) rfl (hb hby at_139) (by decide) (by decide) k) ?_
    show own_G p e below _ (T33.setTop (mkF m 143 #[.val (.int p1), .val (.int p2), .val (.int p3), .val (.int p4), .val (.int p5), .val (.int (p5 &&& (31 : Int32))), .val (.int (0 : Int32)), .val (.long ((p4.toInt64) <<< ((p5 &&& (31 : Int32)) &&& 0x3f).toInt64)), .second, .val (.ref b1), .val (.ref b6), .val (.long (((((p4.toInt64) <<< ((p5 &&& (31 : Int32)) &&& 0x3f).toInt64) + (p1.toInt64)) + (p2.toInt64)) + (p3.toInt64))), .second] [(.int (1 : Int32))]))
    obtain ⟨fs, hr, hrun, hended, hW, hsame⟩ := X33.leave (v := some (.int (1 : Int32))) (fun h => by rw [Bd.returns] at h; cases h)
    refine ⟨_, _, retN X33 hx (t := .boolean) Bd.returns (by simp) (hb hby at_143) hr, hrun, hended, _, _, rfl, ?_, ⟨_, rfl⟩, hW, hsame.mono (by decide) (by decide)⟩
    show rm0_Q Z p1 p2 p3 p4 p5 h0 n0 _ T33.heap _
    rw [e33]
    exact ⟨rfl, N33⟩
  · rw [hk]
    obtain ⟨ok0, ok1, ok2, ok3, nv, hcmp⟩ := own_four (own_i2d p3) (own_bigD p4 p5).1 (own_i2d p1) (own_i2d p2) (Nat.le_trans (own_abs31 p3) (by decide)) (own_bigD p4 p5).2 (Nat.le_trans (own_abs31 p1) (by decide)) (Nat.le_trans (own_abs31 p2) (by decide)) (Or.inr (Or.inl ⟨own_abs31 p3, own_abs31 p1, own_abs31 p2⟩)) (S := ((((p4.toInt64 <<< ((p5 &&& (31 : Int32)) &&& 0x3f).toInt64) + p1.toInt64) + p2.toInt64) + p3.toInt64)) (by rw [own_exact p4 p5 p1 p2 p3] <;> omega)
    show own_G p e below _ (s₁.setTop (mkF m 13 #[.val (.int p1), .val (.int p2), .val (.int p3), .val (.int p4), .val (.int p5), .val (.int (p5 &&& (31 : Int32))), .unset, .unset, .unset, .unset, .unset, .unset, .unset] [(.int (1 : Int32))]))
    refine own_via (fun t k => XS.istore X0.here hx rfl (hb hby at_13) rfl (l' := #[.val (.int p1), .val (.int p2), .val (.int p3), .val (.int p4), .val (.int p5), .val (.int (p5 &&& (31 : Int32))), .val (.int (1 : Int32)), .unset, .unset, .unset, .unset, .unset, .unset]) rfl k) ?_
    show own_G p e below _ (s₁.setTop (mkF m 15 #[.val (.int p1), .val (.int p2), .val (.int p3), .val (.int p4), .val (.int p5), .val (.int (p5 &&& (31 : Int32))), .val (.int (1 : Int32)), .unset, .unset, .unset, .unset, .unset, .unset] []))
    refine own_via (fun t k => XS.iloadN X0.here hx rfl (hb hby at_15) rfl k) ?_
    show own_G p e below _ (s₁.setTop (mkF m 16 #[.val (.int p1), .val (.int p2), .val (.int p3), .val (.int p4), .val (.int p5), .val (.int (p5 &&& (31 : Int32))), .val (.int (1 : Int32)), .unset, .unset, .unset, .unset, .unset, .unset] [(.int p4)]))
    refine own_via (fun t k => XS.i2l X0.here hx rfl (hb hby at_16) rfl k) ?_
    show own_G p e below _ (s₁.setTop (mkF m 17 #[.val (.int p1), .val (.int p2), .val (.int p3), .val (.int p4), .val (.int p5), .val (.int (p5 &&& (31 : Int32))), .val (.int (1 : Int32)), .unset, .unset, .unset, .unset, .unset, .unset] [(.long (p4.toInt64))]))
    refine own_via (fun t k => XS.iload X0.here hx rfl (hb hby at_17) rfl k) ?_
    show own_G p e below _ (s₁.setTop (mkF m 19 #[.val (.int p1), .val (.int p2), .val (.int p3), .val (.int p4), .val (.int p5), .val (.int (p5 &&& (31 : Int32))), .val (.int (1 : Int32)), .unset, .unset, .unset, .unset, .unset, .unset] [(.int (p5 &&& (31 : Int32))), (.long (p4.toInt64))]))
    refine own_via (fun t k => XS.lshl X0.here hx rfl (hb hby at_19) rfl k) ?_
    show own_G p e below _ (s₁.setTop (mkF m 20 #[.val (.int p1), .val (.int p2), .val (.int p3), .val (.int p4), .val (.int p5), .val (.int (p5 &&& (31 : Int32))), .val (.int (1 : Int32)), .unset, .unset, .unset, .unset, .unset, .unset] [(.long ((p4.toInt64) <<< ((p5 &&& (31 : Int32)) &&& 0x3f).toInt64))]))
    refine own_via (fun t k => XS.lstore X0.here hx rfl (hb hby at_20) rfl (l' := #[.val (.int p1), .val (.int p2), .val (.int p3), .val (.int p4), .val (.int p5), .val (.int (p5 &&& (31 : Int32))), .val (.int (1 : Int32)), .val (.long ((p4.toInt64) <<< ((p5 &&& (31 : Int32)) &&& 0x3f).toInt64)), .second, .unset, .unset, .unset, .unset]) rfl k) ?_
    show own_G p e below _ (s₁.setTop (mkF m 22 #[.val (.int p1), .val (.int p2), .val (.int p3), .val (.int p4), .val (.int p5), .val (.int (p5 &&& (31 : Int32))), .val (.int (1 : Int32)), .val (.long ((p4.toInt64) <<< ((p5 &&& (31 : Int32)) &&& 0x3f).toInt64)), .second, .unset, .unset, .unset, .unset] []))
    refine own_via (fun t k => XS.iconst X0.here hx rfl (hb hby at_22) k) ?_
    show own_G p e below _ (s₁.setTop (mkF m 23 #[.val (.int p1), .val (.int p2), .val (.int p3), .val (.int p4), .val (.int p5), .val (.int (p5 &&& (31 : Int32))), .val (.int (1 : Int32)), .val (.long ((p4.toInt64) <<< ((p5 &&& (31 : Int32)) &&& 0x3f).toInt64)), .second, .unset, .unset, .unset, .unset] [(.int (4 : Int32))]))
    obtain ⟨T35, h35, k35, X35, e35, E35, A35, st35⟩ := newP X0 hx hZ (hw _ (List.mem_of_getElem? (i := 0) rfl)) e0 (g := (mkF m 23 #[.val (.int p1), .val (.int p2), .val (.int p3), .val (.int p4), .val (.int p5), .val (.int (p5 &&& (31 : Int32))), .val (.int (1 : Int32)), .val (.long ((p4.toInt64) <<< ((p5 &&& (31 : Int32)) &&& 0x3f).toInt64)), .second, .unset, .unset, .unset, .unset] [(.int (4 : Int32))])) rfl (hb hby at_23) rfl (by decide) (cap := 4) (by decide) (by decide) (by decide) (by decide)
    obtain ⟨b35, g35⟩ : ∃ z, z = h0.size := ⟨_, rfl⟩
    rw [← g35] at A35 st35
    have gx_b35 : n0 ≤ b35 := Nat.le_trans Z0 (Nat.le_of_eq g35.symm)
    have Z35 : n0 ≤ h35.size := Nat.le_trans Z0 E35.1
    have V35 : Arv Z h35 b35 k35 .double (4 : Int32) [(.double (0 : UInt64)), (.double (0 : UInt64)), (.double (0 : UInt64)), (.double (0 : UInt64))] (.double (0 : UInt64)) := (Arv.new A35 (by decide)).pad (pad_rep [] (.double (0 : UInt64)) 4)
    refine own_via st35 ?_
    show own_G p e below _ (T35.setTop (mkF m 25 #[.val (.int p1), .val (.int p2), .val (.int p3), .val (.int p4), .val (.int p5), .val (.int (p5 &&& (31 : Int32))), .val (.int (1 : Int32)), .val (.long ((p4.toInt64) <<< ((p5 &&& (31 : Int32)) &&& 0x3f).toInt64)), .second, .unset, .unset, .unset, .unset] [(.ref b35)]))
    refine own_via (fun t k => XS.astore X35.here hx rfl (hb hby at_25) rfl rfl (l' := #[.val (.int p1), .val (.int p2), .val (.int p3), .val (.int p4), .val (.int p5), .val (.int (p5 &&& (31 : Int32))), .val (.int (1 : Int32)), .val (.long ((p4.toInt64) <<< ((p5 &&& (31 : Int32)) &&& 0x3f).toInt64)), .second, .val (.ref b35), .unset, .unset, .unset]) rfl k) ?_
    show own_G p e below _ (T35.setTop (mkF m 27 #[.val (.int p1), .val (.int p2), .val (.int p3), .val (.int p4), .val (.int p5), .val (.int (p5 &&& (31 : Int32))), .val (.int (1 : Int32)), .val (.long ((p4.toInt64) <<< ((p5 &&& (31 : Int32)) &&& 0x3f).toInt64)), .second, .val (.ref b35), .unset, .unset, .unset] []))
    refine own_via (fun t k => XS.aload X35.here hx rfl (hb hby at_27) rfl rfl k) ?_
    show own_G p e below _ (T35.setTop (mkF m 29 #[.val (.int p1), .val (.int p2), .val (.int p3), .val (.int p4), .val (.int p5), .val (.int (p5 &&& (31 : Int32))), .val (.int (1 : Int32)), .val (.long ((p4.toInt64) <<< ((p5 &&& (31 : Int32)) &&& 0x3f).toInt64)), .second, .val (.ref b35), .unset, .unset, .unset] [(.ref b35)]))
    refine own_via (fun t k => XS.iload X35.here hx rfl (hb hby at_29) rfl k) ?_
    show own_G p e below _ (T35.setTop (mkF m 31 #[.val (.int p1), .val (.int p2), .val (.int p3), .val (.int p4), .val (.int p5), .val (.int (p5 &&& (31 : Int32))), .val (.int (1 : Int32)), .val (.long ((p4.toInt64) <<< ((p5 &&& (31 : Int32)) &&& 0x3f).toInt64)), .second, .val (.ref b35), .unset, .unset, .unset] [(.int (1 : Int32)), (.ref b35)]))
    refine own_via (fun t k => XS.lload X35.here hx rfl (hb hby at_31) rfl k) ?_
    show own_G p e below _ (T35.setTop (mkF m 33 #[.val (.int p1), .val (.int p2), .val (.int p3), .val (.int p4), .val (.int p5), .val (.int (p5 &&& (31 : Int32))), .val (.int (1 : Int32)), .val (.long ((p4.toInt64) <<< ((p5 &&& (31 : Int32)) &&& 0x3f).toInt64)), .second, .val (.ref b35), .unset, .unset, .unset] [(.long ((p4.toInt64) <<< ((p5 &&& (31 : Int32)) &&& 0x3f).toInt64)), (.int (1 : Int32)), (.ref b35)]))
    refine own_via (fun t k => XS.l2dS X35.here hx rfl (hb hby at_33) rfl rfl k) ?_
    show own_G p e below _ (T35.setTop (mkF m 34 #[.val (.int p1), .val (.int p2), .val (.int p3), .val (.int p4), .val (.int p5), .val (.int (p5 &&& (31 : Int32))), .val (.int (1 : Int32)), .val (.long ((p4.toInt64) <<< ((p5 &&& (31 : Int32)) &&& 0x3f).toInt64)), .second, .val (.ref b35), .unset, .unset, .unset] [(.double (FP.l2d ((p4.toInt64) <<< ((p5 &&& (31 : Int32)) &&& 0x3f).toInt64))), (.int (1 : Int32)), (.ref b35)]))
    obtain ⟨cl36, Ar36, q36, S36, Ng36, Hs36, G36⟩ := id V35
    have hin36 : ¬ ((1 : Int32) < 0 ∨ cl36.slots.size ≤ ((1 : Int32)).toNatClampNeg) := inb_of S36 ⟨by decide, by decide⟩
    obtain ⟨T36, h36, X36, e36, W36, st36⟩ := stD X35 hx hZ e35 Ar36 (j := (1 : Int32)) hin36 (g := (mkF m 34 #[.val (.int p1), .val (.int p2), .val (.int p3), .val (.int p4), .val (.int p5), .val (.int (p5 &&& (31 : Int32))), .val (.int (1 : Int32)), .val (.long ((p4.toInt64) <<< ((p5 &&& (31 : Int32)) &&& 0x3f).toInt64)), .second, .val (.ref b35), .unset, .unset, .unset] [(.double (FP.l2d ((p4.toInt64) <<< ((p5 &&& (31 : Int32)) &&& 0x3f).toInt64))), (.int (1 : Int32)), (.ref b35)])) rfl rfl (hb hby at_34)
    have V36 : Arv Z h36 b35 k35 .double (4 : Int32) [(.double (0 : UInt64)), (.double (FP.l2d ((p4.toInt64) <<< ((p5 &&& (31 : Int32)) &&& 0x3f).toInt64))), (.double (0 : UInt64)), (.double (0 : UInt64))] (.double (0 : UInt64)) := Arv.set Ar36 q36 S36 Ng36 Hs36 G36 rfl W36 1 rfl (Nat.le_of_ble_eq_true rfl)
    have N36 := Fr.snoc X36 N0 gx_b35
    have Z36 : n0 ≤ h36.size := Nat.le_trans Z35 (Nat.le_of_eq W36.size.symm)
    refine own_via st36 ?_
    show own_G p e below _ (T36.setTop (mkF m 35 #[.val (.int p1), .val (.int p2), .val (.int p3), .val (.int p4), .val (.int p5), .val (.int (p5 &&& (31 : Int32))), .val (.int (1 : Int32)), .val (.long ((p4.toInt64) <<< ((p5 &&& (31 : Int32)) &&& 0x3f).toInt64)), .second, .val (.ref b35), .unset, .unset, .unset] []))
    refine own_via (fun t k => XS.aload X36.here hx rfl (hb hby at_35) rfl rfl k) ?_
    show own_G p e below _ (T36.setTop (mkF m 37 #[.val (.int p1), .val (.int p2), .val (.int p3), .val (.int p4), .val (.int p5), .val (.int (p5 &&& (31 : Int32))), .val (.int (1 : Int32)), .val (.long ((p4.toInt64) <<< ((p5 &&& (31 : Int32)) &&& 0x3f).toInt64)), .second, .val (.ref b35), .unset, .unset, .unset] [(.ref b35)]))
    refine own_via (fun t k => XS.iload X36.here hx rfl (hb hby at_37) rfl k) ?_
    show own_G p e below _ (T36.setTop (mkF m 39 #[.val (.int p1), .val (.int p2), .val (.int p3), .val (.int p4), .val (.int p5), .val (.int (p5 &&& (31 : Int32))), .val (.int (1 : Int32)), .val (.long ((p4.toInt64) <<< ((p5 &&& (31 : Int32)) &&& 0x3f).toInt64)), .second, .val (.ref b35), .unset, .unset, .unset] [(.int (1 : Int32)), (.ref b35)]))
    refine own_via (fun t k => XS.iconst X36.here hx rfl (hb hby at_39) k) ?_
    show own_G p e below _ (T36.setTop (mkF m 40 #[.val (.int p1), .val (.int p2), .val (.int p3), .val (.int p4), .val (.int p5), .val (.int (p5 &&& (31 : Int32))), .val (.int (1 : Int32)), .val (.long ((p4.toInt64) <<< ((p5 &&& (31 : Int32)) &&& 0x3f).toInt64)), .second, .val (.ref b35), .unset, .unset, .unset] [(.int (1 : Int32)), (.int (1 : Int32)), (.ref b35)]))
    refine own_via (fun t k => XS.iadd X36.here hx rfl (hb hby at_40) rfl k) ?_
    show own_G p e below _ (T36.setTop (mkF m 41 #[.val (.int p1), .val (.int p2), .val (.int p3), .val (.int p4), .val (.int p5), .val (.int (p5 &&& (31 : Int32))), .val (.int (1 : Int32)), .val (.long ((p4.toInt64) <<< ((p5 &&& (31 : Int32)) &&& 0x3f).toInt64)), .second, .val (.ref b35), .unset, .unset, .unset] [(.int (2 : Int32)), (.ref b35)]))
    refine own_via (fun t k => XS.iconst X36.here hx rfl (hb hby at_41) k) ?_
    show own_G p e below _ (T36.setTop (mkF m 42 #[.val (.int p1), .val (.int p2), .val (.int p3), .val (.int p4), .val (.int p5), .val (.int (p5 &&& (31 : Int32))), .val (.int (1 : Int32)), .val (.long ((p4.toInt64) <<< ((p5 &&& (31 : Int32)) &&& 0x3f).toInt64)), .second, .val (.ref b35), .unset, .unset, .unset] [(.int (3 : Int32)), (.int (2 : Int32)), (.ref b35)]))
    refine own_via (fun t k => XS.iand X36.here hx rfl (hb hby at_42) rfl k) ?_
    show own_G p e below _ (T36.setTop (mkF m 43 #[.val (.int p1), .val (.int p2), .val (.int p3), .val (.int p4), .val (.int p5), .val (.int (p5 &&& (31 : Int32))), .val (.int (1 : Int32)), .val (.long ((p4.toInt64) <<< ((p5 &&& (31 : Int32)) &&& 0x3f).toInt64)), .second, .val (.ref b35), .unset, .unset, .unset] [(.int (2 : Int32)), (.ref b35)]))
    refine own_via (fun t k => XS.iloadN X36.here hx rfl (hb hby at_43) rfl k) ?_
    show own_G p e below _ (T36.setTop (mkF m 44 #[.val (.int p1), .val (.int p2), .val (.int p3), .val (.int p4), .val (.int p5), .val (.int (p5 &&& (31 : Int32))), .val (.int (1 : Int32)), .val (.long ((p4.toInt64) <<< ((p5 &&& (31 : Int32)) &&& 0x3f).toInt64)), .second, .val (.ref b35), .unset, .unset, .unset] [(.int p1), (.int (2 : Int32)), (.ref b35)]))
    refine own_via (fun t k => XS.i2dS X36.here hx rfl (hb hby at_44) rfl rfl k) ?_
    show own_G p e below _ (T36.setTop (mkF m 45 #[.val (.int p1), .val (.int p2), .val (.int p3), .val (.int p4), .val (.int p5), .val (.int (p5 &&& (31 : Int32))), .val (.int (1 : Int32)), .val (.long ((p4.toInt64) <<< ((p5 &&& (31 : Int32)) &&& 0x3f).toInt64)), .second, .val (.ref b35), .unset, .unset, .unset] [(.double (FP.i2d p1)), (.int (2 : Int32)), (.ref b35)]))
    obtain ⟨cl37, Ar37, q37, S37, Ng37, Hs37, G37⟩ := id V36
    have hin37 : ¬ ((2 : Int32) < 0 ∨ cl37.slots.size ≤ ((2 : Int32)).toNatClampNeg) := inb_of S37 ⟨by decide, by decide⟩
    obtain ⟨T37, h37, X37, e37, W37, st37⟩ := stD X36 hx hZ e36 Ar37 (j := (2 : Int32)) hin37 (g := (mkF m 45 #[.val (.int p1), .val (.int p2), .val (.int p3), .val (.int p4), .val (.int p5), .val (.int (p5 &&& (31 : Int32))), .val (.int (1 : Int32)), .val (.long ((p4.toInt64) <<< ((p5 &&& (31 : Int32)) &&& 0x3f).toInt64)), .second, .val (.ref b35), .unset, .unset, .unset] [(.double (FP.i2d p1)), (.int (2 : Int32)), (.ref b35)])) rfl rfl (hb hby at_45)
    have V37 : Arv Z h37 b35 k35 .double (4 : Int32) [(.double (0 : UInt64)), (.double (FP.l2d ((p4.toInt64) <<< ((p5 &&& (31 : Int32)) &&& 0x3f).toInt64))), (.double (FP.i2d p1)), (.double (0 : UInt64))] (.double (0 : UInt64)) := Arv.set Ar37 q37 S37 Ng37 Hs37 G37 rfl W37 2 rfl (Nat.le_of_ble_eq_true rfl)
    have N37 := Fr.snoc X37 N36 gx_b35
    have Z37 : n0 ≤ h37.size := Nat.le_trans Z36 (Nat.le_of_eq W37.size.symm)
    refine own_via st37 ?_
    show own_G p e below _ (T37.setTop (mkF m 46 #[.val (.int p1), .val (.int p2), .val (.int p3), .val (.int p4), .val (.int p5), .val (.int (p5 &&& (31 : Int32))), .val (.int (1 : Int32)), .val (.long ((p4.toInt64) <<< ((p5 &&& (31 : Int32)) &&& 0x3f).toInt64)), .second, .val (.ref b35), .unset, .unset, .unset] []))
    refine own_via (fun t k => XS.aload X37.here hx rfl (hb hby at_46) rfl rfl k) ?_
    show own_G p e below _ (T37.setTop (mkF m 48 #[.val (.int p1), .val (.int p2), .val (.int p3), .val (.int p4), .val (.int p5), .val (.int (p5 &&& (31 : Int32))), .val (.int (1 : Int32)), .val (.long ((p4.toInt64) <<< ((p5 &&& (31 : Int32)) &&& 0x3f).toInt64)), .second, .val (.ref b35), .unset, .unset, .unset] [(.ref b35)]))
    refine own_via (fun t k => XS.iload X37.here hx rfl (hb hby at_48) rfl k) ?_
    show own_G p e below _ (T37.setTop (mkF m 50 #[.val (.int p1), .val (.int p2), .val (.int p3), .val (.int p4), .val (.int p5), .val (.int (p5 &&& (31 : Int32))), .val (.int (1 : Int32)), .val (.long ((p4.toInt64) <<< ((p5 &&& (31 : Int32)) &&& 0x3f).toInt64)), .second, .val (.ref b35), .unset, .unset, .unset] [(.int (1 : Int32)), (.ref b35)]))
    refine own_via (fun t k => XS.iconst X37.here hx rfl (hb hby at_50) k) ?_
    show own_G p e below _ (T37.setTop (mkF m 51 #[.val (.int p1), .val (.int p2), .val (.int p3), .val (.int p4), .val (.int p5), .val (.int (p5 &&& (31 : Int32))), .val (.int (1 : Int32)), .val (.long ((p4.toInt64) <<< ((p5 &&& (31 : Int32)) &&& 0x3f).toInt64)), .second, .val (.ref b35), .unset, .unset, .unset] [(.int (2 : Int32)), (.int (1 : Int32)), (.ref b35)]))
    refine own_via (fun t k => XS.iadd X37.here hx rfl (hb hby at_51) rfl k) ?_
    show own_G p e below _ (T37.setTop (mkF m 52 #[.val (.int p1), .val (.int p2), .val (.int p3), .val (.int p4), .val (.int p5), .val (.int (p5 &&& (31 : Int32))), .val (.int (1 : Int32)), .val (.long ((p4.toInt64) <<< ((p5 &&& (31 : Int32)) &&& 0x3f).toInt64)), .second, .val (.ref b35), .unset, .unset, .unset] [(.int (3 : Int32)), (.ref b35)]))
    refine own_via (fun t k => XS.iconst X37.here hx rfl (hb hby at_52) k) ?_
    show own_G p e below _ (T37.setTop (mkF m 53 #[.val (.int p1), .val (.int p2), .val (.int p3), .val (.int p4), .val (.int p5), .val (.int (p5 &&& (31 : Int32))), .val (.int (1 : Int32)), .val (.long ((p4.toInt64) <<< ((p5 &&& (31 : Int32)) &&& 0x3f).toInt64)), .second, .val (.ref b35), .unset, .unset, .unset] [(.int (3 : Int32)), (.int (3 : Int32)), (.ref b35)]))
    refine own_via (fun t k => XS.iand X37.here hx rfl (hb hby at_53) rfl k) ?_
    show own_G p e below _ (T37.setTop (mkF m 54 #[.val (.int p1), .val (.int p2), .val (.int p3), .val (.int p4), .val (.int p5), .val (.int (p5 &&& (31 : Int32))), .val (.int (1 : Int32)), .val (.long ((p4.toInt64) <<< ((p5 &&& (31 : Int32)) &&& 0x3f).toInt64)), .second, .val (.ref b35), .unset, .unset, .unset] [(.int (3 : Int32)), (.ref b35)]))
    refine own_via (fun t k => XS.iloadN X37.here hx rfl (hb hby at_54) rfl k) ?_
    show own_G p e below _ (T37.setTop (mkF m 55 #[.val (.int p1), .val (.int p2), .val (.int p3), .val (.int p4), .val (.int p5), .val (.int (p5 &&& (31 : Int32))), .val (.int (1 : Int32)), .val (.long ((p4.toInt64) <<< ((p5 &&& (31 : Int32)) &&& 0x3f).toInt64)), .second, .val (.ref b35), .unset, .unset, .unset] [(.int p2), (.int (3 : Int32)), (.ref b35)]))
    refine own_via (fun t k => XS.i2dS X37.here hx rfl (hb hby at_55) rfl rfl k) ?_
    show own_G p e below _ (T37.setTop (mkF m 56 #[.val (.int p1), .val (.int p2), .val (.int p3), .val (.int p4), .val (.int p5), .val (.int (p5 &&& (31 : Int32))), .val (.int (1 : Int32)), .val (.long ((p4.toInt64) <<< ((p5 &&& (31 : Int32)) &&& 0x3f).toInt64)), .second, .val (.ref b35), .unset, .unset, .unset] [(.double (FP.i2d p2)), (.int (3 : Int32)), (.ref b35)]))
    obtain ⟨cl38, Ar38, q38, S38, Ng38, Hs38, G38⟩ := id V37
    have hin38 : ¬ ((3 : Int32) < 0 ∨ cl38.slots.size ≤ ((3 : Int32)).toNatClampNeg) := inb_of S38 ⟨by decide, by decide⟩
    obtain ⟨T38, h38, X38, e38, W38, st38⟩ := stD X37 hx hZ e37 Ar38 (j := (3 : Int32)) hin38 (g := (mkF m 56 #[.val (.int p1), .val (.int p2), .val (.int p3), .val (.int p4), .val (.int p5), .val (.int (p5 &&& (31 : Int32))), .val (.int (1 : Int32)), .val (.long ((p4.toInt64) <<< ((p5 &&& (31 : Int32)) &&& 0x3f).toInt64)), .second, .val (.ref b35), .unset, .unset, .unset] [(.double (FP.i2d p2)), (.int (3 : Int32)), (.ref b35)])) rfl rfl (hb hby at_56)
    have V38 : Arv Z h38 b35 k35 .double (4 : Int32) [(.double (0 : UInt64)), (.double (FP.l2d ((p4.toInt64) <<< ((p5 &&& (31 : Int32)) &&& 0x3f).toInt64))), (.double (FP.i2d p1)), (.double (FP.i2d p2))] (.double (0 : UInt64)) := Arv.set Ar38 q38 S38 Ng38 Hs38 G38 rfl W38 3 rfl (Nat.le_of_ble_eq_true rfl)
    have N38 := Fr.snoc X38 N37 gx_b35
    have Z38 : n0 ≤ h38.size := Nat.le_trans Z37 (Nat.le_of_eq W38.size.symm)
    refine own_via st38 ?_
    show own_G p e below _ (T38.setTop (mkF m 57 #[.val (.int p1), .val (.int p2), .val (.int p3), .val (.int p4), .val (.int p5), .val (.int (p5 &&& (31 : Int32))), .val (.int (1 : Int32)), .val (.long ((p4.toInt64) <<< ((p5 &&& (31 : Int32)) &&& 0x3f).toInt64)), .second, .val (.ref b35), .unset, .unset, .unset] []))
    refine own_via (fun t k => XS.aload X38.here hx rfl (hb hby at_57) rfl rfl k) ?_
    show own_G p e below _ (T38.setTop (mkF m 59 #[.val (.int p1), .val (.int p2), .val (.int p3), .val (.int p4), .val (.int p5), .val (.int (p5 &&& (31 : Int32))), .val (.int (1 : Int32)), .val (.long ((p4.toInt64) <<< ((p5 &&& (31 : Int32)) &&& 0x3f).toInt64)), .second, .val (.ref b35), .unset, .unset, .unset] [(.ref b35)]))
    refine own_via (fun t k => XS.iload X38.here hx rfl (hb hby at_59) rfl k) ?_
    show own_G p e below _ (T38.setTop (mkF m 61 #[.val (.int p1), .val (.int p2), .val (.int p3), .val (.int p4), .val (.int p5), .val (.int (p5 &&& (31 : Int32))), .val (.int (1 : Int32)), .val (.long ((p4.toInt64) <<< ((p5 &&& (31 : Int32)) &&& 0x3f).toInt64)), .second, .val (.ref b35), .unset, .unset, .unset] [(.int (1 : Int32)), (.ref b35)]))
    refine own_via (fun t k => XS.iconst X38.here hx rfl (hb hby at_61) k) ?_
    show own_G p e below _ (T38.setTop (mkF m 62 #[.val (.int p1), .val (.int p2), .val (.int p3), .val (.int p4), .val (.int p5), .val (.int (p5 &&& (31 : Int32))), .val (.int (1 : Int32)), .val (.long ((p4.toInt64) <<< ((p5 &&& (31 : Int32)) &&& 0x3f).toInt64)), .second, .val (.ref b35), .unset, .unset, .unset] [(.int (3 : Int32)), (.int (1 : Int32)), (.ref b35)]))
    refine own_via (fun t k => XS.iadd X38.here hx rfl (hb hby at_62) rfl k) ?_
    show own_G p e below _ (T38.setTop (mkF m 63 #[.val (.int p1), .val (.int p2), .val (.int p3), .val (.int p4), .val (.int p5), .val (.int (p5 &&& (31 : Int32))), .val (.int (1 : Int32)), .val (.long ((p4.toInt64) <<< ((p5 &&& (31 : Int32)) &&& 0x3f).toInt64)), .second, .val (.ref b35), .unset, .unset, .unset] [(.int (4 : Int32)), (.ref b35)]))
    refine own_via (fun t k => XS.iconst X38.here hx rfl (hb hby at_63) k) ?_
    show own_G p e below _ (T38.setTop (mkF m 64 #[.val (.int p1), .val (.int p2), .val (.int p3), .val (.int p4), .val (.int p5), .val (.int (p5 &&& (31 : Int32))), .val (.int (1 : Int32)), .val (.long ((p4.toInt64) <<< ((p5 &&& (31 : Int32)) &&& 0x3f).toInt64)), .second, .val (.ref b35), .unset, .unset, .unset] [(.int (3 : Int32)), (.int (4 : Int32)), (.ref b35)]))
    refine own_via (fun t k => XS.iand X38.here hx rfl (hb hby at_64) rfl k) ?_
    show own_G p e below _ (T38.setTop (mkF m 65 #[.val (.int p1), .val (.int p2), .val (.int p3), .val (.int p4), .val (.int p5), .val (.int (p5 &&& (31 : Int32))), .val (.int (1 : Int32)), .val (.long ((p4.toInt64) <<< ((p5 &&& (31 : Int32)) &&& 0x3f).toInt64)), .second, .val (.ref b35), .unset, .unset, .unset] [(.int (0 : Int32)), (.ref b35)]))
    refine own_via (fun t k => XS.iloadN X38.here hx rfl (hb hby at_65) rfl k) ?_
    show own_G p e below _ (T38.setTop (mkF m 66 #[.val (.int p1), .val (.int p2), .val (.int p3), .val (.int p4), .val (.int p5), .val (.int (p5 &&& (31 : Int32))), .val (.int (1 : Int32)), .val (.long ((p4.toInt64) <<< ((p5 &&& (31 : Int32)) &&& 0x3f).toInt64)), .second, .val (.ref b35), .unset, .unset, .unset] [(.int p3), (.int (0 : Int32)), (.ref b35)]))
    refine own_via (fun t k => XS.i2dS X38.here hx rfl (hb hby at_66) rfl rfl k) ?_
    show own_G p e below _ (T38.setTop (mkF m 67 #[.val (.int p1), .val (.int p2), .val (.int p3), .val (.int p4), .val (.int p5), .val (.int (p5 &&& (31 : Int32))), .val (.int (1 : Int32)), .val (.long ((p4.toInt64) <<< ((p5 &&& (31 : Int32)) &&& 0x3f).toInt64)), .second, .val (.ref b35), .unset, .unset, .unset] [(.double (FP.i2d p3)), (.int (0 : Int32)), (.ref b35)]))
    obtain ⟨cl39, Ar39, q39, S39, Ng39, Hs39, G39⟩ := id V38
    have hin39 : ¬ ((0 : Int32) < 0 ∨ cl39.slots.size ≤ ((0 : Int32)).toNatClampNeg) := inb_of S39 ⟨by decide, by decide⟩
    obtain ⟨T39, h39, X39, e39, W39, st39⟩ := stD X38 hx hZ e38 Ar39 (j := (0 : Int32)) hin39 (g := (mkF m 67 #[.val (.int p1), .val (.int p2), .val (.int p3), .val (.int p4), .val (.int p5), .val (.int (p5 &&& (31 : Int32))), .val (.int (1 : Int32)), .val (.long ((p4.toInt64) <<< ((p5 &&& (31 : Int32)) &&& 0x3f).toInt64)), .second, .val (.ref b35), .unset, .unset, .unset] [(.double (FP.i2d p3)), (.int (0 : Int32)), (.ref b35)])) rfl rfl (hb hby at_67)
    have V39 : Arv Z h39 b35 k35 .double (4 : Int32) [(.double (FP.i2d p3)), (.double (FP.l2d ((p4.toInt64) <<< ((p5 &&& (31 : Int32)) &&& 0x3f).toInt64))), (.double (FP.i2d p1)), (.double (FP.i2d p2))] (.double (0 : UInt64)) := Arv.set Ar39 q39 S39 Ng39 Hs39 G39 rfl W39 0 rfl (Nat.le_of_ble_eq_true rfl)
    have N39 := Fr.snoc X39 N38 gx_b35
    have Z39 : n0 ≤ h39.size := Nat.le_trans Z38 (Nat.le_of_eq W39.size.symm)
    refine own_via st39 ?_
    show own_G p e below _ (T39.setTop (mkF m 68 #[.val (.int p1), .val (.int p2), .val (.int p3), .val (.int p4), .val (.int p5), .val (.int (p5 &&& (31 : Int32))), .val (.int (1 : Int32)), .val (.long ((p4.toInt64) <<< ((p5 &&& (31 : Int32)) &&& 0x3f).toInt64)), .second, .val (.ref b35), .unset, .unset, .unset] []))
    obtain ⟨T40, h40, X40, e40, E40, A40, D40, -, st40⟩ := newO X39 hx hZ hown (hw _ (List.mem_of_getElem? (i := 1) rfl)) (hw _ (List.mem_of_getElem? (i := 2) rfl)) (hw _ (List.mem_of_getElem? (i := 3) rfl)) e39 (g := (mkF m 68 #[.val (.int p1), .val (.int p2), .val (.int p3), .val (.int p4), .val (.int p5), .val (.int (p5 &&& (31 : Int32))), .val (.int (1 : Int32)), .val (.long ((p4.toInt64) <<< ((p5 &&& (31 : Int32)) &&& 0x3f).toInt64)), .second, .val (.ref b35), .unset, .unset, .unset] [])) rfl (hb hby at_68) (by decide) (by decide)
    obtain ⟨b40, g40⟩ : ∃ z, z = h39.size := ⟨_, rfl⟩
    rw [← g40] at A40 D40 st40
    have gx_b40 : n0 ≤ b40 := Nat.le_trans Z39 (Nat.le_of_eq g40.symm)
    have Z40 : n0 ≤ h40.size := Nat.le_trans Z39 E40.1
    have ne_b35_b40 : b35 ≠ b40 := Nat.ne_of_lt (Nat.lt_of_lt_of_le V39.lt (Nat.le_of_eq g40.symm))
    have F41 := V39.ext E40
    have F40_total : Fld Z h40 b40 "com/example/fee_simple/feesimple/CompensatedSum" "total" "D" (.double (0 : UInt64)) := D40 (Or.inl (hw _ (List.mem_of_getElem? (i := 16) rfl))) (ty := .double) (by decide)
    have F40_compensation : Fld Z h40 b40 "com/example/fee_simple/feesimple/CompensatedSum" "compensation" "D" (.double (0 : UInt64)) := D40 (Or.inl (hw _ (List.mem_of_getElem? (i := 18) rfl))) (ty := .double) (by decide)
    refine own_via st40 ?_
    show own_G p e below _ (T40.setTop (mkF m 71 #[.val (.int p1), .val (.int p2), .val (.int p3), .val (.int p4), .val (.int p5), .val (.int (p5 &&& (31 : Int32))), .val (.int (1 : Int32)), .val (.long ((p4.toInt64) <<< ((p5 &&& (31 : Int32)) &&& 0x3f).toInt64)), .second, .val (.ref b35), .unset, .unset, .unset] [(.ref b40)]))
    refine own_via (fun t k => XS.dup X40.here hx rfl (hb hby at_71) rfl rfl k) ?_
    show own_G p e below _ (T40.setTop (mkF m 72 #[.val (.int p1), .val (.int p2), .val (.int p3), .val (.int p4), .val (.int p5), .val (.int (p5 &&& (31 : Int32))), .val (.int (1 : Int32)), .val (.long ((p4.toInt64) <<< ((p5 &&& (31 : Int32)) &&& 0x3f).toInt64)), .second, .val (.ref b35), .unset, .unset, .unset] [(.ref b40), (.ref b40)]))
    obtain ⟨_, _, ⟨T42, L42, k42, n42⟩, -, X42, ⟨Lc42, hQ42, l42, y42, z42⟩, st42⟩ := X40.specialBack hx (y := (⟨"com/example/fee_simple/feesimple/CompensatedSum", "<init>", "()V"⟩ : MethodName)) rfl hown (mvT hZ (hw _ (List.mem_of_getElem? (i := 4) rfl))) (mvT hZ (hw _ (List.mem_of_getElem? (i := 5) rfl))) (mvT hZ (hw _ (List.mem_of_getElem? (i := 6) rfl))) (by decide) (backOf (W := 1) (rm1 l Z a0 hw [] b40 h40 n0 Z40) hZ (hw _ (List.mem_of_getElem? (i := 6) rfl)) (hw _ (List.mem_of_getElem? (i := 3) rfl)) (by decide) (by decide)) (g := (mkF m 72 #[.val (.int p1), .val (.int p2), .val (.int p3), .val (.int p4), .val (.int p5), .val (.int (p5 &&& (31 : Int32))), .val (.int (1 : Int32)), .val (.long ((p4.toInt64) <<< ((p5 &&& (31 : Int32)) &&& 0x3f).toInt64)), .second, .val (.ref b35), .unset, .unset, .unset] [(.ref b40), (.ref b40)])) rfl (by rw [hml]; rfl) (Steps.refl _) (a := b40) (argsL := []) (rest := [(.ref b40)]) (lenOf pd_rm0_0 rfl) rfl (by show 2 * 0 + _ ≤ _; exact Nat.le_of_eq rfl) (hb hby at_72) (fun _ _ => ⟨rfl, e40, (by decide : 2 + 0 ≤ _), (by decide : 6 + 0 ≤ _)⟩)
    dsimp only [Pt.U, Pt.locs, Pt.cells, Pt.slots] at X42 l42 y42 z42 st42 hQ42
    subst l42 y42 z42
    obtain ⟨rfl, N42q, e42⟩ := hQ42
    have N42 := Fr.app N39 N42q
    refine own_via (fun t k => st42.trans k) ?_
    show own_G p e below _ (T42.setTop (mkF m 75 #[.val (.int p1), .val (.int p2), .val (.int p3), .val (.int p4), .val (.int p5), .val (.int (p5 &&& (31 : Int32))), .val (.int (1 : Int32)), .val (.long ((p4.toInt64) <<< ((p5 &&& (31 : Int32)) &&& 0x3f).toInt64)), .second, .val (.ref b35), .unset, .unset, .unset] [(.ref b40)]))
    refine own_via (fun t k => XS.astore X42.here hx rfl (hb hby at_75) rfl rfl (l' := #[.val (.int p1), .val (.int p2), .val (.int p3), .val (.int p4), .val (.int p5), .val (.int (p5 &&& (31 : Int32))), .val (.int (1 : Int32)), .val (.long ((p4.toInt64) <<< ((p5 &&& (31 : Int32)) &&& 0x3f).toInt64)), .second, .val (.ref b35), .val (.ref b40), .unset, .unset]) rfl k) ?_
    show own_G p e below _ (T42.setTop (mkF m 77 #[.val (.int p1), .val (.int p2), .val (.int p3), .val (.int p4), .val (.int p5), .val (.int (p5 &&& (31 : Int32))), .val (.int (1 : Int32)), .val (.long ((p4.toInt64) <<< ((p5 &&& (31 : Int32)) &&& 0x3f).toInt64)), .second, .val (.ref b35), .val (.ref b40), .unset, .unset] []))
    refine own_via (fun t k => XS.aload X42.here hx rfl (hb hby at_77) rfl rfl k) ?_
    show own_G p e below _ (T42.setTop (mkF m 79 #[.val (.int p1), .val (.int p2), .val (.int p3), .val (.int p4), .val (.int p5), .val (.int (p5 &&& (31 : Int32))), .val (.int (1 : Int32)), .val (.long ((p4.toInt64) <<< ((p5 &&& (31 : Int32)) &&& 0x3f).toInt64)), .second, .val (.ref b35), .val (.ref b40), .unset, .unset] [(.ref b40)]))
    refine own_via (fun t k => XS.aload X42.here hx rfl (hb hby at_79) rfl rfl k) ?_
    show own_G p e below _ (T42.setTop (mkF m 81 #[.val (.int p1), .val (.int p2), .val (.int p3), .val (.int p4), .val (.int p5), .val (.int (p5 &&& (31 : Int32))), .val (.int (1 : Int32)), .val (.long ((p4.toInt64) <<< ((p5 &&& (31 : Int32)) &&& 0x3f).toInt64)), .second, .val (.ref b35), .val (.ref b40), .unset, .unset] [(.ref b35), (.ref b40)]))
    refine own_via (fun t k => XS.iconst X42.here hx rfl (hb hby at_81) k) ?_
    show own_G p e below _ (T42.setTop (mkF m 82 #[.val (.int p1), .val (.int p2), .val (.int p3), .val (.int p4), .val (.int p5), .val (.int (p5 &&& (31 : Int32))), .val (.int (1 : Int32)), .val (.long ((p4.toInt64) <<< ((p5 &&& (31 : Int32)) &&& 0x3f).toInt64)), .second, .val (.ref b35), .val (.ref b40), .unset, .unset] [(.int (0 : Int32)), (.ref b35), (.ref b40)]))
    obtain ⟨cl43, Ar43, q43, S43, Ng43, Hs43, G43⟩ := id F41
    have hin43 : ¬ ((0 : Int32) < 0 ∨ cl43.slots.size ≤ ((0 : Int32)).toNatClampNeg) := inb_of S43 ⟨by decide, by decide⟩
    have hat43 : cl43.slots[((0 : Int32)).toNatClampNeg]? = some (.double (FP.i2d p3)) := Hs43.at hin43 rfl
    refine own_via (fun t k => X42.daload hx (j := (0 : Int32)) (v := (.double (FP.i2d p3))) (by rw [e42]; exact Ar43.1) (State.isArrayOf_alike hZ.alike Ar43.2.1) Ar43.2.2 hin43 hat43 (g := (mkF m 82 #[.val (.int p1), .val (.int p2), .val (.int p3), .val (.int p4), .val (.int p5), .val (.int (p5 &&& (31 : Int32))), .val (.int (1 : Int32)), .val (.long ((p4.toInt64) <<< ((p5 &&& (31 : Int32)) &&& 0x3f).toInt64)), .second, .val (.ref b35), .val (.ref b40), .unset, .unset] [(.int (0 : Int32)), (.ref b35), (.ref b40)])) rfl rfl (hb hby at_82) _ k) ?_
    show own_G p e below _ (T42.setTop (mkF m 83 #[.val (.int p1), .val (.int p2), .val (.int p3), .val (.int p4), .val (.int p5), .val (.int (p5 &&& (31 : Int32))), .val (.int (1 : Int32)), .val (.long ((p4.toInt64) <<< ((p5 &&& (31 : Int32)) &&& 0x3f).toInt64)), .second, .val (.ref b35), .val (.ref b40), .unset, .unset] [(.double (FP.i2d p3)), (.ref b40)]))
    obtain ⟨cq44, kq44, q44a, q44b, q44c⟩ := isOf hZ e42 A40
    obtain ⟨_, _, ⟨T44, L44, k44, n44⟩, -, X44, ⟨Lc44, hQ44, l44, y44, z44⟩, st44⟩ := X42.virtualBack hx (y := (⟨"com/example/fee_simple/feesimple/CompensatedSum", "add", "(D)V"⟩ : MethodName)) (z := (⟨"com/example/fee_simple/feesimple/CompensatedSum", "add", "(D)V"⟩ : MethodName)) hown (mvT hZ (hw _ (List.mem_of_getElem? (i := 10) rfl))) (mvT hZ (hw _ (List.mem_of_getElem? (i := 11) rfl))) (notFace_of_selects (args := #[]) (mvT hZ (hw _ (List.mem_of_getElem? (i := 13) rfl)))) (mvT hZ (hw _ (List.mem_of_getElem? (i := 13) rfl))) (mvT hZ (hw _ (List.mem_of_getElem? (i := 12) rfl))) (by decide) (backOf (W := 0) (rm3 l Z a0 hw [] b40 (FP.i2d p3) (0 : UInt64) (0 : UInt64) h40 n0 Z40 A40 F40_total F40_compensation gx_b40 ok0) hZ (hw _ (List.mem_of_getElem? (i := 14) rfl)) (hw _ (List.mem_of_getElem? (i := 3) rfl)) (by decide) (by decide)) q44a q44c (g := (mkF m 83 #[.val (.int p1), .val (.int p2), .val (.int p3), .val (.int p4), .val (.int p5), .val (.int (p5 &&& (31 : Int32))), .val (.int (1 : Int32)), .val (.long ((p4.toInt64) <<< ((p5 &&& (31 : Int32)) &&& 0x3f).toInt64)), .second, .val (.ref b35), .val (.ref b40), .unset, .unset] [(.double (FP.i2d p3)), (.ref b40)])) rfl (by rw [hml]; rfl) (Steps.refl _) (argsL := [(.double (FP.i2d p3))]) (rest := []) (lenOf pd_rm0_1 rfl) rfl (by show 2 * 0 + _ ≤ _; exact Nat.le_of_eq rfl) (hb hby at_83) (fun _ _ => ⟨rfl, e42, (by decide : 2 + 0 ≤ _), (by decide : 6 + 0 ≤ _)⟩)
    dsimp only [Pt.U, Pt.locs, Pt.cells, Pt.slots] at X44 l44 y44 z44 st44 hQ44
    subst l44 y44 z44
    obtain ⟨rfl, N44q, K44, E44q, Ft44, Fc44⟩ := hQ44
    have N44 := Fr.app N42 N44q
    have F45 := F41.keep K44 (ninS ne_b35_b40 nin0)
    have F46 := A40.keep K44
    have Z44 : n0 ≤ T44.heap.size := Nat.le_trans Z40 K44.1
    refine own_via (fun t k => st44.trans k) ?_
    show own_G p e below _ (T44.setTop (mkF m 86 #[.val (.int p1), .val (.int p2), .val (.int p3), .val (.int p4), .val (.int p5), .val (.int (p5 &&& (31 : Int32))), .val (.int (1 : Int32)), .val (.long ((p4.toInt64) <<< ((p5 &&& (31 : Int32)) &&& 0x3f).toInt64)), .second, .val (.ref b35), .val (.ref b40), .unset, .unset] []))
    refine own_via (fun t k => XS.aload X44.here hx rfl (hb hby at_86) rfl rfl k) ?_
    show own_G p e below _ (T44.setTop (mkF m 88 #[.val (.int p1), .val (.int p2), .val (.int p3), .val (.int p4), .val (.int p5), .val (.int (p5 &&& (31 : Int32))), .val (.int (1 : Int32)), .val (.long ((p4.toInt64) <<< ((p5 &&& (31 : Int32)) &&& 0x3f).toInt64)), .second, .val (.ref b35), .val (.ref b40), .unset, .unset] [(.ref b40)]))
    refine own_via (fun t k => XS.aload X44.here hx rfl (hb hby at_88) rfl rfl k) ?_
    show own_G p e below _ (T44.setTop (mkF m 90 #[.val (.int p1), .val (.int p2), .val (.int p3), .val (.int p4), .val (.int p5), .val (.int (p5 &&& (31 : Int32))), .val (.int (1 : Int32)), .val (.long ((p4.toInt64) <<< ((p5 &&& (31 : Int32)) &&& 0x3f).toInt64)), .second, .val (.ref b35), .val (.ref b40), .unset, .unset] [(.ref b35), (.ref b40)]))
    refine own_via (fun t k => XS.iconst X44.here hx rfl (hb hby at_90) k) ?_
    show own_G p e below _ (T44.setTop (mkF m 91 #[.val (.int p1), .val (.int p2), .val (.int p3), .val (.int p4), .val (.int p5), .val (.int (p5 &&& (31 : Int32))), .val (.int (1 : Int32)), .val (.long ((p4.toInt64) <<< ((p5 &&& (31 : Int32)) &&& 0x3f).toInt64)), .second, .val (.ref b35), .val (.ref b40), .unset, .unset] [(.int (1 : Int32)), (.ref b35), (.ref b40)]))
    obtain ⟨cl49, Ar49, q49, S49, Ng49, Hs49, G49⟩ := id F45
    have hin49 : ¬ ((1 : Int32) < 0 ∨ cl49.slots.size ≤ ((1 : Int32)).toNatClampNeg) := inb_of S49 ⟨by decide, by decide⟩
    have hat49 : cl49.slots[((1 : Int32)).toNatClampNeg]? = some (.double (FP.l2d ((p4.toInt64) <<< ((p5 &&& (31 : Int32)) &&& 0x3f).toInt64))) := Hs49.at hin49 rfl
    refine own_via (fun t k => X44.daload hx (j := (1 : Int32)) (v := (.double (FP.l2d ((p4.toInt64) <<< ((p5 &&& (31 : Int32)) &&& 0x3f).toInt64)))) Ar49.1 (State.isArrayOf_alike hZ.alike Ar49.2.1) Ar49.2.2 hin49 hat49 (g := (mkF m 91 #[.val (.int p1), .val (.int p2), .val (.int p3), .val (.int p4), .val (.int p5), .val (.int (p5 &&& (31 : Int32))), .val (.int (1 : Int32)), .val (.long ((p4.toInt64) <<< ((p5 &&& (31 : Int32)) &&& 0x3f).toInt64)), .second, .val (.ref b35), .val (.ref b40), .unset, .unset] [(.int (1 : Int32)), (.ref b35), (.ref b40)])) rfl rfl (hb hby at_91) _ k) ?_
    show own_G p e below _ (T44.setTop (mkF m 92 #[.val (.int p1), .val (.int p2), .val (.int p3), .val (.int p4), .val (.int p5), .val (.int (p5 &&& (31 : Int32))), .val (.int (1 : Int32)), .val (.long ((p4.toInt64) <<< ((p5 &&& (31 : Int32)) &&& 0x3f).toInt64)), .second, .val (.ref b35), .val (.ref b40), .unset, .unset] [(.double (FP.l2d ((p4.toInt64) <<< ((p5 &&& (31 : Int32)) &&& 0x3f).toInt64))), (.ref b40)]))
    obtain ⟨cq50, kq50, q50a, q50b, q50c⟩ := isOf hZ rfl E44q
    obtain ⟨_, _, ⟨T50, L50, k50, n50⟩, -, X50, ⟨Lc50, hQ50, l50, y50, z50⟩, st50⟩ := X44.virtualBack hx (y := (⟨"com/example/fee_simple/feesimple/CompensatedSum", "add", "(D)V"⟩ : MethodName)) (z := (⟨"com/example/fee_simple/feesimple/CompensatedSum", "add", "(D)V"⟩ : MethodName)) hown (mvT hZ (hw _ (List.mem_of_getElem? (i := 10) rfl))) (mvT hZ (hw _ (List.mem_of_getElem? (i := 11) rfl))) (notFace_of_selects (args := #[]) (mvT hZ (hw _ (List.mem_of_getElem? (i := 13) rfl)))) (mvT hZ (hw _ (List.mem_of_getElem? (i := 13) rfl))) (mvT hZ (hw _ (List.mem_of_getElem? (i := 12) rfl))) (by decide) (backOf (W := 0) (rm3 l Z a0 hw [] b40 (FP.l2d ((p4.toInt64) <<< ((p5 &&& (31 : Int32)) &&& 0x3f).toInt64)) (own_t (0 : UInt64) (FP.i2d p3)) (own_k (0 : UInt64) (FP.i2d p3) (0 : UInt64)) T44.heap n0 Z44 E44q Ft44 Fc44 gx_b40 ok1) hZ (hw _ (List.mem_of_getElem? (i := 14) rfl)) (hw _ (List.mem_of_getElem? (i := 3) rfl)) (by decide) (by decide)) q50a q50c (g := (mkF m 92 #[.val (.int p1), .val (.int p2), .val (.int p3), .val (.int p4), .val (.int p5), .val (.int (p5 &&& (31 : Int32))), .val (.int (1 : Int32)), .val (.long ((p4.toInt64) <<< ((p5 &&& (31 : Int32)) &&& 0x3f).toInt64)), .second, .val (.ref b35), .val (.ref b40), .unset, .unset] [(.double (FP.l2d ((p4.toInt64) <<< ((p5 &&& (31 : Int32)) &&& 0x3f).toInt64))), (.ref b40)])) rfl (by rw [hml]; rfl) (Steps.refl _) (argsL := [(.double (FP.l2d ((p4.toInt64) <<< ((p5 &&& (31 : Int32)) &&& 0x3f).toInt64)))]) (rest := []) (lenOf pd_rm0_1 rfl) rfl (by show 2 * 0 + _ ≤ _; exact Nat.le_of_eq rfl) (hb hby at_92) (fun _ _ => ⟨rfl, rfl, (by decide : 2 + 0 ≤ _), (by decide : 6 + 0 ≤ _)⟩)
    dsimp only [Pt.U, Pt.locs, Pt.cells, Pt.slots] at X50 l50 y50 z50 st50 hQ50
    subst l50 y50 z50
    obtain ⟨rfl, N50q, K50, E50q, Ft50, Fc50⟩ := hQ50
    have N50 := Fr.app N44 N50q
    have F51 := F45.keep K50 (ninS ne_b35_b40 nin0)
    have F52 := E44q.keep K50
    have Z50 : n0 ≤ T50.heap.size := Nat.le_trans Z44 K50.1
    refine own_via (fun t k => st50.trans k) ?_
    show own_G p e below _ (T50.setTop (mkF m 95 #[.val (.int p1), .val (.int p2), .val (.int p3), .val (.int p4), .val (.int p5), .val (.int (p5 &&& (31 : Int32))), .val (.int (1 : Int32)), .val (.long ((p4.toInt64) <<< ((p5 &&& (31 : Int32)) &&& 0x3f).toInt64)), .second, .val (.ref b35), .val (.ref b40), .unset, .unset] []))
    refine own_via (fun t k => XS.aload X50.here hx rfl (hb hby at_95) rfl rfl k) ?_
    show own_G p e below _ (T50.setTop (mkF m 97 #[.val (.int p1), .val (.int p2), .val (.int p3), .val (.int p4), .val (.int p5), .val (.int (p5 &&& (31 : Int32))), .val (.int (1 : Int32)), .val (.long ((p4.toInt64) <<< ((p5 &&& (31 : Int32)) &&& 0x3f).toInt64)), .second, .val (.ref b35), .val (.ref b40), .unset, .unset] [(.ref b40)]))
    refine own_via (fun t k => XS.aload X50.here hx rfl (hb hby at_97) rfl rfl k) ?_
    show own_G p e below _ (T50.setTop (mkF m 99 #[.val (.int p1), .val (.int p2), .val (.int p3), .val (.int p4), .val (.int p5), .val (.int (p5 &&& (31 : Int32))), .val (.int (1 : Int32)), .val (.long ((p4.toInt64) <<< ((p5 &&& (31 : Int32)) &&& 0x3f).toInt64)), .second, .val (.ref b35), .val (.ref b40), .unset, .unset] [(.ref b35), (.ref b40)]))
    refine own_via (fun t k => XS.iconst X50.here hx rfl (hb hby at_99) k) ?_
    show own_G p e below _ (T50.setTop (mkF m 100 #[.val (.int p1), .val (.int p2), .val (.int p3), .val (.int p4), .val (.int p5), .val (.int (p5 &&& (31 : Int32))), .val (.int (1 : Int32)), .val (.long ((p4.toInt64) <<< ((p5 &&& (31 : Int32)) &&& 0x3f).toInt64)), .second, .val (.ref b35), .val (.ref b40), .unset, .unset] [(.int (2 : Int32)), (.ref b35), (.ref b40)]))
    obtain ⟨cl55, Ar55, q55, S55, Ng55, Hs55, G55⟩ := id F51
    have hin55 : ¬ ((2 : Int32) < 0 ∨ cl55.slots.size ≤ ((2 : Int32)).toNatClampNeg) := inb_of S55 ⟨by decide, by decide⟩
    have hat55 : cl55.slots[((2 : Int32)).toNatClampNeg]? = some (.double (FP.i2d p1)) := Hs55.at hin55 rfl
    refine own_via (fun t k => X50.daload hx (j := (2 : Int32)) (v := (.double (FP.i2d p1))) Ar55.1 (State.isArrayOf_alike hZ.alike Ar55.2.1) Ar55.2.2 hin55 hat55 (g := (mkF m 100 #[.val (.int p1), .val (.int p2), .val (.int p3), .val (.int p4), .val (.int p5), .val (.int (p5 &&& (31 : Int32))), .val (.int (1 : Int32)), .val (.long ((p4.toInt64) <<< ((p5 &&& (31 : Int32)) &&& 0x3f).toInt64)), .second, .val (.ref b35), .val (.ref b40), .unset, .unset] [(.int (2 : Int32)), (.ref b35), (.ref b40)])) rfl rfl (hb hby at_100) _ k) ?_
    show own_G p e below _ (T50.setTop (mkF m 101 #[.val (.int p1), .val (.int p2), .val (.int p3), .val (.int p4), .val (.int p5), .val (.int (p5 &&& (31 : Int32))), .val (.int (1 : Int32)), .val (.long ((p4.toInt64) <<< ((p5 &&& (31 : Int32)) &&& 0x3f).toInt64)), .second, .val (.ref b35), .val (.ref b40), .unset, .unset] [(.double (FP.i2d p1)), (.ref b40)]))
    obtain ⟨cq56, kq56, q56a, q56b, q56c⟩ := isOf hZ rfl E50q
    obtain ⟨_, _, ⟨T56, L56, k56, n56⟩, -, X56, ⟨Lc56, hQ56, l56, y56, z56⟩, st56⟩ := X50.virtualBack hx (y := (⟨"com/example/fee_simple/feesimple/CompensatedSum", "add", "(D)V"⟩ : MethodName)) (z := (⟨"com/example/fee_simple/feesimple/CompensatedSum", "add", "(D)V"⟩ : MethodName)) hown (mvT hZ (hw _ (List.mem_of_getElem? (i := 10) rfl))) (mvT hZ (hw _ (List.mem_of_getElem? (i := 11) rfl))) (notFace_of_selects (args := #[]) (mvT hZ (hw _ (List.mem_of_getElem? (i := 13) rfl)))) (mvT hZ (hw _ (List.mem_of_getElem? (i := 13) rfl))) (mvT hZ (hw _ (List.mem_of_getElem? (i := 12) rfl))) (by decide) (backOf (W := 0) (rm3 l Z a0 hw [] b40 (FP.i2d p1) (own_t (own_t (0 : UInt64) (FP.i2d p3)) (FP.l2d ((p4.toInt64) <<< ((p5 &&& (31 : Int32)) &&& 0x3f).toInt64))) (own_k (own_t (0 : UInt64) (FP.i2d p3)) (FP.l2d ((p4.toInt64) <<< ((p5 &&& (31 : Int32)) &&& 0x3f).toInt64)) (own_k (0 : UInt64) (FP.i2d p3) (0 : UInt64))) T50.heap n0 Z50 E50q Ft50 Fc50 gx_b40 ok2) hZ (hw _ (List.mem_of_getElem? (i := 14) rfl)) (hw _ (List.mem_of_getElem? (i := 3) rfl)) (by decide) (by decide)) q56a q56c (g := (mkF m 101 #[.val (.int p1), .val (.int p2), .val (.int p3), .val (.int p4), .val (.int p5), .val (.int (p5 &&& (31 : Int32))), .val (.int (1 : Int32)), .val (.long ((p4.toInt64) <<< ((p5 &&& (31 : Int32)) &&& 0x3f).toInt64)), .second, .val (.ref b35), .val (.ref b40), .unset, .unset] [(.double (FP.i2d p1)), (.ref b40)])) rfl (by rw [hml]; rfl) (Steps.refl _) (argsL := [(.double (FP.i2d p1))]) (rest := []) (lenOf pd_rm0_1 rfl) rfl (by show 2 * 0 + _ ≤ _; exact Nat.le_of_eq rfl) (hb hby at_101) (fun _ _ => ⟨rfl, rfl, (by decide : 2 + 0 ≤ _), (by decide : 6 + 0 ≤ _)⟩)
    dsimp only [Pt.U, Pt.locs, Pt.cells, Pt.slots] at X56 l56 y56 z56 st56 hQ56
    subst l56 y56 z56
    obtain ⟨rfl, N56q, K56, E56q, Ft56, Fc56⟩ := hQ56
    have N56 := Fr.app N50 N56q
    have F57 := F51.keep K56 (ninS ne_b35_b40 nin0)
    have F58 := E50q.keep K56
    have Z56 : n0 ≤ T56.heap.size := Nat.le_trans Z50 K56.1
    refine own_via (fun t k => st56.trans k) ?_
    show own_G p e below _ (T56.setTop (mkF m 104 #[.val (.int p1), .val (.int p2), .val (.int p3), .val (.int p4), .val (.int p5), .val (.int (p5 &&& (31 : Int32))), .val (.int (1 : Int32)), .val (.long ((p4.toInt64) <<< ((p5 &&& (31 : Int32)) &&& 0x3f).toInt64)), .second, .val (.ref b35), .val (.ref b40), .unset, .unset] []))
    refine own_via (fun t k => XS.aload X56.here hx rfl (hb hby at_104) rfl rfl k) ?_
    show own_G p e below _ (T56.setTop (mkF m 106 #[.val (.int p1), .val (.int p2), .val (.int p3), .val (.int p4), .val (.int p5), .val (.int (p5 &&& (31 : Int32))), .val (.int (1 : Int32)), .val (.long ((p4.toInt64) <<< ((p5 &&& (31 : Int32)) &&& 0x3f).toInt64)), .second, .val (.ref b35), .val (.ref b40), .unset, .unset] [(.ref b40)]))
    refine own_via (fun t k => XS.aload X56.here hx rfl (hb hby at_106) rfl rfl k) ?_
    show own_G p e below _ (T56.setTop (mkF m 108 #[.val (.int p1), .val (.int p2), .val (.int p3), .val (.int p4), .val (.int p5), .val (.int (p5 &&& (31 : Int32))), .val (.int (1 : Int32)), .val (.long ((p4.toInt64) <<< ((p5 &&& (31 : Int32)) &&& 0x3f).toInt64)), .second, .val (.ref b35), .val (.ref b40), .unset, .unset] [(.ref b35), (.ref b40)]))
    refine own_via (fun t k => XS.iconst X56.here hx rfl (hb hby at_108) k) ?_
    show own_G p e below _ (T56.setTop (mkF m 109 #[.val (.int p1), .val (.int p2), .val (.int p3), .val (.int p4), .val (.int p5), .val (.int (p5 &&& (31 : Int32))), .val (.int (1 : Int32)), .val (.long ((p4.toInt64) <<< ((p5 &&& (31 : Int32)) &&& 0x3f).toInt64)), .second, .val (.ref b35), .val (.ref b40), .unset, .unset] [(.int (3 : Int32)), (.ref b35), (.ref b40)]))
    obtain ⟨cl61, Ar61, q61, S61, Ng61, Hs61, G61⟩ := id F57
    have hin61 : ¬ ((3 : Int32) < 0 ∨ cl61.slots.size ≤ ((3 : Int32)).toNatClampNeg) := inb_of S61 ⟨by decide, by decide⟩
    have hat61 : cl61.slots[((3 : Int32)).toNatClampNeg]? = some (.double (FP.i2d p2)) := Hs61.at hin61 rfl
    refine own_via (fun t k => X56.daload hx (j := (3 : Int32)) (v := (.double (FP.i2d p2))) Ar61.1 (State.isArrayOf_alike hZ.alike Ar61.2.1) Ar61.2.2 hin61 hat61 (g := (mkF m 109 #[.val (.int p1), .val (.int p2), .val (.int p3), .val (.int p4), .val (.int p5), .val (.int (p5 &&& (31 : Int32))), .val (.int (1 : Int32)), .val (.long ((p4.toInt64) <<< ((p5 &&& (31 : Int32)) &&& 0x3f).toInt64)), .second, .val (.ref b35), .val (.ref b40), .unset, .unset] [(.int (3 : Int32)), (.ref b35), (.ref b40)])) rfl rfl (hb hby at_109) _ k) ?_
    show own_G p e below _ (T56.setTop (mkF m 110 #[.val (.int p1), .val (.int p2), .val (.int p3), .val (.int p4), .val (.int p5), .val (.int (p5 &&& (31 : Int32))), .val (.int (1 : Int32)), .val (.long ((p4.toInt64) <<< ((p5 &&& (31 : Int32)) &&& 0x3f).toInt64)), .second, .val (.ref b35), .val (.ref b40), .unset, .unset] [(.double (FP.i2d p2)), (.ref b40)]))
    obtain ⟨cq62, kq62, q62a, q62b, q62c⟩ := isOf hZ rfl E56q
    obtain ⟨_, _, ⟨T62, L62, k62, n62⟩, -, X62, ⟨Lc62, hQ62, l62, y62, z62⟩, st62⟩ := X56.virtualBack hx (y := (⟨"com/example/fee_simple/feesimple/CompensatedSum", "add", "(D)V"⟩ : MethodName)) (z := (⟨"com/example/fee_simple/feesimple/CompensatedSum", "add", "(D)V"⟩ : MethodName)) hown (mvT hZ (hw _ (List.mem_of_getElem? (i := 10) rfl))) (mvT hZ (hw _ (List.mem_of_getElem? (i := 11) rfl))) (notFace_of_selects (args := #[]) (mvT hZ (hw _ (List.mem_of_getElem? (i := 13) rfl)))) (mvT hZ (hw _ (List.mem_of_getElem? (i := 13) rfl))) (mvT hZ (hw _ (List.mem_of_getElem? (i := 12) rfl))) (by decide) (backOf (W := 0) (rm3 l Z a0 hw [] b40 (FP.i2d p2) (own_t (own_t (own_t (0 : UInt64) (FP.i2d p3)) (FP.l2d ((p4.toInt64) <<< ((p5 &&& (31 : Int32)) &&& 0x3f).toInt64))) (FP.i2d p1)) (own_k (own_t (own_t (0 : UInt64) (FP.i2d p3)) (FP.l2d ((p4.toInt64) <<< ((p5 &&& (31 : Int32)) &&& 0x3f).toInt64))) (FP.i2d p1) (own_k (own_t (0 : UInt64) (FP.i2d p3)) (FP.l2d ((p4.toInt64) <<< ((p5 &&& (31 : Int32)) &&& 0x3f).toInt64)) (own_k (0 : UInt64) (FP.i2d p3) (0 : UInt64)))) T56.heap n0 Z56 E56q Ft56 Fc56 gx_b40 ok3) hZ (hw _ (List.mem_of_getElem? (i := 14) rfl)) (hw _ (List.mem_of_getElem? (i := 3) rfl)) (by decide) (by decide)) q62a q62c (g := (mkF m 110 #[.val (.int p1), .val (.int p2), .val (.int p3), .val (.int p4), .val (.int p5), .val (.int (p5 &&& (31 : Int32))), .val (.int (1 : Int32)), .val (.long ((p4.toInt64) <<< ((p5 &&& (31 : Int32)) &&& 0x3f).toInt64)), .second, .val (.ref b35), .val (.ref b40), .unset, .unset] [(.double (FP.i2d p2)), (.ref b40)])) rfl (by rw [hml]; rfl) (Steps.refl _) (argsL := [(.double (FP.i2d p2))]) (rest := []) (lenOf pd_rm0_1 rfl) rfl (by show 2 * 0 + _ ≤ _; exact Nat.le_of_eq rfl) (hb hby at_110) (fun _ _ => ⟨rfl, rfl, (by decide : 2 + 0 ≤ _), (by decide : 6 + 0 ≤ _)⟩)
    dsimp only [Pt.U, Pt.locs, Pt.cells, Pt.slots] at X62 l62 y62 z62 st62 hQ62
    subst l62 y62 z62
    obtain ⟨rfl, N62q, K62, E62q, Ft62, Fc62⟩ := hQ62
    have N62 := Fr.app N56 N62q
    have F63 := F57.keep K62 (ninS ne_b35_b40 nin0)
    have F64 := E56q.keep K62
    have Z62 : n0 ≤ T62.heap.size := Nat.le_trans Z56 K62.1
    refine own_via (fun t k => st62.trans k) ?_
    show own_G p e below _ (T62.setTop (mkF m 113 #[.val (.int p1), .val (.int p2), .val (.int p3), .val (.int p4), .val (.int p5), .val (.int (p5 &&& (31 : Int32))), .val (.int (1 : Int32)), .val (.long ((p4.toInt64) <<< ((p5 &&& (31 : Int32)) &&& 0x3f).toInt64)), .second, .val (.ref b35), .val (.ref b40), .unset, .unset] []))
    refine own_via (fun t k => XS.lload X62.here hx rfl (hb hby at_113) rfl k) ?_
    show own_G p e below _ (T62.setTop (mkF m 115 #[.val (.int p1), .val (.int p2), .val (.int p3), .val (.int p4), .val (.int p5), .val (.int (p5 &&& (31 : Int32))), .val (.int (1 : Int32)), .val (.long ((p4.toInt64) <<< ((p5 &&& (31 : Int32)) &&& 0x3f).toInt64)), .second, .val (.ref b35), .val (.ref b40), .unset, .unset] [(.long ((p4.toInt64) <<< ((p5 &&& (31 : Int32)) &&& 0x3f).toInt64))]))
    refine own_via (fun t k => XS.iloadN X62.here hx rfl (hb hby at_115) rfl k) ?_
    show own_G p e below _ (T62.setTop (mkF m 116 #[.val (.int p1), .val (.int p2), .val (.int p3), .val (.int p4), .val (.int p5), .val (.int (p5 &&& (31 : Int32))), .val (.int (1 : Int32)), .val (.long ((p4.toInt64) <<< ((p5 &&& (31 : Int32)) &&& 0x3f).toInt64)), .second, .val (.ref b35), .val (.ref b40), .unset, .unset] [(.int p1), (.long ((p4.toInt64) <<< ((p5 &&& (31 : Int32)) &&& 0x3f).toInt64))]))
    refine own_via (fun t k => XS.i2l X62.here hx rfl (hb hby at_116) rfl k) ?_
    show own_G p e below _ (T62.setTop (mkF m 117 #[.val (.int p1), .val (.int p2), .val (.int p3), .val (.int p4), .val (.int p5), .val (.int (p5 &&& (31 : Int32))), .val (.int (1 : Int32)), .val (.long ((p4.toInt64) <<< ((p5 &&& (31 : Int32)) &&& 0x3f).toInt64)), .second, .val (.ref b35), .val (.ref b40), .unset, .unset] [(.long (p1.toInt64)), (.long ((p4.toInt64) <<< ((p5 &&& (31 : Int32)) &&& 0x3f).toInt64))]))
    refine own_via (fun t k => XS.ladd X62.here hx rfl (hb hby at_117) rfl k) ?_
    show own_G p e below _ (T62.setTop (mkF m 118 #[.val (.int p1), .val (.int p2), .val (.int p3), .val (.int p4), .val (.int p5), .val (.int (p5 &&& (31 : Int32))), .val (.int (1 : Int32)), .val (.long ((p4.toInt64) <<< ((p5 &&& (31 : Int32)) &&& 0x3f).toInt64)), .second, .val (.ref b35), .val (.ref b40), .unset, .unset] [(.long (((p4.toInt64) <<< ((p5 &&& (31 : Int32)) &&& 0x3f).toInt64) + (p1.toInt64)))]))
    refine own_via (fun t k => XS.iloadN X62.here hx rfl (hb hby at_118) rfl k) ?_
    show own_G p e below _ (T62.setTop (mkF m 119 #[.val (.int p1), .val (.int p2), .val (.int p3), .val (.int p4), .val (.int p5), .val (.int (p5 &&& (31 : Int32))), .val (.int (1 : Int32)), .val (.long ((p4.toInt64) <<< ((p5 &&& (31 : Int32)) &&& 0x3f).toInt64)), .second, .val (.ref b35), .val (.ref b40), .unset, .unset] [(.int p2), (.long (((p4.toInt64) <<< ((p5 &&& (31 : Int32)) &&& 0x3f).toInt64) + (p1.toInt64)))]))
    refine own_via (fun t k => XS.i2l X62.here hx rfl (hb hby at_119) rfl k) ?_
    show own_G p e below _ (T62.setTop (mkF m 120 #[.val (.int p1), .val (.int p2), .val (.int p3), .val (.int p4), .val (.int p5), .val (.int (p5 &&& (31 : Int32))), .val (.int (1 : Int32)), .val (.long ((p4.toInt64) <<< ((p5 &&& (31 : Int32)) &&& 0x3f).toInt64)), .second, .val (.ref b35), .val (.ref b40), .unset, .unset] [(.long (p2.toInt64)), (.long (((p4.toInt64) <<< ((p5 &&& (31 : Int32)) &&& 0x3f).toInt64) + (p1.toInt64)))]))
    refine own_via (fun t k => XS.ladd X62.here hx rfl (hb hby at_120) rfl k) ?_
    show own_G p e below _ (T62.setTop (mkF m 121 #[.val (.int p1), .val (.int p2), .val (.int p3), .val (.int p4), .val (.int p5), .val (.int (p5 &&& (31 : Int32))), .val (.int (1 : Int32)), .val (.long ((p4.toInt64) <<< ((p5 &&& (31 : Int32)) &&& 0x3f).toInt64)), .second, .val (.ref b35), .val (.ref b40), .unset, .unset] [(.long ((((p4.toInt64) <<< ((p5 &&& (31 : Int32)) &&& 0x3f).toInt64) + (p1.toInt64)) + (p2.toInt64)))]))
    refine own_via (fun t k => XS.iloadN X62.here hx rfl (hb hby at_121) rfl k) ?_
    show own_G p e below _ (T62.setTop (mkF m 122 #[.val (.int p1), .val (.int p2), .val (.int p3), .val (.int p4), .val (.int p5), .val (.int (p5 &&& (31 : Int32))), .val (.int (1 : Int32)), .val (.long ((p4.toInt64) <<< ((p5 &&& (31 : Int32)) &&& 0x3f).toInt64)), .second, .val (.ref b35), .val (.ref b40), .unset, .unset] [(.int p3), (.long ((((p4.toInt64) <<< ((p5 &&& (31 : Int32)) &&& 0x3f).toInt64) + (p1.toInt64)) + (p2.toInt64)))]))
    refine own_via (fun t k => XS.i2l X62.here hx rfl (hb hby at_122) rfl k) ?_
    show own_G p e below _ (T62.setTop (mkF m 123 #[.val (.int p1), .val (.int p2), .val (.int p3), .val (.int p4), .val (.int p5), .val (.int (p5 &&& (31 : Int32))), .val (.int (1 : Int32)), .val (.long ((p4.toInt64) <<< ((p5 &&& (31 : Int32)) &&& 0x3f).toInt64)), .second, .val (.ref b35), .val (.ref b40), .unset, .unset] [(.long (p3.toInt64)), (.long ((((p4.toInt64) <<< ((p5 &&& (31 : Int32)) &&& 0x3f).toInt64) + (p1.toInt64)) + (p2.toInt64)))]))
    refine own_via (fun t k => XS.ladd X62.here hx rfl (hb hby at_123) rfl k) ?_
    show own_G p e below _ (T62.setTop (mkF m 124 #[.val (.int p1), .val (.int p2), .val (.int p3), .val (.int p4), .val (.int p5), .val (.int (p5 &&& (31 : Int32))), .val (.int (1 : Int32)), .val (.long ((p4.toInt64) <<< ((p5 &&& (31 : Int32)) &&& 0x3f).toInt64)), .second, .val (.ref b35), .val (.ref b40), .unset, .unset] [(.long (((((p4.toInt64) <<< ((p5 &&& (31 : Int32)) &&& 0x3f).toInt64) + (p1.toInt64)) + (p2.toInt64)) + (p3.toInt64)))]))
    refine own_via (fun t k => XS.lstore X62.here hx rfl (hb hby at_124) rfl (l' := #[.val (.int p1), .val (.int p2), .val (.int p3), .val (.int p4), .val (.int p5), .val (.int (p5 &&& (31 : Int32))), .val (.int (1 : Int32)), .val (.long ((p4.toInt64) <<< ((p5 &&& (31 : Int32)) &&& 0x3f).toInt64)), .second, .val (.ref b35), .val (.ref b40), .val (.long (((((p4.toInt64) <<< ((p5 &&& (31 : Int32)) &&& 0x3f).toInt64) + (p1.toInt64)) + (p2.toInt64)) + (p3.toInt64))), .second]) rfl k) ?_
    show own_G p e below _ (T62.setTop (mkF m 126 #[.val (.int p1), .val (.int p2), .val (.int p3), .val (.int p4), .val (.int p5), .val (.int (p5 &&& (31 : Int32))), .val (.int (1 : Int32)), .val (.long ((p4.toInt64) <<< ((p5 &&& (31 : Int32)) &&& 0x3f).toInt64)), .second, .val (.ref b35), .val (.ref b40), .val (.long (((((p4.toInt64) <<< ((p5 &&& (31 : Int32)) &&& 0x3f).toInt64) + (p1.toInt64)) + (p2.toInt64)) + (p3.toInt64))), .second] []))
    refine own_via (fun t k => XS.aload X62.here hx rfl (hb hby at_126) rfl rfl k) ?_
    show own_G p e below _ (T62.setTop (mkF m 128 #[.val (.int p1), .val (.int p2), .val (.int p3), .val (.int p4), .val (.int p5), .val (.int (p5 &&& (31 : Int32))), .val (.int (1 : Int32)), .val (.long ((p4.toInt64) <<< ((p5 &&& (31 : Int32)) &&& 0x3f).toInt64)), .second, .val (.ref b35), .val (.ref b40), .val (.long (((((p4.toInt64) <<< ((p5 &&& (31 : Int32)) &&& 0x3f).toInt64) + (p1.toInt64)) + (p2.toInt64)) + (p3.toInt64))), .second] [(.ref b40)]))
    obtain ⟨cq67, kq67, q67a, q67b, q67c⟩ := isOf hZ rfl E62q
    obtain ⟨_, _, ⟨T67, L67, k67, n67⟩, -, X67, ⟨Lc67, hQ67, l67, y67, z67⟩, st67⟩ := X62.virtualBack hx (y := (⟨"com/example/fee_simple/feesimple/CompensatedSum", "value", "()D"⟩ : MethodName)) (z := (⟨"com/example/fee_simple/feesimple/CompensatedSum", "value", "()D"⟩ : MethodName)) hown (mvT hZ (hw _ (List.mem_of_getElem? (i := 19) rfl))) (mvT hZ (hw _ (List.mem_of_getElem? (i := 20) rfl))) (notFace_of_selects (args := #[]) (mvT hZ (hw _ (List.mem_of_getElem? (i := 22) rfl)))) (mvT hZ (hw _ (List.mem_of_getElem? (i := 22) rfl))) (mvT hZ (hw _ (List.mem_of_getElem? (i := 21) rfl))) (by decide) (backOf (W := 0) (rm4 l Z a0 hw [] b40 (own_t (own_t (own_t (own_t (0 : UInt64) (FP.i2d p3)) (FP.l2d ((p4.toInt64) <<< ((p5 &&& (31 : Int32)) &&& 0x3f).toInt64))) (FP.i2d p1)) (FP.i2d p2)) (own_k (own_t (own_t (own_t (0 : UInt64) (FP.i2d p3)) (FP.l2d ((p4.toInt64) <<< ((p5 &&& (31 : Int32)) &&& 0x3f).toInt64))) (FP.i2d p1)) (FP.i2d p2) (own_k (own_t (own_t (0 : UInt64) (FP.i2d p3)) (FP.l2d ((p4.toInt64) <<< ((p5 &&& (31 : Int32)) &&& 0x3f).toInt64))) (FP.i2d p1) (own_k (own_t (0 : UInt64) (FP.i2d p3)) (FP.l2d ((p4.toInt64) <<< ((p5 &&& (31 : Int32)) &&& 0x3f).toInt64)) (own_k (0 : UInt64) (FP.i2d p3) (0 : UInt64))))) T62.heap n0 Z62 Ft62 Fc62 nv) hZ (hw _ (List.mem_of_getElem? (i := 23) rfl)) (hw _ (List.mem_of_getElem? (i := 3) rfl)) (by decide) (by decide)) q67a q67c (g := (mkF m 128 #[.val (.int p1), .val (.int p2), .val (.int p3), .val (.int p4), .val (.int p5), .val (.int (p5 &&& (31 : Int32))), .val (.int (1 : Int32)), .val (.long ((p4.toInt64) <<< ((p5 &&& (31 : Int32)) &&& 0x3f).toInt64)), .second, .val (.ref b35), .val (.ref b40), .val (.long (((((p4.toInt64) <<< ((p5 &&& (31 : Int32)) &&& 0x3f).toInt64) + (p1.toInt64)) + (p2.toInt64)) + (p3.toInt64))), .second] [(.ref b40)])) rfl (by rw [hml]; rfl) (Steps.refl _) (argsL := []) (rest := []) (lenOf pd_rm0_2 rfl) rfl (by show 2 * 0 + _ ≤ _; exact Nat.le_of_eq rfl) (hb hby at_128) (fun _ _ => ⟨rfl, rfl, (by decide : 2 + 0 ≤ _), (by decide : 6 + 0 ≤ _)⟩)
    dsimp only [Pt.U, Pt.locs, Pt.cells, Pt.slots] at X67 l67 y67 z67 st67 hQ67
    subst l67 y67 z67
    obtain ⟨rfl, N67q, e67⟩ := hQ67
    have N67 := Fr.app N62 N67q
    refine own_via (fun t k => st67.trans k) ?_
    show own_G p e below _ (T67.setTop (mkF m 131 #[.val (.int p1), .val (.int p2), .val (.int p3), .val (.int p4), .val (.int p5), .val (.int (p5 &&& (31 : Int32))), .val (.int (1 : Int32)), .val (.long ((p4.toInt64) <<< ((p5 &&& (31 : Int32)) &&& 0x3f).toInt64)), .second, .val (.ref b35), .val (.ref b40), .val (.long (((((p4.toInt64) <<< ((p5 &&& (31 : Int32)) &&& 0x3f).toInt64) + (p1.toInt64)) + (p2.toInt64)) + (p3.toInt64))), .second] [(.double (FP.dadd (own_t (own_t (own_t (own_t (0 : UInt64) (FP.i2d p3)) (FP.l2d ((p4.toInt64) <<< ((p5 &&& (31 : Int32)) &&& 0x3f).toInt64))) (FP.i2d p1)) (FP.i2d p2)) (own_k (own_t (own_t (own_t (0 : UInt64) (FP.i2d p3)) (FP.l2d ((p4.toInt64) <<< ((p5 &&& (31 : Int32)) &&& 0x3f).toInt64))) (FP.i2d p1)) (FP.i2d p2) (own_k (own_t (own_t (0 : UInt64) (FP.i2d p3)) (FP.l2d ((p4.toInt64) <<< ((p5 &&& (31 : Int32)) &&& 0x3f).toInt64))) (FP.i2d p1) (own_k (own_t (0 : UInt64) (FP.i2d p3)) (FP.l2d ((p4.toInt64) <<< ((p5 &&& (31 : Int32)) &&& 0x3f).toInt64)) (own_k (0 : UInt64) (FP.i2d p3) (0 : UInt64)))))))]))
    refine own_via (fun t k => XS.lload X67.here hx rfl (hb hby at_131) rfl k) ?_
    show own_G p e below _ (T67.setTop (mkF m 133 #[.val (.int p1), .val (.int p2), .val (.int p3), .val (.int p4), .val (.int p5), .val (.int (p5 &&& (31 : Int32))), .val (.int (1 : Int32)), .val (.long ((p4.toInt64) <<< ((p5 &&& (31 : Int32)) &&& 0x3f).toInt64)), .second, .val (.ref b35), .val (.ref b40), .val (.long (((((p4.toInt64) <<< ((p5 &&& (31 : Int32)) &&& 0x3f).toInt64) + (p1.toInt64)) + (p2.toInt64)) + (p3.toInt64))), .second] [(.long (((((p4.toInt64) <<< ((p5 &&& (31 : Int32)) &&& 0x3f).toInt64) + (p1.toInt64)) + (p2.toInt64)) + (p3.toInt64))), (.double (FP.dadd (own_t (own_t (own_t (own_t (0 : UInt64) (FP.i2d p3)) (FP.l2d ((p4.toInt64) <<< ((p5 &&& (31 : Int32)) &&& 0x3f).toInt64))) (FP.i2d p1)) (FP.i2d p2)) (own_k (own_t (own_t (own_t (0 : UInt64) (FP.i2d p3)) (FP.l2d ((p4.toInt64) <<< ((p5 &&& (31 : Int32)) &&& 0x3f).toInt64))) (FP.i2d p1)) (FP.i2d p2) (own_k (own_t (own_t (0 : UInt64) (FP.i2d p3)) (FP.l2d ((p4.toInt64) <<< ((p5 &&& (31 : Int32)) &&& 0x3f).toInt64))) (FP.i2d p1) (own_k (own_t (0 : UInt64) (FP.i2d p3)) (FP.l2d ((p4.toInt64) <<< ((p5 &&& (31 : Int32)) &&& 0x3f).toInt64)) (own_k (0 : UInt64) (FP.i2d p3) (0 : UInt64)))))))]))
    refine own_via (fun t k => XS.l2dS X67.here hx rfl (hb hby at_133) rfl rfl k) ?_
    show own_G p e below _ (T67.setTop (mkF m 134 #[.val (.int p1), .val (.int p2), .val (.int p3), .val (.int p4), .val (.int p5), .val (.int (p5 &&& (31 : Int32))), .val (.int (1 : Int32)), .val (.long ((p4.toInt64) <<< ((p5 &&& (31 : Int32)) &&& 0x3f).toInt64)), .second, .val (.ref b35), .val (.ref b40), .val (.long (((((p4.toInt64) <<< ((p5 &&& (31 : Int32)) &&& 0x3f).toInt64) + (p1.toInt64)) + (p2.toInt64)) + (p3.toInt64))), .second] [(.double (FP.l2d (((((p4.toInt64) <<< ((p5 &&& (31 : Int32)) &&& 0x3f).toInt64) + (p1.toInt64)) + (p2.toInt64)) + (p3.toInt64)))), (.double (FP.dadd (own_t (own_t (own_t (own_t (0 : UInt64) (FP.i2d p3)) (FP.l2d ((p4.toInt64) <<< ((p5 &&& (31 : Int32)) &&& 0x3f).toInt64))) (FP.i2d p1)) (FP.i2d p2)) (own_k (own_t (own_t (own_t (0 : UInt64) (FP.i2d p3)) (FP.l2d ((p4.toInt64) <<< ((p5 &&& (31 : Int32)) &&& 0x3f).toInt64))) (FP.i2d p1)) (FP.i2d p2) (own_k (own_t (own_t (0 : UInt64) (FP.i2d p3)) (FP.l2d ((p4.toInt64) <<< ((p5 &&& (31 : Int32)) &&& 0x3f).toInt64))) (FP.i2d p1) (own_k (own_t (0 : UInt64) (FP.i2d p3)) (FP.l2d ((p4.toInt64) <<< ((p5 &&& (31 : Int32)) &&& 0x3f).toInt64)) (own_k (0 : UInt64) (FP.i2d p3) (0 : UInt64)))))))]))
    refine own_via (fun t k => XS.dcmpS X67.here hx rfl (hb hby at_134) rfl (by rw [show FP.dcmp _ _ = some .eq from hcmp] <;> rfl) k) ?_
    show own_G p e below _ (T67.setTop (mkF m 135 #[.val (.int p1), .val (.int p2), .val (.int p3), .val (.int p4), .val (.int p5), .val (.int (p5 &&& (31 : Int32))), .val (.int (1 : Int32)), .val (.long ((p4.toInt64) <<< ((p5 &&& (31 : Int32)) &&& 0x3f).toInt64)), .second, .val (.ref b35), .val (.ref b40), .val (.long (((((p4.toInt64) <<< ((p5 &&& (31 : Int32)) &&& 0x3f).toInt64) + (p1.toInt64)) + (p2.toInt64)) + (p3.toInt64))), .second] [(.int (0 : Int32))]))
    refine own_via (fun t k => XS.ifNo X67.here hx rfl (hb hby at_135) rfl ((if0 _ _).trans (teq (by decide : (0 : Int32) = (0 : Int32))).2) k) ?_
    show own_G p e below _ (T67.setTop (mkF m 138 #[.val (.int p1), .val (.int p2), .val (.int p3), .val (.int p4), .val (.int p5), .val (.int (p5 &&& (31 : Int32))), .val (.int (1 : Int32)), .val (.long ((p4.toInt64) <<< ((p5 &&& (31 : Int32)) &&& 0x3f).toInt64)), .second, .val (.ref b35), .val (.ref b40), .val (.long (((((p4.toInt64) <<< ((p5 &&& (31 : Int32)) &&& 0x3f).toInt64) + (p1.toInt64)) + (p2.toInt64)) + (p3.toInt64))), .second] []))
    refine own_via (fun t k => XS.iconst X67.here hx rfl (hb hby at_138) k) ?_
    show own_G p e below _ (T67.setTop (mkF m 139 #[.val (.int p1), .val (.int p2), .val (.int p3), .val (.int p4), .val (.int p5), .val (.int (p5 &&& (31 : Int32))), .val (.int (1 : Int32)), .val (.long ((p4.toInt64) <<< ((p5 &&& (31 : Int32)) &&& 0x3f).toInt64)), .second, .val (.ref b35), .val (.ref b40), .val (.long (((((p4.toInt64) <<< ((p5 &&& (31 : Int32)) &&& 0x3f).toInt64) + (p1.toInt64)) + (p2.toInt64)) + (p3.toInt64))), .second] [(.int (1 : Int32))]))
    refine own_via (fun t k => XS.goto X67.here hx rfl (pc0 := 139) (pc' := 143) rfl (hb hby at_139) (by decide) (by decide) k) ?_
    show own_G p e below _ (T67.setTop (mkF m 143 #[.val (.int p1), .val (.int p2), .val (.int p3), .val (.int p4), .val (.int p5), .val (.int (p5 &&& (31 : Int32))), .val (.int (1 : Int32)), .val (.long ((p4.toInt64) <<< ((p5 &&& (31 : Int32)) &&& 0x3f).toInt64)), .second, .val (.ref b35), .val (.ref b40), .val (.long (((((p4.toInt64) <<< ((p5 &&& (31 : Int32)) &&& 0x3f).toInt64) + (p1.toInt64)) + (p2.toInt64)) + (p3.toInt64))), .second] [(.int (1 : Int32))]))
    obtain ⟨fs, hr, hrun, hended, hW, hsame⟩ := X67.leave (v := some (.int (1 : Int32))) (fun h => by rw [Bd.returns] at h; cases h)
    refine ⟨_, _, retN X67 hx (t := .boolean) Bd.returns (by simp) (hb hby at_143) hr, hrun, hended, _, _, rfl, ?_, ⟨_, rfl⟩, hW, hsame.mono (by decide) (by decide)⟩
    show rm0_Q Z p1 p2 p3 p4 p5 h0 n0 _ T67.heap _
    rw [e67]
    exact ⟨rfl, N67⟩
  · rw [hk]
    obtain ⟨ok0, ok1, ok2, ok3, nv, hcmp⟩ := own_four (own_i2d p2) (own_i2d p3) (own_bigD p4 p5).1 (own_i2d p1) (Nat.le_trans (own_abs31 p2) (by decide)) (Nat.le_trans (own_abs31 p3) (by decide)) (own_bigD p4 p5).2 (Nat.le_trans (own_abs31 p1) (by decide)) (Or.inr (Or.inr (Or.inl ⟨own_abs31 p2, own_abs31 p3, own_abs31 p1⟩))) (S := ((((p4.toInt64 <<< ((p5 &&& (31 : Int32)) &&& 0x3f).toInt64) + p1.toInt64) + p2.toInt64) + p3.toInt64)) (by rw [own_exact p4 p5 p1 p2 p3] <;> omega)
    show own_G p e below _ (s₁.setTop (mkF m 13 #[.val (.int p1), .val (.int p2), .val (.int p3), .val (.int p4), .val (.int p5), .val (.int (p5 &&& (31 : Int32))), .unset, .unset, .unset, .unset, .unset, .unset, .unset] [(.int (2 : Int32))]))
    refine own_via (fun t k => XS.istore X0.here hx rfl (hb hby at_13) rfl (l' := #[.val (.int p1), .val (.int p2), .val (.int p3), .val (.int p4), .val (.int p5), .val (.int (p5 &&& (31 : Int32))), .val (.int (2 : Int32)), .unset, .unset, .unset, .unset, .unset, .unset]) rfl k) ?_
    show own_G p e below _ (s₁.setTop (mkF m 15 #[.val (.int p1), .val (.int p2), .val (.int p3), .val (.int p4), .val (.int p5), .val (.int (p5 &&& (31 : Int32))), .val (.int (2 : Int32)), .unset, .unset, .unset, .unset, .unset, .unset] []))
    refine own_via (fun t k => XS.iloadN X0.here hx rfl (hb hby at_15) rfl k) ?_
    show own_G p e below _ (s₁.setTop (mkF m 16 #[.val (.int p1), .val (.int p2), .val (.int p3), .val (.int p4), .val (.int p5), .val (.int (p5 &&& (31 : Int32))), .val (.int (2 : Int32)), .unset, .unset, .unset, .unset, .unset, .unset] [(.int p4)]))
    refine own_via (fun t k => XS.i2l X0.here hx rfl (hb hby at_16) rfl k) ?_
    show own_G p e below _ (s₁.setTop (mkF m 17 #[.val (.int p1), .val (.int p2), .val (.int p3), .val (.int p4), .val (.int p5), .val (.int (p5 &&& (31 : Int32))), .val (.int (2 : Int32)), .unset, .unset, .unset, .unset, .unset, .unset] [(.long (p4.toInt64))]))
    refine own_via (fun t k => XS.iload X0.here hx rfl (hb hby at_17) rfl k) ?_
    show own_G p e below _ (s₁.setTop (mkF m 19 #[.val (.int p1), .val (.int p2), .val (.int p3), .val (.int p4), .val (.int p5), .val (.int (p5 &&& (31 : Int32))), .val (.int (2 : Int32)), .unset, .unset, .unset, .unset, .unset, .unset] [(.int (p5 &&& (31 : Int32))), (.long (p4.toInt64))]))
    refine own_via (fun t k => XS.lshl X0.here hx rfl (hb hby at_19) rfl k) ?_
    show own_G p e below _ (s₁.setTop (mkF m 20 #[.val (.int p1), .val (.int p2), .val (.int p3), .val (.int p4), .val (.int p5), .val (.int (p5 &&& (31 : Int32))), .val (.int (2 : Int32)), .unset, .unset, .unset, .unset, .unset, .unset] [(.long ((p4.toInt64) <<< ((p5 &&& (31 : Int32)) &&& 0x3f).toInt64))]))
    refine own_via (fun t k => XS.lstore X0.here hx rfl (hb hby at_20) rfl (l' := #[.val (.int p1), .val (.int p2), .val (.int p3), .val (.int p4), .val (.int p5), .val (.int (p5 &&& (31 : Int32))), .val (.int (2 : Int32)), .val (.long ((p4.toInt64) <<< ((p5 &&& (31 : Int32)) &&& 0x3f).toInt64)), .second, .unset, .unset, .unset, .unset]) rfl k) ?_
    show own_G p e below _ (s₁.setTop (mkF m 22 #[.val (.int p1), .val (.int p2), .val (.int p3), .val (.int p4), .val (.int p5), .val (.int (p5 &&& (31 : Int32))), .val (.int (2 : Int32)), .val (.long ((p4.toInt64) <<< ((p5 &&& (31 : Int32)) &&& 0x3f).toInt64)), .second, .unset, .unset, .unset, .unset] []))
    refine own_via (fun t k => XS.iconst X0.here hx rfl (hb hby at_22) k) ?_
    show own_G p e below _ (s₁.setTop (mkF m 23 #[.val (.int p1), .val (.int p2), .val (.int p3), .val (.int p4), .val (.int p5), .val (.int (p5 &&& (31 : Int32))), .val (.int (2 : Int32)), .val (.long ((p4.toInt64) <<< ((p5 &&& (31 : Int32)) &&& 0x3f).toInt64)), .second, .unset, .unset, .unset, .unset] [(.int (4 : Int32))]))
    obtain ⟨T69, h69, k69, X69, e69, E69, A69, st69⟩ := newP X0 hx hZ (hw _ (List.mem_of_getElem? (i := 0) rfl)) e0 (g := (mkF m 23 #[.val (.int p1), .val (.int p2), .val (.int p3), .val (.int p4), .val (.int p5), .val (.int (p5 &&& (31 : Int32))), .val (.int (2 : Int32)), .val (.long ((p4.toInt64) <<< ((p5 &&& (31 : Int32)) &&& 0x3f).toInt64)), .second, .unset, .unset, .unset, .unset] [(.int (4 : Int32))])) rfl (hb hby at_23) rfl (by decide) (cap := 4) (by decide) (by decide) (by decide) (by decide)
    obtain ⟨b69, g69⟩ : ∃ z, z = h0.size := ⟨_, rfl⟩
    rw [← g69] at A69 st69
    have gx_b69 : n0 ≤ b69 := Nat.le_trans Z0 (Nat.le_of_eq g69.symm)
    have Z69 : n0 ≤ h69.size := Nat.le_trans Z0 E69.1
    have V69 : Arv Z h69 b69 k69 .double (4 : Int32) [(.double (0 : UInt64)), (.double (0 : UInt64)), (.double (0 : UInt64)), (.double (0 : UInt64))] (.double (0 : UInt64)) := (Arv.new A69 (by decide)).pad (pad_rep [] (.double (0 : UInt64)) 4)
    refine own_via st69 ?_
    show own_G p e below _ (T69.setTop (mkF m 25 #[.val (.int p1), .val (.int p2), .val (.int p3), .val (.int p4), .val (.int p5), .val (.int (p5 &&& (31 : Int32))), .val (.int (2 : Int32)), .val (.long ((p4.toInt64) <<< ((p5 &&& (31 : Int32)) &&& 0x3f).toInt64)), .second, .unset, .unset, .unset, .unset] [(.ref b69)]))
    refine own_via (fun t k => XS.astore X69.here hx rfl (hb hby at_25) rfl rfl (l' := #[.val (.int p1), .val (.int p2), .val (.int p3), .val (.int p4), .val (.int p5), .val (.int (p5 &&& (31 : Int32))), .val (.int (2 : Int32)), .val (.long ((p4.toInt64) <<< ((p5 &&& (31 : Int32)) &&& 0x3f).toInt64)), .second, .val (.ref b69), .unset, .unset, .unset]) rfl k) ?_
    show own_G p e below _ (T69.setTop (mkF m 27 #[.val (.int p1), .val (.int p2), .val (.int p3), .val (.int p4), .val (.int p5), .val (.int (p5 &&& (31 : Int32))), .val (.int (2 : Int32)), .val (.long ((p4.toInt64) <<< ((p5 &&& (31 : Int32)) &&& 0x3f).toInt64)), .second, .val (.ref b69), .unset, .unset, .unset] []))
    refine own_via (fun t k => XS.aload X69.here hx rfl (hb hby at_27) rfl rfl k) ?_
    show own_G p e below _ (T69.setTop (mkF m 29 #[.val (.int p1), .val (.int p2), .val (.int p3), .val (.int p4), .val (.int p5), .val (.int (p5 &&& (31 : Int32))), .val (.int (2 : Int32)), .val (.long ((p4.toInt64) <<< ((p5 &&& (31 : Int32)) &&& 0x3f).toInt64)), .second, .val (.ref b69), .unset, .unset, .unset] [(.ref b69)]))
    refine own_via (fun t k => XS.iload X69.here hx rfl (hb hby at_29) rfl k) ?_
    show own_G p e below _ (T69.setTop (mkF m 31 #[.val (.int p1), .val (.int p2), .val (.int p3), .val (.int p4), .val (.int p5), .val (.int (p5 &&& (31 : Int32))), .val (.int (2 : Int32)), .val (.long ((p4.toInt64) <<< ((p5 &&& (31 : Int32)) &&& 0x3f).toInt64)), .second, .val (.ref b69), .unset, .unset, .unset] [(.int (2 : Int32)), (.ref b69)]))
    refine own_via (fun t k => XS.lload X69.here hx rfl (hb hby at_31) rfl k) ?_
    show own_G p e below _ (T69.setTop (mkF m 33 #[.val (.int p1), .val (.int p2), .val (.int p3), .val (.int p4), .val (.int p5), .val (.int (p5 &&& (31 : Int32))), .val (.int (2 : Int32)), .val (.long ((p4.toInt64) <<< ((p5 &&& (31 : Int32)) &&& 0x3f).toInt64)), .second, .val (.ref b69), .unset, .unset, .unset] [(.long ((p4.toInt64) <<< ((p5 &&& (31 : Int32)) &&& 0x3f).toInt64)), (.int (2 : Int32)), (.ref b69)]))
    refine own_via (fun t k => XS.l2dS X69.here hx rfl (hb hby at_33) rfl rfl k) ?_
    show own_G p e below _ (T69.setTop (mkF m 34 #[.val (.int p1), .val (.int p2), .val (.int p3), .val (.int p4), .val (.int p5), .val (.int (p5 &&& (31 : Int32))), .val (.int (2 : Int32)), .val (.long ((p4.toInt64) <<< ((p5 &&& (31 : Int32)) &&& 0x3f).toInt64)), .second, .val (.ref b69), .unset, .unset, .unset] [(.double (FP.l2d ((p4.toInt64) <<< ((p5 &&& (31 : Int32)) &&& 0x3f).toInt64))), (.int (2 : Int32)), (.ref b69)]))
    obtain ⟨cl70, Ar70, q70, S70, Ng70, Hs70, G70⟩ := id V69
    have hin70 : ¬ ((2 : Int32) < 0 ∨ cl70.slots.size ≤ ((2 : Int32)).toNatClampNeg) := inb_of S70 ⟨by decide, by decide⟩
    obtain ⟨T70, h70, X70, e70, W70, st70⟩ := stD X69 hx hZ e69 Ar70 (j := (2 : Int32)) hin70 (g := (mkF m 34 #[.val (.int p1), .val (.int p2), .val (.int p3), .val (.int p4), .val (.int p5), .val (.int (p5 &&& (31 : Int32))), .val (.int (2 : Int32)), .val (.long ((p4.toInt64) <<< ((p5 &&& (31 : Int32)) &&& 0x3f).toInt64)), .second, .val (.ref b69), .unset, .unset, .unset] [(.double (FP.l2d ((p4.toInt64) <<< ((p5 &&& (31 : Int32)) &&& 0x3f).toInt64))), (.int (2 : Int32)), (.ref b69)])) rfl rfl (hb hby at_34)
    have V70 : Arv Z h70 b69 k69 .double (4 : Int32) [(.double (0 : UInt64)), (.double (0 : UInt64)), (.double (FP.l2d ((p4.toInt64) <<< ((p5 &&& (31 : Int32)) &&& 0x3f).toInt64))), (.double (0 : UInt64))] (.double (0 : UInt64)) := Arv.set Ar70 q70 S70 Ng70 Hs70 G70 rfl W70 2 rfl (Nat.le_of_ble_eq_true rfl)
    have N70 := Fr.snoc X70 N0 gx_b69
    have Z70 : n0 ≤ h70.size := Nat.le_trans Z69 (Nat.le_of_eq W70.size.symm)
    refine own_via st70 ?_
    show own_G p e below _ (T70.setTop (mkF m 35 #[.val (.int p1), .val (.int p2), .val (.int p3), .val (.int p4), .val (.int p5), .val (.int (p5 &&& (31 : Int32))), .val (.int (2 : Int32)), .val (.long ((p4.toInt64) <<< ((p5 &&& (31 : Int32)) &&& 0x3f).toInt64)), .second, .val (.ref b69), .unset, .unset, .unset] []))
    refine own_via (fun t k => XS.aload X70.here hx rfl (hb hby at_35) rfl rfl k) ?_
    show own_G p e below _ (T70.setTop (mkF m 37 #[.val (.int p1), .val (.int p2), .val (.int p3), .val (.int p4), .val (.int p5), .val (.int (p5 &&& (31 : Int32))), .val (.int (2 : Int32)), .val (.long ((p4.toInt64) <<< ((p5 &&& (31 : Int32)) &&& 0x3f).toInt64)), .second, .val (.ref b69), .unset, .unset, .unset] [(.ref b69)]))
    refine own_via (fun t k => XS.iload X70.here hx rfl (hb hby at_37) rfl k) ?_
    show own_G p e below _ (T70.setTop (mkF m 39 #[.val (.int p1), .val (.int p2), .val (.int p3), .val (.int p4), .val (.int p5), .val (.int (p5 &&& (31 : Int32))), .val (.int (2 : Int32)), .val (.long ((p4.toInt64) <<< ((p5 &&& (31 : Int32)) &&& 0x3f).toInt64)), .second, .val (.ref b69), .unset, .unset, .unset] [(.int (2 : Int32)), (.ref b69)]))
    refine own_via (fun t k => XS.iconst X70.here hx rfl (hb hby at_39) k) ?_
    show own_G p e below _ (T70.setTop (mkF m 40 #[.val (.int p1), .val (.int p2), .val (.int p3), .val (.int p4), .val (.int p5), .val (.int (p5 &&& (31 : Int32))), .val (.int (2 : Int32)), .val (.long ((p4.toInt64) <<< ((p5 &&& (31 : Int32)) &&& 0x3f).toInt64)), .second, .val (.ref b69), .unset, .unset, .unset] [(.int (1 : Int32)), (.int (2 : Int32)), (.ref b69)]))
    refine own_via (fun t k => XS.iadd X70.here hx rfl (hb hby at_40) rfl k) ?_
    show own_G p e below _ (T70.setTop (mkF m 41 #[.val (.int p1), .val (.int p2), .val (.int p3), .val (.int p4), .val (.int p5), .val (.int (p5 &&& (31 : Int32))), .val (.int (2 : Int32)), .val (.long ((p4.toInt64) <<< ((p5 &&& (31 : Int32)) &&& 0x3f).toInt64)), .second, .val (.ref b69), .unset, .unset, .unset] [(.int (3 : Int32)), (.ref b69)]))
    refine own_via (fun t k => XS.iconst X70.here hx rfl (hb hby at_41) k) ?_
    show own_G p e below _ (T70.setTop (mkF m 42 #[.val (.int p1), .val (.int p2), .val (.int p3), .val (.int p4), .val (.int p5), .val (.int (p5 &&& (31 : Int32))), .val (.int (2 : Int32)), .val (.long ((p4.toInt64) <<< ((p5 &&& (31 : Int32)) &&& 0x3f).toInt64)), .second, .val (.ref b69), .unset, .unset, .unset] [(.int (3 : Int32)), (.int (3 : Int32)), (.ref b69)]))
    refine own_via (fun t k => XS.iand X70.here hx rfl (hb hby at_42) rfl k) ?_
    show own_G p e below _ (T70.setTop (mkF m 43 #[.val (.int p1), .val (.int p2), .val (.int p3), .val (.int p4), .val (.int p5), .val (.int (p5 &&& (31 : Int32))), .val (.int (2 : Int32)), .val (.long ((p4.toInt64) <<< ((p5 &&& (31 : Int32)) &&& 0x3f).toInt64)), .second, .val (.ref b69), .unset, .unset, .unset] [(.int (3 : Int32)), (.ref b69)]))
    refine own_via (fun t k => XS.iloadN X70.here hx rfl (hb hby at_43) rfl k) ?_
    show own_G p e below _ (T70.setTop (mkF m 44 #[.val (.int p1), .val (.int p2), .val (.int p3), .val (.int p4), .val (.int p5), .val (.int (p5 &&& (31 : Int32))), .val (.int (2 : Int32)), .val (.long ((p4.toInt64) <<< ((p5 &&& (31 : Int32)) &&& 0x3f).toInt64)), .second, .val (.ref b69), .unset, .unset, .unset] [(.int p1), (.int (3 : Int32)), (.ref b69)]))
    refine own_via (fun t k => XS.i2dS X70.here hx rfl (hb hby at_44) rfl rfl k) ?_
    show own_G p e below _ (T70.setTop (mkF m 45 #[.val (.int p1), .val (.int p2), .val (.int p3), .val (.int p4), .val (.int p5), .val (.int (p5 &&& (31 : Int32))), .val (.int (2 : Int32)), .val (.long ((p4.toInt64) <<< ((p5 &&& (31 : Int32)) &&& 0x3f).toInt64)), .second, .val (.ref b69), .unset, .unset, .unset] [(.double (FP.i2d p1)), (.int (3 : Int32)), (.ref b69)]))
    obtain ⟨cl71, Ar71, q71, S71, Ng71, Hs71, G71⟩ := id V70
    have hin71 : ¬ ((3 : Int32) < 0 ∨ cl71.slots.size ≤ ((3 : Int32)).toNatClampNeg) := inb_of S71 ⟨by decide, by decide⟩
    obtain ⟨T71, h71, X71, e71, W71, st71⟩ := stD X70 hx hZ e70 Ar71 (j := (3 : Int32)) hin71 (g := (mkF m 45 #[.val (.int p1), .val (.int p2), .val (.int p3), .val (.int p4), .val (.int p5), .val (.int (p5 &&& (31 : Int32))), .val (.int (2 : Int32)), .val (.long ((p4.toInt64) <<< ((p5 &&& (31 : Int32)) &&& 0x3f).toInt64)), .second, .val (.ref b69), .unset, .unset, .unset] [(.double (FP.i2d p1)), (.int (3 : Int32)), (.ref b69)])) rfl rfl (hb hby at_45)
    have V71 : Arv Z h71 b69 k69 .double (4 : Int32) [(.double (0 : UInt64)), (.double (0 : UInt64)), (.double (FP.l2d ((p4.toInt64) <<< ((p5 &&& (31 : Int32)) &&& 0x3f).toInt64))), (.double (FP.i2d p1))] (.double (0 : UInt64)) := Arv.set Ar71 q71 S71 Ng71 Hs71 G71 rfl W71 3 rfl (Nat.le_of_ble_eq_true rfl)
    have N71 := Fr.snoc X71 N70 gx_b69
    have Z71 : n0 ≤ h71.size := Nat.le_trans Z70 (Nat.le_of_eq W71.size.symm)
    refine own_via st71 ?_
    show own_G p e below _ (T71.setTop (mkF m 46 #[.val (.int p1), .val (.int p2), .val (.int p3), .val (.int p4), .val (.int p5), .val (.int (p5 &&& (31 : Int32))), .val (.int (2 : Int32)), .val (.long ((p4.toInt64) <<< ((p5 &&& (31 : Int32)) &&& 0x3f).toInt64)), .second, .val (.ref b69), .unset, .unset, .unset] []))
    refine own_via (fun t k => XS.aload X71.here hx rfl (hb hby at_46) rfl rfl k) ?_
    show own_G p e below _ (T71.setTop (mkF m 48 #[.val (.int p1), .val (.int p2), .val (.int p3), .val (.int p4), .val (.int p5), .val (.int (p5 &&& (31 : Int32))), .val (.int (2 : Int32)), .val (.long ((p4.toInt64) <<< ((p5 &&& (31 : Int32)) &&& 0x3f).toInt64)), .second, .val (.ref b69), .unset, .unset, .unset] [(.ref b69)]))
    refine own_via (fun t k => XS.iload X71.here hx rfl (hb hby at_48) rfl k) ?_
    show own_G p e below _ (T71.setTop (mkF m 50 #[.val (.int p1), .val (.int p2), .val (.int p3), .val (.int p4), .val (.int p5), .val (.int (p5 &&& (31 : Int32))), .val (.int (2 : Int32)), .val (.long ((p4.toInt64) <<< ((p5 &&& (31 : Int32)) &&& 0x3f).toInt64)), .second, .val (.ref b69), .unset, .unset, .unset] [(.int (2 : Int32)), (.ref b69)]))
    refine own_via (fun t k => XS.iconst X71.here hx rfl (hb hby at_50) k) ?_
    show own_G p e below _ (T71.setTop (mkF m 51 #[.val (.int p1), .val (.int p2), .val (.int p3), .val (.int p4), .val (.int p5), .val (.int (p5 &&& (31 : Int32))), .val (.int (2 : Int32)), .val (.long ((p4.toInt64) <<< ((p5 &&& (31 : Int32)) &&& 0x3f).toInt64)), .second, .val (.ref b69), .unset, .unset, .unset] [(.int (2 : Int32)), (.int (2 : Int32)), (.ref b69)]))
    refine own_via (fun t k => XS.iadd X71.here hx rfl (hb hby at_51) rfl k) ?_
    show own_G p e below _ (T71.setTop (mkF m 52 #[.val (.int p1), .val (.int p2), .val (.int p3), .val (.int p4), .val (.int p5), .val (.int (p5 &&& (31 : Int32))), .val (.int (2 : Int32)), .val (.long ((p4.toInt64) <<< ((p5 &&& (31 : Int32)) &&& 0x3f).toInt64)), .second, .val (.ref b69), .unset, .unset, .unset] [(.int (4 : Int32)), (.ref b69)]))
    refine own_via (fun t k => XS.iconst X71.here hx rfl (hb hby at_52) k) ?_
    show own_G p e below _ (T71.setTop (mkF m 53 #[.val (.int p1), .val (.int p2), .val (.int p3), .val (.int p4), .val (.int p5), .val (.int (p5 &&& (31 : Int32))), .val (.int (2 : Int32)), .val (.long ((p4.toInt64) <<< ((p5 &&& (31 : Int32)) &&& 0x3f).toInt64)), .second, .val (.ref b69), .unset, .unset, .unset] [(.int (3 : Int32)), (.int (4 : Int32)), (.ref b69)]))
    refine own_via (fun t k => XS.iand X71.here hx rfl (hb hby at_53) rfl k) ?_
    show own_G p e below _ (T71.setTop (mkF m 54 #[.val (.int p1), .val (.int p2), .val (.int p3), .val (.int p4), .val (.int p5), .val (.int (p5 &&& (31 : Int32))), .val (.int (2 : Int32)), .val (.long ((p4.toInt64) <<< ((p5 &&& (31 : Int32)) &&& 0x3f).toInt64)), .second, .val (.ref b69), .unset, .unset, .unset] [(.int (0 : Int32)), (.ref b69)]))
    refine own_via (fun t k => XS.iloadN X71.here hx rfl (hb hby at_54) rfl k) ?_
    show own_G p e below _ (T71.setTop (mkF m 55 #[.val (.int p1), .val (.int p2), .val (.int p3), .val (.int p4), .val (.int p5), .val (.int (p5 &&& (31 : Int32))), .val (.int (2 : Int32)), .val (.long ((p4.toInt64) <<< ((p5 &&& (31 : Int32)) &&& 0x3f).toInt64)), .second, .val (.ref b69), .unset, .unset, .unset] [(.int p2), (.int (0 : Int32)), (.ref b69)]))
    refine own_via (fun t k => XS.i2dS X71.here hx rfl (hb hby at_55) rfl rfl k) ?_
    show own_G p e below _ (T71.setTop (mkF m 56 #[.val (.int p1), .val (.int p2), .val (.int p3), .val (.int p4), .val (.int p5), .val (.int (p5 &&& (31 : Int32))), .val (.int (2 : Int32)), .val (.long ((p4.toInt64) <<< ((p5 &&& (31 : Int32)) &&& 0x3f).toInt64)), .second, .val (.ref b69), .unset, .unset, .unset] [(.double (FP.i2d p2)), (.int (0 : Int32)), (.ref b69)]))
    obtain ⟨cl72, Ar72, q72, S72, Ng72, Hs72, G72⟩ := id V71
    have hin72 : ¬ ((0 : Int32) < 0 ∨ cl72.slots.size ≤ ((0 : Int32)).toNatClampNeg) := inb_of S72 ⟨by decide, by decide⟩
    obtain ⟨T72, h72, X72, e72, W72, st72⟩ := stD X71 hx hZ e71 Ar72 (j := (0 : Int32)) hin72 (g := (mkF m 56 #[.val (.int p1), .val (.int p2), .val (.int p3), .val (.int p4), .val (.int p5), .val (.int (p5 &&& (31 : Int32))), .val (.int (2 : Int32)), .val (.long ((p4.toInt64) <<< ((p5 &&& (31 : Int32)) &&& 0x3f).toInt64)), .second, .val (.ref b69), .unset, .unset, .unset] [(.double (FP.i2d p2)), (.int (0 : Int32)), (.ref b69)])) rfl rfl (hb hby at_56)
    have V72 : Arv Z h72 b69 k69 .double (4 : Int32) [(.double (FP.i2d p2)), (.double (0 : UInt64)), (.double (FP.l2d ((p4.toInt64) <<< ((p5 &&& (31 : Int32)) &&& 0x3f).toInt64))), (.double (FP.i2d p1))] (.double (0 : UInt64)) := Arv.set Ar72 q72 S72 Ng72 Hs72 G72 rfl W72 0 rfl (Nat.le_of_ble_eq_true rfl)
    have N72 := Fr.snoc X72 N71 gx_b69
    have Z72 : n0 ≤ h72.size := Nat.le_trans Z71 (Nat.le_of_eq W72.size.symm)
    refine own_via st72 ?_
    show own_G p e below _ (T72.setTop (mkF m 57 #[.val (.int p1), .val (.int p2), .val (.int p3), .val (.int p4), .val (.int p5), .val (.int (p5 &&& (31 : Int32))), .val (.int (2 : Int32)), .val (.long ((p4.toInt64) <<< ((p5 &&& (31 : Int32)) &&& 0x3f).toInt64)), .second, .val (.ref b69), .unset, .unset, .unset] []))
    refine own_via (fun t k => XS.aload X72.here hx rfl (hb hby at_57) rfl rfl k) ?_
    show own_G p e below _ (T72.setTop (mkF m 59 #[.val (.int p1), .val (.int p2), .val (.int p3), .val (.int p4), .val (.int p5), .val (.int (p5 &&& (31 : Int32))), .val (.int (2 : Int32)), .val (.long ((p4.toInt64) <<< ((p5 &&& (31 : Int32)) &&& 0x3f).toInt64)), .second, .val (.ref b69), .unset, .unset, .unset] [(.ref b69)]))
    refine own_via (fun t k => XS.iload X72.here hx rfl (hb hby at_59) rfl k) ?_
    show own_G p e below _ (T72.setTop (mkF m 61 #[.val (.int p1), .val (.int p2), .val (.int p3), .val (.int p4), .val (.int p5), .val (.int (p5 &&& (31 : Int32))), .val (.int (2 : Int32)), .val (.long ((p4.toInt64) <<< ((p5 &&& (31 : Int32)) &&& 0x3f).toInt64)), .second, .val (.ref b69), .unset, .unset, .unset] [(.int (2 : Int32)), (.ref b69)]))
    refine own_via (fun t k => XS.iconst X72.here hx rfl (hb hby at_61) k) ?_
    show own_G p e below _ (T72.setTop (mkF m 62 #[.val (.int p1), .val (.int p2), .val (.int p3), .val (.int p4), .val (.int p5), .val (.int (p5 &&& (31 : Int32))), .val (.int (2 : Int32)), .val (.long ((p4.toInt64) <<< ((p5 &&& (31 : Int32)) &&& 0x3f).toInt64)), .second, .val (.ref b69), .unset, .unset, .unset] [(.int (3 : Int32)), (.int (2 : Int32)), (.ref b69)]))
    refine own_via (fun t k => XS.iadd X72.here hx rfl (hb hby at_62) rfl k) ?_
    show own_G p e below _ (T72.setTop (mkF m 63 #[.val (.int p1), .val (.int p2), .val (.int p3), .val (.int p4), .val (.int p5), .val (.int (p5 &&& (31 : Int32))), .val (.int (2 : Int32)), .val (.long ((p4.toInt64) <<< ((p5 &&& (31 : Int32)) &&& 0x3f).toInt64)), .second, .val (.ref b69), .unset, .unset, .unset] [(.int (5 : Int32)), (.ref b69)]))
    refine own_via (fun t k => XS.iconst X72.here hx rfl (hb hby at_63) k) ?_
    show own_G p e below _ (T72.setTop (mkF m 64 #[.val (.int p1), .val (.int p2), .val (.int p3), .val (.int p4), .val (.int p5), .val (.int (p5 &&& (31 : Int32))), .val (.int (2 : Int32)), .val (.long ((p4.toInt64) <<< ((p5 &&& (31 : Int32)) &&& 0x3f).toInt64)), .second, .val (.ref b69), .unset, .unset, .unset] [(.int (3 : Int32)), (.int (5 : Int32)), (.ref b69)]))
    refine own_via (fun t k => XS.iand X72.here hx rfl (hb hby at_64) rfl k) ?_
    show own_G p e below _ (T72.setTop (mkF m 65 #[.val (.int p1), .val (.int p2), .val (.int p3), .val (.int p4), .val (.int p5), .val (.int (p5 &&& (31 : Int32))), .val (.int (2 : Int32)), .val (.long ((p4.toInt64) <<< ((p5 &&& (31 : Int32)) &&& 0x3f).toInt64)), .second, .val (.ref b69), .unset, .unset, .unset] [(.int (1 : Int32)), (.ref b69)]))
    refine own_via (fun t k => XS.iloadN X72.here hx rfl (hb hby at_65) rfl k) ?_
    show own_G p e below _ (T72.setTop (mkF m 66 #[.val (.int p1), .val (.int p2), .val (.int p3), .val (.int p4), .val (.int p5), .val (.int (p5 &&& (31 : Int32))), .val (.int (2 : Int32)), .val (.long ((p4.toInt64) <<< ((p5 &&& (31 : Int32)) &&& 0x3f).toInt64)), .second, .val (.ref b69), .unset, .unset, .unset] [(.int p3), (.int (1 : Int32)), (.ref b69)]))
    refine own_via (fun t k => XS.i2dS X72.here hx rfl (hb hby at_66) rfl rfl k) ?_
    show own_G p e below _ (T72.setTop (mkF m 67 #[.val (.int p1), .val (.int p2), .val (.int p3), .val (.int p4), .val (.int p5), .val (.int (p5 &&& (31 : Int32))), .val (.int (2 : Int32)), .val (.long ((p4.toInt64) <<< ((p5 &&& (31 : Int32)) &&& 0x3f).toInt64)), .second, .val (.ref b69), .unset, .unset, .unset] [(.double (FP.i2d p3)), (.int (1 : Int32)), (.ref b69)]))
    obtain ⟨cl73, Ar73, q73, S73, Ng73, Hs73, G73⟩ := id V72
    have hin73 : ¬ ((1 : Int32) < 0 ∨ cl73.slots.size ≤ ((1 : Int32)).toNatClampNeg) := inb_of S73 ⟨by decide, by decide⟩
    obtain ⟨T73, h73, X73, e73, W73, st73⟩ := stD X72 hx hZ e72 Ar73 (j := (1 : Int32)) hin73 (g := (mkF m 67 #[.val (.int p1), .val (.int p2), .val (.int p3), .val (.int p4), .val (.int p5), .val (.int (p5 &&& (31 : Int32))), .val (.int (2 : Int32)), .val (.long ((p4.toInt64) <<< ((p5 &&& (31 : Int32)) &&& 0x3f).toInt64)), .second, .val (.ref b69), .unset, .unset, .unset] [(.double (FP.i2d p3)), (.int (1 : Int32)), (.ref b69)])) rfl rfl (hb hby at_67)
    have V73 : Arv Z h73 b69 k69 .double (4 : Int32) [(.double (FP.i2d p2)), (.double (FP.i2d p3)), (.double (FP.l2d ((p4.toInt64) <<< ((p5 &&& (31 : Int32)) &&& 0x3f).toInt64))), (.double (FP.i2d p1))] (.double (0 : UInt64)) := Arv.set Ar73 q73 S73 Ng73 Hs73 G73 rfl W73 1 rfl (Nat.le_of_ble_eq_true rfl)
    have N73 := Fr.snoc X73 N72 gx_b69
    have Z73 : n0 ≤ h73.size := Nat.le_trans Z72 (Nat.le_of_eq W73.size.symm)
    refine own_via st73 ?_
    show own_G p e below _ (T73.setTop (mkF m 68 #[.val (.int p1), .val (.int p2), .val (.int p3), .val (.int p4), .val (.int p5), .val (.int (p5 &&& (31 : Int32))), .val (.int (2 : Int32)), .val (.long ((p4.toInt64) <<< ((p5 &&& (31 : Int32)) &&& 0x3f).toInt64)), .second, .val (.ref b69), .unset, .unset, .unset] []))
    obtain ⟨T74, h74, X74, e74, E74, A74, D74, -, st74⟩ := newO X73 hx hZ hown (hw _ (List.mem_of_getElem? (i := 1) rfl)) (hw _ (List.mem_of_getElem? (i := 2) rfl)) (hw _ (List.mem_of_getElem? (i := 3) rfl)) e73 (g := (mkF m 68 #[.val (.int p1), .val (.int p2), .val (.int p3), .val (.int p4), .val (.int p5), .val (.int (p5 &&& (31 : Int32))), .val (.int (2 : Int32)), .val (.long ((p4.toInt64) <<< ((p5 &&& (31 : Int32)) &&& 0x3f).toInt64)), .second, .val (.ref b69), .unset, .unset, .unset] [])) rfl (hb hby at_68) (by decide) (by decide)
    obtain ⟨b74, g74⟩ : ∃ z, z = h73.size := ⟨_, rfl⟩
    rw [← g74] at A74 D74 st74
    have gx_b74 : n0 ≤ b74 := Nat.le_trans Z73 (Nat.le_of_eq g74.symm)
    have Z74 : n0 ≤ h74.size := Nat.le_trans Z73 E74.1
    have ne_b69_b74 : b69 ≠ b74 := Nat.ne_of_lt (Nat.lt_of_lt_of_le V73.lt (Nat.le_of_eq g74.symm))
    have F75 := V73.ext E74
    have F74_total : Fld Z h74 b74 "com/example/fee_simple/feesimple/CompensatedSum" "total" "D" (.double (0 : UInt64)) := D74 (Or.inl (hw _ (List.mem_of_getElem? (i := 16) rfl))) (ty := .double) (by decide)
    have F74_compensation : Fld Z h74 b74 "com/example/fee_simple/feesimple/CompensatedSum" "compensation" "D" (.double (0 : UInt64)) := D74 (Or.inl (hw _ (List.mem_of_getElem? (i := 18) rfl))) (ty := .double) (by decide)
    refine own_via st74 ?_
    show own_G p e below _ (T74.setTop (mkF m 71 #[.val (.int p1), .val (.int p2), .val (.int p3), .val (.int p4), .val (.int p5), .val (.int (p5 &&& (31 : Int32))), .val (.int (2 : Int32)), .val (.long ((p4.toInt64) <<< ((p5 &&& (31 : Int32)) &&& 0x3f).toInt64)), .second, .val (.ref b69), .unset, .unset, .unset] [(.ref b74)]))
    refine own_via (fun t k => XS.dup X74.here hx rfl (hb hby at_71) rfl rfl k) ?_
    show own_G p e below _ (T74.setTop (mkF m 72 #[.val (.int p1), .val (.int p2), .val (.int p3), .val (.int p4), .val (.int p5), .val (.int (p5 &&& (31 : Int32))), .val (.int (2 : Int32)), .val (.long ((p4.toInt64) <<< ((p5 &&& (31 : Int32)) &&& 0x3f).toInt64)), .second, .val (.ref b69), .unset, .unset, .unset] [(.ref b74), (.ref b74)]))
    obtain ⟨_, _, ⟨T76, L76, k76, n76⟩, -, X76, ⟨Lc76, hQ76, l76, y76, z76⟩, st76⟩ := X74.specialBack hx (y := (⟨"com/example/fee_simple/feesimple/CompensatedSum", "<init>", "()V"⟩ : MethodName)) rfl hown (mvT hZ (hw _ (List.mem_of_getElem? (i := 4) rfl))) (mvT hZ (hw _ (List.mem_of_getElem? (i := 5) rfl))) (mvT hZ (hw _ (List.mem_of_getElem? (i := 6) rfl))) (by decide) (backOf (W := 1) (rm1 l Z a0 hw [] b74 h74 n0 Z74) hZ (hw _ (List.mem_of_getElem? (i := 6) rfl)) (hw _ (List.mem_of_getElem? (i := 3) rfl)) (by decide) (by decide)) (g := (mkF m 72 #[.val (.int p1), .val (.int p2), .val (.int p3), .val (.int p4), .val (.int p5), .val (.int (p5 &&& (31 : Int32))), .val (.int (2 : Int32)), .val (.long ((p4.toInt64) <<< ((p5 &&& (31 : Int32)) &&& 0x3f).toInt64)), .second, .val (.ref b69), .unset, .unset, .unset] [(.ref b74), (.ref b74)])) rfl (by rw [hml]; rfl) (Steps.refl _) (a := b74) (argsL := []) (rest := [(.ref b74)]) (lenOf pd_rm0_0 rfl) rfl (by show 2 * 0 + _ ≤ _; exact Nat.le_of_eq rfl) (hb hby at_72) (fun _ _ => ⟨rfl, e74, (by decide : 2 + 0 ≤ _), (by decide : 6 + 0 ≤ _)⟩)
    dsimp only [Pt.U, Pt.locs, Pt.cells, Pt.slots] at X76 l76 y76 z76 st76 hQ76
    subst l76 y76 z76
    obtain ⟨rfl, N76q, e76⟩ := hQ76
    have N76 := Fr.app N73 N76q
    refine own_via (fun t k => st76.trans k) ?_
    show own_G p e below _ (T76.setTop (mkF m 75 #[.val (.int p1), .val (.int p2), .val (.int p3), .val (.int p4), .val (.int p5), .val (.int (p5 &&& (31 : Int32))), .val (.int (2 : Int32)), .val (.long ((p4.toInt64) <<< ((p5 &&& (31 : Int32)) &&& 0x3f).toInt64)), .second, .val (.ref b69), .unset, .unset, .unset] [(.ref b74)]))
    refine own_via (fun t k => XS.astore X76.here hx rfl (hb hby at_75) rfl rfl (l' := #[.val (.int p1), .val (.int p2), .val (.int p3), .val (.int p4), .val (.int p5), .val (.int (p5 &&& (31 : Int32))), .val (.int (2 : Int32)), .val (.long ((p4.toInt64) <<< ((p5 &&& (31 : Int32)) &&& 0x3f).toInt64)), .second, .val (.ref b69), .val (.ref b74), .unset, .unset]) rfl k) ?_
    show own_G p e below _ (T76.setTop (mkF m 77 #[.val (.int p1), .val (.int p2), .val (.int p3), .val (.int p4), .val (.int p5), .val (.int (p5 &&& (31 : Int32))), .val (.int (2 : Int32)), .val (.long ((p4.toInt64) <<< ((p5 &&& (31 : Int32)) &&& 0x3f).toInt64)), .second, .val (.ref b69), .val (.ref b74), .unset, .unset] []))
    refine own_via (fun t k => XS.aload X76.here hx rfl (hb hby at_77) rfl rfl k) ?_
    show own_G p e below _ (T76.setTop (mkF m 79 #[.val (.int p1), .val (.int p2), .val (.int p3), .val (.int p4), .val (.int p5), .val (.int (p5 &&& (31 : Int32))), .val (.int (2 : Int32)), .val (.long ((p4.toInt64) <<< ((p5 &&& (31 : Int32)) &&& 0x3f).toInt64)), .second, .val (.ref b69), .val (.ref b74), .unset, .unset] [(.ref b74)]))
    refine own_via (fun t k => XS.aload X76.here hx rfl (hb hby at_79) rfl rfl k) ?_
    show own_G p e below _ (T76.setTop (mkF m 81 #[.val (.int p1), .val (.int p2), .val (.int p3), .val (.int p4), .val (.int p5), .val (.int (p5 &&& (31 : Int32))), .val (.int (2 : Int32)), .val (.long ((p4.toInt64) <<< ((p5 &&& (31 : Int32)) &&& 0x3f).toInt64)), .second, .val (.ref b69), .val (.ref b74), .unset, .unset] [(.ref b69), (.ref b74)]))
    refine own_via (fun t k => XS.iconst X76.here hx rfl (hb hby at_81) k) ?_
    show own_G p e below _ (T76.setTop (mkF m 82 #[.val (.int p1), .val (.int p2), .val (.int p3), .val (.int p4), .val (.int p5), .val (.int (p5 &&& (31 : Int32))), .val (.int (2 : Int32)), .val (.long ((p4.toInt64) <<< ((p5 &&& (31 : Int32)) &&& 0x3f).toInt64)), .second, .val (.ref b69), .val (.ref b74), .unset, .unset] [(.int (0 : Int32)), (.ref b69), (.ref b74)]))
    obtain ⟨cl77, Ar77, q77, S77, Ng77, Hs77, G77⟩ := id F75
    have hin77 : ¬ ((0 : Int32) < 0 ∨ cl77.slots.size ≤ ((0 : Int32)).toNatClampNeg) := inb_of S77 ⟨by decide, by decide⟩
    have hat77 : cl77.slots[((0 : Int32)).toNatClampNeg]? = some (.double (FP.i2d p2)) := Hs77.at hin77 rfl
    refine own_via (fun t k => X76.daload hx (j := (0 : Int32)) (v := (.double (FP.i2d p2))) (by rw [e76]; exact Ar77.1) (State.isArrayOf_alike hZ.alike Ar77.2.1) Ar77.2.2 hin77 hat77 (g := (mkF m 82 #[.val (.int p1), .val (.int p2), .val (.int p3), .val (.int p4), .val (.int p5), .val (.int (p5 &&& (31 : Int32))), .val (.int (2 : Int32)), .val (.long ((p4.toInt64) <<< ((p5 &&& (31 : Int32)) &&& 0x3f).toInt64)), .second, .val (.ref b69), .val (.ref b74), .unset, .unset] [(.int (0 : Int32)), (.ref b69), (.ref b74)])) rfl rfl (hb hby at_82) _ k) ?_
    show own_G p e below _ (T76.setTop (mkF m 83 #[.val (.int p1), .val (.int p2), .val (.int p3), .val (.int p4), .val (.int p5), .val (.int (p5 &&& (31 : Int32))), .val (.int (2 : Int32)), .val (.long ((p4.toInt64) <<< ((p5 &&& (31 : Int32)) &&& 0x3f).toInt64)), .second, .val (.ref b69), .val (.ref b74), .unset, .unset] [(.double (FP.i2d p2)), (.ref b74)]))
    obtain ⟨cq78, kq78, q78a, q78b, q78c⟩ := isOf hZ e76 A74
    obtain ⟨_, _, ⟨T78, L78, k78, n78⟩, -, X78, ⟨Lc78, hQ78, l78, y78, z78⟩, st78⟩ := X76.virtualBack hx (y := (⟨"com/example/fee_simple/feesimple/CompensatedSum", "add", "(D)V"⟩ : MethodName)) (z := (⟨"com/example/fee_simple/feesimple/CompensatedSum", "add", "(D)V"⟩ : MethodName)) hown (mvT hZ (hw _ (List.mem_of_getElem? (i := 10) rfl))) (mvT hZ (hw _ (List.mem_of_getElem? (i := 11) rfl))) (notFace_of_selects (args := #[]) (mvT hZ (hw _ (List.mem_of_getElem? (i := 13) rfl)))) (mvT hZ (hw _ (List.mem_of_getElem? (i := 13) rfl))) (mvT hZ (hw _ (List.mem_of_getElem? (i := 12) rfl))) (by decide) (backOf (W := 0) (rm3 l Z a0 hw [] b74 (FP.i2d p2) (0 : UInt64) (0 : UInt64) h74 n0 Z74 A74 F74_total F74_compensation gx_b74 ok0) hZ (hw _ (List.mem_of_getElem? (i := 14) rfl)) (hw _ (List.mem_of_getElem? (i := 3) rfl)) (by decide) (by decide)) q78a q78c (g := (mkF m 83 #[.val (.int p1), .val (.int p2), .val (.int p3), .val (.int p4), .val (.int p5), .val (.int (p5 &&& (31 : Int32))), .val (.int (2 : Int32)), .val (.long ((p4.toInt64) <<< ((p5 &&& (31 : Int32)) &&& 0x3f).toInt64)), .second, .val (.ref b69), .val (.ref b74), .unset, .unset] [(.double (FP.i2d p2)), (.ref b74)])) rfl (by rw [hml]; rfl) (Steps.refl _) (argsL := [(.double (FP.i2d p2))]) (rest := []) (lenOf pd_rm0_1 rfl) rfl (by show 2 * 0 + _ ≤ _; exact Nat.le_of_eq rfl) (hb hby at_83) (fun _ _ => ⟨rfl, e76, (by decide : 2 + 0 ≤ _), (by decide : 6 + 0 ≤ _)⟩)
    dsimp only [Pt.U, Pt.locs, Pt.cells, Pt.slots] at X78 l78 y78 z78 st78 hQ78
    subst l78 y78 z78
    obtain ⟨rfl, N78q, K78, E78q, Ft78, Fc78⟩ := hQ78
    have N78 := Fr.app N76 N78q
    have F79 := F75.keep K78 (ninS ne_b69_b74 nin0)
    have F80 := A74.keep K78
    have Z78 : n0 ≤ T78.heap.size := Nat.le_trans Z74 K78.1
    refine own_via (fun t k => st78.trans k) ?_
    show own_G p e below _ (T78.setTop (mkF m 86 #[.val (.int p1), .val (.int p2), .val (.int p3), .val (.int p4), .val (.int p5), .val (.int (p5 &&& (31 : Int32))), .val (.int (2 : Int32)), .val (.long ((p4.toInt64) <<< ((p5 &&& (31 : Int32)) &&& 0x3f).toInt64)), .second, .val (.ref b69), .val (.ref b74), .unset, .unset] []))
    refine own_via (fun t k => XS.aload X78.here hx rfl (hb hby at_86) rfl rfl k) ?_
    show own_G p e below _ (T78.setTop (mkF m 88 #[.val (.int p1), .val (.int p2), .val (.int p3), .val (.int p4), .val (.int p5), .val (.int (p5 &&& (31 : Int32))), .val (.int (2 : Int32)), .val (.long ((p4.toInt64) <<< ((p5 &&& (31 : Int32)) &&& 0x3f).toInt64)), .second, .val (.ref b69), .val (.ref b74), .unset, .unset] [(.ref b74)]))
    refine own_via (fun t k => XS.aload X78.here hx rfl (hb hby at_88) rfl rfl k) ?_
    show own_G p e below _ (T78.setTop (mkF m 90 #[.val (.int p1), .val (.int p2), .val (.int p3), .val (.int p4), .val (.int p5), .val (.int (p5 &&& (31 : Int32))), .val (.int (2 : Int32)), .val (.long ((p4.toInt64) <<< ((p5 &&& (31 : Int32)) &&& 0x3f).toInt64)), .second, .val (.ref b69), .val (.ref b74), .unset, .unset] [(.ref b69), (.ref b74)]))
    refine own_via (fun t k => XS.iconst X78.here hx rfl (hb hby at_90) k) ?_
    show own_G p e below _ (T78.setTop (mkF m 91 #[.val (.int p1), .val (.int p2), .val (.int p3), .val (.int p4), .val (.int p5), .val (.int (p5 &&& (31 : Int32))), .val (.int (2 : Int32)), .val (.long ((p4.toInt64) <<< ((p5 &&& (31 : Int32)) &&& 0x3f).toInt64)), .second, .val (.ref b69), .val (.ref b74), .unset, .unset] [(.int (1 : Int32)), (.ref b69), (.ref b74)]))
    obtain ⟨cl83, Ar83, q83, S83, Ng83, Hs83, G83⟩ := id F79
    have hin83 : ¬ ((1 : Int32) < 0 ∨ cl83.slots.size ≤ ((1 : Int32)).toNatClampNeg) := inb_of S83 ⟨by decide, by decide⟩
    have hat83 : cl83.slots[((1 : Int32)).toNatClampNeg]? = some (.double (FP.i2d p3)) := Hs83.at hin83 rfl
    refine own_via (fun t k => X78.daload hx (j := (1 : Int32)) (v := (.double (FP.i2d p3))) Ar83.1 (State.isArrayOf_alike hZ.alike Ar83.2.1) Ar83.2.2 hin83 hat83 (g := (mkF m 91 #[.val (.int p1), .val (.int p2), .val (.int p3), .val (.int p4), .val (.int p5), .val (.int (p5 &&& (31 : Int32))), .val (.int (2 : Int32)), .val (.long ((p4.toInt64) <<< ((p5 &&& (31 : Int32)) &&& 0x3f).toInt64)), .second, .val (.ref b69), .val (.ref b74), .unset, .unset] [(.int (1 : Int32)), (.ref b69), (.ref b74)])) rfl rfl (hb hby at_91) _ k) ?_
    show own_G p e below _ (T78.setTop (mkF m 92 #[.val (.int p1), .val (.int p2), .val (.int p3), .val (.int p4), .val (.int p5), .val (.int (p5 &&& (31 : Int32))), .val (.int (2 : Int32)), .val (.long ((p4.toInt64) <<< ((p5 &&& (31 : Int32)) &&& 0x3f).toInt64)), .second, .val (.ref b69), .val (.ref b74), .unset, .unset] [(.double (FP.i2d p3)), (.ref b74)]))
    obtain ⟨cq84, kq84, q84a, q84b, q84c⟩ := isOf hZ rfl E78q
    obtain ⟨_, _, ⟨T84, L84, k84, n84⟩, -, X84, ⟨Lc84, hQ84, l84, y84, z84⟩, st84⟩ := X78.virtualBack hx (y := (⟨"com/example/fee_simple/feesimple/CompensatedSum", "add", "(D)V"⟩ : MethodName)) (z := (⟨"com/example/fee_simple/feesimple/CompensatedSum", "add", "(D)V"⟩ : MethodName)) hown (mvT hZ (hw _ (List.mem_of_getElem? (i := 10) rfl))) (mvT hZ (hw _ (List.mem_of_getElem? (i := 11) rfl))) (notFace_of_selects (args := #[]) (mvT hZ (hw _ (List.mem_of_getElem? (i := 13) rfl)))) (mvT hZ (hw _ (List.mem_of_getElem? (i := 13) rfl))) (mvT hZ (hw _ (List.mem_of_getElem? (i := 12) rfl))) (by decide) (backOf (W := 0) (rm3 l Z a0 hw [] b74 (FP.i2d p3) (own_t (0 : UInt64) (FP.i2d p2)) (own_k (0 : UInt64) (FP.i2d p2) (0 : UInt64)) T78.heap n0 Z78 E78q Ft78 Fc78 gx_b74 ok1) hZ (hw _ (List.mem_of_getElem? (i := 14) rfl)) (hw _ (List.mem_of_getElem? (i := 3) rfl)) (by decide) (by decide)) q84a q84c (g := (mkF m 92 #[.val (.int p1), .val (.int p2), .val (.int p3), .val (.int p4), .val (.int p5), .val (.int (p5 &&& (31 : Int32))), .val (.int (2 : Int32)), .val (.long ((p4.toInt64) <<< ((p5 &&& (31 : Int32)) &&& 0x3f).toInt64)), .second, .val (.ref b69), .val (.ref b74), .unset, .unset] [(.double (FP.i2d p3)), (.ref b74)])) rfl (by rw [hml]; rfl) (Steps.refl _) (argsL := [(.double (FP.i2d p3))]) (rest := []) (lenOf pd_rm0_1 rfl) rfl (by show 2 * 0 + _ ≤ _; exact Nat.le_of_eq rfl) (hb hby at_92) (fun _ _ => ⟨rfl, rfl, (by decide : 2 + 0 ≤ _), (by decide : 6 + 0 ≤ _)⟩)
    dsimp only [Pt.U, Pt.locs, Pt.cells, Pt.slots] at X84 l84 y84 z84 st84 hQ84
    subst l84 y84 z84
    obtain ⟨rfl, N84q, K84, E84q, Ft84, Fc84⟩ := hQ84
    have N84 := Fr.app N78 N84q
    have F85 := F79.keep K84 (ninS ne_b69_b74 nin0)
    have F86 := E78q.keep K84
    have Z84 : n0 ≤ T84.heap.size := Nat.le_trans Z78 K84.1
    refine own_via (fun t k => st84.trans k) ?_
    show own_G p e below _ (T84.setTop (mkF m 95 #[.val (.int p1), .val (.int p2), .val (.int p3), .val (.int p4), .val (.int p5), .val (.int (p5 &&& (31 : Int32))), .val (.int (2 : Int32)), .val (.long ((p4.toInt64) <<< ((p5 &&& (31 : Int32)) &&& 0x3f).toInt64)), .second, .val (.ref b69), .val (.ref b74), .unset, .unset] []))
    refine own_via (fun t k => XS.aload X84.here hx rfl (hb hby at_95) rfl rfl k) ?_
    show own_G p e below _ (T84.setTop (mkF m 97 #[.val (.int p1), .val (.int p2), .val (.int p3), .val (.int p4), .val (.int p5), .val (.int (p5 &&& (31 : Int32))), .val (.int (2 : Int32)), .val (.long ((p4.toInt64) <<< ((p5 &&& (31 : Int32)) &&& 0x3f).toInt64)), .second, .val (.ref b69), .val (.ref b74), .unset, .unset] [(.ref b74)]))
    refine own_via (fun t k => XS.aload X84.here hx rfl (hb hby at_97) rfl rfl k) ?_
    show own_G p e below _ (T84.setTop (mkF m 99 #[.val (.int p1), .val (.int p2), .val (.int p3), .val (.int p4), .val (.int p5), .val (.int (p5 &&& (31 : Int32))), .val (.int (2 : Int32)), .val (.long ((p4.toInt64) <<< ((p5 &&& (31 : Int32)) &&& 0x3f).toInt64)), .second, .val (.ref b69), .val (.ref b74), .unset, .unset] [(.ref b69), (.ref b74)]))
    refine own_via (fun t k => XS.iconst X84.here hx rfl (hb hby at_99) k) ?_
    show own_G p e below _ (T84.setTop (mkF m 100 #[.val (.int p1), .val (.int p2), .val (.int p3), .val (.int p4), .val (.int p5), .val (.int (p5 &&& (31 : Int32))), .val (.int (2 : Int32)), .val (.long ((p4.toInt64) <<< ((p5 &&& (31 : Int32)) &&& 0x3f).toInt64)), .second, .val (.ref b69), .val (.ref b74), .unset, .unset] [(.int (2 : Int32)), (.ref b69), (.ref b74)]))
    obtain ⟨cl89, Ar89, q89, S89, Ng89, Hs89, G89⟩ := id F85
    have hin89 : ¬ ((2 : Int32) < 0 ∨ cl89.slots.size ≤ ((2 : Int32)).toNatClampNeg) := inb_of S89 ⟨by decide, by decide⟩
    have hat89 : cl89.slots[((2 : Int32)).toNatClampNeg]? = some (.double (FP.l2d ((p4.toInt64) <<< ((p5 &&& (31 : Int32)) &&& 0x3f).toInt64))) := Hs89.at hin89 rfl
    refine own_via (fun t k => X84.daload hx (j := (2 : Int32)) (v := (.double (FP.l2d ((p4.toInt64) <<< ((p5 &&& (31 : Int32)) &&& 0x3f).toInt64)))) Ar89.1 (State.isArrayOf_alike hZ.alike Ar89.2.1) Ar89.2.2 hin89 hat89 (g := (mkF m 100 #[.val (.int p1), .val (.int p2), .val (.int p3), .val (.int p4), .val (.int p5), .val (.int (p5 &&& (31 : Int32))), .val (.int (2 : Int32)), .val (.long ((p4.toInt64) <<< ((p5 &&& (31 : Int32)) &&& 0x3f).toInt64)), .second, .val (.ref b69), .val (.ref b74), .unset, .unset] [(.int (2 : Int32)), (.ref b69), (.ref b74)])) rfl rfl (hb hby at_100) _ k) ?_
    show own_G p e below _ (T84.setTop (mkF m 101 #[.val (.int p1), .val (.int p2), .val (.int p3), .val (.int p4), .val (.int p5), .val (.int (p5 &&& (31 : Int32))), .val (.int (2 : Int32)), .val (.long ((p4.toInt64) <<< ((p5 &&& (31 : Int32)) &&& 0x3f).toInt64)), .second, .val (.ref b69), .val (.ref b74), .unset, .unset] [(.double (FP.l2d ((p4.toInt64) <<< ((p5 &&& (31 : Int32)) &&& 0x3f).toInt64))), (.ref b74)]))
    obtain ⟨cq90, kq90, q90a, q90b, q90c⟩ := isOf hZ rfl E84q
    obtain ⟨_, _, ⟨T90, L90, k90, n90⟩, -, X90, ⟨Lc90, hQ90, l90, y90, z90⟩, st90⟩ := X84.virtualBack hx (y := (⟨"com/example/fee_simple/feesimple/CompensatedSum", "add", "(D)V"⟩ : MethodName)) (z := (⟨"com/example/fee_simple/feesimple/CompensatedSum", "add", "(D)V"⟩ : MethodName)) hown (mvT hZ (hw _ (List.mem_of_getElem? (i := 10) rfl))) (mvT hZ (hw _ (List.mem_of_getElem? (i := 11) rfl))) (notFace_of_selects (args := #[]) (mvT hZ (hw _ (List.mem_of_getElem? (i := 13) rfl)))) (mvT hZ (hw _ (List.mem_of_getElem? (i := 13) rfl))) (mvT hZ (hw _ (List.mem_of_getElem? (i := 12) rfl))) (by decide) (backOf (W := 0) (rm3 l Z a0 hw [] b74 (FP.l2d ((p4.toInt64) <<< ((p5 &&& (31 : Int32)) &&& 0x3f).toInt64)) (own_t (own_t (0 : UInt64) (FP.i2d p2)) (FP.i2d p3)) (own_k (own_t (0 : UInt64) (FP.i2d p2)) (FP.i2d p3) (own_k (0 : UInt64) (FP.i2d p2) (0 : UInt64))) T84.heap n0 Z84 E84q Ft84 Fc84 gx_b74 ok2) hZ (hw _ (List.mem_of_getElem? (i := 14) rfl)) (hw _ (List.mem_of_getElem? (i := 3) rfl)) (by decide) (by decide)) q90a q90c (g := (mkF m 101 #[.val (.int p1), .val (.int p2), .val (.int p3), .val (.int p4), .val (.int p5), .val (.int (p5 &&& (31 : Int32))), .val (.int (2 : Int32)), .val (.long ((p4.toInt64) <<< ((p5 &&& (31 : Int32)) &&& 0x3f).toInt64)), .second, .val (.ref b69), .val (.ref b74), .unset, .unset] [(.double (FP.l2d ((p4.toInt64) <<< ((p5 &&& (31 : Int32)) &&& 0x3f).toInt64))), (.ref b74)])) rfl (by rw [hml]; rfl) (Steps.refl _) (argsL := [(.double (FP.l2d ((p4.toInt64) <<< ((p5 &&& (31 : Int32)) &&& 0x3f).toInt64)))]) (rest := []) (lenOf pd_rm0_1 rfl) rfl (by show 2 * 0 + _ ≤ _; exact Nat.le_of_eq rfl) (hb hby at_101) (fun _ _ => ⟨rfl, rfl, (by decide : 2 + 0 ≤ _), (by decide : 6 + 0 ≤ _)⟩)
    dsimp only [Pt.U, Pt.locs, Pt.cells, Pt.slots] at X90 l90 y90 z90 st90 hQ90
    subst l90 y90 z90
    obtain ⟨rfl, N90q, K90, E90q, Ft90, Fc90⟩ := hQ90
    have N90 := Fr.app N84 N90q
    have F91 := F85.keep K90 (ninS ne_b69_b74 nin0)
    have F92 := E84q.keep K90
    have Z90 : n0 ≤ T90.heap.size := Nat.le_trans Z84 K90.1
    refine own_via (fun t k => st90.trans k) ?_
    show own_G p e below _ (T90.setTop (mkF m 104 #[.val (.int p1), .val (.int p2), .val (.int p3), .val (.int p4), .val (.int p5), .val (.int (p5 &&& (31 : Int32))), .val (.int (2 : Int32)), .val (.long ((p4.toInt64) <<< ((p5 &&& (31 : Int32)) &&& 0x3f).toInt64)), .second, .val (.ref b69), .val (.ref b74), .unset, .unset] []))
    refine own_via (fun t k => XS.aload X90.here hx rfl (hb hby at_104) rfl rfl k) ?_
    show own_G p e below _ (T90.setTop (mkF m 106 #[.val (.int p1), .val (.int p2), .val (.int p3), .val (.int p4), .val (.int p5), .val (.int (p5 &&& (31 : Int32))), .val (.int (2 : Int32)), .val (.long ((p4.toInt64) <<< ((p5 &&& (31 : Int32)) &&& 0x3f).toInt64)), .second, .val (.ref b69), .val (.ref b74), .unset, .unset] [(.ref b74)]))
    refine own_via (fun t k => XS.aload X90.here hx rfl (hb hby at_106) rfl rfl k) ?_
    show own_G p e below _ (T90.setTop (mkF m 108 #[.val (.int p1), .val (.int p2), .val (.int p3), .val (.int p4), .val (.int p5), .val (.int (p5 &&& (31 : Int32))), .val (.int (2 : Int32)), .val (.long ((p4.toInt64) <<< ((p5 &&& (31 : Int32)) &&& 0x3f).toInt64)), .second, .val (.ref b69), .val (.ref b74), .unset, .unset] [(.ref b69), (.ref b74)]))
    refine own_via (fun t k => XS.iconst X90.here hx rfl (hb hby at_108) k) ?_
    show own_G p e below _ (T90.setTop (mkF m 109 #[.val (.int p1), .val (.int p2), .val (.int p3), .val (.int p4), .val (.int p5), .val (.int (p5 &&& (31 : Int32))), .val (.int (2 : Int32)), .val (.long ((p4.toInt64) <<< ((p5 &&& (31 : Int32)) &&& 0x3f).toInt64)), .second, .val (.ref b69), .val (.ref b74), .unset, .unset] [(.int (3 : Int32)), (.ref b69), (.ref b74)]))
    obtain ⟨cl95, Ar95, q95, S95, Ng95, Hs95, G95⟩ := id F91
    have hin95 : ¬ ((3 : Int32) < 0 ∨ cl95.slots.size ≤ ((3 : Int32)).toNatClampNeg) := inb_of S95 ⟨by decide, by decide⟩
    have hat95 : cl95.slots[((3 : Int32)).toNatClampNeg]? = some (.double (FP.i2d p1)) := Hs95.at hin95 rfl
    refine own_via (fun t k => X90.daload hx (j := (3 : Int32)) (v := (.double (FP.i2d p1))) Ar95.1 (State.isArrayOf_alike hZ.alike Ar95.2.1) Ar95.2.2 hin95 hat95 (g := (mkF m 109 #[.val (.int p1), .val (.int p2), .val (.int p3), .val (.int p4), .val (.int p5), .val (.int (p5 &&& (31 : Int32))), .val (.int (2 : Int32)), .val (.long ((p4.toInt64) <<< ((p5 &&& (31 : Int32)) &&& 0x3f).toInt64)), .second, .val (.ref b69), .val (.ref b74), .unset, .unset] [(.int (3 : Int32)), (.ref b69), (.ref b74)])) rfl rfl (hb hby at_109) _ k) ?_
    show own_G p e below _ (T90.setTop (mkF m 110 #[.val (.int p1), .val (.int p2), .val (.int p3), .val (.int p4), .val (.int p5), .val (.int (p5 &&& (31 : Int32))), .val (.int (2 : Int32)), .val (.long ((p4.toInt64) <<< ((p5 &&& (31 : Int32)) &&& 0x3f).toInt64)), .second, .val (.ref b69), .val (.ref b74), .unset, .unset] [(.double (FP.i2d p1)), (.ref b74)]))
    obtain ⟨cq96, kq96, q96a, q96b, q96c⟩ := isOf hZ rfl E90q
    obtain ⟨_, _, ⟨T96, L96, k96, n96⟩, -, X96, ⟨Lc96, hQ96, l96, y96, z96⟩, st96⟩ := X90.virtualBack hx (y := (⟨"com/example/fee_simple/feesimple/CompensatedSum", "add", "(D)V"⟩ : MethodName)) (z := (⟨"com/example/fee_simple/feesimple/CompensatedSum", "add", "(D)V"⟩ : MethodName)) hown (mvT hZ (hw _ (List.mem_of_getElem? (i := 10) rfl))) (mvT hZ (hw _ (List.mem_of_getElem? (i := 11) rfl))) (notFace_of_selects (args := #[]) (mvT hZ (hw _ (List.mem_of_getElem? (i := 13) rfl)))) (mvT hZ (hw _ (List.mem_of_getElem? (i := 13) rfl))) (mvT hZ (hw _ (List.mem_of_getElem? (i := 12) rfl))) (by decide) (backOf (W := 0) (rm3 l Z a0 hw [] b74 (FP.i2d p1) (own_t (own_t (own_t (0 : UInt64) (FP.i2d p2)) (FP.i2d p3)) (FP.l2d ((p4.toInt64) <<< ((p5 &&& (31 : Int32)) &&& 0x3f).toInt64))) (own_k (own_t (own_t (0 : UInt64) (FP.i2d p2)) (FP.i2d p3)) (FP.l2d ((p4.toInt64) <<< ((p5 &&& (31 : Int32)) &&& 0x3f).toInt64)) (own_k (own_t (0 : UInt64) (FP.i2d p2)) (FP.i2d p3) (own_k (0 : UInt64) (FP.i2d p2) (0 : UInt64)))) T90.heap n0 Z90 E90q Ft90 Fc90 gx_b74 ok3) hZ (hw _ (List.mem_of_getElem? (i := 14) rfl)) (hw _ (List.mem_of_getElem? (i := 3) rfl)) (by decide) (by decide)) q96a q96c (g := (mkF m 110 #[.val (.int p1), .val (.int p2), .val (.int p3), .val (.int p4), .val (.int p5), .val (.int (p5 &&& (31 : Int32))), .val (.int (2 : Int32)), .val (.long ((p4.toInt64) <<< ((p5 &&& (31 : Int32)) &&& 0x3f).toInt64)), .second, .val (.ref b69), .val (.ref b74), .unset, .unset] [(.double (FP.i2d p1)), (.ref b74)])) rfl (by rw [hml]; rfl) (Steps.refl _) (argsL := [(.double (FP.i2d p1))]) (rest := []) (lenOf pd_rm0_1 rfl) rfl (by show 2 * 0 + _ ≤ _; exact Nat.le_of_eq rfl) (hb hby at_110) (fun _ _ => ⟨rfl, rfl, (by decide : 2 + 0 ≤ _), (by decide : 6 + 0 ≤ _)⟩)
    dsimp only [Pt.U, Pt.locs, Pt.cells, Pt.slots] at X96 l96 y96 z96 st96 hQ96
    subst l96 y96 z96
    obtain ⟨rfl, N96q, K96, E96q, Ft96, Fc96⟩ := hQ96
    have N96 := Fr.app N90 N96q
    have F97 := F91.keep K96 (ninS ne_b69_b74 nin0)
    have F98 := E90q.keep K96
    have Z96 : n0 ≤ T96.heap.size := Nat.le_trans Z90 K96.1
    refine own_via (fun t k => st96.trans k) ?_
    show own_G p e below _ (T96.setTop (mkF m 113 #[.val (.int p1), .val (.int p2), .val (.int p3), .val (.int p4), .val (.int p5), .val (.int (p5 &&& (31 : Int32))), .val (.int (2 : Int32)), .val (.long ((p4.toInt64) <<< ((p5 &&& (31 : Int32)) &&& 0x3f).toInt64)), .second, .val (.ref b69), .val (.ref b74), .unset, .unset] []))
    refine own_via (fun t k => XS.lload X96.here hx rfl (hb hby at_113) rfl k) ?_
    show own_G p e below _ (T96.setTop (mkF m 115 #[.val (.int p1), .val (.int p2), .val (.int p3), .val (.int p4), .val (.int p5), .val (.int (p5 &&& (31 : Int32))), .val (.int (2 : Int32)), .val (.long ((p4.toInt64) <<< ((p5 &&& (31 : Int32)) &&& 0x3f).toInt64)), .second, .val (.ref b69), .val (.ref b74), .unset, .unset] [(.long ((p4.toInt64) <<< ((p5 &&& (31 : Int32)) &&& 0x3f).toInt64))]))
    refine own_via (fun t k => XS.iloadN X96.here hx rfl (hb hby at_115) rfl k) ?_
    show own_G p e below _ (T96.setTop (mkF m 116 #[.val (.int p1), .val (.int p2), .val (.int p3), .val (.int p4), .val (.int p5), .val (.int (p5 &&& (31 : Int32))), .val (.int (2 : Int32)), .val (.long ((p4.toInt64) <<< ((p5 &&& (31 : Int32)) &&& 0x3f).toInt64)), .second, .val (.ref b69), .val (.ref b74), .unset, .unset] [(.int p1), (.long ((p4.toInt64) <<< ((p5 &&& (31 : Int32)) &&& 0x3f).toInt64))]))
    refine own_via (fun t k => XS.i2l X96.here hx rfl (hb hby at_116) rfl k) ?_
    show own_G p e below _ (T96.setTop (mkF m 117 #[.val (.int p1), .val (.int p2), .val (.int p3), .val (.int p4), .val (.int p5), .val (.int (p5 &&& (31 : Int32))), .val (.int (2 : Int32)), .val (.long ((p4.toInt64) <<< ((p5 &&& (31 : Int32)) &&& 0x3f).toInt64)), .second, .val (.ref b69), .val (.ref b74), .unset, .unset] [(.long (p1.toInt64)), (.long ((p4.toInt64) <<< ((p5 &&& (31 : Int32)) &&& 0x3f).toInt64))]))
    refine own_via (fun t k => XS.ladd X96.here hx rfl (hb hby at_117) rfl k) ?_
    show own_G p e below _ (T96.setTop (mkF m 118 #[.val (.int p1), .val (.int p2), .val (.int p3), .val (.int p4), .val (.int p5), .val (.int (p5 &&& (31 : Int32))), .val (.int (2 : Int32)), .val (.long ((p4.toInt64) <<< ((p5 &&& (31 : Int32)) &&& 0x3f).toInt64)), .second, .val (.ref b69), .val (.ref b74), .unset, .unset] [(.long (((p4.toInt64) <<< ((p5 &&& (31 : Int32)) &&& 0x3f).toInt64) + (p1.toInt64)))]))
    refine own_via (fun t k => XS.iloadN X96.here hx rfl (hb hby at_118) rfl k) ?_
    show own_G p e below _ (T96.setTop (mkF m 119 #[.val (.int p1), .val (.int p2), .val (.int p3), .val (.int p4), .val (.int p5), .val (.int (p5 &&& (31 : Int32))), .val (.int (2 : Int32)), .val (.long ((p4.toInt64) <<< ((p5 &&& (31 : Int32)) &&& 0x3f).toInt64)), .second, .val (.ref b69), .val (.ref b74), .unset, .unset] [(.int p2), (.long (((p4.toInt64) <<< ((p5 &&& (31 : Int32)) &&& 0x3f).toInt64) + (p1.toInt64)))]))
    refine own_via (fun t k => XS.i2l X96.here hx rfl (hb hby at_119) rfl k) ?_
    show own_G p e below _ (T96.setTop (mkF m 120 #[.val (.int p1), .val (.int p2), .val (.int p3), .val (.int p4), .val (.int p5), .val (.int (p5 &&& (31 : Int32))), .val (.int (2 : Int32)), .val (.long ((p4.toInt64) <<< ((p5 &&& (31 : Int32)) &&& 0x3f).toInt64)), .second, .val (.ref b69), .val (.ref b74), .unset, .unset] [(.long (p2.toInt64)), (.long (((p4.toInt64) <<< ((p5 &&& (31 : Int32)) &&& 0x3f).toInt64) + (p1.toInt64)))]))
    refine own_via (fun t k => XS.ladd X96.here hx rfl (hb hby at_120) rfl k) ?_
    show own_G p e below _ (T96.setTop (mkF m 121 #[.val (.int p1), .val (.int p2), .val (.int p3), .val (.int p4), .val (.int p5), .val (.int (p5 &&& (31 : Int32))), .val (.int (2 : Int32)), .val (.long ((p4.toInt64) <<< ((p5 &&& (31 : Int32)) &&& 0x3f).toInt64)), .second, .val (.ref b69), .val (.ref b74), .unset, .unset] [(.long ((((p4.toInt64) <<< ((p5 &&& (31 : Int32)) &&& 0x3f).toInt64) + (p1.toInt64)) + (p2.toInt64)))]))
    refine own_via (fun t k => XS.iloadN X96.here hx rfl (hb hby at_121) rfl k) ?_
    show own_G p e below _ (T96.setTop (mkF m 122 #[.val (.int p1), .val (.int p2), .val (.int p3), .val (.int p4), .val (.int p5), .val (.int (p5 &&& (31 : Int32))), .val (.int (2 : Int32)), .val (.long ((p4.toInt64) <<< ((p5 &&& (31 : Int32)) &&& 0x3f).toInt64)), .second, .val (.ref b69), .val (.ref b74), .unset, .unset] [(.int p3), (.long ((((p4.toInt64) <<< ((p5 &&& (31 : Int32)) &&& 0x3f).toInt64) + (p1.toInt64)) + (p2.toInt64)))]))
    refine own_via (fun t k => XS.i2l X96.here hx rfl (hb hby at_122) rfl k) ?_
    show own_G p e below _ (T96.setTop (mkF m 123 #[.val (.int p1), .val (.int p2), .val (.int p3), .val (.int p4), .val (.int p5), .val (.int (p5 &&& (31 : Int32))), .val (.int (2 : Int32)), .val (.long ((p4.toInt64) <<< ((p5 &&& (31 : Int32)) &&& 0x3f).toInt64)), .second, .val (.ref b69), .val (.ref b74), .unset, .unset] [(.long (p3.toInt64)), (.long ((((p4.toInt64) <<< ((p5 &&& (31 : Int32)) &&& 0x3f).toInt64) + (p1.toInt64)) + (p2.toInt64)))]))
    refine own_via (fun t k => XS.ladd X96.here hx rfl (hb hby at_123) rfl k) ?_
    show own_G p e below _ (T96.setTop (mkF m 124 #[.val (.int p1), .val (.int p2), .val (.int p3), .val (.int p4), .val (.int p5), .val (.int (p5 &&& (31 : Int32))), .val (.int (2 : Int32)), .val (.long ((p4.toInt64) <<< ((p5 &&& (31 : Int32)) &&& 0x3f).toInt64)), .second, .val (.ref b69), .val (.ref b74), .unset, .unset] [(.long (((((p4.toInt64) <<< ((p5 &&& (31 : Int32)) &&& 0x3f).toInt64) + (p1.toInt64)) + (p2.toInt64)) + (p3.toInt64)))]))
    refine own_via (fun t k => XS.lstore X96.here hx rfl (hb hby at_124) rfl (l' := #[.val (.int p1), .val (.int p2), .val (.int p3), .val (.int p4), .val (.int p5), .val (.int (p5 &&& (31 : Int32))), .val (.int (2 : Int32)), .val (.long ((p4.toInt64) <<< ((p5 &&& (31 : Int32)) &&& 0x3f).toInt64)), .second, .val (.ref b69), .val (.ref b74), .val (.long (((((p4.toInt64) <<< ((p5 &&& (31 : Int32)) &&& 0x3f).toInt64) + (p1.toInt64)) + (p2.toInt64)) + (p3.toInt64))), .second]) rfl k) ?_
    show own_G p e below _ (T96.setTop (mkF m 126 #[.val (.int p1), .val (.int p2), .val (.int p3), .val (.int p4), .val (.int p5), .val (.int (p5 &&& (31 : Int32))), .val (.int (2 : Int32)), .val (.long ((p4.toInt64) <<< ((p5 &&& (31 : Int32)) &&& 0x3f).toInt64)), .second, .val (.ref b69), .val (.ref b74), .val (.long (((((p4.toInt64) <<< ((p5 &&& (31 : Int32)) &&& 0x3f).toInt64) + (p1.toInt64)) + (p2.toInt64)) + (p3.toInt64))), .second] []))
    refine own_via (fun t k => XS.aload X96.here hx rfl (hb hby at_126) rfl rfl k) ?_
    show own_G p e below _ (T96.setTop (mkF m 128 #[.val (.int p1), .val (.int p2), .val (.int p3), .val (.int p4), .val (.int p5), .val (.int (p5 &&& (31 : Int32))), .val (.int (2 : Int32)), .val (.long ((p4.toInt64) <<< ((p5 &&& (31 : Int32)) &&& 0x3f).toInt64)), .second, .val (.ref b69), .val (.ref b74), .val (.long (((((p4.toInt64) <<< ((p5 &&& (31 : Int32)) &&& 0x3f).toInt64) + (p1.toInt64)) + (p2.toInt64)) + (p3.toInt64))), .second] [(.ref b74)]))
    obtain ⟨cq101, kq101, q101a, q101b, q101c⟩ := isOf hZ rfl E96q
    obtain ⟨_, _, ⟨T101, L101, k101, n101⟩, -, X101, ⟨Lc101, hQ101, l101, y101, z101⟩, st101⟩ := X96.virtualBack hx (y := (⟨"com/example/fee_simple/feesimple/CompensatedSum", "value", "()D"⟩ : MethodName)) (z := (⟨"com/example/fee_simple/feesimple/CompensatedSum", "value", "()D"⟩ : MethodName)) hown (mvT hZ (hw _ (List.mem_of_getElem? (i := 19) rfl))) (mvT hZ (hw _ (List.mem_of_getElem? (i := 20) rfl))) (notFace_of_selects (args := #[]) (mvT hZ (hw _ (List.mem_of_getElem? (i := 22) rfl)))) (mvT hZ (hw _ (List.mem_of_getElem? (i := 22) rfl))) (mvT hZ (hw _ (List.mem_of_getElem? (i := 21) rfl))) (by decide) (backOf (W := 0) (rm4 l Z a0 hw [] b74 (own_t (own_t (own_t (own_t (0 : UInt64) (FP.i2d p2)) (FP.i2d p3)) (FP.l2d ((p4.toInt64) <<< ((p5 &&& (31 : Int32)) &&& 0x3f).toInt64))) (FP.i2d p1)) (own_k (own_t (own_t (own_t (0 : UInt64) (FP.i2d p2)) (FP.i2d p3)) (FP.l2d ((p4.toInt64) <<< ((p5 &&& (31 : Int32)) &&& 0x3f).toInt64))) (FP.i2d p1) (own_k (own_t (own_t (0 : UInt64) (FP.i2d p2)) (FP.i2d p3)) (FP.l2d ((p4.toInt64) <<< ((p5 &&& (31 : Int32)) &&& 0x3f).toInt64)) (own_k (own_t (0 : UInt64) (FP.i2d p2)) (FP.i2d p3) (own_k (0 : UInt64) (FP.i2d p2) (0 : UInt64))))) T96.heap n0 Z96 Ft96 Fc96 nv) hZ (hw _ (List.mem_of_getElem? (i := 23) rfl)) (hw _ (List.mem_of_getElem? (i := 3) rfl)) (by decide) (by decide)) q101a q101c (g := (mkF m 128 #[.val (.int p1), .val (.int p2), .val (.int p3), .val (.int p4), .val (.int p5), .val (.int (p5 &&& (31 : Int32))), .val (.int (2 : Int32)), .val (.long ((p4.toInt64) <<< ((p5 &&& (31 : Int32)) &&& 0x3f).toInt64)), .second, .val (.ref b69), .val (.ref b74), .val (.long (((((p4.toInt64) <<< ((p5 &&& (31 : Int32)) &&& 0x3f).toInt64) + (p1.toInt64)) + (p2.toInt64)) + (p3.toInt64))), .second] [(.ref b74)])) rfl (by rw [hml]; rfl) (Steps.refl _) (argsL := []) (rest := []) (lenOf pd_rm0_2 rfl) rfl (by show 2 * 0 + _ ≤ _; exact Nat.le_of_eq rfl) (hb hby at_128) (fun _ _ => ⟨rfl, rfl, (by decide : 2 + 0 ≤ _), (by decide : 6 + 0 ≤ _)⟩)
    dsimp only [Pt.U, Pt.locs, Pt.cells, Pt.slots] at X101 l101 y101 z101 st101 hQ101
    subst l101 y101 z101
    obtain ⟨rfl, N101q, e101⟩ := hQ101
    have N101 := Fr.app N96 N101q
    refine own_via (fun t k => st101.trans k) ?_
    show own_G p e below _ (T101.setTop (mkF m 131 #[.val (.int p1), .val (.int p2), .val (.int p3), .val (.int p4), .val (.int p5), .val (.int (p5 &&& (31 : Int32))), .val (.int (2 : Int32)), .val (.long ((p4.toInt64) <<< ((p5 &&& (31 : Int32)) &&& 0x3f).toInt64)), .second, .val (.ref b69), .val (.ref b74), .val (.long (((((p4.toInt64) <<< ((p5 &&& (31 : Int32)) &&& 0x3f).toInt64) + (p1.toInt64)) + (p2.toInt64)) + (p3.toInt64))), .second] [(.double (FP.dadd (own_t (own_t (own_t (own_t (0 : UInt64) (FP.i2d p2)) (FP.i2d p3)) (FP.l2d ((p4.toInt64) <<< ((p5 &&& (31 : Int32)) &&& 0x3f).toInt64))) (FP.i2d p1)) (own_k (own_t (own_t (own_t (0 : UInt64) (FP.i2d p2)) (FP.i2d p3)) (FP.l2d ((p4.toInt64) <<< ((p5 &&& (31 : Int32)) &&& 0x3f).toInt64))) (FP.i2d p1) (own_k (own_t (own_t (0 : UInt64) (FP.i2d p2)) (FP.i2d p3)) (FP.l2d ((p4.toInt64) <<< ((p5 &&& (31 : Int32)) &&& 0x3f).toInt64)) (own_k (own_t (0 : UInt64) (FP.i2d p2)) (FP.i2d p3) (own_k (0 : UInt64) (FP.i2d p2) (0 : UInt64)))))))]))
    refine own_via (fun t k => XS.lload X101.here hx rfl (hb hby at_131) rfl k) ?_
    show own_G p e below _ (T101.setTop (mkF m 133 #[.val (.int p1), .val (.int p2), .val (.int p3), .val (.int p4), .val (.int p5), .val (.int (p5 &&& (31 : Int32))), .val (.int (2 : Int32)), .val (.long ((p4.toInt64) <<< ((p5 &&& (31 : Int32)) &&& 0x3f).toInt64)), .second, .val (.ref b69), .val (.ref b74), .val (.long (((((p4.toInt64) <<< ((p5 &&& (31 : Int32)) &&& 0x3f).toInt64) + (p1.toInt64)) + (p2.toInt64)) + (p3.toInt64))), .second] [(.long (((((p4.toInt64) <<< ((p5 &&& (31 : Int32)) &&& 0x3f).toInt64) + (p1.toInt64)) + (p2.toInt64)) + (p3.toInt64))), (.double (FP.dadd (own_t (own_t (own_t (own_t (0 : UInt64) (FP.i2d p2)) (FP.i2d p3)) (FP.l2d ((p4.toInt64) <<< ((p5 &&& (31 : Int32)) &&& 0x3f).toInt64))) (FP.i2d p1)) (own_k (own_t (own_t (own_t (0 : UInt64) (FP.i2d p2)) (FP.i2d p3)) (FP.l2d ((p4.toInt64) <<< ((p5 &&& (31 : Int32)) &&& 0x3f).toInt64))) (FP.i2d p1) (own_k (own_t (own_t (0 : UInt64) (FP.i2d p2)) (FP.i2d p3)) (FP.l2d ((p4.toInt64) <<< ((p5 &&& (31 : Int32)) &&& 0x3f).toInt64)) (own_k (own_t (0 : UInt64) (FP.i2d p2)) (FP.i2d p3) (own_k (0 : UInt64) (FP.i2d p2) (0 : UInt64)))))))]))
    refine own_via (fun t k => XS.l2dS X101.here hx rfl (hb hby at_133) rfl rfl k) ?_
    show own_G p e below _ (T101.setTop (mkF m 134 #[.val (.int p1), .val (.int p2), .val (.int p3), .val (.int p4), .val (.int p5), .val (.int (p5 &&& (31 : Int32))), .val (.int (2 : Int32)), .val (.long ((p4.toInt64) <<< ((p5 &&& (31 : Int32)) &&& 0x3f).toInt64)), .second, .val (.ref b69), .val (.ref b74), .val (.long (((((p4.toInt64) <<< ((p5 &&& (31 : Int32)) &&& 0x3f).toInt64) + (p1.toInt64)) + (p2.toInt64)) + (p3.toInt64))), .second] [(.double (FP.l2d (((((p4.toInt64) <<< ((p5 &&& (31 : Int32)) &&& 0x3f).toInt64) + (p1.toInt64)) + (p2.toInt64)) + (p3.toInt64)))), (.double (FP.dadd (own_t (own_t (own_t (own_t (0 : UInt64) (FP.i2d p2)) (FP.i2d p3)) (FP.l2d ((p4.toInt64) <<< ((p5 &&& (31 : Int32)) &&& 0x3f).toInt64))) (FP.i2d p1)) (own_k (own_t (own_t (own_t (0 : UInt64) (FP.i2d p2)) (FP.i2d p3)) (FP.l2d ((p4.toInt64) <<< ((p5 &&& (31 : Int32)) &&& 0x3f).toInt64))) (FP.i2d p1) (own_k (own_t (own_t (0 : UInt64) (FP.i2d p2)) (FP.i2d p3)) (FP.l2d ((p4.toInt64) <<< ((p5 &&& (31 : Int32)) &&& 0x3f).toInt64)) (own_k (own_t (0 : UInt64) (FP.i2d p2)) (FP.i2d p3) (own_k (0 : UInt64) (FP.i2d p2) (0 : UInt64)))))))]))
    refine own_via (fun t k => XS.dcmpS X101.here hx rfl (hb hby at_134) rfl (by rw [show FP.dcmp _ _ = some .eq from hcmp] <;> rfl) k) ?_
    show own_G p e below _ (T101.setTop (mkF m 135 #[.val (.int p1), .val (.int p2), .val (.int p3), .val (.int p4), .val (.int p5), .val (.int (p5 &&& (31 : Int32))), .val (.int (2 : Int32)), .val (.long ((p4.toInt64) <<< ((p5 &&& (31 : Int32)) &&& 0x3f).toInt64)), .second, .val (.ref b69), .val (.ref b74), .val (.long (((((p4.toInt64) <<< ((p5 &&& (31 : Int32)) &&& 0x3f).toInt64) + (p1.toInt64)) + (p2.toInt64)) + (p3.toInt64))), .second] [(.int (0 : Int32))]))
    refine own_via (fun t k => XS.ifNo X101.here hx rfl (hb hby at_135) rfl ((if0 _ _).trans (teq (by decide : (0 : Int32) = (0 : Int32))).2) k) ?_
    show own_G p e below _ (T101.setTop (mkF m 138 #[.val (.int p1), .val (.int p2), .val (.int p3), .val (.int p4), .val (.int p5), .val (.int (p5 &&& (31 : Int32))), .val (.int (2 : Int32)), .val (.long ((p4.toInt64) <<< ((p5 &&& (31 : Int32)) &&& 0x3f).toInt64)), .second, .val (.ref b69), .val (.ref b74), .val (.long (((((p4.toInt64) <<< ((p5 &&& (31 : Int32)) &&& 0x3f).toInt64) + (p1.toInt64)) + (p2.toInt64)) + (p3.toInt64))), .second] []))
    refine own_via (fun t k => XS.iconst X101.here hx rfl (hb hby at_138) k) ?_
    show own_G p e below _ (T101.setTop (mkF m 139 #[.val (.int p1), .val (.int p2), .val (.int p3), .val (.int p4), .val (.int p5), .val (.int (p5 &&& (31 : Int32))), .val (.int (2 : Int32)), .val (.long ((p4.toInt64) <<< ((p5 &&& (31 : Int32)) &&& 0x3f).toInt64)), .second, .val (.ref b69), .val (.ref b74), .val (.long (((((p4.toInt64) <<< ((p5 &&& (31 : Int32)) &&& 0x3f).toInt64) + (p1.toInt64)) + (p2.toInt64)) + (p3.toInt64))), .second] [(.int (1 : Int32))]))
    refine own_via (fun t k => XS.goto X101.here hx rfl (pc0 := 139) (pc' := 143) rfl (hb hby at_139) (by decide) (by decide) k) ?_
    show own_G p e below _ (T101.setTop (mkF m 143 #[.val (.int p1), .val (.int p2), .val (.int p3), .val (.int p4), .val (.int p5), .val (.int (p5 &&& (31 : Int32))), .val (.int (2 : Int32)), .val (.long ((p4.toInt64) <<< ((p5 &&& (31 : Int32)) &&& 0x3f).toInt64)), .second, .val (.ref b69), .val (.ref b74), .val (.long (((((p4.toInt64) <<< ((p5 &&& (31 : Int32)) &&& 0x3f).toInt64) + (p1.toInt64)) + (p2.toInt64)) + (p3.toInt64))), .second] [(.int (1 : Int32))]))
    obtain ⟨fs, hr, hrun, hended, hW, hsame⟩ := X101.leave (v := some (.int (1 : Int32))) (fun h => by rw [Bd.returns] at h; cases h)
    refine ⟨_, _, retN X101 hx (t := .boolean) Bd.returns (by simp) (hb hby at_143) hr, hrun, hended, _, _, rfl, ?_, ⟨_, rfl⟩, hW, hsame.mono (by decide) (by decide)⟩
    show rm0_Q Z p1 p2 p3 p4 p5 h0 n0 _ T101.heap _
    rw [e101]
    exact ⟨rfl, N101⟩
  · rw [hk]
    obtain ⟨ok0, ok1, ok2, ok3, nv, hcmp⟩ := own_four (own_i2d p1) (own_i2d p2) (own_i2d p3) (own_bigD p4 p5).1 (Nat.le_trans (own_abs31 p1) (by decide)) (Nat.le_trans (own_abs31 p2) (by decide)) (Nat.le_trans (own_abs31 p3) (by decide)) (own_bigD p4 p5).2 (Or.inr (Or.inr (Or.inr ⟨own_abs31 p1, own_abs31 p2, own_abs31 p3⟩))) (S := ((((p4.toInt64 <<< ((p5 &&& (31 : Int32)) &&& 0x3f).toInt64) + p1.toInt64) + p2.toInt64) + p3.toInt64)) (by rw [own_exact p4 p5 p1 p2 p3] <;> omega)
    show own_G p e below _ (s₁.setTop (mkF m 13 #[.val (.int p1), .val (.int p2), .val (.int p3), .val (.int p4), .val (.int p5), .val (.int (p5 &&& (31 : Int32))), .unset, .unset, .unset, .unset, .unset, .unset, .unset] [(.int (3 : Int32))]))
    refine own_via (fun t k => XS.istore X0.here hx rfl (hb hby at_13) rfl (l' := #[.val (.int p1), .val (.int p2), .val (.int p3), .val (.int p4), .val (.int p5), .val (.int (p5 &&& (31 : Int32))), .val (.int (3 : Int32)), .unset, .unset, .unset, .unset, .unset, .unset]) rfl k) ?_
    show own_G p e below _ (s₁.setTop (mkF m 15 #[.val (.int p1), .val (.int p2), .val (.int p3), .val (.int p4), .val (.int p5), .val (.int (p5 &&& (31 : Int32))), .val (.int (3 : Int32)), .unset, .unset, .unset, .unset, .unset, .unset] []))
    refine own_via (fun t k => XS.iloadN X0.here hx rfl (hb hby at_15) rfl k) ?_
    show own_G p e below _ (s₁.setTop (mkF m 16 #[.val (.int p1), .val (.int p2), .val (.int p3), .val (.int p4), .val (.int p5), .val (.int (p5 &&& (31 : Int32))), .val (.int (3 : Int32)), .unset, .unset, .unset, .unset, .unset, .unset] [(.int p4)]))
    refine own_via (fun t k => XS.i2l X0.here hx rfl (hb hby at_16) rfl k) ?_
    show own_G p e below _ (s₁.setTop (mkF m 17 #[.val (.int p1), .val (.int p2), .val (.int p3), .val (.int p4), .val (.int p5), .val (.int (p5 &&& (31 : Int32))), .val (.int (3 : Int32)), .unset, .unset, .unset, .unset, .unset, .unset] [(.long (p4.toInt64))]))
    refine own_via (fun t k => XS.iload X0.here hx rfl (hb hby at_17) rfl k) ?_
    show own_G p e below _ (s₁.setTop (mkF m 19 #[.val (.int p1), .val (.int p2), .val (.int p3), .val (.int p4), .val (.int p5), .val (.int (p5 &&& (31 : Int32))), .val (.int (3 : Int32)), .unset, .unset, .unset, .unset, .unset, .unset] [(.int (p5 &&& (31 : Int32))), (.long (p4.toInt64))]))
    refine own_via (fun t k => XS.lshl X0.here hx rfl (hb hby at_19) rfl k) ?_
    show own_G p e below _ (s₁.setTop (mkF m 20 #[.val (.int p1), .val (.int p2), .val (.int p3), .val (.int p4), .val (.int p5), .val (.int (p5 &&& (31 : Int32))), .val (.int (3 : Int32)), .unset, .unset, .unset, .unset, .unset, .unset] [(.long ((p4.toInt64) <<< ((p5 &&& (31 : Int32)) &&& 0x3f).toInt64))]))
    refine own_via (fun t k => XS.lstore X0.here hx rfl (hb hby at_20) rfl (l' := #[.val (.int p1), .val (.int p2), .val (.int p3), .val (.int p4), .val (.int p5), .val (.int (p5 &&& (31 : Int32))), .val (.int (3 : Int32)), .val (.long ((p4.toInt64) <<< ((p5 &&& (31 : Int32)) &&& 0x3f).toInt64)), .second, .unset, .unset, .unset, .unset]) rfl k) ?_
    show own_G p e below _ (s₁.setTop (mkF m 22 #[.val (.int p1), .val (.int p2), .val (.int p3), .val (.int p4), .val (.int p5), .val (.int (p5 &&& (31 : Int32))), .val (.int (3 : Int32)), .val (.long ((p4.toInt64) <<< ((p5 &&& (31 : Int32)) &&& 0x3f).toInt64)), .second, .unset, .unset, .unset, .unset] []))
    refine own_via (fun t k => XS.iconst X0.here hx rfl (hb hby at_22) k) ?_
    show own_G p e below _ (s₁.setTop (mkF m 23 #[.val (.int p1), .val (.int p2), .val (.int p3), .val (.int p4), .val (.int p5), .val (.int (p5 &&& (31 : Int32))), .val (.int (3 : Int32)), .val (.long ((p4.toInt64) <<< ((p5 &&& (31 : Int32)) &&& 0x3f).toInt64)), .second, .unset, .unset, .unset, .unset] [(.int (4 : Int32))]))
    obtain ⟨T103, h103, k103, X103, e103, E103, A103, st103⟩ := newP X0 hx hZ (hw _ (List.mem_of_getElem? (i := 0) rfl)) e0 (g := (mkF m 23 #[.val (.int p1), .val (.int p2), .val (.int p3), .val (.int p4), .val (.int p5), .val (.int (p5 &&& (31 : Int32))), .val (.int (3 : Int32)), .val (.long ((p4.toInt64) <<< ((p5 &&& (31 : Int32)) &&& 0x3f).toInt64)), .second, .unset, .unset, .unset, .unset] [(.int (4 : Int32))])) rfl (hb hby at_23) rfl (by decide) (cap := 4) (by decide) (by decide) (by decide) (by decide)
    obtain ⟨b103, g103⟩ : ∃ z, z = h0.size := ⟨_, rfl⟩
    rw [← g103] at A103 st103
    have gx_b103 : n0 ≤ b103 := Nat.le_trans Z0 (Nat.le_of_eq g103.symm)
    have Z103 : n0 ≤ h103.size := Nat.le_trans Z0 E103.1
    have V103 : Arv Z h103 b103 k103 .double (4 : Int32) [(.double (0 : UInt64)), (.double (0 : UInt64)), (.double (0 : UInt64)), (.double (0 : UInt64))] (.double (0 : UInt64)) := (Arv.new A103 (by decide)).pad (pad_rep [] (.double (0 : UInt64)) 4)
    refine own_via st103 ?_
    show own_G p e below _ (T103.setTop (mkF m 25 #[.val (.int p1), .val (.int p2), .val (.int p3), .val (.int p4), .val (.int p5), .val (.int (p5 &&& (31 : Int32))), .val (.int (3 : Int32)), .val (.long ((p4.toInt64) <<< ((p5 &&& (31 : Int32)) &&& 0x3f).toInt64)), .second, .unset, .unset, .unset, .unset] [(.ref b103)]))
    refine own_via (fun t k => XS.astore X103.here hx rfl (hb hby at_25) rfl rfl (l' := #[.val (.int p1), .val (.int p2), .val (.int p3), .val (.int p4), .val (.int p5), .val (.int (p5 &&& (31 : Int32))), .val (.int (3 : Int32)), .val (.long ((p4.toInt64) <<< ((p5 &&& (31 : Int32)) &&& 0x3f).toInt64)), .second, .val (.ref b103), .unset, .unset, .unset]) rfl k) ?_
    show own_G p e below _ (T103.setTop (mkF m 27 #[.val (.int p1), .val (.int p2), .val (.int p3), .val (.int p4), .val (.int p5), .val (.int (p5 &&& (31 : Int32))), .val (.int (3 : Int32)), .val (.long ((p4.toInt64) <<< ((p5 &&& (31 : Int32)) &&& 0x3f).toInt64)), .second, .val (.ref b103), .unset, .unset, .unset] []))
    refine own_via (fun t k => XS.aload X103.here hx rfl (hb hby at_27) rfl rfl k) ?_
    show own_G p e below _ (T103.setTop (mkF m 29 #[.val (.int p1), .val (.int p2), .val (.int p3), .val (.int p4), .val (.int p5), .val (.int (p5 &&& (31 : Int32))), .val (.int (3 : Int32)), .val (.long ((p4.toInt64) <<< ((p5 &&& (31 : Int32)) &&& 0x3f).toInt64)), .second, .val (.ref b103), .unset, .unset, .unset] [(.ref b103)]))
    refine own_via (fun t k => XS.iload X103.here hx rfl (hb hby at_29) rfl k) ?_
    show own_G p e below _ (T103.setTop (mkF m 31 #[.val (.int p1), .val (.int p2), .val (.int p3), .val (.int p4), .val (.int p5), .val (.int (p5 &&& (31 : Int32))), .val (.int (3 : Int32)), .val (.long ((p4.toInt64) <<< ((p5 &&& (31 : Int32)) &&& 0x3f).toInt64)), .second, .val (.ref b103), .unset, .unset, .unset] [(.int (3 : Int32)), (.ref b103)]))
    refine own_via (fun t k => XS.lload X103.here hx rfl (hb hby at_31) rfl k) ?_
    show own_G p e below _ (T103.setTop (mkF m 33 #[.val (.int p1), .val (.int p2), .val (.int p3), .val (.int p4), .val (.int p5), .val (.int (p5 &&& (31 : Int32))), .val (.int (3 : Int32)), .val (.long ((p4.toInt64) <<< ((p5 &&& (31 : Int32)) &&& 0x3f).toInt64)), .second, .val (.ref b103), .unset, .unset, .unset] [(.long ((p4.toInt64) <<< ((p5 &&& (31 : Int32)) &&& 0x3f).toInt64)), (.int (3 : Int32)), (.ref b103)]))
    refine own_via (fun t k => XS.l2dS X103.here hx rfl (hb hby at_33) rfl rfl k) ?_
    show own_G p e below _ (T103.setTop (mkF m 34 #[.val (.int p1), .val (.int p2), .val (.int p3), .val (.int p4), .val (.int p5), .val (.int (p5 &&& (31 : Int32))), .val (.int (3 : Int32)), .val (.long ((p4.toInt64) <<< ((p5 &&& (31 : Int32)) &&& 0x3f).toInt64)), .second, .val (.ref b103), .unset, .unset, .unset] [(.double (FP.l2d ((p4.toInt64) <<< ((p5 &&& (31 : Int32)) &&& 0x3f).toInt64))), (.int (3 : Int32)), (.ref b103)]))
    obtain ⟨cl104, Ar104, q104, S104, Ng104, Hs104, G104⟩ := id V103
    have hin104 : ¬ ((3 : Int32) < 0 ∨ cl104.slots.size ≤ ((3 : Int32)).toNatClampNeg) := inb_of S104 ⟨by decide, by decide⟩
    obtain ⟨T104, h104, X104, e104, W104, st104⟩ := stD X103 hx hZ e103 Ar104 (j := (3 : Int32)) hin104 (g := (mkF m 34 #[.val (.int p1), .val (.int p2), .val (.int p3), .val (.int p4), .val (.int p5), .val (.int (p5 &&& (31 : Int32))), .val (.int (3 : Int32)), .val (.long ((p4.toInt64) <<< ((p5 &&& (31 : Int32)) &&& 0x3f).toInt64)), .second, .val (.ref b103), .unset, .unset, .unset] [(.double (FP.l2d ((p4.toInt64) <<< ((p5 &&& (31 : Int32)) &&& 0x3f).toInt64))), (.int (3 : Int32)), (.ref b103)])) rfl rfl (hb hby at_34)
    have V104 : Arv Z h104 b103 k103 .double (4 : Int32) [(.double (0 : UInt64)), (.double (0 : UInt64)), (.double (0 : UInt64)), (.double (FP.l2d ((p4.toInt64) <<< ((p5 &&& (31 : Int32)) &&& 0x3f).toInt64)))] (.double (0 : UInt64)) := Arv.set Ar104 q104 S104 Ng104 Hs104 G104 rfl W104 3 rfl (Nat.le_of_ble_eq_true rfl)
    have N104 := Fr.snoc X104 N0 gx_b103
    have Z104 : n0 ≤ h104.size := Nat.le_trans Z103 (Nat.le_of_eq W104.size.symm)
    refine own_via st104 ?_
    show own_G p e below _ (T104.setTop (mkF m 35 #[.val (.int p1), .val (.int p2), .val (.int p3), .val (.int p4), .val (.int p5), .val (.int (p5 &&& (31 : Int32))), .val (.int (3 : Int32)), .val (.long ((p4.toInt64) <<< ((p5 &&& (31 : Int32)) &&& 0x3f).toInt64)), .second, .val (.ref b103), .unset, .unset, .unset] []))
    refine own_via (fun t k => XS.aload X104.here hx rfl (hb hby at_35) rfl rfl k) ?_
    show own_G p e below _ (T104.setTop (mkF m 37 #[.val (.int p1), .val (.int p2), .val (.int p3), .val (.int p4), .val (.int p5), .val (.int (p5 &&& (31 : Int32))), .val (.int (3 : Int32)), .val (.long ((p4.toInt64) <<< ((p5 &&& (31 : Int32)) &&& 0x3f).toInt64)), .second, .val (.ref b103), .unset, .unset, .unset] [(.ref b103)]))
    refine own_via (fun t k => XS.iload X104.here hx rfl (hb hby at_37) rfl k) ?_
    show own_G p e below _ (T104.setTop (mkF m 39 #[.val (.int p1), .val (.int p2), .val (.int p3), .val (.int p4), .val (.int p5), .val (.int (p5 &&& (31 : Int32))), .val (.int (3 : Int32)), .val (.long ((p4.toInt64) <<< ((p5 &&& (31 : Int32)) &&& 0x3f).toInt64)), .second, .val (.ref b103), .unset, .unset, .unset] [(.int (3 : Int32)), (.ref b103)]))
    refine own_via (fun t k => XS.iconst X104.here hx rfl (hb hby at_39) k) ?_
    show own_G p e below _ (T104.setTop (mkF m 40 #[.val (.int p1), .val (.int p2), .val (.int p3), .val (.int p4), .val (.int p5), .val (.int (p5 &&& (31 : Int32))), .val (.int (3 : Int32)), .val (.long ((p4.toInt64) <<< ((p5 &&& (31 : Int32)) &&& 0x3f).toInt64)), .second, .val (.ref b103), .unset, .unset, .unset] [(.int (1 : Int32)), (.int (3 : Int32)), (.ref b103)]))
    refine own_via (fun t k => XS.iadd X104.here hx rfl (hb hby at_40) rfl k) ?_
    show own_G p e below _ (T104.setTop (mkF m 41 #[.val (.int p1), .val (.int p2), .val (.int p3), .val (.int p4), .val (.int p5), .val (.int (p5 &&& (31 : Int32))), .val (.int (3 : Int32)), .val (.long ((p4.toInt64) <<< ((p5 &&& (31 : Int32)) &&& 0x3f).toInt64)), .second, .val (.ref b103), .unset, .unset, .unset] [(.int (4 : Int32)), (.ref b103)]))
    refine own_via (fun t k => XS.iconst X104.here hx rfl (hb hby at_41) k) ?_
    show own_G p e below _ (T104.setTop (mkF m 42 #[.val (.int p1), .val (.int p2), .val (.int p3), .val (.int p4), .val (.int p5), .val (.int (p5 &&& (31 : Int32))), .val (.int (3 : Int32)), .val (.long ((p4.toInt64) <<< ((p5 &&& (31 : Int32)) &&& 0x3f).toInt64)), .second, .val (.ref b103), .unset, .unset, .unset] [(.int (3 : Int32)), (.int (4 : Int32)), (.ref b103)]))
    refine own_via (fun t k => XS.iand X104.here hx rfl (hb hby at_42) rfl k) ?_
    show own_G p e below _ (T104.setTop (mkF m 43 #[.val (.int p1), .val (.int p2), .val (.int p3), .val (.int p4), .val (.int p5), .val (.int (p5 &&& (31 : Int32))), .val (.int (3 : Int32)), .val (.long ((p4.toInt64) <<< ((p5 &&& (31 : Int32)) &&& 0x3f).toInt64)), .second, .val (.ref b103), .unset, .unset, .unset] [(.int (0 : Int32)), (.ref b103)]))
    refine own_via (fun t k => XS.iloadN X104.here hx rfl (hb hby at_43) rfl k) ?_
    show own_G p e below _ (T104.setTop (mkF m 44 #[.val (.int p1), .val (.int p2), .val (.int p3), .val (.int p4), .val (.int p5), .val (.int (p5 &&& (31 : Int32))), .val (.int (3 : Int32)), .val (.long ((p4.toInt64) <<< ((p5 &&& (31 : Int32)) &&& 0x3f).toInt64)), .second, .val (.ref b103), .unset, .unset, .unset] [(.int p1), (.int (0 : Int32)), (.ref b103)]))
    refine own_via (fun t k => XS.i2dS X104.here hx rfl (hb hby at_44) rfl rfl k) ?_
    show own_G p e below _ (T104.setTop (mkF m 45 #[.val (.int p1), .val (.int p2), .val (.int p3), .val (.int p4), .val (.int p5), .val (.int (p5 &&& (31 : Int32))), .val (.int (3 : Int32)), .val (.long ((p4.toInt64) <<< ((p5 &&& (31 : Int32)) &&& 0x3f).toInt64)), .second, .val (.ref b103), .unset, .unset, .unset] [(.double (FP.i2d p1)), (.int (0 : Int32)), (.ref b103)]))
    obtain ⟨cl105, Ar105, q105, S105, Ng105, Hs105, G105⟩ := id V104
    have hin105 : ¬ ((0 : Int32) < 0 ∨ cl105.slots.size ≤ ((0 : Int32)).toNatClampNeg) := inb_of S105 ⟨by decide, by decide⟩
    obtain ⟨T105, h105, X105, e105, W105, st105⟩ := stD X104 hx hZ e104 Ar105 (j := (0 : Int32)) hin105 (g := (mkF m 45 #[.val (.int p1), .val (.int p2), .val (.int p3), .val (.int p4), .val (.int p5), .val (.int (p5 &&& (31 : Int32))), .val (.int (3 : Int32)), .val (.long ((p4.toInt64) <<< ((p5 &&& (31 : Int32)) &&& 0x3f).toInt64)), .second, .val (.ref b103), .unset, .unset, .unset] [(.double (FP.i2d p1)), (.int (0 : Int32)), (.ref b103)])) rfl rfl (hb hby at_45)
    have V105 : Arv Z h105 b103 k103 .double (4 : Int32) [(.double (FP.i2d p1)), (.double (0 : UInt64)), (.double (0 : UInt64)), (.double (FP.l2d ((p4.toInt64) <<< ((p5 &&& (31 : Int32)) &&& 0x3f).toInt64)))] (.double (0 : UInt64)) := Arv.set Ar105 q105 S105 Ng105 Hs105 G105 rfl W105 0 rfl (Nat.le_of_ble_eq_true rfl)
    have N105 := Fr.snoc X105 N104 gx_b103
    have Z105 : n0 ≤ h105.size := Nat.le_trans Z104 (Nat.le_of_eq W105.size.symm)
    refine own_via st105 ?_
    show own_G p e below _ (T105.setTop (mkF m 46 #[.val (.int p1), .val (.int p2), .val (.int p3), .val (.int p4), .val (.int p5), .val (.int (p5 &&& (31 : Int32))), .val (.int (3 : Int32)), .val (.long ((p4.toInt64) <<< ((p5 &&& (31 : Int32)) &&& 0x3f).toInt64)), .second, .val (.ref b103), .unset, .unset, .unset] []))
    refine own_via (fun t k => XS.aload X105.here hx rfl (hb hby at_46) rfl rfl k) ?_
    show own_G p e below _ (T105.setTop (mkF m 48 #[.val (.int p1), .val (.int p2), .val (.int p3), .val (.int p4), .val (.int p5), .val (.int (p5 &&& (31 : Int32))), .val (.int (3 : Int32)), .val (.long ((p4.toInt64) <<< ((p5 &&& (31 : Int32)) &&& 0x3f).toInt64)), .second, .val (.ref b103), .unset, .unset, .unset] [(.ref b103)]))
    refine own_via (fun t k => XS.iload X105.here hx rfl (hb hby at_48) rfl k) ?_
    show own_G p e below _ (T105.setTop (mkF m 50 #[.val (.int p1), .val (.int p2), .val (.int p3), .val (.int p4), .val (.int p5), .val (.int (p5 &&& (31 : Int32))), .val (.int (3 : Int32)), .val (.long ((p4.toInt64) <<< ((p5 &&& (31 : Int32)) &&& 0x3f).toInt64)), .second, .val (.ref b103), .unset, .unset, .unset] [(.int (3 : Int32)), (.ref b103)]))
    refine own_via (fun t k => XS.iconst X105.here hx rfl (hb hby at_50) k) ?_
    show own_G p e below _ (T105.setTop (mkF m 51 #[.val (.int p1), .val (.int p2), .val (.int p3), .val (.int p4), .val (.int p5), .val (.int (p5 &&& (31 : Int32))), .val (.int (3 : Int32)), .val (.long ((p4.toInt64) <<< ((p5 &&& (31 : Int32)) &&& 0x3f).toInt64)), .second, .val (.ref b103), .unset, .unset, .unset] [(.int (2 : Int32)), (.int (3 : Int32)), (.ref b103)]))
    refine own_via (fun t k => XS.iadd X105.here hx rfl (hb hby at_51) rfl k) ?_
    show own_G p e below _ (T105.setTop (mkF m 52 #[.val (.int p1), .val (.int p2), .val (.int p3), .val (.int p4), .val (.int p5), .val (.int (p5 &&& (31 : Int32))), .val (.int (3 : Int32)), .val (.long ((p4.toInt64) <<< ((p5 &&& (31 : Int32)) &&& 0x3f).toInt64)), .second, .val (.ref b103), .unset, .unset, .unset] [(.int (5 : Int32)), (.ref b103)]))
    refine own_via (fun t k => XS.iconst X105.here hx rfl (hb hby at_52) k) ?_
    show own_G p e below _ (T105.setTop (mkF m 53 #[.val (.int p1), .val (.int p2), .val (.int p3), .val (.int p4), .val (.int p5), .val (.int (p5 &&& (31 : Int32))), .val (.int (3 : Int32)), .val (.long ((p4.toInt64) <<< ((p5 &&& (31 : Int32)) &&& 0x3f).toInt64)), .second, .val (.ref b103), .unset, .unset, .unset] [(.int (3 : Int32)), (.int (5 : Int32)), (.ref b103)]))
    refine own_via (fun t k => XS.iand X105.here hx rfl (hb hby at_53) rfl k) ?_
    show own_G p e below _ (T105.setTop (mkF m 54 #[.val (.int p1), .val (.int p2), .val (.int p3), .val (.int p4), .val (.int p5), .val (.int (p5 &&& (31 : Int32))), .val (.int (3 : Int32)), .val (.long ((p4.toInt64) <<< ((p5 &&& (31 : Int32)) &&& 0x3f).toInt64)), .second, .val (.ref b103), .unset, .unset, .unset] [(.int (1 : Int32)), (.ref b103)]))
    refine own_via (fun t k => XS.iloadN X105.here hx rfl (hb hby at_54) rfl k) ?_
    show own_G p e below _ (T105.setTop (mkF m 55 #[.val (.int p1), .val (.int p2), .val (.int p3), .val (.int p4), .val (.int p5), .val (.int (p5 &&& (31 : Int32))), .val (.int (3 : Int32)), .val (.long ((p4.toInt64) <<< ((p5 &&& (31 : Int32)) &&& 0x3f).toInt64)), .second, .val (.ref b103), .unset, .unset, .unset] [(.int p2), (.int (1 : Int32)), (.ref b103)]))
    refine own_via (fun t k => XS.i2dS X105.here hx rfl (hb hby at_55) rfl rfl k) ?_
    show own_G p e below _ (T105.setTop (mkF m 56 #[.val (.int p1), .val (.int p2), .val (.int p3), .val (.int p4), .val (.int p5), .val (.int (p5 &&& (31 : Int32))), .val (.int (3 : Int32)), .val (.long ((p4.toInt64) <<< ((p5 &&& (31 : Int32)) &&& 0x3f).toInt64)), .second, .val (.ref b103), .unset, .unset, .unset] [(.double (FP.i2d p2)), (.int (1 : Int32)), (.ref b103)]))
    obtain ⟨cl106, Ar106, q106, S106, Ng106, Hs106, G106⟩ := id V105
    have hin106 : ¬ ((1 : Int32) < 0 ∨ cl106.slots.size ≤ ((1 : Int32)).toNatClampNeg) := inb_of S106 ⟨by decide, by decide⟩
    obtain ⟨T106, h106, X106, e106, W106, st106⟩ := stD X105 hx hZ e105 Ar106 (j := (1 : Int32)) hin106 (g := (mkF m 56 #[.val (.int p1), .val (.int p2), .val (.int p3), .val (.int p4), .val (.int p5), .val (.int (p5 &&& (31 : Int32))), .val (.int (3 : Int32)), .val (.long ((p4.toInt64) <<< ((p5 &&& (31 : Int32)) &&& 0x3f).toInt64)), .second, .val (.ref b103), .unset, .unset, .unset] [(.double (FP.i2d p2)), (.int (1 : Int32)), (.ref b103)])) rfl rfl (hb hby at_56)
    have V106 : Arv Z h106 b103 k103 .double (4 : Int32) [(.double (FP.i2d p1)), (.double (FP.i2d p2)), (.double (0 : UInt64)), (.double (FP.l2d ((p4.toInt64) <<< ((p5 &&& (31 : Int32)) &&& 0x3f).toInt64)))] (.double (0 : UInt64)) := Arv.set Ar106 q106 S106 Ng106 Hs106 G106 rfl W106 1 rfl (Nat.le_of_ble_eq_true rfl)
    have N106 := Fr.snoc X106 N105 gx_b103
    have Z106 : n0 ≤ h106.size := Nat.le_trans Z105 (Nat.le_of_eq W106.size.symm)
    refine own_via st106 ?_
    show own_G p e below _ (T106.setTop (mkF m 57 #[.val (.int p1), .val (.int p2), .val (.int p3), .val (.int p4), .val (.int p5), .val (.int (p5 &&& (31 : Int32))), .val (.int (3 : Int32)), .val (.long ((p4.toInt64) <<< ((p5 &&& (31 : Int32)) &&& 0x3f).toInt64)), .second, .val (.ref b103), .unset, .unset, .unset] []))
    refine own_via (fun t k => XS.aload X106.here hx rfl (hb hby at_57) rfl rfl k) ?_
    show own_G p e below _ (T106.setTop (mkF m 59 #[.val (.int p1), .val (.int p2), .val (.int p3), .val (.int p4), .val (.int p5), .val (.int (p5 &&& (31 : Int32))), .val (.int (3 : Int32)), .val (.long ((p4.toInt64) <<< ((p5 &&& (31 : Int32)) &&& 0x3f).toInt64)), .second, .val (.ref b103), .unset, .unset, .unset] [(.ref b103)]))
    refine own_via (fun t k => XS.iload X106.here hx rfl (hb hby at_59) rfl k) ?_
    show own_G p e below _ (T106.setTop (mkF m 61 #[.val (.int p1), .val (.int p2), .val (.int p3), .val (.int p4), .val (.int p5), .val (.int (p5 &&& (31 : Int32))), .val (.int (3 : Int32)), .val (.long ((p4.toInt64) <<< ((p5 &&& (31 : Int32)) &&& 0x3f).toInt64)), .second, .val (.ref b103), .unset, .unset, .unset] [(.int (3 : Int32)), (.ref b103)]))
    refine own_via (fun t k => XS.iconst X106.here hx rfl (hb hby at_61) k) ?_
    show own_G p e below _ (T106.setTop (mkF m 62 #[.val (.int p1), .val (.int p2), .val (.int p3), .val (.int p4), .val (.int p5), .val (.int (p5 &&& (31 : Int32))), .val (.int (3 : Int32)), .val (.long ((p4.toInt64) <<< ((p5 &&& (31 : Int32)) &&& 0x3f).toInt64)), .second, .val (.ref b103), .unset, .unset, .unset] [(.int (3 : Int32)), (.int (3 : Int32)), (.ref b103)]))
    refine own_via (fun t k => XS.iadd X106.here hx rfl (hb hby at_62) rfl k) ?_
    show own_G p e below _ (T106.setTop (mkF m 63 #[.val (.int p1), .val (.int p2), .val (.int p3), .val (.int p4), .val (.int p5), .val (.int (p5 &&& (31 : Int32))), .val (.int (3 : Int32)), .val (.long ((p4.toInt64) <<< ((p5 &&& (31 : Int32)) &&& 0x3f).toInt64)), .second, .val (.ref b103), .unset, .unset, .unset] [(.int (6 : Int32)), (.ref b103)]))
    refine own_via (fun t k => XS.iconst X106.here hx rfl (hb hby at_63) k) ?_
    show own_G p e below _ (T106.setTop (mkF m 64 #[.val (.int p1), .val (.int p2), .val (.int p3), .val (.int p4), .val (.int p5), .val (.int (p5 &&& (31 : Int32))), .val (.int (3 : Int32)), .val (.long ((p4.toInt64) <<< ((p5 &&& (31 : Int32)) &&& 0x3f).toInt64)), .second, .val (.ref b103), .unset, .unset, .unset] [(.int (3 : Int32)), (.int (6 : Int32)), (.ref b103)]))
    refine own_via (fun t k => XS.iand X106.here hx rfl (hb hby at_64) rfl k) ?_
    show own_G p e below _ (T106.setTop (mkF m 65 #[.val (.int p1), .val (.int p2), .val (.int p3), .val (.int p4), .val (.int p5), .val (.int (p5 &&& (31 : Int32))), .val (.int (3 : Int32)), .val (.long ((p4.toInt64) <<< ((p5 &&& (31 : Int32)) &&& 0x3f).toInt64)), .second, .val (.ref b103), .unset, .unset, .unset] [(.int (2 : Int32)), (.ref b103)]))
    refine own_via (fun t k => XS.iloadN X106.here hx rfl (hb hby at_65) rfl k) ?_
    show own_G p e below _ (T106.setTop (mkF m 66 #[.val (.int p1), .val (.int p2), .val (.int p3), .val (.int p4), .val (.int p5), .val (.int (p5 &&& (31 : Int32))), .val (.int (3 : Int32)), .val (.long ((p4.toInt64) <<< ((p5 &&& (31 : Int32)) &&& 0x3f).toInt64)), .second, .val (.ref b103), .unset, .unset, .unset] [(.int p3), (.int (2 : Int32)), (.ref b103)]))
    refine own_via (fun t k => XS.i2dS X106.here hx rfl (hb hby at_66) rfl rfl k) ?_
    show own_G p e below _ (T106.setTop (mkF m 67 #[.val (.int p1), .val (.int p2), .val (.int p3), .val (.int p4), .val (.int p5), .val (.int (p5 &&& (31 : Int32))), .val (.int (3 : Int32)), .val (.long ((p4.toInt64) <<< ((p5 &&& (31 : Int32)) &&& 0x3f).toInt64)), .second, .val (.ref b103), .unset, .unset, .unset] [(.double (FP.i2d p3)), (.int (2 : Int32)), (.ref b103)]))
    obtain ⟨cl107, Ar107, q107, S107, Ng107, Hs107, G107⟩ := id V106
    have hin107 : ¬ ((2 : Int32) < 0 ∨ cl107.slots.size ≤ ((2 : Int32)).toNatClampNeg) := inb_of S107 ⟨by decide, by decide⟩
    obtain ⟨T107, h107, X107, e107, W107, st107⟩ := stD X106 hx hZ e106 Ar107 (j := (2 : Int32)) hin107 (g := (mkF m 67 #[.val (.int p1), .val (.int p2), .val (.int p3), .val (.int p4), .val (.int p5), .val (.int (p5 &&& (31 : Int32))), .val (.int (3 : Int32)), .val (.long ((p4.toInt64) <<< ((p5 &&& (31 : Int32)) &&& 0x3f).toInt64)), .second, .val (.ref b103), .unset, .unset, .unset] [(.double (FP.i2d p3)), (.int (2 : Int32)), (.ref b103)])) rfl rfl (hb hby at_67)
    have V107 : Arv Z h107 b103 k103 .double (4 : Int32) [(.double (FP.i2d p1)), (.double (FP.i2d p2)), (.double (FP.i2d p3)), (.double (FP.l2d ((p4.toInt64) <<< ((p5 &&& (31 : Int32)) &&& 0x3f).toInt64)))] (.double (0 : UInt64)) := Arv.set Ar107 q107 S107 Ng107 Hs107 G107 rfl W107 2 rfl (Nat.le_of_ble_eq_true rfl)
    have N107 := Fr.snoc X107 N106 gx_b103
    have Z107 : n0 ≤ h107.size := Nat.le_trans Z106 (Nat.le_of_eq W107.size.symm)
    refine own_via st107 ?_
    show own_G p e below _ (T107.setTop (mkF m 68 #[.val (.int p1), .val (.int p2), .val (.int p3), .val (.int p4), .val (.int p5), .val (.int (p5 &&& (31 : Int32))), .val (.int (3 : Int32)), .val (.long ((p4.toInt64) <<< ((p5 &&& (31 : Int32)) &&& 0x3f).toInt64)), .second, .val (.ref b103), .unset, .unset, .unset] []))
    obtain ⟨T108, h108, X108, e108, E108, A108, D108, -, st108⟩ := newO X107 hx hZ hown (hw _ (List.mem_of_getElem? (i := 1) rfl)) (hw _ (List.mem_of_getElem? (i := 2) rfl)) (hw _ (List.mem_of_getElem? (i := 3) rfl)) e107 (g := (mkF m 68 #[.val (.int p1), .val (.int p2), .val (.int p3), .val (.int p4), .val (.int p5), .val (.int (p5 &&& (31 : Int32))), .val (.int (3 : Int32)), .val (.long ((p4.toInt64) <<< ((p5 &&& (31 : Int32)) &&& 0x3f).toInt64)), .second, .val (.ref b103), .unset, .unset, .unset] [])) rfl (hb hby at_68) (by decide) (by decide)
    obtain ⟨b108, g108⟩ : ∃ z, z = h107.size := ⟨_, rfl⟩
    rw [← g108] at A108 D108 st108
    have gx_b108 : n0 ≤ b108 := Nat.le_trans Z107 (Nat.le_of_eq g108.symm)
    have Z108 : n0 ≤ h108.size := Nat.le_trans Z107 E108.1
    have ne_b103_b108 : b103 ≠ b108 := Nat.ne_of_lt (Nat.lt_of_lt_of_le V107.lt (Nat.le_of_eq g108.symm))
    have F109 := V107.ext E108
    have F108_total : Fld Z h108 b108 "com/example/fee_simple/feesimple/CompensatedSum" "total" "D" (.double (0 : UInt64)) := D108 (Or.inl (hw _ (List.mem_of_getElem? (i := 16) rfl))) (ty := .double) (by decide)
    have F108_compensation : Fld Z h108 b108 "com/example/fee_simple/feesimple/CompensatedSum" "compensation" "D" (.double (0 : UInt64)) := D108 (Or.inl (hw _ (List.mem_of_getElem? (i := 18) rfl))) (ty := .double) (by decide)
    refine own_via st108 ?_
    show own_G p e below _ (T108.setTop (mkF m 71 #[.val (.int p1), .val (.int p2), .val (.int p3), .val (.int p4), .val (.int p5), .val (.int (p5 &&& (31 : Int32))), .val (.int (3 : Int32)), .val (.long ((p4.toInt64) <<< ((p5 &&& (31 : Int32)) &&& 0x3f).toInt64)), .second, .val (.ref b103), .unset, .unset, .unset] [(.ref b108)]))
    refine own_via (fun t k => XS.dup X108.here hx rfl (hb hby at_71) rfl rfl k) ?_
    show own_G p e below _ (T108.setTop (mkF m 72 #[.val (.int p1), .val (.int p2), .val (.int p3), .val (.int p4), .val (.int p5), .val (.int (p5 &&& (31 : Int32))), .val (.int (3 : Int32)), .val (.long ((p4.toInt64) <<< ((p5 &&& (31 : Int32)) &&& 0x3f).toInt64)), .second, .val (.ref b103), .unset, .unset, .unset] [(.ref b108), (.ref b108)]))
    obtain ⟨_, _, ⟨T110, L110, k110, n110⟩, -, X110, ⟨Lc110, hQ110, l110, y110, z110⟩, st110⟩ := X108.specialBack hx (y := (⟨"com/example/fee_simple/feesimple/CompensatedSum", "<init>", "()V"⟩ : MethodName)) rfl hown (mvT hZ (hw _ (List.mem_of_getElem? (i := 4) rfl))) (mvT hZ (hw _ (List.mem_of_getElem? (i := 5) rfl))) (mvT hZ (hw _ (List.mem_of_getElem? (i := 6) rfl))) (by decide) (backOf (W := 1) (rm1 l Z a0 hw [] b108 h108 n0 Z108) hZ (hw _ (List.mem_of_getElem? (i := 6) rfl)) (hw _ (List.mem_of_getElem? (i := 3) rfl)) (by decide) (by decide)) (g := (mkF m 72 #[.val (.int p1), .val (.int p2), .val (.int p3), .val (.int p4), .val (.int p5), .val (.int (p5 &&& (31 : Int32))), .val (.int (3 : Int32)), .val (.long ((p4.toInt64) <<< ((p5 &&& (31 : Int32)) &&& 0x3f).toInt64)), .second, .val (.ref b103), .unset, .unset, .unset] [(.ref b108), (.ref b108)])) rfl (by rw [hml]; rfl) (Steps.refl _) (a := b108) (argsL := []) (rest := [(.ref b108)]) (lenOf pd_rm0_0 rfl) rfl (by show 2 * 0 + _ ≤ _; exact Nat.le_of_eq rfl) (hb hby at_72) (fun _ _ => ⟨rfl, e108, (by decide : 2 + 0 ≤ _), (by decide : 6 + 0 ≤ _)⟩)
    dsimp only [Pt.U, Pt.locs, Pt.cells, Pt.slots] at X110 l110 y110 z110 st110 hQ110
    subst l110 y110 z110
    obtain ⟨rfl, N110q, e110⟩ := hQ110
    have N110 := Fr.app N107 N110q
    refine own_via (fun t k => st110.trans k) ?_
    show own_G p e below _ (T110.setTop (mkF m 75 #[.val (.int p1), .val (.int p2), .val (.int p3), .val (.int p4), .val (.int p5), .val (.int (p5 &&& (31 : Int32))), .val (.int (3 : Int32)), .val (.long ((p4.toInt64) <<< ((p5 &&& (31 : Int32)) &&& 0x3f).toInt64)), .second, .val (.ref b103), .unset, .unset, .unset] [(.ref b108)]))
    refine own_via (fun t k => XS.astore X110.here hx rfl (hb hby at_75) rfl rfl (l' := #[.val (.int p1), .val (.int p2), .val (.int p3), .val (.int p4), .val (.int p5), .val (.int (p5 &&& (31 : Int32))), .val (.int (3 : Int32)), .val (.long ((p4.toInt64) <<< ((p5 &&& (31 : Int32)) &&& 0x3f).toInt64)), .second, .val (.ref b103), .val (.ref b108), .unset, .unset]) rfl k) ?_
    show own_G p e below _ (T110.setTop (mkF m 77 #[.val (.int p1), .val (.int p2), .val (.int p3), .val (.int p4), .val (.int p5), .val (.int (p5 &&& (31 : Int32))), .val (.int (3 : Int32)), .val (.long ((p4.toInt64) <<< ((p5 &&& (31 : Int32)) &&& 0x3f).toInt64)), .second, .val (.ref b103), .val (.ref b108), .unset, .unset] []))
    refine own_via (fun t k => XS.aload X110.here hx rfl (hb hby at_77) rfl rfl k) ?_
    show own_G p e below _ (T110.setTop (mkF m 79 #[.val (.int p1), .val (.int p2), .val (.int p3), .val (.int p4), .val (.int p5), .val (.int (p5 &&& (31 : Int32))), .val (.int (3 : Int32)), .val (.long ((p4.toInt64) <<< ((p5 &&& (31 : Int32)) &&& 0x3f).toInt64)), .second, .val (.ref b103), .val (.ref b108), .unset, .unset] [(.ref b108)]))
    refine own_via (fun t k => XS.aload X110.here hx rfl (hb hby at_79) rfl rfl k) ?_
    show own_G p e below _ (T110.setTop (mkF m 81 #[.val (.int p1), .val (.int p2), .val (.int p3), .val (.int p4), .val (.int p5), .val (.int (p5 &&& (31 : Int32))), .val (.int (3 : Int32)), .val (.long ((p4.toInt64) <<< ((p5 &&& (31 : Int32)) &&& 0x3f).toInt64)), .second, .val (.ref b103), .val (.ref b108), .unset, .unset] [(.ref b103), (.ref b108)]))
    refine own_via (fun t k => XS.iconst X110.here hx rfl (hb hby at_81) k) ?_
    show own_G p e below _ (T110.setTop (mkF m 82 #[.val (.int p1), .val (.int p2), .val (.int p3), .val (.int p4), .val (.int p5), .val (.int (p5 &&& (31 : Int32))), .val (.int (3 : Int32)), .val (.long ((p4.toInt64) <<< ((p5 &&& (31 : Int32)) &&& 0x3f).toInt64)), .second, .val (.ref b103), .val (.ref b108), .unset, .unset] [(.int (0 : Int32)), (.ref b103), (.ref b108)]))
    obtain ⟨cl111, Ar111, q111, S111, Ng111, Hs111, G111⟩ := id F109
    have hin111 : ¬ ((0 : Int32) < 0 ∨ cl111.slots.size ≤ ((0 : Int32)).toNatClampNeg) := inb_of S111 ⟨by decide, by decide⟩
    have hat111 : cl111.slots[((0 : Int32)).toNatClampNeg]? = some (.double (FP.i2d p1)) := Hs111.at hin111 rfl
    refine own_via (fun t k => X110.daload hx (j := (0 : Int32)) (v := (.double (FP.i2d p1))) (by rw [e110]; exact Ar111.1) (State.isArrayOf_alike hZ.alike Ar111.2.1) Ar111.2.2 hin111 hat111 (g := (mkF m 82 #[.val (.int p1), .val (.int p2), .val (.int p3), .val (.int p4), .val (.int p5), .val (.int (p5 &&& (31 : Int32))), .val (.int (3 : Int32)), .val (.long ((p4.toInt64) <<< ((p5 &&& (31 : Int32)) &&& 0x3f).toInt64)), .second, .val (.ref b103), .val (.ref b108), .unset, .unset] [(.int (0 : Int32)), (.ref b103), (.ref b108)])) rfl rfl (hb hby at_82) _ k) ?_
    show own_G p e below _ (T110.setTop (mkF m 83 #[.val (.int p1), .val (.int p2), .val (.int p3), .val (.int p4), .val (.int p5), .val (.int (p5 &&& (31 : Int32))), .val (.int (3 : Int32)), .val (.long ((p4.toInt64) <<< ((p5 &&& (31 : Int32)) &&& 0x3f).toInt64)), .second, .val (.ref b103), .val (.ref b108), .unset, .unset] [(.double (FP.i2d p1)), (.ref b108)]))
    obtain ⟨cq112, kq112, q112a, q112b, q112c⟩ := isOf hZ e110 A108
    obtain ⟨_, _, ⟨T112, L112, k112, n112⟩, -, X112, ⟨Lc112, hQ112, l112, y112, z112⟩, st112⟩ := X110.virtualBack hx (y := (⟨"com/example/fee_simple/feesimple/CompensatedSum", "add", "(D)V"⟩ : MethodName)) (z := (⟨"com/example/fee_simple/feesimple/CompensatedSum", "add", "(D)V"⟩ : MethodName)) hown (mvT hZ (hw _ (List.mem_of_getElem? (i := 10) rfl))) (mvT hZ (hw _ (List.mem_of_getElem? (i := 11) rfl))) (notFace_of_selects (args := #[]) (mvT hZ (hw _ (List.mem_of_getElem? (i := 13) rfl)))) (mvT hZ (hw _ (List.mem_of_getElem? (i := 13) rfl))) (mvT hZ (hw _ (List.mem_of_getElem? (i := 12) rfl))) (by decide) (backOf (W := 0) (rm3 l Z a0 hw [] b108 (FP.i2d p1) (0 : UInt64) (0 : UInt64) h108 n0 Z108 A108 F108_total F108_compensation gx_b108 ok0) hZ (hw _ (List.mem_of_getElem? (i := 14) rfl)) (hw _ (List.mem_of_getElem? (i := 3) rfl)) (by decide) (by decide)) q112a q112c (g := (mkF m 83 #[.val (.int p1), .val (.int p2), .val (.int p3), .val (.int p4), .val (.int p5), .val (.int (p5 &&& (31 : Int32))), .val (.int (3 : Int32)), .val (.long ((p4.toInt64) <<< ((p5 &&& (31 : Int32)) &&& 0x3f).toInt64)), .second, .val (.ref b103), .val (.ref b108), .unset, .unset] [(.double (FP.i2d p1)), (.ref b108)])) rfl (by rw [hml]; rfl) (Steps.refl _) (argsL := [(.double (FP.i2d p1))]) (rest := []) (lenOf pd_rm0_1 rfl) rfl (by show 2 * 0 + _ ≤ _; exact Nat.le_of_eq rfl) (hb hby at_83) (fun _ _ => ⟨rfl, e110, (by decide : 2 + 0 ≤ _), (by decide : 6 + 0 ≤ _)⟩)
    dsimp only [Pt.U, Pt.locs, Pt.cells, Pt.slots] at X112 l112 y112 z112 st112 hQ112
    subst l112 y112 z112
    obtain ⟨rfl, N112q, K112, E112q, Ft112, Fc112⟩ := hQ112
    have N112 := Fr.app N110 N112q
    have F113 := F109.keep K112 (ninS ne_b103_b108 nin0)
    have F114 := A108.keep K112
    have Z112 : n0 ≤ T112.heap.size := Nat.le_trans Z108 K112.1
    refine own_via (fun t k => st112.trans k) ?_
    show own_G p e below _ (T112.setTop (mkF m 86 #[.val (.int p1), .val (.int p2), .val (.int p3), .val (.int p4), .val (.int p5), .val (.int (p5 &&& (31 : Int32))), .val (.int (3 : Int32)), .val (.long ((p4.toInt64) <<< ((p5 &&& (31 : Int32)) &&& 0x3f).toInt64)), .second, .val (.ref b103), .val (.ref b108), .unset, .unset] []))
    refine own_via (fun t k => XS.aload X112.here hx rfl (hb hby at_86) rfl rfl k) ?_
    show own_G p e below _ (T112.setTop (mkF m 88 #[.val (.int p1), .val (.int p2), .val (.int p3), .val (.int p4), .val (.int p5), .val (.int (p5 &&& (31 : Int32))), .val (.int (3 : Int32)), .val (.long ((p4.toInt64) <<< ((p5 &&& (31 : Int32)) &&& 0x3f).toInt64)), .second, .val (.ref b103), .val (.ref b108), .unset, .unset] [(.ref b108)]))
    refine own_via (fun t k => XS.aload X112.here hx rfl (hb hby at_88) rfl rfl k) ?_
    show own_G p e below _ (T112.setTop (mkF m 90 #[.val (.int p1), .val (.int p2), .val (.int p3), .val (.int p4), .val (.int p5), .val (.int (p5 &&& (31 : Int32))), .val (.int (3 : Int32)), .val (.long ((p4.toInt64) <<< ((p5 &&& (31 : Int32)) &&& 0x3f).toInt64)), .second, .val (.ref b103), .val (.ref b108), .unset, .unset] [(.ref b103), (.ref b108)]))
    refine own_via (fun t k => XS.iconst X112.here hx rfl (hb hby at_90) k) ?_
    show own_G p e below _ (T112.setTop (mkF m 91 #[.val (.int p1), .val (.int p2), .val (.int p3), .val (.int p4), .val (.int p5), .val (.int (p5 &&& (31 : Int32))), .val (.int (3 : Int32)), .val (.long ((p4.toInt64) <<< ((p5 &&& (31 : Int32)) &&& 0x3f).toInt64)), .second, .val (.ref b103), .val (.ref b108), .unset, .unset] [(.int (1 : Int32)), (.ref b103), (.ref b108)]))
    obtain ⟨cl117, Ar117, q117, S117, Ng117, Hs117, G117⟩ := id F113
    have hin117 : ¬ ((1 : Int32) < 0 ∨ cl117.slots.size ≤ ((1 : Int32)).toNatClampNeg) := inb_of S117 ⟨by decide, by decide⟩
    have hat117 : cl117.slots[((1 : Int32)).toNatClampNeg]? = some (.double (FP.i2d p2)) := Hs117.at hin117 rfl
    refine own_via (fun t k => X112.daload hx (j := (1 : Int32)) (v := (.double (FP.i2d p2))) Ar117.1 (State.isArrayOf_alike hZ.alike Ar117.2.1) Ar117.2.2 hin117 hat117 (g := (mkF m 91 #[.val (.int p1), .val (.int p2), .val (.int p3), .val (.int p4), .val (.int p5), .val (.int (p5 &&& (31 : Int32))), .val (.int (3 : Int32)), .val (.long ((p4.toInt64) <<< ((p5 &&& (31 : Int32)) &&& 0x3f).toInt64)), .second, .val (.ref b103), .val (.ref b108), .unset, .unset] [(.int (1 : Int32)), (.ref b103), (.ref b108)])) rfl rfl (hb hby at_91) _ k) ?_
    show own_G p e below _ (T112.setTop (mkF m 92 #[.val (.int p1), .val (.int p2), .val (.int p3), .val (.int p4), .val (.int p5), .val (.int (p5 &&& (31 : Int32))), .val (.int (3 : Int32)), .val (.long ((p4.toInt64) <<< ((p5 &&& (31 : Int32)) &&& 0x3f).toInt64)), .second, .val (.ref b103), .val (.ref b108), .unset, .unset] [(.double (FP.i2d p2)), (.ref b108)]))
    obtain ⟨cq118, kq118, q118a, q118b, q118c⟩ := isOf hZ rfl E112q
    obtain ⟨_, _, ⟨T118, L118, k118, n118⟩, -, X118, ⟨Lc118, hQ118, l118, y118, z118⟩, st118⟩ := X112.virtualBack hx (y := (⟨"com/example/fee_simple/feesimple/CompensatedSum", "add", "(D)V"⟩ : MethodName)) (z := (⟨"com/example/fee_simple/feesimple/CompensatedSum", "add", "(D)V"⟩ : MethodName)) hown (mvT hZ (hw _ (List.mem_of_getElem? (i := 10) rfl))) (mvT hZ (hw _ (List.mem_of_getElem? (i := 11) rfl))) (notFace_of_selects (args := #[]) (mvT hZ (hw _ (List.mem_of_getElem? (i := 13) rfl)))) (mvT hZ (hw _ (List.mem_of_getElem? (i := 13) rfl))) (mvT hZ (hw _ (List.mem_of_getElem? (i := 12) rfl))) (by decide) (backOf (W := 0) (rm3 l Z a0 hw [] b108 (FP.i2d p2) (own_t (0 : UInt64) (FP.i2d p1)) (own_k (0 : UInt64) (FP.i2d p1) (0 : UInt64)) T112.heap n0 Z112 E112q Ft112 Fc112 gx_b108 ok1) hZ (hw _ (List.mem_of_getElem? (i := 14) rfl)) (hw _ (List.mem_of_getElem? (i := 3) rfl)) (by decide) (by decide)) q118a q118c (g := (mkF m 92 #[.val (.int p1), .val (.int p2), .val (.int p3), .val (.int p4), .val (.int p5), .val (.int (p5 &&& (31 : Int32))), .val (.int (3 : Int32)), .val (.long ((p4.toInt64) <<< ((p5 &&& (31 : Int32)) &&& 0x3f).toInt64)), .second, .val (.ref b103), .val (.ref b108), .unset, .unset] [(.double (FP.i2d p2)), (.ref b108)])) rfl (by rw [hml]; rfl) (Steps.refl _) (argsL := [(.double (FP.i2d p2))]) (rest := []) (lenOf pd_rm0_1 rfl) rfl (by show 2 * 0 + _ ≤ _; exact Nat.le_of_eq rfl) (hb hby at_92) (fun _ _ => ⟨rfl, rfl, (by decide : 2 + 0 ≤ _), (by decide : 6 + 0 ≤ _)⟩)
    dsimp only [Pt.U, Pt.locs, Pt.cells, Pt.slots] at X118 l118 y118 z118 st118 hQ118
    subst l118 y118 z118
    obtain ⟨rfl, N118q, K118, E118q, Ft118, Fc118⟩ := hQ118
    have N118 := Fr.app N112 N118q
    have F119 := F113.keep K118 (ninS ne_b103_b108 nin0)
    have F120 := E112q.keep K118
    have Z118 : n0 ≤ T118.heap.size := Nat.le_trans Z112 K118.1
    refine own_via (fun t k => st118.trans k) ?_
    show own_G p e below _ (T118.setTop (mkF m 95 #[.val (.int p1), .val (.int p2), .val (.int p3), .val (.int p4), .val (.int p5), .val (.int (p5 &&& (31 : Int32))), .val (.int (3 : Int32)), .val (.long ((p4.toInt64) <<< ((p5 &&& (31 : Int32)) &&& 0x3f).toInt64)), .second, .val (.ref b103), .val (.ref b108), .unset, .unset] []))
    refine own_via (fun t k => XS.aload X118.here hx rfl (hb hby at_95) rfl rfl k) ?_
    show own_G p e below _ (T118.setTop (mkF m 97 #[.val (.int p1), .val (.int p2), .val (.int p3), .val (.int p4), .val (.int p5), .val (.int (p5 &&& (31 : Int32))), .val (.int (3 : Int32)), .val (.long ((p4.toInt64) <<< ((p5 &&& (31 : Int32)) &&& 0x3f).toInt64)), .second, .val (.ref b103), .val (.ref b108), .unset, .unset] [(.ref b108)]))
    refine own_via (fun t k => XS.aload X118.here hx rfl (hb hby at_97) rfl rfl k) ?_
    show own_G p e below _ (T118.setTop (mkF m 99 #[.val (.int p1), .val (.int p2), .val (.int p3), .val (.int p4), .val (.int p5), .val (.int (p5 &&& (31 : Int32))), .val (.int (3 : Int32)), .val (.long ((p4.toInt64) <<< ((p5 &&& (31 : Int32)) &&& 0x3f).toInt64)), .second, .val (.ref b103), .val (.ref b108), .unset, .unset] [(.ref b103), (.ref b108)]))
    refine own_via (fun t k => XS.iconst X118.here hx rfl (hb hby at_99) k) ?_
    show own_G p e below _ (T118.setTop (mkF m 100 #[.val (.int p1), .val (.int p2), .val (.int p3), .val (.int p4), .val (.int p5), .val (.int (p5 &&& (31 : Int32))), .val (.int (3 : Int32)), .val (.long ((p4.toInt64) <<< ((p5 &&& (31 : Int32)) &&& 0x3f).toInt64)), .second, .val (.ref b103), .val (.ref b108), .unset, .unset] [(.int (2 : Int32)), (.ref b103), (.ref b108)]))
    obtain ⟨cl123, Ar123, q123, S123, Ng123, Hs123, G123⟩ := id F119
    have hin123 : ¬ ((2 : Int32) < 0 ∨ cl123.slots.size ≤ ((2 : Int32)).toNatClampNeg) := inb_of S123 ⟨by decide, by decide⟩
    have hat123 : cl123.slots[((2 : Int32)).toNatClampNeg]? = some (.double (FP.i2d p3)) := Hs123.at hin123 rfl
    refine own_via (fun t k => X118.daload hx (j := (2 : Int32)) (v := (.double (FP.i2d p3))) Ar123.1 (State.isArrayOf_alike hZ.alike Ar123.2.1) Ar123.2.2 hin123 hat123 (g := (mkF m 100 #[.val (.int p1), .val (.int p2), .val (.int p3), .val (.int p4), .val (.int p5), .val (.int (p5 &&& (31 : Int32))), .val (.int (3 : Int32)), .val (.long ((p4.toInt64) <<< ((p5 &&& (31 : Int32)) &&& 0x3f).toInt64)), .second, .val (.ref b103), .val (.ref b108), .unset, .unset] [(.int (2 : Int32)), (.ref b103), (.ref b108)])) rfl rfl (hb hby at_100) _ k) ?_
    show own_G p e below _ (T118.setTop (mkF m 101 #[.val (.int p1), .val (.int p2), .val (.int p3), .val (.int p4), .val (.int p5), .val (.int (p5 &&& (31 : Int32))), .val (.int (3 : Int32)), .val (.long ((p4.toInt64) <<< ((p5 &&& (31 : Int32)) &&& 0x3f).toInt64)), .second, .val (.ref b103), .val (.ref b108), .unset, .unset] [(.double (FP.i2d p3)), (.ref b108)]))
    obtain ⟨cq124, kq124, q124a, q124b, q124c⟩ := isOf hZ rfl E118q
    obtain ⟨_, _, ⟨T124, L124, k124, n124⟩, -, X124, ⟨Lc124, hQ124, l124, y124, z124⟩, st124⟩ := X118.virtualBack hx (y := (⟨"com/example/fee_simple/feesimple/CompensatedSum", "add", "(D)V"⟩ : MethodName)) (z := (⟨"com/example/fee_simple/feesimple/CompensatedSum", "add", "(D)V"⟩ : MethodName)) hown (mvT hZ (hw _ (List.mem_of_getElem? (i := 10) rfl))) (mvT hZ (hw _ (List.mem_of_getElem? (i := 11) rfl))) (notFace_of_selects (args := #[]) (mvT hZ (hw _ (List.mem_of_getElem? (i := 13) rfl)))) (mvT hZ (hw _ (List.mem_of_getElem? (i := 13) rfl))) (mvT hZ (hw _ (List.mem_of_getElem? (i := 12) rfl))) (by decide) (backOf (W := 0) (rm3 l Z a0 hw [] b108 (FP.i2d p3) (own_t (own_t (0 : UInt64) (FP.i2d p1)) (FP.i2d p2)) (own_k (own_t (0 : UInt64) (FP.i2d p1)) (FP.i2d p2) (own_k (0 : UInt64) (FP.i2d p1) (0 : UInt64))) T118.heap n0 Z118 E118q Ft118 Fc118 gx_b108 ok2) hZ (hw _ (List.mem_of_getElem? (i := 14) rfl)) (hw _ (List.mem_of_getElem? (i := 3) rfl)) (by decide) (by decide)) q124a q124c (g := (mkF m 101 #[.val (.int p1), .val (.int p2), .val (.int p3), .val (.int p4), .val (.int p5), .val (.int (p5 &&& (31 : Int32))), .val (.int (3 : Int32)), .val (.long ((p4.toInt64) <<< ((p5 &&& (31 : Int32)) &&& 0x3f).toInt64)), .second, .val (.ref b103), .val (.ref b108), .unset, .unset] [(.double (FP.i2d p3)), (.ref b108)])) rfl (by rw [hml]; rfl) (Steps.refl _) (argsL := [(.double (FP.i2d p3))]) (rest := []) (lenOf pd_rm0_1 rfl) rfl (by show 2 * 0 + _ ≤ _; exact Nat.le_of_eq rfl) (hb hby at_101) (fun _ _ => ⟨rfl, rfl, (by decide : 2 + 0 ≤ _), (by decide : 6 + 0 ≤ _)⟩)
    dsimp only [Pt.U, Pt.locs, Pt.cells, Pt.slots] at X124 l124 y124 z124 st124 hQ124
    subst l124 y124 z124
    obtain ⟨rfl, N124q, K124, E124q, Ft124, Fc124⟩ := hQ124
    have N124 := Fr.app N118 N124q
    have F125 := F119.keep K124 (ninS ne_b103_b108 nin0)
    have F126 := E118q.keep K124
    have Z124 : n0 ≤ T124.heap.size := Nat.le_trans Z118 K124.1
    refine own_via (fun t k => st124.trans k) ?_
    show own_G p e below _ (T124.setTop (mkF m 104 #[.val (.int p1), .val (.int p2), .val (.int p3), .val (.int p4), .val (.int p5), .val (.int (p5 &&& (31 : Int32))), .val (.int (3 : Int32)), .val (.long ((p4.toInt64) <<< ((p5 &&& (31 : Int32)) &&& 0x3f).toInt64)), .second, .val (.ref b103), .val (.ref b108), .unset, .unset] []))
    refine own_via (fun t k => XS.aload X124.here hx rfl (hb hby at_104) rfl rfl k) ?_
    show own_G p e below _ (T124.setTop (mkF m 106 #[.val (.int p1), .val (.int p2), .val (.int p3), .val (.int p4), .val (.int p5), .val (.int (p5 &&& (31 : Int32))), .val (.int (3 : Int32)), .val (.long ((p4.toInt64) <<< ((p5 &&& (31 : Int32)) &&& 0x3f).toInt64)), .second, .val (.ref b103), .val (.ref b108), .unset, .unset] [(.ref b108)]))
    refine own_via (fun t k => XS.aload X124.here hx rfl (hb hby at_106) rfl rfl k) ?_
    show own_G p e below _ (T124.setTop (mkF m 108 #[.val (.int p1), .val (.int p2), .val (.int p3), .val (.int p4), .val (.int p5), .val (.int (p5 &&& (31 : Int32))), .val (.int (3 : Int32)), .val (.long ((p4.toInt64) <<< ((p5 &&& (31 : Int32)) &&& 0x3f).toInt64)), .second, .val (.ref b103), .val (.ref b108), .unset, .unset] [(.ref b103), (.ref b108)]))
    refine own_via (fun t k => XS.iconst X124.here hx rfl (hb hby at_108) k) ?_
    show own_G p e below _ (T124.setTop (mkF m 109 #[.val (.int p1), .val (.int p2), .val (.int p3), .val (.int p4), .val (.int p5), .val (.int (p5 &&& (31 : Int32))), .val (.int (3 : Int32)), .val (.long ((p4.toInt64) <<< ((p5 &&& (31 : Int32)) &&& 0x3f).toInt64)), .second, .val (.ref b103), .val (.ref b108), .unset, .unset] [(.int (3 : Int32)), (.ref b103), (.ref b108)]))
    obtain ⟨cl129, Ar129, q129, S129, Ng129, Hs129, G129⟩ := id F125
    have hin129 : ¬ ((3 : Int32) < 0 ∨ cl129.slots.size ≤ ((3 : Int32)).toNatClampNeg) := inb_of S129 ⟨by decide, by decide⟩
    have hat129 : cl129.slots[((3 : Int32)).toNatClampNeg]? = some (.double (FP.l2d ((p4.toInt64) <<< ((p5 &&& (31 : Int32)) &&& 0x3f).toInt64))) := Hs129.at hin129 rfl
    refine own_via (fun t k => X124.daload hx (j := (3 : Int32)) (v := (.double (FP.l2d ((p4.toInt64) <<< ((p5 &&& (31 : Int32)) &&& 0x3f).toInt64)))) Ar129.1 (State.isArrayOf_alike hZ.alike Ar129.2.1) Ar129.2.2 hin129 hat129 (g := (mkF m 109 #[.val (.int p1), .val (.int p2), .val (.int p3), .val (.int p4), .val (.int p5), .val (.int (p5 &&& (31 : Int32))), .val (.int (3 : Int32)), .val (.long ((p4.toInt64) <<< ((p5 &&& (31 : Int32)) &&& 0x3f).toInt64)), .second, .val (.ref b103), .val (.ref b108), .unset, .unset] [(.int (3 : Int32)), (.ref b103), (.ref b108)])) rfl rfl (hb hby at_109) _ k) ?_
    show own_G p e below _ (T124.setTop (mkF m 110 #[.val (.int p1), .val (.int p2), .val (.int p3), .val (.int p4), .val (.int p5), .val (.int (p5 &&& (31 : Int32))), .val (.int (3 : Int32)), .val (.long ((p4.toInt64) <<< ((p5 &&& (31 : Int32)) &&& 0x3f).toInt64)), .second, .val (.ref b103), .val (.ref b108), .unset, .unset] [(.double (FP.l2d ((p4.toInt64) <<< ((p5 &&& (31 : Int32)) &&& 0x3f).toInt64))), (.ref b108)]))
    obtain ⟨cq130, kq130, q130a, q130b, q130c⟩ := isOf hZ rfl E124q
    obtain ⟨_, _, ⟨T130, L130, k130, n130⟩, -, X130, ⟨Lc130, hQ130, l130, y130, z130⟩, st130⟩ := X124.virtualBack hx (y := (⟨"com/example/fee_simple/feesimple/CompensatedSum", "add", "(D)V"⟩ : MethodName)) (z := (⟨"com/example/fee_simple/feesimple/CompensatedSum", "add", "(D)V"⟩ : MethodName)) hown (mvT hZ (hw _ (List.mem_of_getElem? (i := 10) rfl))) (mvT hZ (hw _ (List.mem_of_getElem? (i := 11) rfl))) (notFace_of_selects (args := #[]) (mvT hZ (hw _ (List.mem_of_getElem? (i := 13) rfl)))) (mvT hZ (hw _ (List.mem_of_getElem? (i := 13) rfl))) (mvT hZ (hw _ (List.mem_of_getElem? (i := 12) rfl))) (by decide) (backOf (W := 0) (rm3 l Z a0 hw [] b108 (FP.l2d ((p4.toInt64) <<< ((p5 &&& (31 : Int32)) &&& 0x3f).toInt64)) (own_t (own_t (own_t (0 : UInt64) (FP.i2d p1)) (FP.i2d p2)) (FP.i2d p3)) (own_k (own_t (own_t (0 : UInt64) (FP.i2d p1)) (FP.i2d p2)) (FP.i2d p3) (own_k (own_t (0 : UInt64) (FP.i2d p1)) (FP.i2d p2) (own_k (0 : UInt64) (FP.i2d p1) (0 : UInt64)))) T124.heap n0 Z124 E124q Ft124 Fc124 gx_b108 ok3) hZ (hw _ (List.mem_of_getElem? (i := 14) rfl)) (hw _ (List.mem_of_getElem? (i := 3) rfl)) (by decide) (by decide)) q130a q130c (g := (mkF m 110 #[.val (.int p1), .val (.int p2), .val (.int p3), .val (.int p4), .val (.int p5), .val (.int (p5 &&& (31 : Int32))), .val (.int (3 : Int32)), .val (.long ((p4.toInt64) <<< ((p5 &&& (31 : Int32)) &&& 0x3f).toInt64)), .second, .val (.ref b103), .val (.ref b108), .unset, .unset] [(.double (FP.l2d ((p4.toInt64) <<< ((p5 &&& (31 : Int32)) &&& 0x3f).toInt64))), (.ref b108)])) rfl (by rw [hml]; rfl) (Steps.refl _) (argsL := [(.double (FP.l2d ((p4.toInt64) <<< ((p5 &&& (31 : Int32)) &&& 0x3f).toInt64)))]) (rest := []) (lenOf pd_rm0_1 rfl) rfl (by show 2 * 0 + _ ≤ _; exact Nat.le_of_eq rfl) (hb hby at_110) (fun _ _ => ⟨rfl, rfl, (by decide : 2 + 0 ≤ _), (by decide : 6 + 0 ≤ _)⟩)
    dsimp only [Pt.U, Pt.locs, Pt.cells, Pt.slots] at X130 l130 y130 z130 st130 hQ130
    subst l130 y130 z130
    obtain ⟨rfl, N130q, K130, E130q, Ft130, Fc130⟩ := hQ130
    have N130 := Fr.app N124 N130q
    have F131 := F125.keep K130 (ninS ne_b103_b108 nin0)
    have F132 := E124q.keep K130
    have Z130 : n0 ≤ T130.heap.size := Nat.le_trans Z124 K130.1
    refine own_via (fun t k => st130.trans k) ?_
    show own_G p e below _ (T130.setTop (mkF m 113 #[.val (.int p1), .val (.int p2), .val (.int p3), .val (.int p4), .val (.int p5), .val (.int (p5 &&& (31 : Int32))), .val (.int (3 : Int32)), .val (.long ((p4.toInt64) <<< ((p5 &&& (31 : Int32)) &&& 0x3f).toInt64)), .second, .val (.ref b103), .val (.ref b108), .unset, .unset] []))
    refine own_via (fun t k => XS.lload X130.here hx rfl (hb hby at_113) rfl k) ?_
    show own_G p e below _ (T130.setTop (mkF m 115 #[.val (.int p1), .val (.int p2), .val (.int p3), .val (.int p4), .val (.int p5), .val (.int (p5 &&& (31 : Int32))), .val (.int (3 : Int32)), .val (.long ((p4.toInt64) <<< ((p5 &&& (31 : Int32)) &&& 0x3f).toInt64)), .second, .val (.ref b103), .val (.ref b108), .unset, .unset] [(.long ((p4.toInt64) <<< ((p5 &&& (31 : Int32)) &&& 0x3f).toInt64))]))
    refine own_via (fun t k => XS.iloadN X130.here hx rfl (hb hby at_115) rfl k) ?_
    show own_G p e below _ (T130.setTop (mkF m 116 #[.val (.int p1), .val (.int p2), .val (.int p3), .val (.int p4), .val (.int p5), .val (.int (p5 &&& (31 : Int32))), .val (.int (3 : Int32)), .val (.long ((p4.toInt64) <<< ((p5 &&& (31 : Int32)) &&& 0x3f).toInt64)), .second, .val (.ref b103), .val (.ref b108), .unset, .unset] [(.int p1), (.long ((p4.toInt64) <<< ((p5 &&& (31 : Int32)) &&& 0x3f).toInt64))]))
    refine own_via (fun t k => XS.i2l X130.here hx rfl (hb hby at_116) rfl k) ?_
    show own_G p e below _ (T130.setTop (mkF m 117 #[.val (.int p1), .val (.int p2), .val (.int p3), .val (.int p4), .val (.int p5), .val (.int (p5 &&& (31 : Int32))), .val (.int (3 : Int32)), .val (.long ((p4.toInt64) <<< ((p5 &&& (31 : Int32)) &&& 0x3f).toInt64)), .second, .val (.ref b103), .val (.ref b108), .unset, .unset] [(.long (p1.toInt64)), (.long ((p4.toInt64) <<< ((p5 &&& (31 : Int32)) &&& 0x3f).toInt64))]))
    refine own_via (fun t k => XS.ladd X130.here hx rfl (hb hby at_117) rfl k) ?_
    show own_G p e below _ (T130.setTop (mkF m 118 #[.val (.int p1), .val (.int p2), .val (.int p3), .val (.int p4), .val (.int p5), .val (.int (p5 &&& (31 : Int32))), .val (.int (3 : Int32)), .val (.long ((p4.toInt64) <<< ((p5 &&& (31 : Int32)) &&& 0x3f).toInt64)), .second, .val (.ref b103), .val (.ref b108), .unset, .unset] [(.long (((p4.toInt64) <<< ((p5 &&& (31 : Int32)) &&& 0x3f).toInt64) + (p1.toInt64)))]))
    refine own_via (fun t k => XS.iloadN X130.here hx rfl (hb hby at_118) rfl k) ?_
    show own_G p e below _ (T130.setTop (mkF m 119 #[.val (.int p1), .val (.int p2), .val (.int p3), .val (.int p4), .val (.int p5), .val (.int (p5 &&& (31 : Int32))), .val (.int (3 : Int32)), .val (.long ((p4.toInt64) <<< ((p5 &&& (31 : Int32)) &&& 0x3f).toInt64)), .second, .val (.ref b103), .val (.ref b108), .unset, .unset] [(.int p2), (.long (((p4.toInt64) <<< ((p5 &&& (31 : Int32)) &&& 0x3f).toInt64) + (p1.toInt64)))]))
    refine own_via (fun t k => XS.i2l X130.here hx rfl (hb hby at_119) rfl k) ?_
    show own_G p e below _ (T130.setTop (mkF m 120 #[.val (.int p1), .val (.int p2), .val (.int p3), .val (.int p4), .val (.int p5), .val (.int (p5 &&& (31 : Int32))), .val (.int (3 : Int32)), .val (.long ((p4.toInt64) <<< ((p5 &&& (31 : Int32)) &&& 0x3f).toInt64)), .second, .val (.ref b103), .val (.ref b108), .unset, .unset] [(.long (p2.toInt64)), (.long (((p4.toInt64) <<< ((p5 &&& (31 : Int32)) &&& 0x3f).toInt64) + (p1.toInt64)))]))
    refine own_via (fun t k => XS.ladd X130.here hx rfl (hb hby at_120) rfl k) ?_
    show own_G p e below _ (T130.setTop (mkF m 121 #[.val (.int p1), .val (.int p2), .val (.int p3), .val (.int p4), .val (.int p5), .val (.int (p5 &&& (31 : Int32))), .val (.int (3 : Int32)), .val (.long ((p4.toInt64) <<< ((p5 &&& (31 : Int32)) &&& 0x3f).toInt64)), .second, .val (.ref b103), .val (.ref b108), .unset, .unset] [(.long ((((p4.toInt64) <<< ((p5 &&& (31 : Int32)) &&& 0x3f).toInt64) + (p1.toInt64)) + (p2.toInt64)))]))
    refine own_via (fun t k => XS.iloadN X130.here hx rfl (hb hby at_121) rfl k) ?_
    show own_G p e below _ (T130.setTop (mkF m 122 #[.val (.int p1), .val (.int p2), .val (.int p3), .val (.int p4), .val (.int p5), .val (.int (p5 &&& (31 : Int32))), .val (.int (3 : Int32)), .val (.long ((p4.toInt64) <<< ((p5 &&& (31 : Int32)) &&& 0x3f).toInt64)), .second, .val (.ref b103), .val (.ref b108), .unset, .unset] [(.int p3), (.long ((((p4.toInt64) <<< ((p5 &&& (31 : Int32)) &&& 0x3f).toInt64) + (p1.toInt64)) + (p2.toInt64)))]))
    refine own_via (fun t k => XS.i2l X130.here hx rfl (hb hby at_122) rfl k) ?_
    show own_G p e below _ (T130.setTop (mkF m 123 #[.val (.int p1), .val (.int p2), .val (.int p3), .val (.int p4), .val (.int p5), .val (.int (p5 &&& (31 : Int32))), .val (.int (3 : Int32)), .val (.long ((p4.toInt64) <<< ((p5 &&& (31 : Int32)) &&& 0x3f).toInt64)), .second, .val (.ref b103), .val (.ref b108), .unset, .unset] [(.long (p3.toInt64)), (.long ((((p4.toInt64) <<< ((p5 &&& (31 : Int32)) &&& 0x3f).toInt64) + (p1.toInt64)) + (p2.toInt64)))]))
    refine own_via (fun t k => XS.ladd X130.here hx rfl (hb hby at_123) rfl k) ?_
    show own_G p e below _ (T130.setTop (mkF m 124 #[.val (.int p1), .val (.int p2), .val (.int p3), .val (.int p4), .val (.int p5), .val (.int (p5 &&& (31 : Int32))), .val (.int (3 : Int32)), .val (.long ((p4.toInt64) <<< ((p5 &&& (31 : Int32)) &&& 0x3f).toInt64)), .second, .val (.ref b103), .val (.ref b108), .unset, .unset] [(.long (((((p4.toInt64) <<< ((p5 &&& (31 : Int32)) &&& 0x3f).toInt64) + (p1.toInt64)) + (p2.toInt64)) + (p3.toInt64)))]))
    refine own_via (fun t k => XS.lstore X130.here hx rfl (hb hby at_124) rfl (l' := #[.val (.int p1), .val (.int p2), .val (.int p3), .val (.int p4), .val (.int p5), .val (.int (p5 &&& (31 : Int32))), .val (.int (3 : Int32)), .val (.long ((p4.toInt64) <<< ((p5 &&& (31 : Int32)) &&& 0x3f).toInt64)), .second, .val (.ref b103), .val (.ref b108), .val (.long (((((p4.toInt64) <<< ((p5 &&& (31 : Int32)) &&& 0x3f).toInt64) + (p1.toInt64)) + (p2.toInt64)) + (p3.toInt64))), .second]) rfl k) ?_
    show own_G p e below _ (T130.setTop (mkF m 126 #[.val (.int p1), .val (.int p2), .val (.int p3), .val (.int p4), .val (.int p5), .val (.int (p5 &&& (31 : Int32))), .val (.int (3 : Int32)), .val (.long ((p4.toInt64) <<< ((p5 &&& (31 : Int32)) &&& 0x3f).toInt64)), .second, .val (.ref b103), .val (.ref b108), .val (.long (((((p4.toInt64) <<< ((p5 &&& (31 : Int32)) &&& 0x3f).toInt64) + (p1.toInt64)) + (p2.toInt64)) + (p3.toInt64))), .second] []))
    refine own_via (fun t k => XS.aload X130.here hx rfl (hb hby at_126) rfl rfl k) ?_
    show own_G p e below _ (T130.setTop (mkF m 128 #[.val (.int p1), .val (.int p2), .val (.int p3), .val (.int p4), .val (.int p5), .val (.int (p5 &&& (31 : Int32))), .val (.int (3 : Int32)), .val (.long ((p4.toInt64) <<< ((p5 &&& (31 : Int32)) &&& 0x3f).toInt64)), .second, .val (.ref b103), .val (.ref b108), .val (.long (((((p4.toInt64) <<< ((p5 &&& (31 : Int32)) &&& 0x3f).toInt64) + (p1.toInt64)) + (p2.toInt64)) + (p3.toInt64))), .second] [(.ref b108)]))
    obtain ⟨cq135, kq135, q135a, q135b, q135c⟩ := isOf hZ rfl E130q
    obtain ⟨_, _, ⟨T135, L135, k135, n135⟩, -, X135, ⟨Lc135, hQ135, l135, y135, z135⟩, st135⟩ := X130.virtualBack hx (y := (⟨"com/example/fee_simple/feesimple/CompensatedSum", "value", "()D"⟩ : MethodName)) (z := (⟨"com/example/fee_simple/feesimple/CompensatedSum", "value", "()D"⟩ : MethodName)) hown (mvT hZ (hw _ (List.mem_of_getElem? (i := 19) rfl))) (mvT hZ (hw _ (List.mem_of_getElem? (i := 20) rfl))) (notFace_of_selects (args := #[]) (mvT hZ (hw _ (List.mem_of_getElem? (i := 22) rfl)))) (mvT hZ (hw _ (List.mem_of_getElem? (i := 22) rfl))) (mvT hZ (hw _ (List.mem_of_getElem? (i := 21) rfl))) (by decide) (backOf (W := 0) (rm4 l Z a0 hw [] b108 (own_t (own_t (own_t (own_t (0 : UInt64) (FP.i2d p1)) (FP.i2d p2)) (FP.i2d p3)) (FP.l2d ((p4.toInt64) <<< ((p5 &&& (31 : Int32)) &&& 0x3f).toInt64))) (own_k (own_t (own_t (own_t (0 : UInt64) (FP.i2d p1)) (FP.i2d p2)) (FP.i2d p3)) (FP.l2d ((p4.toInt64) <<< ((p5 &&& (31 : Int32)) &&& 0x3f).toInt64)) (own_k (own_t (own_t (0 : UInt64) (FP.i2d p1)) (FP.i2d p2)) (FP.i2d p3) (own_k (own_t (0 : UInt64) (FP.i2d p1)) (FP.i2d p2) (own_k (0 : UInt64) (FP.i2d p1) (0 : UInt64))))) T130.heap n0 Z130 Ft130 Fc130 nv) hZ (hw _ (List.mem_of_getElem? (i := 23) rfl)) (hw _ (List.mem_of_getElem? (i := 3) rfl)) (by decide) (by decide)) q135a q135c (g := (mkF m 128 #[.val (.int p1), .val (.int p2), .val (.int p3), .val (.int p4), .val (.int p5), .val (.int (p5 &&& (31 : Int32))), .val (.int (3 : Int32)), .val (.long ((p4.toInt64) <<< ((p5 &&& (31 : Int32)) &&& 0x3f).toInt64)), .second, .val (.ref b103), .val (.ref b108), .val (.long (((((p4.toInt64) <<< ((p5 &&& (31 : Int32)) &&& 0x3f).toInt64) + (p1.toInt64)) + (p2.toInt64)) + (p3.toInt64))), .second] [(.ref b108)])) rfl (by rw [hml]; rfl) (Steps.refl _) (argsL := []) (rest := []) (lenOf pd_rm0_2 rfl) rfl (by show 2 * 0 + _ ≤ _; exact Nat.le_of_eq rfl) (hb hby at_128) (fun _ _ => ⟨rfl, rfl, (by decide : 2 + 0 ≤ _), (by decide : 6 + 0 ≤ _)⟩)
    dsimp only [Pt.U, Pt.locs, Pt.cells, Pt.slots] at X135 l135 y135 z135 st135 hQ135
    subst l135 y135 z135
    obtain ⟨rfl, N135q, e135⟩ := hQ135
    have N135 := Fr.app N130 N135q
    refine own_via (fun t k => st135.trans k) ?_
    show own_G p e below _ (T135.setTop (mkF m 131 #[.val (.int p1), .val (.int p2), .val (.int p3), .val (.int p4), .val (.int p5), .val (.int (p5 &&& (31 : Int32))), .val (.int (3 : Int32)), .val (.long ((p4.toInt64) <<< ((p5 &&& (31 : Int32)) &&& 0x3f).toInt64)), .second, .val (.ref b103), .val (.ref b108), .val (.long (((((p4.toInt64) <<< ((p5 &&& (31 : Int32)) &&& 0x3f).toInt64) + (p1.toInt64)) + (p2.toInt64)) + (p3.toInt64))), .second] [(.double (FP.dadd (own_t (own_t (own_t (own_t (0 : UInt64) (FP.i2d p1)) (FP.i2d p2)) (FP.i2d p3)) (FP.l2d ((p4.toInt64) <<< ((p5 &&& (31 : Int32)) &&& 0x3f).toInt64))) (own_k (own_t (own_t (own_t (0 : UInt64) (FP.i2d p1)) (FP.i2d p2)) (FP.i2d p3)) (FP.l2d ((p4.toInt64) <<< ((p5 &&& (31 : Int32)) &&& 0x3f).toInt64)) (own_k (own_t (own_t (0 : UInt64) (FP.i2d p1)) (FP.i2d p2)) (FP.i2d p3) (own_k (own_t (0 : UInt64) (FP.i2d p1)) (FP.i2d p2) (own_k (0 : UInt64) (FP.i2d p1) (0 : UInt64)))))))]))
    refine own_via (fun t k => XS.lload X135.here hx rfl (hb hby at_131) rfl k) ?_
    show own_G p e below _ (T135.setTop (mkF m 133 #[.val (.int p1), .val (.int p2), .val (.int p3), .val (.int p4), .val (.int p5), .val (.int (p5 &&& (31 : Int32))), .val (.int (3 : Int32)), .val (.long ((p4.toInt64) <<< ((p5 &&& (31 : Int32)) &&& 0x3f).toInt64)), .second, .val (.ref b103), .val (.ref b108), .val (.long (((((p4.toInt64) <<< ((p5 &&& (31 : Int32)) &&& 0x3f).toInt64) + (p1.toInt64)) + (p2.toInt64)) + (p3.toInt64))), .second] [(.long (((((p4.toInt64) <<< ((p5 &&& (31 : Int32)) &&& 0x3f).toInt64) + (p1.toInt64)) + (p2.toInt64)) + (p3.toInt64))), (.double (FP.dadd (own_t (own_t (own_t (own_t (0 : UInt64) (FP.i2d p1)) (FP.i2d p2)) (FP.i2d p3)) (FP.l2d ((p4.toInt64) <<< ((p5 &&& (31 : Int32)) &&& 0x3f).toInt64))) (own_k (own_t (own_t (own_t (0 : UInt64) (FP.i2d p1)) (FP.i2d p2)) (FP.i2d p3)) (FP.l2d ((p4.toInt64) <<< ((p5 &&& (31 : Int32)) &&& 0x3f).toInt64)) (own_k (own_t (own_t (0 : UInt64) (FP.i2d p1)) (FP.i2d p2)) (FP.i2d p3) (own_k (own_t (0 : UInt64) (FP.i2d p1)) (FP.i2d p2) (own_k (0 : UInt64) (FP.i2d p1) (0 : UInt64)))))))]))
    refine own_via (fun t k => XS.l2dS X135.here hx rfl (hb hby at_133) rfl rfl k) ?_
    show own_G p e below _ (T135.setTop (mkF m 134 #[.val (.int p1), .val (.int p2), .val (.int p3), .val (.int p4), .val (.int p5), .val (.int (p5 &&& (31 : Int32))), .val (.int (3 : Int32)), .val (.long ((p4.toInt64) <<< ((p5 &&& (31 : Int32)) &&& 0x3f).toInt64)), .second, .val (.ref b103), .val (.ref b108), .val (.long (((((p4.toInt64) <<< ((p5 &&& (31 : Int32)) &&& 0x3f).toInt64) + (p1.toInt64)) + (p2.toInt64)) + (p3.toInt64))), .second] [(.double (FP.l2d (((((p4.toInt64) <<< ((p5 &&& (31 : Int32)) &&& 0x3f).toInt64) + (p1.toInt64)) + (p2.toInt64)) + (p3.toInt64)))), (.double (FP.dadd (own_t (own_t (own_t (own_t (0 : UInt64) (FP.i2d p1)) (FP.i2d p2)) (FP.i2d p3)) (FP.l2d ((p4.toInt64) <<< ((p5 &&& (31 : Int32)) &&& 0x3f).toInt64))) (own_k (own_t (own_t (own_t (0 : UInt64) (FP.i2d p1)) (FP.i2d p2)) (FP.i2d p3)) (FP.l2d ((p4.toInt64) <<< ((p5 &&& (31 : Int32)) &&& 0x3f).toInt64)) (own_k (own_t (own_t (0 : UInt64) (FP.i2d p1)) (FP.i2d p2)) (FP.i2d p3) (own_k (own_t (0 : UInt64) (FP.i2d p1)) (FP.i2d p2) (own_k (0 : UInt64) (FP.i2d p1) (0 : UInt64)))))))]))
    refine own_via (fun t k => XS.dcmpS X135.here hx rfl (hb hby at_134) rfl (by rw [show FP.dcmp _ _ = some .eq from hcmp] <;> rfl) k) ?_
    show own_G p e below _ (T135.setTop (mkF m 135 #[.val (.int p1), .val (.int p2), .val (.int p3), .val (.int p4), .val (.int p5), .val (.int (p5 &&& (31 : Int32))), .val (.int (3 : Int32)), .val (.long ((p4.toInt64) <<< ((p5 &&& (31 : Int32)) &&& 0x3f).toInt64)), .second, .val (.ref b103), .val (.ref b108), .val (.long (((((p4.toInt64) <<< ((p5 &&& (31 : Int32)) &&& 0x3f).toInt64) + (p1.toInt64)) + (p2.toInt64)) + (p3.toInt64))), .second] [(.int (0 : Int32))]))
    refine own_via (fun t k => XS.ifNo X135.here hx rfl (hb hby at_135) rfl ((if0 _ _).trans (teq (by decide : (0 : Int32) = (0 : Int32))).2) k) ?_
    show own_G p e below _ (T135.setTop (mkF m 138 #[.val (.int p1), .val (.int p2), .val (.int p3), .val (.int p4), .val (.int p5), .val (.int (p5 &&& (31 : Int32))), .val (.int (3 : Int32)), .val (.long ((p4.toInt64) <<< ((p5 &&& (31 : Int32)) &&& 0x3f).toInt64)), .second, .val (.ref b103), .val (.ref b108), .val (.long (((((p4.toInt64) <<< ((p5 &&& (31 : Int32)) &&& 0x3f).toInt64) + (p1.toInt64)) + (p2.toInt64)) + (p3.toInt64))), .second] []))
    refine own_via (fun t k => XS.iconst X135.here hx rfl (hb hby at_138) k) ?_
    show own_G p e below _ (T135.setTop (mkF m 139 #[.val (.int p1), .val (.int p2), .val (.int p3), .val (.int p4), .val (.int p5), .val (.int (p5 &&& (31 : Int32))), .val (.int (3 : Int32)), .val (.long ((p4.toInt64) <<< ((p5 &&& (31 : Int32)) &&& 0x3f).toInt64)), .second, .val (.ref b103), .val (.ref b108), .val (.long (((((p4.toInt64) <<< ((p5 &&& (31 : Int32)) &&& 0x3f).toInt64) + (p1.toInt64)) + (p2.toInt64)) + (p3.toInt64))), .second] [(.int (1 : Int32))]))
    refine own_via (fun t k => XS.goto X135.here hx rfl (pc0 := 139) (pc' := 143) rfl (hb hby at_139) (by decide) (by decide) k) ?_
    show own_G p e below _ (T135.setTop (mkF m 143 #[.val (.int p1), .val (.int p2), .val (.int p3), .val (.int p4), .val (.int p5), .val (.int (p5 &&& (31 : Int32))), .val (.int (3 : Int32)), .val (.long ((p4.toInt64) <<< ((p5 &&& (31 : Int32)) &&& 0x3f).toInt64)), .second, .val (.ref b103), .val (.ref b108), .val (.long (((((p4.toInt64) <<< ((p5 &&& (31 : Int32)) &&& 0x3f).toInt64) + (p1.toInt64)) + (p2.toInt64)) + (p3.toInt64))), .second] [(.int (1 : Int32))]))
    obtain ⟨fs, hr, hrun, hended, hW, hsame⟩ := X135.leave (v := some (.int (1 : Int32))) (fun h => by rw [Bd.returns] at h; cases h)
    refine ⟨_, _, retN X135 hx (t := .boolean) Bd.returns (by simp) (hb hby at_143) hr, hrun, hended, _, _, rfl, ?_, ⟨_, rfl⟩, hW, hsame.mono (by decide) (by decide)⟩
    show rm0_Q Z p1 p2 p3 p4 p5 h0 n0 _ T135.heap _
    rw [e135]
    exact ⟨rfl, N135⟩

set_option maxRecDepth 65536 in
set_option maxHeartbeats 40000000 in
theorem comes_1 {Post : Tables → Env → Array Value → State → Outcome → State → Prop} (hpost : ∀ tb e args s v u, (limb_1_1.after args s (.returned v) u = true ∧ limb_1_2.after args s (.returned v) u = true ∧ True) → FrameEnd s (.returned v) u (Jvm.fieldLocs frame_1_writes args s ++ Jvm.arrayLocs frame_1_arrays args s ++ Jvm.staticLocs frame_1_statics s) 16 128 → Post tb e args s (.returned v) u) :
    ArmFor flags0 classFile x code maxLocals ret World_1 tables_1 room_1 Calls_1 rest_1 Pre_1 Post := by
  intro l hfl _ _ p e ha hc hk s m args below hf hA hF happ hP
  obtain ⟨hcalls, hrest, hpre⟩ := hP
  obtain ⟨-, -, -, hnamed, -, -, -, hat⟩ := (Spec.applies_iff hf).mp happ
  obtain ⟨hg, hn⟩ := and_e (Cond.before_iff.mp (show (Jvm.Cond.and given_1 narrow_1).before args s = true from hpre))
  obtain ⟨gg1, gg2⟩ := and_e hg
  obtain ⟨gg3, gg4⟩ := and_e gg2
  obtain ⟨gg5, gg6⟩ := and_e gg4
  obtain ⟨gg7, gg8⟩ := and_e gg6
  obtain ⟨gg9, gg10⟩ := and_e gg8
  obtain ⟨w0, w1, w2, w3, w4, rfl⟩ : ∃ w0 w1 w2 w3 w4 : Value, args = #[w0, w1, w2, w3, w4] := by
    have hs : args.size = 5 := by simpa [Cond.value, given_1] using gg1
    obtain ⟨L⟩ := args
    match L, hs with
    | [w0, w1, w2, w3, w4], _ => exact ⟨w0, w1, w2, w3, w4, rfl⟩
  have hw := fun d (hd : d ∈ tables_1) => atoms_spec (ws := Jvm.Cond.code x code maxLocals ret :: tables_1) hat d (List.mem_cons_of_mem _ hd)
  obtain ⟨i0, ei0⟩ := is_v gg3
  obtain rfl : w0 = (.int i0) := Option.some.inj ei0
  obtain ⟨i1, ei1⟩ := is_v gg5
  obtain rfl : w1 = (.int i1) := Option.some.inj ei1
  obtain ⟨i2, ei2⟩ := is_v gg7
  obtain rfl : w2 = (.int i2) := Option.some.inj ei2
  obtain ⟨i3, ei3⟩ := is_v gg9
  obtain rfl : w3 = (.int i3) := Option.some.inj ei3
  obtain ⟨i4, ei4⟩ := is_v gg10
  obtain rfl : w4 = (.int i4) := Option.some.inj ei4
  obtain ⟨n, o, h1, h2, h3, _, L, rfl, ⟨rfl, N⟩, hq⟩ := rm0 l s _ hw tables_1 i0 i1 i2 i3 i4 s.heap s.heap.size (Nat.le_refl _) p e ha hc hk s m _ below hf ((Spec.applies_iff_loose hf).mp happ).1 ⟨rfl, State.Warmed39.refl s, rfl⟩ trivial
  refine ⟨n, _, h1, h2, h3, hpost _ _ _ _ _ _ ⟨Cond.after_iff.mpr rfl, Cond.after_iff.mpr (eq_i res_at (Term.int_eval (1)) rfl), trivial⟩ ⟨hq.1, hq.2.1, (hq.2.2.sift fun y hy => Or.inr (N y hy)).mono (by decide) (by decide)⟩⟩
theorem main_1_1 : Claimed_1_1 := comes_1 fun _ _ _ _ _ _ h hF => ⟨h.1, hF⟩
theorem main_1_2 : Claimed_1_2 := comes_1 fun _ _ _ _ _ _ h hF => ⟨h.2.1, hF⟩

end Jvm.Pilot.@@N@@
namespace Jvm.Pilot.@@N@@
open Jvm Jvm.ClassFile Sem Op Lib Jvm.Free Jvm.Stand Jvm.Pilot.@@N@@.Jvm.D
/-! MADE BY PROGRAM (witnessworld.py) out of the Statement's table words and the real class files: 11 classes; the members and pool entries that the words name. The judged class is class 1, her method 1. -/
namespace start1
open Jvm.ClassFile
def u (s : String) : CpInfo := .utf8 (stringToUtf16 s)
/-- a pool by its gaps: so many unusable entries, then the entry; so many at the end -/
def gap : Nat → List CpInfo → List CpInfo
  | 0, r => r
  | n + 1, r => .unusable :: gap n r
def poolList (es : List (Nat × CpInfo)) (last : Nat) : List CpInfo := es.foldr (fun e r => gap e.1 (e.2 :: r)) (gap last [])
def pool (es : List (Nat × CpInfo)) (last : Nat) : Array CpInfo := ⟨poolList es last⟩
def fileOf (pool : Array CpInfo) (this : Nat) (attrs : Array Attribute := #[]) (ms : Array MethodInfo := #[]) (fl : Nat := 33) (sup : Nat := 0) (ifs : Array Nat := #[]) (fds : Array FieldInfo := #[]) : ClassFile where
  minorVersion := 0
  majorVersion := 65
  constantPool := pool
  accessFlags := fl
  thisClass := this
  superClass := sup
  interfaces := ifs
  fields := fds
  methods := ms
  attributes := attrs
def plain (name : String) (sup : Option ClassId) : Class where
  name := name
  kind := .ordinary
  loader := none
  accessFlags := 33
  super := sup
  interfaces := #[]
  cf := none
  fields := #[]
  methods := #[]
  instanceTypes := #[]
  staticTypes := #[]
  resolved := #[]
  callSites := []
  init := .initialized
  statics := none
  mirror := none

def pool0 : Array CpInfo := pool [(5, u "<init>"), (0, u "()V"), (1, .class_ 10), (1, u "java/lang/Object")] 113

def k0c0 : Code := { maxStack := 0, maxLocals := 1, code := object_method_1_code, exceptionTable := #[], attributes := #[] }
def k0m0 : Method := { name := "<init>", desc := "()V", sig := { parameters := [], returnType := none }, accessFlags := 1, code := some k0c0 }
/-- java/lang/Object -/
def k0 : Class := { plain "java/lang/Object" none with
  accessFlags := 33
  interfaces := #[]
  cf := some (fileOf pool0 8 #[] #[{ accessFlags := 1, nameIndex := 5, descriptorIndex := 6, attributes := #[] }] 33 0 #[] #[])
  fields := #[]
  methods := #[k0m0]
  instanceTypes := #[]
  staticTypes := #[]
  resolved := Array.replicate 124 none
  statics := none }

def pool1 : Array CpInfo := pool [(2, .class_ 4), (0, .nameAndType 5 6), (0, u "java/lang/Object"), (0, u "<init>"), (0, u "()V"), (0, .class_ 8), (0, u "com/example/fee_simple/feesimple/CompensatedSum"), (0, .methodref 7 3), (0, .methodref 7 11), (0, .nameAndType 12 13), (0, u "add"), (0, u "(D)V"), (0, .methodref 7 15), (0, .nameAndType 16 17), (0, u "value"), (0, u "()D"), (0, .class_ 19), (0, u "com/example/fee_simple/feesimple/CompensatedSumAddPinLaw"), (2, u "law"), (0, u "(IIIII)Z")] 5

def k1m0 : Method := { name := "<init>", desc := "()V", sig := { parameters := [], returnType := none }, accessFlags := 1, code := none }
def k1c1 : Code := { maxStack := 4, maxLocals := 13, code := code, exceptionTable := #[], attributes := #[] }
def k1m1 : Method := { name := "law", desc := "(IIIII)Z", sig := { parameters := [.int, .int, .int, .int, .int], returnType := some .boolean }, accessFlags := 9, code := some k1c1 }
/-- com/example/fee_simple/feesimple/CompensatedSumAddPinLaw -/
def k1 : Class := { plain "com/example/fee_simple/feesimple/CompensatedSumAddPinLaw" (some 0) with
  accessFlags := 49
  interfaces := #[]
  cf := some (fileOf pool1 18 #[] #[{ accessFlags := 1, nameIndex := 5, descriptorIndex := 6, attributes := #[] }, { accessFlags := 9, nameIndex := 22, descriptorIndex := 23, attributes := #[] }] 49 2 #[] #[])
  fields := #[]
  methods := #[k1m0, k1m1]
  instanceTypes := #[]
  staticTypes := #[]
  resolved := Array.replicate 29 none
  statics := none }

def pool2 : Array CpInfo := pool [(1, .methodref 2 3), (0, .class_ 4), (0, .nameAndType 5 6), (0, u "java/lang/Object"), (0, u "<init>"), (0, u "()V"), (0, .fieldref 8 9), (0, .class_ 10), (0, .nameAndType 11 12), (0, u "com/example/fee_simple/feesimple/CompensatedSum"), (0, u "total"), (0, u "D"), (0, .fieldref 8 14), (0, .nameAndType 15 12), (0, u "compensation"), (12, u "add"), (0, u "(D)V"), (0, u "value"), (0, u "()D")] 4

def k2c0 : Code := { maxStack := 1, maxLocals := 1, code := prog_2_method_1_code, exceptionTable := #[], attributes := #[] }
def k2m0 : Method := { name := "<init>", desc := "()V", sig := { parameters := [], returnType := none }, accessFlags := 1, code := some k2c0 }
def k2c1 : Code := { maxStack := 9, maxLocals := 7, code := prog_2_method_2_code, exceptionTable := #[], attributes := #[] }
def k2m1 : Method := { name := "add", desc := "(D)V", sig := { parameters := [.double], returnType := none }, accessFlags := 1, code := some k2c1 }
def k2c2 : Code := { maxStack := 4, maxLocals := 1, code := prog_2_method_3_code, exceptionTable := #[], attributes := #[] }
def k2m2 : Method := { name := "value", desc := "()D", sig := { parameters := [], returnType := some .double }, accessFlags := 1, code := some k2c2 }
/-- com/example/fee_simple/feesimple/CompensatedSum -/
def k2 : Class := { plain "com/example/fee_simple/feesimple/CompensatedSum" (some 0) with
  accessFlags := 33
  interfaces := #[]
  cf := some (fileOf pool2 8 #[] #[{ accessFlags := 1, nameIndex := 5, descriptorIndex := 6, attributes := #[] }, { accessFlags := 1, nameIndex := 28, descriptorIndex := 29, attributes := #[] }, { accessFlags := 1, nameIndex := 30, descriptorIndex := 31, attributes := #[] }] 33 2 #[] #[{ accessFlags := 2, nameIndex := 11, descriptorIndex := 12, attributes := #[] }, { accessFlags := 2, nameIndex := 15, descriptorIndex := 12, attributes := #[] }])
  fields := #[{ name := "total", type := .double, accessFlags := 2, slot := 0, constantValue := 0 }, { name := "compensation", type := .double, accessFlags := 2, slot := 1, constantValue := 0 }]
  methods := #[k2m0, k2m1, k2m2]
  instanceTypes := #[.double, .double]
  staticTypes := #[]
  resolved := Array.replicate 36 none
  statics := none }

def pool3 : Array CpInfo := pool [(1, u "java/lang/Cloneable"), (0, .class_ 1), (0, u "java/lang/Object"), (0, .class_ 3)] 3

/-- java/lang/Cloneable -/
def k3 : Class := { plain "java/lang/Cloneable" (some 0) with
  accessFlags := 1537
  interfaces := #[]
  cf := some (fileOf pool3 2 #[] #[] 1537 4 #[] #[])
  fields := #[]
  methods := #[]
  instanceTypes := #[]
  staticTypes := #[]
  resolved := Array.replicate 8 none
  statics := none }

def pool4 : Array CpInfo := pool [(1, u "java/io/Serializable"), (0, .class_ 1), (0, u "java/lang/Object"), (0, .class_ 3)] 3

/-- java/io/Serializable -/
def k4 : Class := { plain "java/io/Serializable" (some 0) with
  accessFlags := 1537
  interfaces := #[]
  cf := some (fileOf pool4 2 #[] #[] 1537 4 #[] #[])
  fields := #[]
  methods := #[]
  instanceTypes := #[]
  staticTypes := #[]
  resolved := Array.replicate 8 none
  statics := none }

/-- the primitive byte -/
def k5 : Class := { plain "byte" none with kind := .primitive 'B', accessFlags := 0x411 }
/-- [B -/
def k6 : Class := { plain "[B" (some 0) with kind := .array 5 .byte, interfaces := #[3, 4], accessFlags := 1041 }

/-- the primitive double -/
def k7 : Class := { plain "double" none with kind := .primitive 'D', accessFlags := 0x411 }
/-- [D -/
def k8 : Class := { plain "[D" (some 0) with kind := .array 7 .double, interfaces := #[3, 4], accessFlags := 1041 }

/-- the primitive int -/
def k9 : Class := { plain "int" none with kind := .primitive 'I', accessFlags := 0x411 }
/-- [I -/
def k10 : Class := { plain "[I" (some 0) with kind := .array 9 .int, interfaces := #[3, 4], accessFlags := 1041 }

def heap : Heap := #[]
def classes : Array Class := #[k0, k1, k2, k3, k4, k5, k6, k7, k8, k9, k10]
def interned : List (Array UInt16 × Addr) := []
def slotsUsed : Nat := 0
def theMethod : MethodId := ⟨1, 1⟩
def args0 : Array Value := #[.int 1, .int 2, .int 3, .int 4, .int 5]
def aboutOver (below : List Frame) : State where
  vm := { classes := classes, interned := interned.toArray }
  heap := heap
  slotsUsed := slotsUsed
  threads := #[{ frames := .invoking theMethod args0 :: below }]
def below0 : List Frame := [.native { method := ⟨0, 0⟩, args := #[] }]
def about1 : State := aboutOver below0
def p0 : Program := .bare "" "" ""
def e0 : Env := launch0.env 0 0 0
theorem w_frames : about1.frames = Frame.invoking theMethod args0 :: below0 := rfl
set_option maxRecDepth 65536 in
theorem w_args : argsFit about1.vm theMethod args0 = true := by decide +kernel
set_option maxRecDepth 65536 in
theorem w_heap : heapFits about1 = true := by decide +kernel
set_option maxRecDepth 65536 in
theorem w_runnable : about1.curStatus? = some .runnable := by decide +kernel
set_option maxRecDepth 65536 in
theorem w_alone : about1.alone = true := by decide +kernel
set_option maxRecDepth 65536 in
theorem w_named : about1.methodNamed? x = some theMethod := by decide +kernel
set_option maxRecDepth 65536 in
theorem w_hears : about1.hears theMethod below0 = true := by decide +kernel
set_option maxRecDepth 65536 in
theorem w_ripe : about1.ripe theMethod args0 below0 = true := by decide +kernel
theorem w_running : about1.status = .running := rfl
set_option maxRecDepth 65536 in
theorem w_room : about1.hasRoom e0.platform room_1 = true :=
  launch0.hasRoom_least _ room_1 (by decide +kernel) (by decide +kernel) (by decide +kernel) (by decide +kernel) (by decide +kernel) (by decide +kernel)
theorem allAtoms_all (ts : List Jvm.Cond) (a : Array Jvm.Value) (st : Jvm.State) : (allAtoms ts).before a st = ts.all (fun c => c.before a st) := by
  induction ts with
  | nil => rfl
  | cons c t ih =>
    show (Jvm.Cond.and c (allAtoms t)).before a st = _
    rw [Jvm.Cond.before_and, ih, List.all_cons]
def words1 : List Jvm.Cond := Jvm.Cond.code x code maxLocals ret :: tables_1
/-- a 'code' word, met by the world's own term for the bytes: nothing is compared byte by byte -/
theorem code_word {y : MethodName} {bytes : ByteArray} {mx : Nat} {rt : Option FieldType} {a : Array Value} {s : State} {m : MethodId} {meth : Method} {c : Code} (h1 : s.methodNamed? y = some m) (h2 : s.vm.method? m = some meth) (h3 : meth.code = some c) (h4 : c.code = bytes)
    (h5 : (c.maxLocals == mx && c.exceptionTable.isEmpty && decide (c.maxStack ≤ mostOperands) && decide (meth.sig.returnType = rt) && !meth.locks && decide (parseMethodDescriptor y.desc = some meth.sig)) = true) : (Jvm.Cond.code y bytes mx rt).before a s = true := by
  simp only [Bool.and_eq_true, beq_iff_eq, Bool.not_eq_true', decide_eq_true_eq] at h5
  obtain ⟨⟨⟨⟨⟨g1, g2⟩, g3⟩, g4⟩, g5⟩, g6⟩ := h5
  simp [Cond.before, Cond.holds, Cond.value, h1, h2, h3, h4, g1, g2, g3, g4, g5, g6]
def isCode : Jvm.Cond → Bool
  | .code _ _ _ _ => true
  | _ => false
theorem all_split {L : List Jvm.Cond} {P : Jvm.Cond → Bool} (h1 : L.all (fun c => isCode c || P c) = true) (h2 : ∀ c ∈ L.filter isCode, P c = true) : L.all P = true := by
  refine List.all_eq_true.mpr fun c hc => ?_
  have h := List.all_eq_true.mp h1 c hc
  rcases Bool.eq_false_or_eq_true (isCode c) with hi | hi
  · exact h2 c (List.mem_filter.mpr ⟨hc, hi⟩)
  · simpa [hi] using h
set_option maxRecDepth 65536 in
theorem w_c0 : (Jvm.Cond.code x code maxLocals ret).before args0 about1 = true := code_word (m := ⟨1, 1⟩) (meth := k1m1) (c := k1c1) (by decide +kernel) rfl rfl rfl (by decide +kernel)
set_option maxRecDepth 65536 in
theorem w_c1 : (Jvm.Cond.code ({ cls := "com/example/fee_simple/feesimple/CompensatedSum", name := "<init>", desc := "()V" } : Jvm.MethodName) prog_2_method_1_code (1 : Nat) (Option.none : Option Jvm.ClassFile.FieldType)).before args0 about1 = true := code_word (m := ⟨2, 0⟩) (meth := k2m0) (c := k2c0) (by decide +kernel) rfl rfl rfl (by decide +kernel)
set_option maxRecDepth 65536 in
theorem w_c2 : (Jvm.Cond.code ({ cls := "java/lang/Object", name := "<init>", desc := "()V" } : Jvm.MethodName) object_method_1_code (1 : Nat) (Option.none : Option Jvm.ClassFile.FieldType)).before args0 about1 = true := code_word (m := ⟨0, 0⟩) (meth := k0m0) (c := k0c0) (by decide +kernel) rfl rfl rfl (by decide +kernel)
set_option maxRecDepth 65536 in
theorem w_c3 : (Jvm.Cond.code ({ cls := "com/example/fee_simple/feesimple/CompensatedSum", name := "add", desc := "(D)V" } : Jvm.MethodName) prog_2_method_2_code (7 : Nat) (Option.none : Option Jvm.ClassFile.FieldType)).before args0 about1 = true := code_word (m := ⟨2, 1⟩) (meth := k2m1) (c := k2c1) (by decide +kernel) rfl rfl rfl (by decide +kernel)
set_option maxRecDepth 65536 in
theorem w_c4 : (Jvm.Cond.code ({ cls := "com/example/fee_simple/feesimple/CompensatedSum", name := "value", desc := "()D" } : Jvm.MethodName) prog_2_method_3_code (1 : Nat) (Option.some Jvm.ClassFile.FieldType.double)).before args0 about1 = true := code_word (m := ⟨2, 2⟩) (meth := k2m2) (c := k2c2) (by decide +kernel) rfl rfl rfl (by decide +kernel)
def codes1 : List Jvm.Cond := [Jvm.Cond.code x code maxLocals ret, Jvm.Cond.code ({ cls := "com/example/fee_simple/feesimple/CompensatedSum", name := "<init>", desc := "()V" } : Jvm.MethodName) prog_2_method_1_code (1 : Nat) (Option.none : Option Jvm.ClassFile.FieldType), Jvm.Cond.code ({ cls := "java/lang/Object", name := "<init>", desc := "()V" } : Jvm.MethodName) object_method_1_code (1 : Nat) (Option.none : Option Jvm.ClassFile.FieldType), Jvm.Cond.code ({ cls := "com/example/fee_simple/feesimple/CompensatedSum", name := "add", desc := "(D)V" } : Jvm.MethodName) prog_2_method_2_code (7 : Nat) (Option.none : Option Jvm.ClassFile.FieldType), Jvm.Cond.code ({ cls := "com/example/fee_simple/feesimple/CompensatedSum", name := "value", desc := "()D" } : Jvm.MethodName) prog_2_method_3_code (1 : Nat) (Option.some Jvm.ClassFile.FieldType.double)]
set_option maxRecDepth 65536 in
theorem codes_eq : words1.filter isCode = codes1 := rfl
theorem w_codes : ∀ c ∈ words1.filter isCode, c.before args0 about1 = true := by
  rw [codes_eq]
  intro c hc
  simp only [codes1, List.mem_cons, List.not_mem_nil, or_false] at hc
  rcases hc with rfl | rfl | rfl | rfl | rfl
  · exact w_c0
  · exact w_c1
  · exact w_c2
  · exact w_c3
  · exact w_c4
set_option maxRecDepth 65536 in
theorem w_t1 : (words1.take 24).all (fun c => isCode c || c.before args0 about1) = true := by decide +kernel
set_option maxRecDepth 65536 in
theorem w_t2 : (words1.drop 24).all (fun c => isCode c || c.before args0 about1) = true := by decide +kernel
theorem w_tables : (allAtoms (Jvm.Cond.code x code maxLocals ret :: tables_1)).before args0 about1 = true := by
  rw [allAtoms_all]
  show words1.all (fun c => c.before args0 about1) = true
  refine all_split ?_ w_codes
  rw [← List.take_append_drop 24 words1, List.all_append, w_t1, w_t2]
  rfl
set_option maxRecDepth 65536 in
theorem w_case : (Jvm.Cond.and given_1 narrow_1).before args0 about1 = true := by decide +kernel
theorem w_applies : (headSpec (Jvm.Cond.code x code maxLocals ret :: tables_1) room_1).applies x e0.platform about1 = true :=
  (Spec.applies_iff w_frames).mpr ⟨w_running, w_runnable, w_alone, w_named, w_hears, w_ripe, w_room, w_tables⟩
theorem atStart : AtStart classFile x code maxLocals ret World_1 tables_1 room_1 Calls_1 rest_1 Pre_1 launch0 p0 e0 about1 theMethod args0 below0 :=
  ⟨lists_1, trivial, launch0.admits_env _ _ _, launch0.least_env, fairChoices_fair.cas, fairChoices_fair.clock, w_frames, w_args, w_heap, w_applies, trivial, trivial, w_case⟩
end start1
theorem witness_1 : WitnessClaimed_1 := ⟨start1.p0, start1.e0, start1.about1, start1.theMethod, start1.args0, start1.below0, start1.atStart⟩
end Jvm.Pilot.@@N@@
