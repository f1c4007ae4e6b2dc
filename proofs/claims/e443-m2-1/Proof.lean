import JvmDerived
import JvmDerived.Pilot.@@N@@Statement
import JvmDerived.Pilot.@@N@@Code
set_option linter.unusedVariables false
set_option linter.unusedSimpArgs false
@@BLOCK:NumsL.lean.txt@@
namespace Jvm.Pilot.@@N@@
open Jvm Jvm.ClassFile Sem Op Lib Jvm.Free Jvm.Stand Jvm.LawKit Jvm.RoadKit Bundle Jvm.Pilot.@@N@@.Jvm.D

def own_G (p : Program) (e : Env) (below : List Frame) (B : State → Outcome → Prop) (U : State) : Prop := ∃ t o, Steps p.tables e below U t ∧ t.status = .running ∧ Ended t below o ∧ B t o
theorem own_via {p : Program} {e : Env} {below : List Frame} {B : State → Outcome → Prop} {U U' : State} (h : ∀ t, Steps p.tables e below U' t → Steps p.tables e below U t) (k : own_G p e below B U') : own_G p e below B U := by
  obtain ⟨t, o, a, r⟩ := k
  exact ⟨t, o, h t a, r⟩
theorem own_start {p : Program} {e : Env} {below : List Frame} {B : State → Outcome → Prop} {U : State} (k : own_G p e below B U) : ∃ t o, Steps p.tables e below U t ∧ t.status = .running ∧ Ended t below o ∧ B t o := k

def own_isd (w : Int64) (i : Int32) : Int32 := if (lcmpW ((w.toUInt64 >>> (((8 : Int32) * i) &&& 0x3f).toInt64.toUInt64).toInt64 &&& (255 : Int64)) (48 : Int64)) < (0 : Int32) then 0 else if (0 : Int32) < (lcmpW ((w.toUInt64 >>> (((8 : Int32) * i) &&& 0x3f).toInt64.toUInt64).toInt64 &&& (255 : Int64)) (57 : Int64)) then 0 else 1
def own_fnd (w : Int64) : Int32 := if own_isd w 0 = 0 then 0 else if own_isd w 1 = 0 then 1 else if own_isd w 2 = 0 then 2 else if own_isd w 3 = 0 then 3 else if own_isd w 4 = 0 then 4 else if own_isd w 5 = 0 then 5 else if own_isd w 6 = 0 then 6 else if own_isd w 7 = 0 then 7 else 8
def own_mk (w : Int64) : Int64 := ((w &&& (-1085102592571150096 : Int64)) ^^^ (3472328296227680304 : Int64)) ||| (((w + (434041037028460038 : Int64)) &&& (-1085102592571150096 : Int64)) ^^^ (3472328296227680304 : Int64))
/-- a byte of a word, by its number -/
theorem own_ub (x : UInt64) : (x.toInt64 &&& (255 : Int64)).toInt = ((x.toNat % 256 : Nat) : Int) := by
  rw [Jvm.Kit.i64_mask x.toInt64 255 (k := 8) (by decide) (by decide)]
  have e : x.toInt64.toInt = Int.bmod (x.toNat : Int) (2 ^ 64) := BitVec.toInt_eq_toNat_bmod _
  rw [e, Int.bmod_def]
  have := x.toNat_lt
  split <;> omega
theorem own_isd_pos {w : Int64} {i : Int32} (h : ¬ own_isd w i = 0) : 48 ≤ ((w.toUInt64 >>> (((8 : Int32) * i) &&& 0x3f).toInt64.toUInt64).toNat % 256) ∧ ((w.toUInt64 >>> (((8 : Int32) * i) &&& 0x3f).toInt64.toUInt64).toNat % 256) ≤ 57 := by
  have u := own_ub (w.toUInt64 >>> (((8 : Int32) * i) &&& 0x3f).toInt64.toUInt64)
  unfold own_isd at h
  generalize ((w.toUInt64 >>> (((8 : Int32) * i) &&& 0x3f).toInt64.toUInt64).toInt64 &&& (255 : Int64)) = B at *
  split at h
  · exact absurd rfl h
  · rename_i h1
    split at h
    · exact absurd rfl h
    · rename_i h2
      rw [lcW, lc_lt, Int64.lt_iff_toInt_lt, u, show (48 : Int64).toInt = 48 from by decide] at h1
      rw [lcW, lc_gt, Int64.lt_iff_toInt_lt, u, show (57 : Int64).toInt = 57 from by decide] at h2
      omega
theorem own_isd_zero {w : Int64} {i : Int32} (h : own_isd w i = 0) : ¬ (48 ≤ ((w.toUInt64 >>> (((8 : Int32) * i) &&& 0x3f).toInt64.toUInt64).toNat % 256) ∧ ((w.toUInt64 >>> (((8 : Int32) * i) &&& 0x3f).toInt64.toUInt64).toNat % 256) ≤ 57) := by
  have u := own_ub (w.toUInt64 >>> (((8 : Int32) * i) &&& 0x3f).toInt64.toUInt64)
  unfold own_isd at h
  generalize ((w.toUInt64 >>> (((8 : Int32) * i) &&& 0x3f).toInt64.toUInt64).toInt64 &&& (255 : Int64)) = B at *
  split at h
  · rename_i h1
    rw [lcW, lc_lt, Int64.lt_iff_toInt_lt, u, show (48 : Int64).toInt = 48 from by decide] at h1
    omega
  · split at h
    · rename_i h2
      rw [lcW, lc_gt, Int64.lt_iff_toInt_lt, u, show (57 : Int64).toInt = 57 from by decide] at h2
      omega
    · exact absurd h (by decide)
def own_f (b s : Nat) : Nat := ((b &&& 240) ^^^ 48) ||| ((s &&& 240) ^^^ 48)
theorem own_f0 : ∀ b : Fin 256, 48 ≤ b.val → b.val ≤ 57 → own_f b.val (b.val + 6) = 0 := by decide +kernel
theorem own_f1 : ∀ b : Fin 256, ¬ (48 ≤ b.val ∧ b.val ≤ 57) → own_f b.val ((b.val + 6) % 256) ≠ 0 := by decide +kernel
theorem own_mkN (w : Int64) : (own_mk w).toUInt64.toNat = (((w.toUInt64.toNat &&& 17361641481138401520) ^^^ 3472328296227680304) ||| ((((w.toUInt64.toNat + 434041037028460038) % 2 ^ 64) &&& 17361641481138401520) ^^^ 3472328296227680304)) := by
  show (own_mk w).toBitVec.toNat = _
  unfold own_mk
  rw [Int64.toBitVec_or, Int64.toBitVec_xor, Int64.toBitVec_xor, Int64.toBitVec_and, Int64.toBitVec_and, Int64.toBitVec_add, BitVec.toNat_or, BitVec.toNat_xor, BitVec.toNat_xor, BitVec.toNat_and, BitVec.toNat_and, BitVec.toNat_add]
  rfl

theorem own_b0 (w : Int64) : (own_mk w).toUInt64.toNat / 2 ^ 0 % 256 = own_f (w.toUInt64.toNat / 2 ^ 0 % 256) ((w.toUInt64.toNat + 434041037028460038) % 2 ^ 64 / 2 ^ 0 % 256) := by
  rw [own_mkN, show (256 : Nat) = 2 ^ 8 from rfl]
  simp only [Nat.or_div_two_pow, Nat.or_mod_two_pow, Nat.xor_div_two_pow, Nat.xor_mod_two_pow, Nat.and_div_two_pow, Nat.and_mod_two_pow, own_f]
theorem own_s0 (w : Int64) : (w.toUInt64 >>> (((8 : Int32) * 0) &&& 0x3f).toInt64.toUInt64).toNat = w.toUInt64.toNat / 2 ^ 0 := by
  rw [UInt64.toNat_shiftRight, Nat.shiftRight_eq_div_pow]; rfl
theorem own_q0 (x : Nat) : x % 2 ^ 64 / 2 ^ 0 % 256 = x / 2 ^ 0 % 256 := by omega
theorem own_b1 (w : Int64) : (own_mk w).toUInt64.toNat / 2 ^ 8 % 256 = own_f (w.toUInt64.toNat / 2 ^ 8 % 256) ((w.toUInt64.toNat + 434041037028460038) % 2 ^ 64 / 2 ^ 8 % 256) := by
  rw [own_mkN, show (256 : Nat) = 2 ^ 8 from rfl]
  simp only [Nat.or_div_two_pow, Nat.or_mod_two_pow, Nat.xor_div_two_pow, Nat.xor_mod_two_pow, Nat.and_div_two_pow, Nat.and_mod_two_pow, own_f]
theorem own_s1 (w : Int64) : (w.toUInt64 >>> (((8 : Int32) * 1) &&& 0x3f).toInt64.toUInt64).toNat = w.toUInt64.toNat / 2 ^ 8 := by
  rw [UInt64.toNat_shiftRight, Nat.shiftRight_eq_div_pow]; rfl
theorem own_q1 (x : Nat) : x % 2 ^ 64 / 2 ^ 8 % 256 = x / 2 ^ 8 % 256 := by omega
theorem own_b2 (w : Int64) : (own_mk w).toUInt64.toNat / 2 ^ 16 % 256 = own_f (w.toUInt64.toNat / 2 ^ 16 % 256) ((w.toUInt64.toNat + 434041037028460038) % 2 ^ 64 / 2 ^ 16 % 256) := by
  rw [own_mkN, show (256 : Nat) = 2 ^ 8 from rfl]
  simp only [Nat.or_div_two_pow, Nat.or_mod_two_pow, Nat.xor_div_two_pow, Nat.xor_mod_two_pow, Nat.and_div_two_pow, Nat.and_mod_two_pow, own_f]
theorem own_s2 (w : Int64) : (w.toUInt64 >>> (((8 : Int32) * 2) &&& 0x3f).toInt64.toUInt64).toNat = w.toUInt64.toNat / 2 ^ 16 := by
  rw [UInt64.toNat_shiftRight, Nat.shiftRight_eq_div_pow]; rfl
theorem own_q2 (x : Nat) : x % 2 ^ 64 / 2 ^ 16 % 256 = x / 2 ^ 16 % 256 := by omega
theorem own_b3 (w : Int64) : (own_mk w).toUInt64.toNat / 2 ^ 24 % 256 = own_f (w.toUInt64.toNat / 2 ^ 24 % 256) ((w.toUInt64.toNat + 434041037028460038) % 2 ^ 64 / 2 ^ 24 % 256) := by
  rw [own_mkN, show (256 : Nat) = 2 ^ 8 from rfl]
  simp only [Nat.or_div_two_pow, Nat.or_mod_two_pow, Nat.xor_div_two_pow, Nat.xor_mod_two_pow, Nat.and_div_two_pow, Nat.and_mod_two_pow, own_f]
theorem own_s3 (w : Int64) : (w.toUInt64 >>> (((8 : Int32) * 3) &&& 0x3f).toInt64.toUInt64).toNat = w.toUInt64.toNat / 2 ^ 24 := by
  rw [UInt64.toNat_shiftRight, Nat.shiftRight_eq_div_pow]; rfl
theorem own_q3 (x : Nat) : x % 2 ^ 64 / 2 ^ 24 % 256 = x / 2 ^ 24 % 256 := by omega
theorem own_b4 (w : Int64) : (own_mk w).toUInt64.toNat / 2 ^ 32 % 256 = own_f (w.toUInt64.toNat / 2 ^ 32 % 256) ((w.toUInt64.toNat + 434041037028460038) % 2 ^ 64 / 2 ^ 32 % 256) := by
  rw [own_mkN, show (256 : Nat) = 2 ^ 8 from rfl]
  simp only [Nat.or_div_two_pow, Nat.or_mod_two_pow, Nat.xor_div_two_pow, Nat.xor_mod_two_pow, Nat.and_div_two_pow, Nat.and_mod_two_pow, own_f]
theorem own_s4 (w : Int64) : (w.toUInt64 >>> (((8 : Int32) * 4) &&& 0x3f).toInt64.toUInt64).toNat = w.toUInt64.toNat / 2 ^ 32 := by
  rw [UInt64.toNat_shiftRight, Nat.shiftRight_eq_div_pow]; rfl
theorem own_q4 (x : Nat) : x % 2 ^ 64 / 2 ^ 32 % 256 = x / 2 ^ 32 % 256 := by omega
theorem own_b5 (w : Int64) : (own_mk w).toUInt64.toNat / 2 ^ 40 % 256 = own_f (w.toUInt64.toNat / 2 ^ 40 % 256) ((w.toUInt64.toNat + 434041037028460038) % 2 ^ 64 / 2 ^ 40 % 256) := by
  rw [own_mkN, show (256 : Nat) = 2 ^ 8 from rfl]
  simp only [Nat.or_div_two_pow, Nat.or_mod_two_pow, Nat.xor_div_two_pow, Nat.xor_mod_two_pow, Nat.and_div_two_pow, Nat.and_mod_two_pow, own_f]
theorem own_s5 (w : Int64) : (w.toUInt64 >>> (((8 : Int32) * 5) &&& 0x3f).toInt64.toUInt64).toNat = w.toUInt64.toNat / 2 ^ 40 := by
  rw [UInt64.toNat_shiftRight, Nat.shiftRight_eq_div_pow]; rfl
theorem own_q5 (x : Nat) : x % 2 ^ 64 / 2 ^ 40 % 256 = x / 2 ^ 40 % 256 := by omega
theorem own_b6 (w : Int64) : (own_mk w).toUInt64.toNat / 2 ^ 48 % 256 = own_f (w.toUInt64.toNat / 2 ^ 48 % 256) ((w.toUInt64.toNat + 434041037028460038) % 2 ^ 64 / 2 ^ 48 % 256) := by
  rw [own_mkN, show (256 : Nat) = 2 ^ 8 from rfl]
  simp only [Nat.or_div_two_pow, Nat.or_mod_two_pow, Nat.xor_div_two_pow, Nat.xor_mod_two_pow, Nat.and_div_two_pow, Nat.and_mod_two_pow, own_f]
theorem own_s6 (w : Int64) : (w.toUInt64 >>> (((8 : Int32) * 6) &&& 0x3f).toInt64.toUInt64).toNat = w.toUInt64.toNat / 2 ^ 48 := by
  rw [UInt64.toNat_shiftRight, Nat.shiftRight_eq_div_pow]; rfl
theorem own_q6 (x : Nat) : x % 2 ^ 64 / 2 ^ 48 % 256 = x / 2 ^ 48 % 256 := by omega
theorem own_b7 (w : Int64) : (own_mk w).toUInt64.toNat / 2 ^ 56 % 256 = own_f (w.toUInt64.toNat / 2 ^ 56 % 256) ((w.toUInt64.toNat + 434041037028460038) % 2 ^ 64 / 2 ^ 56 % 256) := by
  rw [own_mkN, show (256 : Nat) = 2 ^ 8 from rfl]
  simp only [Nat.or_div_two_pow, Nat.or_mod_two_pow, Nat.xor_div_two_pow, Nat.xor_mod_two_pow, Nat.and_div_two_pow, Nat.and_mod_two_pow, own_f]
theorem own_s7 (w : Int64) : (w.toUInt64 >>> (((8 : Int32) * 7) &&& 0x3f).toInt64.toUInt64).toNat = w.toUInt64.toNat / 2 ^ 56 := by
  rw [UInt64.toNat_shiftRight, Nat.shiftRight_eq_div_pow]; rfl
theorem own_q7 (x : Nat) : x % 2 ^ 64 / 2 ^ 56 % 256 = x / 2 ^ 56 % 256 := by omega
theorem own_y0 (w : Int64) : (w.toUInt64.toNat + 434041037028460038) / 2 ^ 0 = w.toUInt64.toNat / 2 ^ 0 + 434041037028460038 ∧ (own_mk w).toUInt64.toNat % 2 ^ 0 = 0 := ⟨by simp, by omega⟩
theorem own_y1 (w : Int64) (g0 : 48 ≤ w.toUInt64.toNat / 2 ^ 0 % 256 ∧ w.toUInt64.toNat / 2 ^ 0 % 256 ≤ 57) : (w.toUInt64.toNat + 434041037028460038) / 2 ^ 8 = w.toUInt64.toNat / 2 ^ 8 + 1695472800892422 ∧ (own_mk w).toUInt64.toNat % 2 ^ 8 = 0 := by
  obtain ⟨e, z⟩ := own_y0 w 
  have t := own_b0 w
  rw [own_q0, e] at t
  have s : (w.toUInt64.toNat / 2 ^ 0 + 434041037028460038) % 256 = w.toUInt64.toNat / 2 ^ 0 % 256 + 6 := by
    generalize w.toUInt64.toNat / 2 ^ 0 = u at *
    omega
  rw [s, own_f0 ⟨w.toUInt64.toNat / 2 ^ 0 % 256, Nat.mod_lt _ (by decide)⟩ g0.1 g0.2] at t
  refine ⟨?_, ?_⟩
  · rw [show (2 : Nat) ^ 8 = 2 ^ 0 * 256 from by decide, ← Nat.div_div_eq_div_mul, ← Nat.div_div_eq_div_mul, e]
    generalize w.toUInt64.toNat / 2 ^ 0 = u at *
    omega
  · generalize (own_mk w).toUInt64.toNat = M at *
    clear s e g0
    omega
theorem own_y2 (w : Int64) (g0 : 48 ≤ w.toUInt64.toNat / 2 ^ 0 % 256 ∧ w.toUInt64.toNat / 2 ^ 0 % 256 ≤ 57) (g1 : 48 ≤ w.toUInt64.toNat / 2 ^ 8 % 256 ∧ w.toUInt64.toNat / 2 ^ 8 % 256 ≤ 57) : (w.toUInt64.toNat + 434041037028460038) / 2 ^ 16 = w.toUInt64.toNat / 2 ^ 16 + 6622940628486 ∧ (own_mk w).toUInt64.toNat % 2 ^ 16 = 0 := by
  obtain ⟨e, z⟩ := own_y1 w g0
  have t := own_b1 w
  rw [own_q1, e] at t
  have s : (w.toUInt64.toNat / 2 ^ 8 + 1695472800892422) % 256 = w.toUInt64.toNat / 2 ^ 8 % 256 + 6 := by
    generalize w.toUInt64.toNat / 2 ^ 8 = u at *
    omega
  rw [s, own_f0 ⟨w.toUInt64.toNat / 2 ^ 8 % 256, Nat.mod_lt _ (by decide)⟩ g1.1 g1.2] at t
  refine ⟨?_, ?_⟩
  · rw [show (2 : Nat) ^ 16 = 2 ^ 8 * 256 from by decide, ← Nat.div_div_eq_div_mul, ← Nat.div_div_eq_div_mul, e]
    generalize w.toUInt64.toNat / 2 ^ 8 = u at *
    omega
  · generalize (own_mk w).toUInt64.toNat = M at *
    clear s e g1
    omega
theorem own_y3 (w : Int64) (g0 : 48 ≤ w.toUInt64.toNat / 2 ^ 0 % 256 ∧ w.toUInt64.toNat / 2 ^ 0 % 256 ≤ 57) (g1 : 48 ≤ w.toUInt64.toNat / 2 ^ 8 % 256 ∧ w.toUInt64.toNat / 2 ^ 8 % 256 ≤ 57) (g2 : 48 ≤ w.toUInt64.toNat / 2 ^ 16 % 256 ∧ w.toUInt64.toNat / 2 ^ 16 % 256 ≤ 57) : (w.toUInt64.toNat + 434041037028460038) / 2 ^ 24 = w.toUInt64.toNat / 2 ^ 24 + 25870861830 ∧ (own_mk w).toUInt64.toNat % 2 ^ 24 = 0 := by
  obtain ⟨e, z⟩ := own_y2 w g0 g1
  have t := own_b2 w
  rw [own_q2, e] at t
  have s : (w.toUInt64.toNat / 2 ^ 16 + 6622940628486) % 256 = w.toUInt64.toNat / 2 ^ 16 % 256 + 6 := by
    generalize w.toUInt64.toNat / 2 ^ 16 = u at *
    omega
  rw [s, own_f0 ⟨w.toUInt64.toNat / 2 ^ 16 % 256, Nat.mod_lt _ (by decide)⟩ g2.1 g2.2] at t
  refine ⟨?_, ?_⟩
  · rw [show (2 : Nat) ^ 24 = 2 ^ 16 * 256 from by decide, ← Nat.div_div_eq_div_mul, ← Nat.div_div_eq_div_mul, e]
    generalize w.toUInt64.toNat / 2 ^ 16 = u at *
    omega
  · generalize (own_mk w).toUInt64.toNat = M at *
    clear s e g2
    omega
theorem own_y4 (w : Int64) (g0 : 48 ≤ w.toUInt64.toNat / 2 ^ 0 % 256 ∧ w.toUInt64.toNat / 2 ^ 0 % 256 ≤ 57) (g1 : 48 ≤ w.toUInt64.toNat / 2 ^ 8 % 256 ∧ w.toUInt64.toNat / 2 ^ 8 % 256 ≤ 57) (g2 : 48 ≤ w.toUInt64.toNat / 2 ^ 16 % 256 ∧ w.toUInt64.toNat / 2 ^ 16 % 256 ≤ 57) (g3 : 48 ≤ w.toUInt64.toNat / 2 ^ 24 % 256 ∧ w.toUInt64.toNat / 2 ^ 24 % 256 ≤ 57) : (w.toUInt64.toNat + 434041037028460038) / 2 ^ 32 = w.toUInt64.toNat / 2 ^ 32 + 101058054 ∧ (own_mk w).toUInt64.toNat % 2 ^ 32 = 0 := by
  obtain ⟨e, z⟩ := own_y3 w g0 g1 g2
  have t := own_b3 w
  rw [own_q3, e] at t
  have s : (w.toUInt64.toNat / 2 ^ 24 + 25870861830) % 256 = w.toUInt64.toNat / 2 ^ 24 % 256 + 6 := by
    generalize w.toUInt64.toNat / 2 ^ 24 = u at *
    omega
  rw [s, own_f0 ⟨w.toUInt64.toNat / 2 ^ 24 % 256, Nat.mod_lt _ (by decide)⟩ g3.1 g3.2] at t
  refine ⟨?_, ?_⟩
  · rw [show (2 : Nat) ^ 32 = 2 ^ 24 * 256 from by decide, ← Nat.div_div_eq_div_mul, ← Nat.div_div_eq_div_mul, e]
    generalize w.toUInt64.toNat / 2 ^ 24 = u at *
    omega
  · generalize (own_mk w).toUInt64.toNat = M at *
    clear s e g3
    omega
theorem own_y5 (w : Int64) (g0 : 48 ≤ w.toUInt64.toNat / 2 ^ 0 % 256 ∧ w.toUInt64.toNat / 2 ^ 0 % 256 ≤ 57) (g1 : 48 ≤ w.toUInt64.toNat / 2 ^ 8 % 256 ∧ w.toUInt64.toNat / 2 ^ 8 % 256 ≤ 57) (g2 : 48 ≤ w.toUInt64.toNat / 2 ^ 16 % 256 ∧ w.toUInt64.toNat / 2 ^ 16 % 256 ≤ 57) (g3 : 48 ≤ w.toUInt64.toNat / 2 ^ 24 % 256 ∧ w.toUInt64.toNat / 2 ^ 24 % 256 ≤ 57) (g4 : 48 ≤ w.toUInt64.toNat / 2 ^ 32 % 256 ∧ w.toUInt64.toNat / 2 ^ 32 % 256 ≤ 57) : (w.toUInt64.toNat + 434041037028460038) / 2 ^ 40 = w.toUInt64.toNat / 2 ^ 40 + 394758 ∧ (own_mk w).toUInt64.toNat % 2 ^ 40 = 0 := by
  obtain ⟨e, z⟩ := own_y4 w g0 g1 g2 g3
  have t := own_b4 w
  rw [own_q4, e] at t
  have s : (w.toUInt64.toNat / 2 ^ 32 + 101058054) % 256 = w.toUInt64.toNat / 2 ^ 32 % 256 + 6 := by
    generalize w.toUInt64.toNat / 2 ^ 32 = u at *
    omega
  rw [s, own_f0 ⟨w.toUInt64.toNat / 2 ^ 32 % 256, Nat.mod_lt _ (by decide)⟩ g4.1 g4.2] at t
  refine ⟨?_, ?_⟩
  · rw [show (2 : Nat) ^ 40 = 2 ^ 32 * 256 from by decide, ← Nat.div_div_eq_div_mul, ← Nat.div_div_eq_div_mul, e]
    generalize w.toUInt64.toNat / 2 ^ 32 = u at *
    omega
  · generalize (own_mk w).toUInt64.toNat = M at *
    clear s e g4
    omega
theorem own_y6 (w : Int64) (g0 : 48 ≤ w.toUInt64.toNat / 2 ^ 0 % 256 ∧ w.toUInt64.toNat / 2 ^ 0 % 256 ≤ 57) (g1 : 48 ≤ w.toUInt64.toNat / 2 ^ 8 % 256 ∧ w.toUInt64.toNat / 2 ^ 8 % 256 ≤ 57) (g2 : 48 ≤ w.toUInt64.toNat / 2 ^ 16 % 256 ∧ w.toUInt64.toNat / 2 ^ 16 % 256 ≤ 57) (g3 : 48 ≤ w.toUInt64.toNat / 2 ^ 24 % 256 ∧ w.toUInt64.toNat / 2 ^ 24 % 256 ≤ 57) (g4 : 48 ≤ w.toUInt64.toNat / 2 ^ 32 % 256 ∧ w.toUInt64.toNat / 2 ^ 32 % 256 ≤ 57) (g5 : 48 ≤ w.toUInt64.toNat / 2 ^ 40 % 256 ∧ w.toUInt64.toNat / 2 ^ 40 % 256 ≤ 57) : (w.toUInt64.toNat + 434041037028460038) / 2 ^ 48 = w.toUInt64.toNat / 2 ^ 48 + 1542 ∧ (own_mk w).toUInt64.toNat % 2 ^ 48 = 0 := by
  obtain ⟨e, z⟩ := own_y5 w g0 g1 g2 g3 g4
  have t := own_b5 w
  rw [own_q5, e] at t
  have s : (w.toUInt64.toNat / 2 ^ 40 + 394758) % 256 = w.toUInt64.toNat / 2 ^ 40 % 256 + 6 := by
    generalize w.toUInt64.toNat / 2 ^ 40 = u at *
    omega
  rw [s, own_f0 ⟨w.toUInt64.toNat / 2 ^ 40 % 256, Nat.mod_lt _ (by decide)⟩ g5.1 g5.2] at t
  refine ⟨?_, ?_⟩
  · rw [show (2 : Nat) ^ 48 = 2 ^ 40 * 256 from by decide, ← Nat.div_div_eq_div_mul, ← Nat.div_div_eq_div_mul, e]
    generalize w.toUInt64.toNat / 2 ^ 40 = u at *
    omega
  · generalize (own_mk w).toUInt64.toNat = M at *
    clear s e g5
    omega
theorem own_y7 (w : Int64) (g0 : 48 ≤ w.toUInt64.toNat / 2 ^ 0 % 256 ∧ w.toUInt64.toNat / 2 ^ 0 % 256 ≤ 57) (g1 : 48 ≤ w.toUInt64.toNat / 2 ^ 8 % 256 ∧ w.toUInt64.toNat / 2 ^ 8 % 256 ≤ 57) (g2 : 48 ≤ w.toUInt64.toNat / 2 ^ 16 % 256 ∧ w.toUInt64.toNat / 2 ^ 16 % 256 ≤ 57) (g3 : 48 ≤ w.toUInt64.toNat / 2 ^ 24 % 256 ∧ w.toUInt64.toNat / 2 ^ 24 % 256 ≤ 57) (g4 : 48 ≤ w.toUInt64.toNat / 2 ^ 32 % 256 ∧ w.toUInt64.toNat / 2 ^ 32 % 256 ≤ 57) (g5 : 48 ≤ w.toUInt64.toNat / 2 ^ 40 % 256 ∧ w.toUInt64.toNat / 2 ^ 40 % 256 ≤ 57) (g6 : 48 ≤ w.toUInt64.toNat / 2 ^ 48 % 256 ∧ w.toUInt64.toNat / 2 ^ 48 % 256 ≤ 57) : (w.toUInt64.toNat + 434041037028460038) / 2 ^ 56 = w.toUInt64.toNat / 2 ^ 56 + 6 ∧ (own_mk w).toUInt64.toNat % 2 ^ 56 = 0 := by
  obtain ⟨e, z⟩ := own_y6 w g0 g1 g2 g3 g4 g5
  have t := own_b6 w
  rw [own_q6, e] at t
  have s : (w.toUInt64.toNat / 2 ^ 48 + 1542) % 256 = w.toUInt64.toNat / 2 ^ 48 % 256 + 6 := by
    generalize w.toUInt64.toNat / 2 ^ 48 = u at *
    omega
  rw [s, own_f0 ⟨w.toUInt64.toNat / 2 ^ 48 % 256, Nat.mod_lt _ (by decide)⟩ g6.1 g6.2] at t
  refine ⟨?_, ?_⟩
  · rw [show (2 : Nat) ^ 56 = 2 ^ 48 * 256 from by decide, ← Nat.div_div_eq_div_mul, ← Nat.div_div_eq_div_mul, e]
    generalize w.toUInt64.toNat / 2 ^ 48 = u at *
    omega
  · generalize (own_mk w).toUInt64.toNat = M at *
    clear s e g6
    omega
theorem own_y8 (w : Int64) (g0 : 48 ≤ w.toUInt64.toNat / 2 ^ 0 % 256 ∧ w.toUInt64.toNat / 2 ^ 0 % 256 ≤ 57) (g1 : 48 ≤ w.toUInt64.toNat / 2 ^ 8 % 256 ∧ w.toUInt64.toNat / 2 ^ 8 % 256 ≤ 57) (g2 : 48 ≤ w.toUInt64.toNat / 2 ^ 16 % 256 ∧ w.toUInt64.toNat / 2 ^ 16 % 256 ≤ 57) (g3 : 48 ≤ w.toUInt64.toNat / 2 ^ 24 % 256 ∧ w.toUInt64.toNat / 2 ^ 24 % 256 ≤ 57) (g4 : 48 ≤ w.toUInt64.toNat / 2 ^ 32 % 256 ∧ w.toUInt64.toNat / 2 ^ 32 % 256 ≤ 57) (g5 : 48 ≤ w.toUInt64.toNat / 2 ^ 40 % 256 ∧ w.toUInt64.toNat / 2 ^ 40 % 256 ≤ 57) (g6 : 48 ≤ w.toUInt64.toNat / 2 ^ 48 % 256 ∧ w.toUInt64.toNat / 2 ^ 48 % 256 ≤ 57) (g7 : 48 ≤ w.toUInt64.toNat / 2 ^ 56 % 256 ∧ w.toUInt64.toNat / 2 ^ 56 % 256 ≤ 57) : (w.toUInt64.toNat + 434041037028460038) / 2 ^ 64 = w.toUInt64.toNat / 2 ^ 64 + 0 ∧ (own_mk w).toUInt64.toNat % 2 ^ 64 = 0 := by
  obtain ⟨e, z⟩ := own_y7 w g0 g1 g2 g3 g4 g5 g6
  have t := own_b7 w
  rw [own_q7, e] at t
  have s : (w.toUInt64.toNat / 2 ^ 56 + 6) % 256 = w.toUInt64.toNat / 2 ^ 56 % 256 + 6 := by
    generalize w.toUInt64.toNat / 2 ^ 56 = u at *
    omega
  rw [s, own_f0 ⟨w.toUInt64.toNat / 2 ^ 56 % 256, Nat.mod_lt _ (by decide)⟩ g7.1 g7.2] at t
  refine ⟨?_, ?_⟩
  · rw [show (2 : Nat) ^ 64 = 2 ^ 56 * 256 from by decide, ← Nat.div_div_eq_div_mul, ← Nat.div_div_eq_div_mul, e]
    generalize w.toUInt64.toNat / 2 ^ 56 = u at *
    omega
  · generalize (own_mk w).toUInt64.toNat = M at *
    clear s e g7
    omega
theorem own_z0 (w : Int64)  : (own_mk w).toUInt64.toNat % 2 ^ 0 = 0 ∧ (w.toUInt64.toNat + 434041037028460038) % 2 ^ 64 / 2 ^ 0 % 256 = (w.toUInt64.toNat / 2 ^ 0 % 256 + 6) % 256 := by
  obtain ⟨e, z⟩ := own_y0 w 
  refine ⟨z, ?_⟩
  rw [own_q0, e]
  generalize w.toUInt64.toNat / 2 ^ 0 = u at *
  omega
theorem own_z1 (w : Int64) (g0 : 48 ≤ w.toUInt64.toNat / 2 ^ 0 % 256 ∧ w.toUInt64.toNat / 2 ^ 0 % 256 ≤ 57) : (own_mk w).toUInt64.toNat % 2 ^ 8 = 0 ∧ (w.toUInt64.toNat + 434041037028460038) % 2 ^ 64 / 2 ^ 8 % 256 = (w.toUInt64.toNat / 2 ^ 8 % 256 + 6) % 256 := by
  obtain ⟨e, z⟩ := own_y1 w g0
  refine ⟨z, ?_⟩
  rw [own_q1, e]
  generalize w.toUInt64.toNat / 2 ^ 8 = u at *
  omega
theorem own_z2 (w : Int64) (g0 : 48 ≤ w.toUInt64.toNat / 2 ^ 0 % 256 ∧ w.toUInt64.toNat / 2 ^ 0 % 256 ≤ 57) (g1 : 48 ≤ w.toUInt64.toNat / 2 ^ 8 % 256 ∧ w.toUInt64.toNat / 2 ^ 8 % 256 ≤ 57) : (own_mk w).toUInt64.toNat % 2 ^ 16 = 0 ∧ (w.toUInt64.toNat + 434041037028460038) % 2 ^ 64 / 2 ^ 16 % 256 = (w.toUInt64.toNat / 2 ^ 16 % 256 + 6) % 256 := by
  obtain ⟨e, z⟩ := own_y2 w g0 g1
  refine ⟨z, ?_⟩
  rw [own_q2, e]
  generalize w.toUInt64.toNat / 2 ^ 16 = u at *
  omega
theorem own_z3 (w : Int64) (g0 : 48 ≤ w.toUInt64.toNat / 2 ^ 0 % 256 ∧ w.toUInt64.toNat / 2 ^ 0 % 256 ≤ 57) (g1 : 48 ≤ w.toUInt64.toNat / 2 ^ 8 % 256 ∧ w.toUInt64.toNat / 2 ^ 8 % 256 ≤ 57) (g2 : 48 ≤ w.toUInt64.toNat / 2 ^ 16 % 256 ∧ w.toUInt64.toNat / 2 ^ 16 % 256 ≤ 57) : (own_mk w).toUInt64.toNat % 2 ^ 24 = 0 ∧ (w.toUInt64.toNat + 434041037028460038) % 2 ^ 64 / 2 ^ 24 % 256 = (w.toUInt64.toNat / 2 ^ 24 % 256 + 6) % 256 := by
  obtain ⟨e, z⟩ := own_y3 w g0 g1 g2
  refine ⟨z, ?_⟩
  rw [own_q3, e]
  generalize w.toUInt64.toNat / 2 ^ 24 = u at *
  omega
theorem own_z4 (w : Int64) (g0 : 48 ≤ w.toUInt64.toNat / 2 ^ 0 % 256 ∧ w.toUInt64.toNat / 2 ^ 0 % 256 ≤ 57) (g1 : 48 ≤ w.toUInt64.toNat / 2 ^ 8 % 256 ∧ w.toUInt64.toNat / 2 ^ 8 % 256 ≤ 57) (g2 : 48 ≤ w.toUInt64.toNat / 2 ^ 16 % 256 ∧ w.toUInt64.toNat / 2 ^ 16 % 256 ≤ 57) (g3 : 48 ≤ w.toUInt64.toNat / 2 ^ 24 % 256 ∧ w.toUInt64.toNat / 2 ^ 24 % 256 ≤ 57) : (own_mk w).toUInt64.toNat % 2 ^ 32 = 0 ∧ (w.toUInt64.toNat + 434041037028460038) % 2 ^ 64 / 2 ^ 32 % 256 = (w.toUInt64.toNat / 2 ^ 32 % 256 + 6) % 256 := by
  obtain ⟨e, z⟩ := own_y4 w g0 g1 g2 g3
  refine ⟨z, ?_⟩
  rw [own_q4, e]
  generalize w.toUInt64.toNat / 2 ^ 32 = u at *
  omega
theorem own_z5 (w : Int64) (g0 : 48 ≤ w.toUInt64.toNat / 2 ^ 0 % 256 ∧ w.toUInt64.toNat / 2 ^ 0 % 256 ≤ 57) (g1 : 48 ≤ w.toUInt64.toNat / 2 ^ 8 % 256 ∧ w.toUInt64.toNat / 2 ^ 8 % 256 ≤ 57) (g2 : 48 ≤ w.toUInt64.toNat / 2 ^ 16 % 256 ∧ w.toUInt64.toNat / 2 ^ 16 % 256 ≤ 57) (g3 : 48 ≤ w.toUInt64.toNat / 2 ^ 24 % 256 ∧ w.toUInt64.toNat / 2 ^ 24 % 256 ≤ 57) (g4 : 48 ≤ w.toUInt64.toNat / 2 ^ 32 % 256 ∧ w.toUInt64.toNat / 2 ^ 32 % 256 ≤ 57) : (own_mk w).toUInt64.toNat % 2 ^ 40 = 0 ∧ (w.toUInt64.toNat + 434041037028460038) % 2 ^ 64 / 2 ^ 40 % 256 = (w.toUInt64.toNat / 2 ^ 40 % 256 + 6) % 256 := by
  obtain ⟨e, z⟩ := own_y5 w g0 g1 g2 g3 g4
  refine ⟨z, ?_⟩
  rw [own_q5, e]
  generalize w.toUInt64.toNat / 2 ^ 40 = u at *
  omega
theorem own_z6 (w : Int64) (g0 : 48 ≤ w.toUInt64.toNat / 2 ^ 0 % 256 ∧ w.toUInt64.toNat / 2 ^ 0 % 256 ≤ 57) (g1 : 48 ≤ w.toUInt64.toNat / 2 ^ 8 % 256 ∧ w.toUInt64.toNat / 2 ^ 8 % 256 ≤ 57) (g2 : 48 ≤ w.toUInt64.toNat / 2 ^ 16 % 256 ∧ w.toUInt64.toNat / 2 ^ 16 % 256 ≤ 57) (g3 : 48 ≤ w.toUInt64.toNat / 2 ^ 24 % 256 ∧ w.toUInt64.toNat / 2 ^ 24 % 256 ≤ 57) (g4 : 48 ≤ w.toUInt64.toNat / 2 ^ 32 % 256 ∧ w.toUInt64.toNat / 2 ^ 32 % 256 ≤ 57) (g5 : 48 ≤ w.toUInt64.toNat / 2 ^ 40 % 256 ∧ w.toUInt64.toNat / 2 ^ 40 % 256 ≤ 57) : (own_mk w).toUInt64.toNat % 2 ^ 48 = 0 ∧ (w.toUInt64.toNat + 434041037028460038) % 2 ^ 64 / 2 ^ 48 % 256 = (w.toUInt64.toNat / 2 ^ 48 % 256 + 6) % 256 := by
  obtain ⟨e, z⟩ := own_y6 w g0 g1 g2 g3 g4 g5
  refine ⟨z, ?_⟩
  rw [own_q6, e]
  generalize w.toUInt64.toNat / 2 ^ 48 = u at *
  omega
theorem own_z7 (w : Int64) (g0 : 48 ≤ w.toUInt64.toNat / 2 ^ 0 % 256 ∧ w.toUInt64.toNat / 2 ^ 0 % 256 ≤ 57) (g1 : 48 ≤ w.toUInt64.toNat / 2 ^ 8 % 256 ∧ w.toUInt64.toNat / 2 ^ 8 % 256 ≤ 57) (g2 : 48 ≤ w.toUInt64.toNat / 2 ^ 16 % 256 ∧ w.toUInt64.toNat / 2 ^ 16 % 256 ≤ 57) (g3 : 48 ≤ w.toUInt64.toNat / 2 ^ 24 % 256 ∧ w.toUInt64.toNat / 2 ^ 24 % 256 ≤ 57) (g4 : 48 ≤ w.toUInt64.toNat / 2 ^ 32 % 256 ∧ w.toUInt64.toNat / 2 ^ 32 % 256 ≤ 57) (g5 : 48 ≤ w.toUInt64.toNat / 2 ^ 40 % 256 ∧ w.toUInt64.toNat / 2 ^ 40 % 256 ≤ 57) (g6 : 48 ≤ w.toUInt64.toNat / 2 ^ 48 % 256 ∧ w.toUInt64.toNat / 2 ^ 48 % 256 ≤ 57) : (own_mk w).toUInt64.toNat % 2 ^ 56 = 0 ∧ (w.toUInt64.toNat + 434041037028460038) % 2 ^ 64 / 2 ^ 56 % 256 = (w.toUInt64.toNat / 2 ^ 56 % 256 + 6) % 256 := by
  obtain ⟨e, z⟩ := own_y7 w g0 g1 g2 g3 g4 g5 g6
  refine ⟨z, ?_⟩
  rw [own_q7, e]
  generalize w.toUInt64.toNat / 2 ^ 56 = u at *
  omega
theorem own_z8 (w : Int64) (g0 : 48 ≤ w.toUInt64.toNat / 2 ^ 0 % 256 ∧ w.toUInt64.toNat / 2 ^ 0 % 256 ≤ 57) (g1 : 48 ≤ w.toUInt64.toNat / 2 ^ 8 % 256 ∧ w.toUInt64.toNat / 2 ^ 8 % 256 ≤ 57) (g2 : 48 ≤ w.toUInt64.toNat / 2 ^ 16 % 256 ∧ w.toUInt64.toNat / 2 ^ 16 % 256 ≤ 57) (g3 : 48 ≤ w.toUInt64.toNat / 2 ^ 24 % 256 ∧ w.toUInt64.toNat / 2 ^ 24 % 256 ≤ 57) (g4 : 48 ≤ w.toUInt64.toNat / 2 ^ 32 % 256 ∧ w.toUInt64.toNat / 2 ^ 32 % 256 ≤ 57) (g5 : 48 ≤ w.toUInt64.toNat / 2 ^ 40 % 256 ∧ w.toUInt64.toNat / 2 ^ 40 % 256 ≤ 57) (g6 : 48 ≤ w.toUInt64.toNat / 2 ^ 48 % 256 ∧ w.toUInt64.toNat / 2 ^ 48 % 256 ≤ 57) (g7 : 48 ≤ w.toUInt64.toNat / 2 ^ 56 % 256 ∧ w.toUInt64.toNat / 2 ^ 56 % 256 ≤ 57) : (own_mk w).toUInt64.toNat % 2 ^ 64 = 0 := (own_y8 w g0 g1 g2 g3 g4 g5 g6 g7).2
theorem own_cases (w : Int64) : (own_fnd w = 0 ∧ ¬ (48 ≤ w.toUInt64.toNat / 2 ^ 0 % 256 ∧ w.toUInt64.toNat / 2 ^ 0 % 256 ≤ 57)) ∨ (own_fnd w = 1 ∧ (48 ≤ w.toUInt64.toNat / 2 ^ 0 % 256 ∧ w.toUInt64.toNat / 2 ^ 0 % 256 ≤ 57) ∧ ¬ (48 ≤ w.toUInt64.toNat / 2 ^ 8 % 256 ∧ w.toUInt64.toNat / 2 ^ 8 % 256 ≤ 57)) ∨ (own_fnd w = 2 ∧ (48 ≤ w.toUInt64.toNat / 2 ^ 0 % 256 ∧ w.toUInt64.toNat / 2 ^ 0 % 256 ≤ 57) ∧ (48 ≤ w.toUInt64.toNat / 2 ^ 8 % 256 ∧ w.toUInt64.toNat / 2 ^ 8 % 256 ≤ 57) ∧ ¬ (48 ≤ w.toUInt64.toNat / 2 ^ 16 % 256 ∧ w.toUInt64.toNat / 2 ^ 16 % 256 ≤ 57)) ∨ (own_fnd w = 3 ∧ (48 ≤ w.toUInt64.toNat / 2 ^ 0 % 256 ∧ w.toUInt64.toNat / 2 ^ 0 % 256 ≤ 57) ∧ (48 ≤ w.toUInt64.toNat / 2 ^ 8 % 256 ∧ w.toUInt64.toNat / 2 ^ 8 % 256 ≤ 57) ∧ (48 ≤ w.toUInt64.toNat / 2 ^ 16 % 256 ∧ w.toUInt64.toNat / 2 ^ 16 % 256 ≤ 57) ∧ ¬ (48 ≤ w.toUInt64.toNat / 2 ^ 24 % 256 ∧ w.toUInt64.toNat / 2 ^ 24 % 256 ≤ 57)) ∨ (own_fnd w = 4 ∧ (48 ≤ w.toUInt64.toNat / 2 ^ 0 % 256 ∧ w.toUInt64.toNat / 2 ^ 0 % 256 ≤ 57) ∧ (48 ≤ w.toUInt64.toNat / 2 ^ 8 % 256 ∧ w.toUInt64.toNat / 2 ^ 8 % 256 ≤ 57) ∧ (48 ≤ w.toUInt64.toNat / 2 ^ 16 % 256 ∧ w.toUInt64.toNat / 2 ^ 16 % 256 ≤ 57) ∧ (48 ≤ w.toUInt64.toNat / 2 ^ 24 % 256 ∧ w.toUInt64.toNat / 2 ^ 24 % 256 ≤ 57) ∧ ¬ (48 ≤ w.toUInt64.toNat / 2 ^ 32 % 256 ∧ w.toUInt64.toNat / 2 ^ 32 % 256 ≤ 57)) ∨ (own_fnd w = 5 ∧ (48 ≤ w.toUInt64.toNat / 2 ^ 0 % 256 ∧ w.toUInt64.toNat / 2 ^ 0 % 256 ≤ 57) ∧ (48 ≤ w.toUInt64.toNat / 2 ^ 8 % 256 ∧ w.toUInt64.toNat / 2 ^ 8 % 256 ≤ 57) ∧ (48 ≤ w.toUInt64.toNat / 2 ^ 16 % 256 ∧ w.toUInt64.toNat / 2 ^ 16 % 256 ≤ 57) ∧ (48 ≤ w.toUInt64.toNat / 2 ^ 24 % 256 ∧ w.toUInt64.toNat / 2 ^ 24 % 256 ≤ 57) ∧ (48 ≤ w.toUInt64.toNat / 2 ^ 32 % 256 ∧ w.toUInt64.toNat / 2 ^ 32 % 256 ≤ 57) ∧ ¬ (48 ≤ w.toUInt64.toNat / 2 ^ 40 % 256 ∧ w.toUInt64.toNat / 2 ^ 40 % 256 ≤ 57)) ∨ (own_fnd w = 6 ∧ (48 ≤ w.toUInt64.toNat / 2 ^ 0 % 256 ∧ w.toUInt64.toNat / 2 ^ 0 % 256 ≤ 57) ∧ (48 ≤ w.toUInt64.toNat / 2 ^ 8 % 256 ∧ w.toUInt64.toNat / 2 ^ 8 % 256 ≤ 57) ∧ (48 ≤ w.toUInt64.toNat / 2 ^ 16 % 256 ∧ w.toUInt64.toNat / 2 ^ 16 % 256 ≤ 57) ∧ (48 ≤ w.toUInt64.toNat / 2 ^ 24 % 256 ∧ w.toUInt64.toNat / 2 ^ 24 % 256 ≤ 57) ∧ (48 ≤ w.toUInt64.toNat / 2 ^ 32 % 256 ∧ w.toUInt64.toNat / 2 ^ 32 % 256 ≤ 57) ∧ (48 ≤ w.toUInt64.toNat / 2 ^ 40 % 256 ∧ w.toUInt64.toNat / 2 ^ 40 % 256 ≤ 57) ∧ ¬ (48 ≤ w.toUInt64.toNat / 2 ^ 48 % 256 ∧ w.toUInt64.toNat / 2 ^ 48 % 256 ≤ 57)) ∨ (own_fnd w = 7 ∧ (48 ≤ w.toUInt64.toNat / 2 ^ 0 % 256 ∧ w.toUInt64.toNat / 2 ^ 0 % 256 ≤ 57) ∧ (48 ≤ w.toUInt64.toNat / 2 ^ 8 % 256 ∧ w.toUInt64.toNat / 2 ^ 8 % 256 ≤ 57) ∧ (48 ≤ w.toUInt64.toNat / 2 ^ 16 % 256 ∧ w.toUInt64.toNat / 2 ^ 16 % 256 ≤ 57) ∧ (48 ≤ w.toUInt64.toNat / 2 ^ 24 % 256 ∧ w.toUInt64.toNat / 2 ^ 24 % 256 ≤ 57) ∧ (48 ≤ w.toUInt64.toNat / 2 ^ 32 % 256 ∧ w.toUInt64.toNat / 2 ^ 32 % 256 ≤ 57) ∧ (48 ≤ w.toUInt64.toNat / 2 ^ 40 % 256 ∧ w.toUInt64.toNat / 2 ^ 40 % 256 ≤ 57) ∧ (48 ≤ w.toUInt64.toNat / 2 ^ 48 % 256 ∧ w.toUInt64.toNat / 2 ^ 48 % 256 ≤ 57) ∧ ¬ (48 ≤ w.toUInt64.toNat / 2 ^ 56 % 256 ∧ w.toUInt64.toNat / 2 ^ 56 % 256 ≤ 57)) ∨ (own_fnd w = 8 ∧ (48 ≤ w.toUInt64.toNat / 2 ^ 0 % 256 ∧ w.toUInt64.toNat / 2 ^ 0 % 256 ≤ 57) ∧ (48 ≤ w.toUInt64.toNat / 2 ^ 8 % 256 ∧ w.toUInt64.toNat / 2 ^ 8 % 256 ≤ 57) ∧ (48 ≤ w.toUInt64.toNat / 2 ^ 16 % 256 ∧ w.toUInt64.toNat / 2 ^ 16 % 256 ≤ 57) ∧ (48 ≤ w.toUInt64.toNat / 2 ^ 24 % 256 ∧ w.toUInt64.toNat / 2 ^ 24 % 256 ≤ 57) ∧ (48 ≤ w.toUInt64.toNat / 2 ^ 32 % 256 ∧ w.toUInt64.toNat / 2 ^ 32 % 256 ≤ 57) ∧ (48 ≤ w.toUInt64.toNat / 2 ^ 40 % 256 ∧ w.toUInt64.toNat / 2 ^ 40 % 256 ≤ 57) ∧ (48 ≤ w.toUInt64.toNat / 2 ^ 48 % 256 ∧ w.toUInt64.toNat / 2 ^ 48 % 256 ≤ 57) ∧ (48 ≤ w.toUInt64.toNat / 2 ^ 56 % 256 ∧ w.toUInt64.toNat / 2 ^ 56 % 256 ≤ 57)) := by
  have p0 : ¬ own_isd w 0 = 0 → _ := own_isd_pos (w := w) (i := 0)
  have q0 : own_isd w 0 = 0 → _ := own_isd_zero (w := w) (i := 0)
  rw [own_s0] at p0 q0
  have p1 : ¬ own_isd w 1 = 0 → _ := own_isd_pos (w := w) (i := 1)
  have q1 : own_isd w 1 = 0 → _ := own_isd_zero (w := w) (i := 1)
  rw [own_s1] at p1 q1
  have p2 : ¬ own_isd w 2 = 0 → _ := own_isd_pos (w := w) (i := 2)
  have q2 : own_isd w 2 = 0 → _ := own_isd_zero (w := w) (i := 2)
  rw [own_s2] at p2 q2
  have p3 : ¬ own_isd w 3 = 0 → _ := own_isd_pos (w := w) (i := 3)
  have q3 : own_isd w 3 = 0 → _ := own_isd_zero (w := w) (i := 3)
  rw [own_s3] at p3 q3
  have p4 : ¬ own_isd w 4 = 0 → _ := own_isd_pos (w := w) (i := 4)
  have q4 : own_isd w 4 = 0 → _ := own_isd_zero (w := w) (i := 4)
  rw [own_s4] at p4 q4
  have p5 : ¬ own_isd w 5 = 0 → _ := own_isd_pos (w := w) (i := 5)
  have q5 : own_isd w 5 = 0 → _ := own_isd_zero (w := w) (i := 5)
  rw [own_s5] at p5 q5
  have p6 : ¬ own_isd w 6 = 0 → _ := own_isd_pos (w := w) (i := 6)
  have q6 : own_isd w 6 = 0 → _ := own_isd_zero (w := w) (i := 6)
  rw [own_s6] at p6 q6
  have p7 : ¬ own_isd w 7 = 0 → _ := own_isd_pos (w := w) (i := 7)
  have q7 : own_isd w 7 = 0 → _ := own_isd_zero (w := w) (i := 7)
  rw [own_s7] at p7 q7
  unfold own_fnd
  by_cases h0 : own_isd w 0 = 0
  · exact Or.inl ⟨by simp only [if_pos h0], q0 h0⟩
  · skip
    by_cases h1 : own_isd w 1 = 0
    · exact Or.inr (Or.inl ⟨by simp only [if_neg h0, if_pos h1], p0 h0, q1 h1⟩)
    · skip
      by_cases h2 : own_isd w 2 = 0
      · exact Or.inr (Or.inr (Or.inl ⟨by simp only [if_neg h0, if_neg h1, if_pos h2], p0 h0, p1 h1, q2 h2⟩))
      · skip
        by_cases h3 : own_isd w 3 = 0
        · exact Or.inr (Or.inr (Or.inr (Or.inl ⟨by simp only [if_neg h0, if_neg h1, if_neg h2, if_pos h3], p0 h0, p1 h1, p2 h2, q3 h3⟩)))
        · skip
          by_cases h4 : own_isd w 4 = 0
          · exact Or.inr (Or.inr (Or.inr (Or.inr (Or.inl ⟨by simp only [if_neg h0, if_neg h1, if_neg h2, if_neg h3, if_pos h4], p0 h0, p1 h1, p2 h2, p3 h3, q4 h4⟩))))
          · skip
            by_cases h5 : own_isd w 5 = 0
            · exact Or.inr (Or.inr (Or.inr (Or.inr (Or.inr (Or.inl ⟨by simp only [if_neg h0, if_neg h1, if_neg h2, if_neg h3, if_neg h4, if_pos h5], p0 h0, p1 h1, p2 h2, p3 h3, p4 h4, q5 h5⟩)))))
            · skip
              by_cases h6 : own_isd w 6 = 0
              · exact Or.inr (Or.inr (Or.inr (Or.inr (Or.inr (Or.inr (Or.inl ⟨by simp only [if_neg h0, if_neg h1, if_neg h2, if_neg h3, if_neg h4, if_neg h5, if_pos h6], p0 h0, p1 h1, p2 h2, p3 h3, p4 h4, p5 h5, q6 h6⟩))))))
              · skip
                by_cases h7 : own_isd w 7 = 0
                · exact Or.inr (Or.inr (Or.inr (Or.inr (Or.inr (Or.inr (Or.inr (Or.inl ⟨by simp only [if_neg h0, if_neg h1, if_neg h2, if_neg h3, if_neg h4, if_neg h5, if_neg h6, if_pos h7], p0 h0, p1 h1, p2 h2, p3 h3, p4 h4, p5 h5, p6 h6, q7 h7⟩)))))))
                · skip
                  exact Or.inr (Or.inr (Or.inr (Or.inr (Or.inr (Or.inr (Or.inr (Or.inr (⟨by simp only [if_neg h0, if_neg h1, if_neg h2, if_neg h3, if_neg h4, if_neg h5, if_neg h6, if_neg h7], p0 h0, p1 h1, p2 h2, p3 h3, p4 h4, p5 h5, p6 h6, p7 h7⟩))))))))
theorem own_L1 (w : Int64) (h : own_fnd w = 8) : lcmpW (own_mk w) 0 = 0 := by
  rw [lcW, lc_eq]
  rcases own_cases w with ⟨c, _⟩ | ⟨c, _⟩ | ⟨c, _⟩ | ⟨c, _⟩ | ⟨c, _⟩ | ⟨c, _⟩ | ⟨c, _⟩ | ⟨c, _⟩ | ⟨-, g0, g1, g2, g3, g4, g5, g6, g7⟩
  all_goals first | (rw [c] at h; exact absurd h (by decide)) | skip
  have z := own_z8 w g0 g1 g2 g3 g4 g5 g6 g7
  have M := (own_mk w).toUInt64.toNat_lt
  have e : (own_mk w).toUInt64.toNat = 0 := by omega
  have e2 : (own_mk w).toBitVec = 0#64 := BitVec.eq_of_toNat_eq e
  exact Int64.toBitVec_inj.mp e2
theorem own_m0 (w : Int64)  : lcmpW (own_mk w &&& (((1 : Int64) <<< (((8 : Int32) * 0) &&& 0x3f).toInt64) - 1)) 0 = 0 := by
  obtain ⟨z, -⟩ := own_z0 w 
  rw [lcW, lc_eq, ← Int64.toInt_inj, Jvm.Kit.i64_mask _ _ (k := 0) (by decide) (by decide), show (0 : Int64).toInt = 0 from by decide]
  have e : (own_mk w).toInt = Int.bmod ((own_mk w).toUInt64.toNat : Int) (2 ^ 64) := BitVec.toInt_eq_toNat_bmod _
  have M := (own_mk w).toUInt64.toNat_lt
  rw [e, Int.bmod_def]
  split <;> omega
theorem own_n0 (w : Int64)  (gn : ¬ (48 ≤ w.toUInt64.toNat / 2 ^ 0 % 256 ∧ w.toUInt64.toNat / 2 ^ 0 % 256 ≤ 57)) (q : lcmpW (((own_mk w).toUInt64 >>> (((8 : Int32) * 0) &&& 0x3f).toInt64.toUInt64).toInt64 &&& (255 : Int64)) 0 = 0) : False := by
  obtain ⟨-, s⟩ := own_z0 w 
  rw [lcW, lc_eq, ← Int64.toInt_inj, own_ub, show (0 : Int64).toInt = 0 from by decide, UInt64.toNat_shiftRight, Nat.shiftRight_eq_div_pow] at q
  have t := own_b0 w
  rw [s] at t
  have u := own_f1 ⟨w.toUInt64.toNat / 2 ^ 0 % 256, Nat.mod_lt _ (by decide)⟩ gn
  rw [← t] at u
  exact u (Int.ofNat.inj q)
theorem own_m1 (w : Int64) (g0 : 48 ≤ w.toUInt64.toNat / 2 ^ 0 % 256 ∧ w.toUInt64.toNat / 2 ^ 0 % 256 ≤ 57) : lcmpW (own_mk w &&& (((1 : Int64) <<< (((8 : Int32) * 1) &&& 0x3f).toInt64) - 1)) 0 = 0 := by
  obtain ⟨z, -⟩ := own_z1 w g0
  rw [lcW, lc_eq, ← Int64.toInt_inj, Jvm.Kit.i64_mask _ _ (k := 8) (by decide) (by decide), show (0 : Int64).toInt = 0 from by decide]
  have e : (own_mk w).toInt = Int.bmod ((own_mk w).toUInt64.toNat : Int) (2 ^ 64) := BitVec.toInt_eq_toNat_bmod _
  have M := (own_mk w).toUInt64.toNat_lt
  rw [e, Int.bmod_def]
  split <;> omega
theorem own_n1 (w : Int64) (g0 : 48 ≤ w.toUInt64.toNat / 2 ^ 0 % 256 ∧ w.toUInt64.toNat / 2 ^ 0 % 256 ≤ 57) (gn : ¬ (48 ≤ w.toUInt64.toNat / 2 ^ 8 % 256 ∧ w.toUInt64.toNat / 2 ^ 8 % 256 ≤ 57)) (q : lcmpW (((own_mk w).toUInt64 >>> (((8 : Int32) * 1) &&& 0x3f).toInt64.toUInt64).toInt64 &&& (255 : Int64)) 0 = 0) : False := by
  obtain ⟨-, s⟩ := own_z1 w g0
  rw [lcW, lc_eq, ← Int64.toInt_inj, own_ub, show (0 : Int64).toInt = 0 from by decide, UInt64.toNat_shiftRight, Nat.shiftRight_eq_div_pow] at q
  have t := own_b1 w
  rw [s] at t
  have u := own_f1 ⟨w.toUInt64.toNat / 2 ^ 8 % 256, Nat.mod_lt _ (by decide)⟩ gn
  rw [← t] at u
  exact u (Int.ofNat.inj q)
theorem own_m2 (w : Int64) (g0 : 48 ≤ w.toUInt64.toNat / 2 ^ 0 % 256 ∧ w.toUInt64.toNat / 2 ^ 0 % 256 ≤ 57) (g1 : 48 ≤ w.toUInt64.toNat / 2 ^ 8 % 256 ∧ w.toUInt64.toNat / 2 ^ 8 % 256 ≤ 57) : lcmpW (own_mk w &&& (((1 : Int64) <<< (((8 : Int32) * 2) &&& 0x3f).toInt64) - 1)) 0 = 0 := by
  obtain ⟨z, -⟩ := own_z2 w g0 g1
  rw [lcW, lc_eq, ← Int64.toInt_inj, Jvm.Kit.i64_mask _ _ (k := 16) (by decide) (by decide), show (0 : Int64).toInt = 0 from by decide]
  have e : (own_mk w).toInt = Int.bmod ((own_mk w).toUInt64.toNat : Int) (2 ^ 64) := BitVec.toInt_eq_toNat_bmod _
  have M := (own_mk w).toUInt64.toNat_lt
  rw [e, Int.bmod_def]
  split <;> omega
theorem own_n2 (w : Int64) (g0 : 48 ≤ w.toUInt64.toNat / 2 ^ 0 % 256 ∧ w.toUInt64.toNat / 2 ^ 0 % 256 ≤ 57) (g1 : 48 ≤ w.toUInt64.toNat / 2 ^ 8 % 256 ∧ w.toUInt64.toNat / 2 ^ 8 % 256 ≤ 57) (gn : ¬ (48 ≤ w.toUInt64.toNat / 2 ^ 16 % 256 ∧ w.toUInt64.toNat / 2 ^ 16 % 256 ≤ 57)) (q : lcmpW (((own_mk w).toUInt64 >>> (((8 : Int32) * 2) &&& 0x3f).toInt64.toUInt64).toInt64 &&& (255 : Int64)) 0 = 0) : False := by
  obtain ⟨-, s⟩ := own_z2 w g0 g1
  rw [lcW, lc_eq, ← Int64.toInt_inj, own_ub, show (0 : Int64).toInt = 0 from by decide, UInt64.toNat_shiftRight, Nat.shiftRight_eq_div_pow] at q
  have t := own_b2 w
  rw [s] at t
  have u := own_f1 ⟨w.toUInt64.toNat / 2 ^ 16 % 256, Nat.mod_lt _ (by decide)⟩ gn
  rw [← t] at u
  exact u (Int.ofNat.inj q)
theorem own_m3 (w : Int64) (g0 : 48 ≤ w.toUInt64.toNat / 2 ^ 0 % 256 ∧ w.toUInt64.toNat / 2 ^ 0 % 256 ≤ 57) (g1 : 48 ≤ w.toUInt64.toNat / 2 ^ 8 % 256 ∧ w.toUInt64.toNat / 2 ^ 8 % 256 ≤ 57) (g2 : 48 ≤ w.toUInt64.toNat / 2 ^ 16 % 256 ∧ w.toUInt64.toNat / 2 ^ 16 % 256 ≤ 57) : lcmpW (own_mk w &&& (((1 : Int64) <<< (((8 : Int32) * 3) &&& 0x3f).toInt64) - 1)) 0 = 0 := by
  obtain ⟨z, -⟩ := own_z3 w g0 g1 g2
  rw [lcW, lc_eq, ← Int64.toInt_inj, Jvm.Kit.i64_mask _ _ (k := 24) (by decide) (by decide), show (0 : Int64).toInt = 0 from by decide]
  have e : (own_mk w).toInt = Int.bmod ((own_mk w).toUInt64.toNat : Int) (2 ^ 64) := BitVec.toInt_eq_toNat_bmod _
  have M := (own_mk w).toUInt64.toNat_lt
  rw [e, Int.bmod_def]
  split <;> omega
theorem own_n3 (w : Int64) (g0 : 48 ≤ w.toUInt64.toNat / 2 ^ 0 % 256 ∧ w.toUInt64.toNat / 2 ^ 0 % 256 ≤ 57) (g1 : 48 ≤ w.toUInt64.toNat / 2 ^ 8 % 256 ∧ w.toUInt64.toNat / 2 ^ 8 % 256 ≤ 57) (g2 : 48 ≤ w.toUInt64.toNat / 2 ^ 16 % 256 ∧ w.toUInt64.toNat / 2 ^ 16 % 256 ≤ 57) (gn : ¬ (48 ≤ w.toUInt64.toNat / 2 ^ 24 % 256 ∧ w.toUInt64.toNat / 2 ^ 24 % 256 ≤ 57)) (q : lcmpW (((own_mk w).toUInt64 >>> (((8 : Int32) * 3) &&& 0x3f).toInt64.toUInt64).toInt64 &&& (255 : Int64)) 0 = 0) : False := by
  obtain ⟨-, s⟩ := own_z3 w g0 g1 g2
  rw [lcW, lc_eq, ← Int64.toInt_inj, own_ub, show (0 : Int64).toInt = 0 from by decide, UInt64.toNat_shiftRight, Nat.shiftRight_eq_div_pow] at q
  have t := own_b3 w
  rw [s] at t
  have u := own_f1 ⟨w.toUInt64.toNat / 2 ^ 24 % 256, Nat.mod_lt _ (by decide)⟩ gn
  rw [← t] at u
  exact u (Int.ofNat.inj q)
theorem own_m4 (w : Int64) (g0 : 48 ≤ w.toUInt64.toNat / 2 ^ 0 % 256 ∧ w.toUInt64.toNat / 2 ^ 0 % 256 ≤ 57) (g1 : 48 ≤ w.toUInt64.toNat / 2 ^ 8 % 256 ∧ w.toUInt64.toNat / 2 ^ 8 % 256 ≤ 57) (g2 : 48 ≤ w.toUInt64.toNat / 2 ^ 16 % 256 ∧ w.toUInt64.toNat / 2 ^ 16 % 256 ≤ 57) (g3 : 48 ≤ w.toUInt64.toNat / 2 ^ 24 % 256 ∧ w.toUInt64.toNat / 2 ^ 24 % 256 ≤ 57) : lcmpW (own_mk w &&& (((1 : Int64) <<< (((8 : Int32) * 4) &&& 0x3f).toInt64) - 1)) 0 = 0 := by
  obtain ⟨z, -⟩ := own_z4 w g0 g1 g2 g3
  rw [lcW, lc_eq, ← Int64.toInt_inj, Jvm.Kit.i64_mask _ _ (k := 32) (by decide) (by decide), show (0 : Int64).toInt = 0 from by decide]
  have e : (own_mk w).toInt = Int.bmod ((own_mk w).toUInt64.toNat : Int) (2 ^ 64) := BitVec.toInt_eq_toNat_bmod _
  have M := (own_mk w).toUInt64.toNat_lt
  rw [e, Int.bmod_def]
  split <;> omega
theorem own_n4 (w : Int64) (g0 : 48 ≤ w.toUInt64.toNat / 2 ^ 0 % 256 ∧ w.toUInt64.toNat / 2 ^ 0 % 256 ≤ 57) (g1 : 48 ≤ w.toUInt64.toNat / 2 ^ 8 % 256 ∧ w.toUInt64.toNat / 2 ^ 8 % 256 ≤ 57) (g2 : 48 ≤ w.toUInt64.toNat / 2 ^ 16 % 256 ∧ w.toUInt64.toNat / 2 ^ 16 % 256 ≤ 57) (g3 : 48 ≤ w.toUInt64.toNat / 2 ^ 24 % 256 ∧ w.toUInt64.toNat / 2 ^ 24 % 256 ≤ 57) (gn : ¬ (48 ≤ w.toUInt64.toNat / 2 ^ 32 % 256 ∧ w.toUInt64.toNat / 2 ^ 32 % 256 ≤ 57)) (q : lcmpW (((own_mk w).toUInt64 >>> (((8 : Int32) * 4) &&& 0x3f).toInt64.toUInt64).toInt64 &&& (255 : Int64)) 0 = 0) : False := by
  obtain ⟨-, s⟩ := own_z4 w g0 g1 g2 g3
  rw [lcW, lc_eq, ← Int64.toInt_inj, own_ub, show (0 : Int64).toInt = 0 from by decide, UInt64.toNat_shiftRight, Nat.shiftRight_eq_div_pow] at q
  have t := own_b4 w
  rw [s] at t
  have u := own_f1 ⟨w.toUInt64.toNat / 2 ^ 32 % 256, Nat.mod_lt _ (by decide)⟩ gn
  rw [← t] at u
  exact u (Int.ofNat.inj q)
theorem own_m5 (w : Int64) (g0 : 48 ≤ w.toUInt64.toNat / 2 ^ 0 % 256 ∧ w.toUInt64.toNat / 2 ^ 0 % 256 ≤ 57) (g1 : 48 ≤ w.toUInt64.toNat / 2 ^ 8 % 256 ∧ w.toUInt64.toNat / 2 ^ 8 % 256 ≤ 57) (g2 : 48 ≤ w.toUInt64.toNat / 2 ^ 16 % 256 ∧ w.toUInt64.toNat / 2 ^ 16 % 256 ≤ 57) (g3 : 48 ≤ w.toUInt64.toNat / 2 ^ 24 % 256 ∧ w.toUInt64.toNat / 2 ^ 24 % 256 ≤ 57) (g4 : 48 ≤ w.toUInt64.toNat / 2 ^ 32 % 256 ∧ w.toUInt64.toNat / 2 ^ 32 % 256 ≤ 57) : lcmpW (own_mk w &&& (((1 : Int64) <<< (((8 : Int32) * 5) &&& 0x3f).toInt64) - 1)) 0 = 0 := by
  obtain ⟨z, -⟩ := own_z5 w g0 g1 g2 g3 g4
  rw [lcW, lc_eq, ← Int64.toInt_inj, Jvm.Kit.i64_mask _ _ (k := 40) (by decide) (by decide), show (0 : Int64).toInt = 0 from by decide]
  have e : (own_mk w).toInt = Int.bmod ((own_mk w).toUInt64.toNat : Int) (2 ^ 64) := BitVec.toInt_eq_toNat_bmod _
  have M := (own_mk w).toUInt64.toNat_lt
  rw [e, Int.bmod_def]
  split <;> omega
theorem own_n5 (w : Int64) (g0 : 48 ≤ w.toUInt64.toNat / 2 ^ 0 % 256 ∧ w.toUInt64.toNat / 2 ^ 0 % 256 ≤ 57) (g1 : 48 ≤ w.toUInt64.toNat / 2 ^ 8 % 256 ∧ w.toUInt64.toNat / 2 ^ 8 % 256 ≤ 57) (g2 : 48 ≤ w.toUInt64.toNat / 2 ^ 16 % 256 ∧ w.toUInt64.toNat / 2 ^ 16 % 256 ≤ 57) (g3 : 48 ≤ w.toUInt64.toNat / 2 ^ 24 % 256 ∧ w.toUInt64.toNat / 2 ^ 24 % 256 ≤ 57) (g4 : 48 ≤ w.toUInt64.toNat / 2 ^ 32 % 256 ∧ w.toUInt64.toNat / 2 ^ 32 % 256 ≤ 57) (gn : ¬ (48 ≤ w.toUInt64.toNat / 2 ^ 40 % 256 ∧ w.toUInt64.toNat / 2 ^ 40 % 256 ≤ 57)) (q : lcmpW (((own_mk w).toUInt64 >>> (((8 : Int32) * 5) &&& 0x3f).toInt64.toUInt64).toInt64 &&& (255 : Int64)) 0 = 0) : False := by
  obtain ⟨-, s⟩ := own_z5 w g0 g1 g2 g3 g4
  rw [lcW, lc_eq, ← Int64.toInt_inj, own_ub, show (0 : Int64).toInt = 0 from by decide, UInt64.toNat_shiftRight, Nat.shiftRight_eq_div_pow] at q
  have t := own_b5 w
  rw [s] at t
  have u := own_f1 ⟨w.toUInt64.toNat / 2 ^ 40 % 256, Nat.mod_lt _ (by decide)⟩ gn
  rw [← t] at u
  exact u (Int.ofNat.inj q)
theorem own_m6 (w : Int64) (g0 : 48 ≤ w.toUInt64.toNat / 2 ^ 0 % 256 ∧ w.toUInt64.toNat / 2 ^ 0 % 256 ≤ 57) (g1 : 48 ≤ w.toUInt64.toNat / 2 ^ 8 % 256 ∧ w.toUInt64.toNat / 2 ^ 8 % 256 ≤ 57) (g2 : 48 ≤ w.toUInt64.toNat / 2 ^ 16 % 256 ∧ w.toUInt64.toNat / 2 ^ 16 % 256 ≤ 57) (g3 : 48 ≤ w.toUInt64.toNat / 2 ^ 24 % 256 ∧ w.toUInt64.toNat / 2 ^ 24 % 256 ≤ 57) (g4 : 48 ≤ w.toUInt64.toNat / 2 ^ 32 % 256 ∧ w.toUInt64.toNat / 2 ^ 32 % 256 ≤ 57) (g5 : 48 ≤ w.toUInt64.toNat / 2 ^ 40 % 256 ∧ w.toUInt64.toNat / 2 ^ 40 % 256 ≤ 57) : lcmpW (own_mk w &&& (((1 : Int64) <<< (((8 : Int32) * 6) &&& 0x3f).toInt64) - 1)) 0 = 0 := by
  obtain ⟨z, -⟩ := own_z6 w g0 g1 g2 g3 g4 g5
  rw [lcW, lc_eq, ← Int64.toInt_inj, Jvm.Kit.i64_mask _ _ (k := 48) (by decide) (by decide), show (0 : Int64).toInt = 0 from by decide]
  have e : (own_mk w).toInt = Int.bmod ((own_mk w).toUInt64.toNat : Int) (2 ^ 64) := BitVec.toInt_eq_toNat_bmod _
  have M := (own_mk w).toUInt64.toNat_lt
  rw [e, Int.bmod_def]
  split <;> omega
theorem own_n6 (w : Int64) (g0 : 48 ≤ w.toUInt64.toNat / 2 ^ 0 % 256 ∧ w.toUInt64.toNat / 2 ^ 0 % 256 ≤ 57) (g1 : 48 ≤ w.toUInt64.toNat / 2 ^ 8 % 256 ∧ w.toUInt64.toNat / 2 ^ 8 % 256 ≤ 57) (g2 : 48 ≤ w.toUInt64.toNat / 2 ^ 16 % 256 ∧ w.toUInt64.toNat / 2 ^ 16 % 256 ≤ 57) (g3 : 48 ≤ w.toUInt64.toNat / 2 ^ 24 % 256 ∧ w.toUInt64.toNat / 2 ^ 24 % 256 ≤ 57) (g4 : 48 ≤ w.toUInt64.toNat / 2 ^ 32 % 256 ∧ w.toUInt64.toNat / 2 ^ 32 % 256 ≤ 57) (g5 : 48 ≤ w.toUInt64.toNat / 2 ^ 40 % 256 ∧ w.toUInt64.toNat / 2 ^ 40 % 256 ≤ 57) (gn : ¬ (48 ≤ w.toUInt64.toNat / 2 ^ 48 % 256 ∧ w.toUInt64.toNat / 2 ^ 48 % 256 ≤ 57)) (q : lcmpW (((own_mk w).toUInt64 >>> (((8 : Int32) * 6) &&& 0x3f).toInt64.toUInt64).toInt64 &&& (255 : Int64)) 0 = 0) : False := by
  obtain ⟨-, s⟩ := own_z6 w g0 g1 g2 g3 g4 g5
  rw [lcW, lc_eq, ← Int64.toInt_inj, own_ub, show (0 : Int64).toInt = 0 from by decide, UInt64.toNat_shiftRight, Nat.shiftRight_eq_div_pow] at q
  have t := own_b6 w
  rw [s] at t
  have u := own_f1 ⟨w.toUInt64.toNat / 2 ^ 48 % 256, Nat.mod_lt _ (by decide)⟩ gn
  rw [← t] at u
  exact u (Int.ofNat.inj q)
theorem own_m7 (w : Int64) (g0 : 48 ≤ w.toUInt64.toNat / 2 ^ 0 % 256 ∧ w.toUInt64.toNat / 2 ^ 0 % 256 ≤ 57) (g1 : 48 ≤ w.toUInt64.toNat / 2 ^ 8 % 256 ∧ w.toUInt64.toNat / 2 ^ 8 % 256 ≤ 57) (g2 : 48 ≤ w.toUInt64.toNat / 2 ^ 16 % 256 ∧ w.toUInt64.toNat / 2 ^ 16 % 256 ≤ 57) (g3 : 48 ≤ w.toUInt64.toNat / 2 ^ 24 % 256 ∧ w.toUInt64.toNat / 2 ^ 24 % 256 ≤ 57) (g4 : 48 ≤ w.toUInt64.toNat / 2 ^ 32 % 256 ∧ w.toUInt64.toNat / 2 ^ 32 % 256 ≤ 57) (g5 : 48 ≤ w.toUInt64.toNat / 2 ^ 40 % 256 ∧ w.toUInt64.toNat / 2 ^ 40 % 256 ≤ 57) (g6 : 48 ≤ w.toUInt64.toNat / 2 ^ 48 % 256 ∧ w.toUInt64.toNat / 2 ^ 48 % 256 ≤ 57) : lcmpW (own_mk w &&& (((1 : Int64) <<< (((8 : Int32) * 7) &&& 0x3f).toInt64) - 1)) 0 = 0 := by
  obtain ⟨z, -⟩ := own_z7 w g0 g1 g2 g3 g4 g5 g6
  rw [lcW, lc_eq, ← Int64.toInt_inj, Jvm.Kit.i64_mask _ _ (k := 56) (by decide) (by decide), show (0 : Int64).toInt = 0 from by decide]
  have e : (own_mk w).toInt = Int.bmod ((own_mk w).toUInt64.toNat : Int) (2 ^ 64) := BitVec.toInt_eq_toNat_bmod _
  have M := (own_mk w).toUInt64.toNat_lt
  rw [e, Int.bmod_def]
  split <;> omega
theorem own_n7 (w : Int64) (g0 : 48 ≤ w.toUInt64.toNat / 2 ^ 0 % 256 ∧ w.toUInt64.toNat / 2 ^ 0 % 256 ≤ 57) (g1 : 48 ≤ w.toUInt64.toNat / 2 ^ 8 % 256 ∧ w.toUInt64.toNat / 2 ^ 8 % 256 ≤ 57) (g2 : 48 ≤ w.toUInt64.toNat / 2 ^ 16 % 256 ∧ w.toUInt64.toNat / 2 ^ 16 % 256 ≤ 57) (g3 : 48 ≤ w.toUInt64.toNat / 2 ^ 24 % 256 ∧ w.toUInt64.toNat / 2 ^ 24 % 256 ≤ 57) (g4 : 48 ≤ w.toUInt64.toNat / 2 ^ 32 % 256 ∧ w.toUInt64.toNat / 2 ^ 32 % 256 ≤ 57) (g5 : 48 ≤ w.toUInt64.toNat / 2 ^ 40 % 256 ∧ w.toUInt64.toNat / 2 ^ 40 % 256 ≤ 57) (g6 : 48 ≤ w.toUInt64.toNat / 2 ^ 48 % 256 ∧ w.toUInt64.toNat / 2 ^ 48 % 256 ≤ 57) (gn : ¬ (48 ≤ w.toUInt64.toNat / 2 ^ 56 % 256 ∧ w.toUInt64.toNat / 2 ^ 56 % 256 ≤ 57)) (q : lcmpW (((own_mk w).toUInt64 >>> (((8 : Int32) * 7) &&& 0x3f).toInt64.toUInt64).toInt64 &&& (255 : Int64)) 0 = 0) : False := by
  obtain ⟨-, s⟩ := own_z7 w g0 g1 g2 g3 g4 g5 g6
  rw [lcW, lc_eq, ← Int64.toInt_inj, own_ub, show (0 : Int64).toInt = 0 from by decide, UInt64.toNat_shiftRight, Nat.shiftRight_eq_div_pow] at q
  have t := own_b7 w
  rw [s] at t
  have u := own_f1 ⟨w.toUInt64.toNat / 2 ^ 56 % 256, Nat.mod_lt _ (by decide)⟩ gn
  rw [← t] at u
  exact u (Int.ofNat.inj q)
theorem own_L2 (w : Int64) (h : ¬ own_fnd w = 8) : lcmpW (own_mk w &&& (((1 : Int64) <<< (((8 : Int32) * own_fnd w) &&& 0x3f).toInt64) - 1)) 0 = 0 := by
  rcases own_cases w with ⟨c, gn⟩ | ⟨c, g0, gn⟩ | ⟨c, g0, g1, gn⟩ | ⟨c, g0, g1, g2, gn⟩ | ⟨c, g0, g1, g2, g3, gn⟩ | ⟨c, g0, g1, g2, g3, g4, gn⟩ | ⟨c, g0, g1, g2, g3, g4, g5, gn⟩ | ⟨c, g0, g1, g2, g3, g4, g5, g6, gn⟩ | ⟨c, _⟩
  · rw [c]; exact own_m0 w 
  · rw [c]; exact own_m1 w g0
  · rw [c]; exact own_m2 w g0 g1
  · rw [c]; exact own_m3 w g0 g1 g2
  · rw [c]; exact own_m4 w g0 g1 g2 g3
  · rw [c]; exact own_m5 w g0 g1 g2 g3 g4
  · rw [c]; exact own_m6 w g0 g1 g2 g3 g4 g5
  · rw [c]; exact own_m7 w g0 g1 g2 g3 g4 g5 g6
  · exact absurd c h
theorem own_L3 (w : Int64) (h : ¬ own_fnd w = 8) (q : lcmpW (((own_mk w).toUInt64 >>> (((8 : Int32) * own_fnd w) &&& 0x3f).toInt64.toUInt64).toInt64 &&& (255 : Int64)) 0 = 0) : False := by
  rcases own_cases w with ⟨c, gn⟩ | ⟨c, g0, gn⟩ | ⟨c, g0, g1, gn⟩ | ⟨c, g0, g1, g2, gn⟩ | ⟨c, g0, g1, g2, g3, gn⟩ | ⟨c, g0, g1, g2, g3, g4, gn⟩ | ⟨c, g0, g1, g2, g3, g4, g5, gn⟩ | ⟨c, g0, g1, g2, g3, g4, g5, g6, gn⟩ | ⟨c, _⟩
  · rw [c] at q; exact own_n0 w  gn q
  · rw [c] at q; exact own_n1 w g0 gn q
  · rw [c] at q; exact own_n2 w g0 g1 gn q
  · rw [c] at q; exact own_n3 w g0 g1 g2 gn q
  · rw [c] at q; exact own_n4 w g0 g1 g2 g3 gn q
  · rw [c] at q; exact own_n5 w g0 g1 g2 g3 g4 gn q
  · rw [c] at q; exact own_n6 w g0 g1 g2 g3 g4 g5 gn q
  · rw [c] at q; exact own_n7 w g0 g1 g2 g3 g4 g5 g6 gn q
  · exact absurd c h

theorem d2_0 : decode method_3_code 0 = .ok (.ldc2_w 27, 3) := by decide +kernel
theorem d2_3 : decode method_3_code 3 = .ok (.lload_n 0, 1) := by decide +kernel
theorem d2_4 : decode method_3_code 4 = .ok (.bipush 8, 2) := by decide +kernel
theorem d2_6 : decode method_3_code 6 = .ok (.iload_n 2, 1) := by decide +kernel
theorem d2_7 : decode method_3_code 7 = .ok (.imul, 1) := by decide +kernel
theorem d2_8 : decode method_3_code 8 = .ok (.lushr, 1) := by decide +kernel
theorem d2_9 : decode method_3_code 9 = .ok (.ldc2_w 25, 3) := by decide +kernel
theorem d2_12 : decode method_3_code 12 = .ok (.land, 1) := by decide +kernel
theorem d2_13 : decode method_3_code 13 = .ok (.ldc2_w 29, 3) := by decide +kernel
theorem d2_16 : decode method_3_code 16 = .ok (.lrem, 1) := by decide +kernel
theorem d2_17 : decode method_3_code 17 = .ok (.ladd, 1) := by decide +kernel
theorem d2_18 : decode method_3_code 18 = .ok (.lreturn, 1) := by decide +kernel
theorem rm2_pn : plainName "com/example/fee_simple/feesimple/cli/AsciiWordsMarksNotDigitsPinLaw" = true := by first | (simp [plainName, overriddenIn]; done) | decide +kernel
theorem rm2_ef (m : MethodId) (z0 : Int64) (z1 : Int32) : entryFrame m #[(.long z0), (.int z1)] 3 = mkF m 0 #[.val (.long z0), .second, .val (.int z1)] [] := by first | (simp [entryFrame, mkF, argsToLocals, Value.category]; done) | rfl
def rm2_Q (Z : State) (q1 : Int64) (p2 : Int32)  (h0 : Heap) (n0 : Nat) (v : Option Value) (h : Heap) (L : List Loc) : Prop := ∃ r : Int64, v = some (.long r) ∧ Fr n0 L ∧ h = h0
set_option maxRecDepth 65536 in
set_option maxHeartbeats 40000000 in
theorem rm2 (l : Launch) (Z : State) (a0 : Array Value) (hw : ∀ d ∈ tables_1, d.before a0 Z = true) (ws : List Jvm.Cond) (q1 : Int64) (p2 : Int32)  (h0 : Heap) (n0 : Nat) (Z0 : n0 ≤ h0.size)  :
    MetFree l (⟨"com/example/fee_simple/feesimple/cli/AsciiWordsMarksNotDigitsPinLaw", "digitByte", "(JI)J"⟩ : MethodName) (head1 (Jvm.Cond.code (⟨"com/example/fee_simple/feesimple/cli/AsciiWordsMarksNotDigitsPinLaw", "digitByte", "(JI)J"⟩ : MethodName) method_3_code 3 (some .long) :: ws) ({ frames := 0, cells := 0, slots := 0, locals := 0 } : Room)) (fun a U => a = #[(.long q1), (.int p2)] ∧ Z.Warmed39 U.vm ∧ U.heap = h0) (fun _ _ _ _ _ => True) (fun _ U o U' => ∃ v L, o = .returned v ∧ rm2_Q Z q1 p2 h0 n0 v U'.heap L ∧ FrameEnd U o U' L ({ frames := 0, cells := 0, slots := 0, locals := 0 } : Room).cells ({ frames := 0, cells := 0, slots := 0, locals := 0 } : Room).slots) := by
  refine MetFree.of_bodySF (plainFor_of_name rm2_pn) hisR ?_
  intro p e s m args below meth c s₁ Bd hml0 hP hK
  obtain ⟨rfl, hZ, hh⟩ := hP
  have hx := Bd.exec
  have hby := Bd.bytes
  have hml : c.maxLocals = 3 := hml0
  have hown : s.vm.findClass "com/example/fee_simple/feesimple/cli/AsciiWordsMarksNotDigitsPinLaw" = some m.cls := findClass_of_methodNamed Bd.named
  have hnm := (name_of_methodNamed Bd.named Bd.method).1
  have X0 : Stand p l e ({ frames := 0, cells := 0, slots := 0, locals := 0 } : Room) s m #[(.long q1), (.int p2)] below meth c s₁ [] 0 0 := Stand.of_body Bd
  have e0 : s₁.heap = h0 := by rw [← hh, Bd.state]; rfl
  have N0 := Fr.nil n0
  refine own_via (fun t k => castTop (rm2_ef m q1 p2) k) ?_
  show own_G p e below _ (s₁.setTop (mkF m 0 #[.val (.long q1), .second, .val (.int p2)] []))
  refine own_via (fun t k => X0.ldc2Long hx hown (mvT hZ (hw _ (List.mem_of_getElem? (i := 8) rfl))) (g := (mkF m 0 #[.val (.long q1), .second, .val (.int p2)] [])) rfl (hb hby d2_0) _ k) ?_
  show own_G p e below _ (s₁.setTop (mkF m 3 #[.val (.long q1), .second, .val (.int p2)] [(.long (48 : Int64))]))
  refine own_via (fun t k => XS.lloadN X0.here hx rfl (hb hby d2_3) rfl k) ?_
  show own_G p e below _ (s₁.setTop (mkF m 4 #[.val (.long q1), .second, .val (.int p2)] [(.long q1), (.long (48 : Int64))]))
  refine own_via (fun t k => XS.bipush X0.here hx rfl (hb hby d2_4) k) ?_
  show own_G p e below _ (s₁.setTop (mkF m 6 #[.val (.long q1), .second, .val (.int p2)] [(.int (8 : Int32)), (.long q1), (.long (48 : Int64))]))
  refine own_via (fun t k => XS.iloadN X0.here hx rfl (hb hby d2_6) rfl k) ?_
  show own_G p e below _ (s₁.setTop (mkF m 7 #[.val (.long q1), .second, .val (.int p2)] [(.int p2), (.int (8 : Int32)), (.long q1), (.long (48 : Int64))]))
  refine own_via (fun t k => XS.imul X0.here hx rfl (hb hby d2_7) rfl k) ?_
  show own_G p e below _ (s₁.setTop (mkF m 8 #[.val (.long q1), .second, .val (.int p2)] [(.int ((8 : Int32) * p2)), (.long q1), (.long (48 : Int64))]))
  refine own_via (fun t k => XS.lushr X0.here hx rfl (hb hby d2_8) rfl k) ?_
  show own_G p e below _ (s₁.setTop (mkF m 9 #[.val (.long q1), .second, .val (.int p2)] [(.long ((q1.toUInt64 >>> (((8 : Int32) * p2) &&& 0x3f).toInt64.toUInt64).toInt64)), (.long (48 : Int64))]))
  refine own_via (fun t k => X0.ldc2Long hx hown (mvT hZ (hw _ (List.mem_of_getElem? (i := 9) rfl))) (g := (mkF m 9 #[.val (.long q1), .second, .val (.int p2)] [(.long ((q1.toUInt64 >>> (((8 : Int32) * p2) &&& 0x3f).toInt64.toUInt64).toInt64)), (.long (48 : Int64))])) rfl (hb hby d2_9) _ k) ?_
  show own_G p e below _ (s₁.setTop (mkF m 12 #[.val (.long q1), .second, .val (.int p2)] [(.long (255 : Int64)), (.long ((q1.toUInt64 >>> (((8 : Int32) * p2) &&& 0x3f).toInt64.toUInt64).toInt64)), (.long (48 : Int64))]))
  refine own_via (fun t k => XS.land X0.here hx rfl (hb hby d2_12) rfl k) ?_
  show own_G p e below _ (s₁.setTop (mkF m 13 #[.val (.long q1), .second, .val (.int p2)] [(.long (((q1.toUInt64 >>> (((8 : Int32) * p2) &&& 0x3f).toInt64.toUInt64).toInt64) &&& (255 : Int64))), (.long (48 : Int64))]))
  refine own_via (fun t k => X0.ldc2Long hx hown (mvT hZ (hw _ (List.mem_of_getElem? (i := 10) rfl))) (g := (mkF m 13 #[.val (.long q1), .second, .val (.int p2)] [(.long (((q1.toUInt64 >>> (((8 : Int32) * p2) &&& 0x3f).toInt64.toUInt64).toInt64) &&& (255 : Int64))), (.long (48 : Int64))])) rfl (hb hby d2_13) _ k) ?_
  show own_G p e below _ (s₁.setTop (mkF m 16 #[.val (.long q1), .second, .val (.int p2)] [(.long (10 : Int64)), (.long (((q1.toUInt64 >>> (((8 : Int32) * p2) &&& 0x3f).toInt64.toUInt64).toInt64) &&& (255 : Int64))), (.long (48 : Int64))]))
  refine own_via (fun t k => XS.lrem X0.here hx rfl (hb hby d2_16) rfl (by decide) k) ?_
  show own_G p e below _ (s₁.setTop (mkF m 17 #[.val (.long q1), .second, .val (.int p2)] [(.long ((((q1.toUInt64 >>> (((8 : Int32) * p2) &&& 0x3f).toInt64.toUInt64).toInt64) &&& (255 : Int64)) - ((((q1.toUInt64 >>> (((8 : Int32) * p2) &&& 0x3f).toInt64.toUInt64).toInt64) &&& (255 : Int64)) / (10 : Int64)) * (10 : Int64))), (.long (48 : Int64))]))
  refine own_via (fun t k => XS.ladd X0.here hx rfl (hb hby d2_17) rfl k) ?_
  show own_G p e below _ (s₁.setTop (mkF m 18 #[.val (.long q1), .second, .val (.int p2)] [(.long ((48 : Int64) + ((((q1.toUInt64 >>> (((8 : Int32) * p2) &&& 0x3f).toInt64.toUInt64).toInt64) &&& (255 : Int64)) - ((((q1.toUInt64 >>> (((8 : Int32) * p2) &&& 0x3f).toInt64.toUInt64).toInt64) &&& (255 : Int64)) / (10 : Int64)) * (10 : Int64))))]))
  obtain ⟨fs, hr, hrun, hended, hW, hsame⟩ := X0.leave (v := some (.long ((48 : Int64) + ((((q1.toUInt64 >>> (((8 : Int32) * p2) &&& 0x3f).toInt64.toUInt64).toInt64) &&& (255 : Int64)) - ((((q1.toUInt64 >>> (((8 : Int32) * p2) &&& 0x3f).toInt64.toUInt64).toInt64) &&& (255 : Int64)) / (10 : Int64)) * (10 : Int64))))) (fun h => by rw [Bd.returns] at h; cases h)
  refine ⟨_, _, retOut X0 hx Bd.returns rfl (Or.inr (Or.inl ⟨rfl, rfl, _, rfl⟩)) (hb hby d2_18) hr, hrun, hended, _, _, rfl, ?_, ⟨_, rfl⟩, hW, hsame.mono (by decide) (by decide)⟩
  show rm2_Q Z q1 p2 h0 n0 _ s₁.heap _
  rw [e0]
  exact ⟨_, rfl, N0, rfl⟩

theorem d1_0 : decode method_4_code 0 = .ok (.lload_n 0, 1) := by decide +kernel
theorem d1_1 : decode method_4_code 1 = .ok (.iconst 0, 1) := by decide +kernel
theorem d1_2 : decode method_4_code 2 = .ok (.invokestatic 31, 3) := by decide +kernel
theorem d1_5 : decode method_4_code 5 = .ok (.lload_n 0, 1) := by decide +kernel
theorem d1_6 : decode method_4_code 6 = .ok (.iconst 1, 1) := by decide +kernel
theorem d1_7 : decode method_4_code 7 = .ok (.invokestatic 31, 3) := by decide +kernel
theorem d1_10 : decode method_4_code 10 = .ok (.bipush 8, 2) := by decide +kernel
theorem d1_12 : decode method_4_code 12 = .ok (.lshl, 1) := by decide +kernel
theorem d1_13 : decode method_4_code 13 = .ok (.lor, 1) := by decide +kernel
theorem d1_14 : decode method_4_code 14 = .ok (.lload_n 0, 1) := by decide +kernel
theorem d1_15 : decode method_4_code 15 = .ok (.iconst 2, 1) := by decide +kernel
theorem d1_16 : decode method_4_code 16 = .ok (.invokestatic 31, 3) := by decide +kernel
theorem d1_19 : decode method_4_code 19 = .ok (.bipush 16, 2) := by decide +kernel
theorem d1_21 : decode method_4_code 21 = .ok (.lshl, 1) := by decide +kernel
theorem d1_22 : decode method_4_code 22 = .ok (.lor, 1) := by decide +kernel
theorem d1_23 : decode method_4_code 23 = .ok (.lload_n 0, 1) := by decide +kernel
theorem d1_24 : decode method_4_code 24 = .ok (.iconst 3, 1) := by decide +kernel
theorem d1_25 : decode method_4_code 25 = .ok (.invokestatic 31, 3) := by decide +kernel
theorem d1_28 : decode method_4_code 28 = .ok (.bipush 24, 2) := by decide +kernel
theorem d1_30 : decode method_4_code 30 = .ok (.lshl, 1) := by decide +kernel
theorem d1_31 : decode method_4_code 31 = .ok (.lor, 1) := by decide +kernel
theorem d1_32 : decode method_4_code 32 = .ok (.lload_n 0, 1) := by decide +kernel
theorem d1_33 : decode method_4_code 33 = .ok (.iconst 4, 1) := by decide +kernel
theorem d1_34 : decode method_4_code 34 = .ok (.invokestatic 31, 3) := by decide +kernel
theorem d1_37 : decode method_4_code 37 = .ok (.bipush 32, 2) := by decide +kernel
theorem d1_39 : decode method_4_code 39 = .ok (.lshl, 1) := by decide +kernel
theorem d1_40 : decode method_4_code 40 = .ok (.lor, 1) := by decide +kernel
theorem d1_41 : decode method_4_code 41 = .ok (.lload_n 0, 1) := by decide +kernel
theorem d1_42 : decode method_4_code 42 = .ok (.iconst 5, 1) := by decide +kernel
theorem d1_43 : decode method_4_code 43 = .ok (.invokestatic 31, 3) := by decide +kernel
theorem d1_46 : decode method_4_code 46 = .ok (.bipush 40, 2) := by decide +kernel
theorem d1_48 : decode method_4_code 48 = .ok (.lshl, 1) := by decide +kernel
theorem d1_49 : decode method_4_code 49 = .ok (.lor, 1) := by decide +kernel
theorem d1_50 : decode method_4_code 50 = .ok (.lload_n 0, 1) := by decide +kernel
theorem d1_51 : decode method_4_code 51 = .ok (.bipush 6, 2) := by decide +kernel
theorem d1_53 : decode method_4_code 53 = .ok (.invokestatic 31, 3) := by decide +kernel
theorem d1_56 : decode method_4_code 56 = .ok (.bipush 48, 2) := by decide +kernel
theorem d1_58 : decode method_4_code 58 = .ok (.lshl, 1) := by decide +kernel
theorem d1_59 : decode method_4_code 59 = .ok (.lor, 1) := by decide +kernel
theorem d1_60 : decode method_4_code 60 = .ok (.lload_n 0, 1) := by decide +kernel
theorem d1_61 : decode method_4_code 61 = .ok (.bipush 7, 2) := by decide +kernel
theorem d1_63 : decode method_4_code 63 = .ok (.invokestatic 31, 3) := by decide +kernel
theorem d1_66 : decode method_4_code 66 = .ok (.bipush 56, 2) := by decide +kernel
theorem d1_68 : decode method_4_code 68 = .ok (.lshl, 1) := by decide +kernel
theorem d1_69 : decode method_4_code 69 = .ok (.lor, 1) := by decide +kernel
theorem d1_70 : decode method_4_code 70 = .ok (.lreturn, 1) := by decide +kernel
theorem rm1_pn : plainName "com/example/fee_simple/feesimple/cli/AsciiWordsMarksNotDigitsPinLaw" = true := by first | (simp [plainName, overriddenIn]; done) | decide +kernel
theorem pd_rm1_0 : parseMethodDescriptor "(JI)J" = some ⟨[.long, .int], some .long⟩ := by decide +kernel
theorem rm1_ef (m : MethodId) (z0 : Int64) : entryFrame m #[(.long z0)] 2 = mkF m 0 #[.val (.long z0), .second] [] := by first | (simp [entryFrame, mkF, argsToLocals, Value.category]; done) | rfl
def rm1_Q (Z : State) (q1 : Int64)  (h0 : Heap) (n0 : Nat) (v : Option Value) (h : Heap) (L : List Loc) : Prop := ∃ r : Int64, v = some (.long r) ∧ Fr n0 L ∧ h = h0
set_option maxRecDepth 65536 in
set_option maxHeartbeats 40000000 in
theorem rm1 (l : Launch) (Z : State) (a0 : Array Value) (hw : ∀ d ∈ tables_1, d.before a0 Z = true) (ws : List Jvm.Cond) (q1 : Int64)  (h0 : Heap) (n0 : Nat) (Z0 : n0 ≤ h0.size)  :
    MetFree l (⟨"com/example/fee_simple/feesimple/cli/AsciiWordsMarksNotDigitsPinLaw", "digitWord", "(J)J"⟩ : MethodName) (head1 (Jvm.Cond.code (⟨"com/example/fee_simple/feesimple/cli/AsciiWordsMarksNotDigitsPinLaw", "digitWord", "(J)J"⟩ : MethodName) method_4_code 2 (some .long) :: ws) ({ frames := 1, cells := 0, slots := 0, locals := 16 } : Room)) (fun a U => a = #[(.long q1)] ∧ Z.Warmed39 U.vm ∧ U.heap = h0) (fun _ _ _ _ _ => True) (fun _ U o U' => ∃ v L, o = .returned v ∧ rm1_Q Z q1 h0 n0 v U'.heap L ∧ FrameEnd U o U' L ({ frames := 1, cells := 0, slots := 0, locals := 16 } : Room).cells ({ frames := 1, cells := 0, slots := 0, locals := 16 } : Room).slots) := by
  refine MetFree.of_bodySF (plainFor_of_name rm1_pn) hisR ?_
  intro p e s m args below meth c s₁ Bd hml0 hP hK
  obtain ⟨rfl, hZ, hh⟩ := hP
  have hx := Bd.exec
  have hby := Bd.bytes
  have hml : c.maxLocals = 2 := hml0
  have hown : s.vm.findClass "com/example/fee_simple/feesimple/cli/AsciiWordsMarksNotDigitsPinLaw" = some m.cls := findClass_of_methodNamed Bd.named
  have hnm := (name_of_methodNamed Bd.named Bd.method).1
  have X0 : Stand p l e ({ frames := 1, cells := 0, slots := 0, locals := 16 } : Room) s m #[(.long q1)] below meth c s₁ [] 0 0 := Stand.of_body Bd
  have e0 : s₁.heap = h0 := by rw [← hh, Bd.state]; rfl
  have N0 := Fr.nil n0
  refine own_via (fun t k => castTop (rm1_ef m q1) k) ?_
  show own_G p e below _ (s₁.setTop (mkF m 0 #[.val (.long q1), .second] []))
  refine own_via (fun t k => XS.lloadN X0.here hx rfl (hb hby d1_0) rfl k) ?_
  show own_G p e below _ (s₁.setTop (mkF m 1 #[.val (.long q1), .second] [(.long q1)]))
  refine own_via (fun t k => XS.iconst X0.here hx rfl (hb hby d1_1) k) ?_
  show own_G p e below _ (s₁.setTop (mkF m 2 #[.val (.long q1), .second] [(.int (0 : Int32)), (.long q1)]))
  obtain ⟨_, _, ⟨T1, L1, k1, n1⟩, -, X1, ⟨Lc1, hQ1, l1, y1, z1⟩, st1⟩ := Jvm.LawKit.callS X0 hx (y := (⟨"com/example/fee_simple/feesimple/cli/AsciiWordsMarksNotDigitsPinLaw", "digitByte", "(JI)J"⟩ : MethodName)) hown (mvT hZ (hw _ (List.mem_of_getElem? (i := 5) rfl))) (mvT hZ (hw _ (List.mem_of_getElem? (i := 6) rfl))) (mvT hZ (hw _ (List.mem_of_getElem? (i := 3) rfl))) (mvT hZ (hw _ (List.mem_of_getElem? (i := 7) rfl))) (by decide) (backOf (W := 0) (rm2 l Z a0 hw [] q1 (0 : Int32) h0 n0 Z0) hZ (hw _ (List.mem_of_getElem? (i := 7) rfl)) (hw _ (List.mem_of_getElem? (i := 3) rfl)) (by decide) (by decide)) (g := (mkF m 2 #[.val (.long q1), .second] [(.int (0 : Int32)), (.long q1)])) rfl (by rw [hml]; rfl) (argsL := [(.long q1), (.int (0 : Int32))]) (rest := []) (lenOf pd_rm1_0 rfl) rfl (by show 2 * 0 + _ ≤ _; exact Nat.le_of_eq rfl) (hb hby d1_2) (fun _ _ => ⟨rfl, e0, (by decide : 0 + 0 ≤ _), (by decide : 0 + 0 ≤ _)⟩)
  dsimp only [Pt.U, Pt.locs, Pt.cells, Pt.slots] at X1 l1 y1 z1 st1 hQ1
  subst l1 y1 z1
  obtain ⟨r1, rfl, N1q, e1⟩ := hQ1
  have N1 := Fr.app N0 N1q
  refine own_via st1 ?_
  show own_G p e below _ (T1.setTop (mkF m 5 #[.val (.long q1), .second] [(.long r1)]))
  refine own_via (fun t k => XS.lloadN X1.here hx rfl (hb hby d1_5) rfl k) ?_
  show own_G p e below _ (T1.setTop (mkF m 6 #[.val (.long q1), .second] [(.long q1), (.long r1)]))
  refine own_via (fun t k => XS.iconst X1.here hx rfl (hb hby d1_6) k) ?_
  show own_G p e below _ (T1.setTop (mkF m 7 #[.val (.long q1), .second] [(.int (1 : Int32)), (.long q1), (.long r1)]))
  obtain ⟨_, _, ⟨T2, L2, k2, n2⟩, -, X2, ⟨Lc2, hQ2, l2, y2, z2⟩, st2⟩ := Jvm.LawKit.callS X1 hx (y := (⟨"com/example/fee_simple/feesimple/cli/AsciiWordsMarksNotDigitsPinLaw", "digitByte", "(JI)J"⟩ : MethodName)) hown (mvT hZ (hw _ (List.mem_of_getElem? (i := 5) rfl))) (mvT hZ (hw _ (List.mem_of_getElem? (i := 6) rfl))) (mvT hZ (hw _ (List.mem_of_getElem? (i := 3) rfl))) (mvT hZ (hw _ (List.mem_of_getElem? (i := 7) rfl))) (by decide) (backOf (W := 2) (rm2 l Z a0 hw [] q1 (1 : Int32) h0 n0 Z0) hZ (hw _ (List.mem_of_getElem? (i := 7) rfl)) (hw _ (List.mem_of_getElem? (i := 3) rfl)) (by decide) (by decide)) (g := (mkF m 7 #[.val (.long q1), .second] [(.int (1 : Int32)), (.long q1), (.long r1)])) rfl (by rw [hml]; rfl) (argsL := [(.long q1), (.int (1 : Int32))]) (rest := [(.long r1)]) (lenOf pd_rm1_0 rfl) rfl (by show 2 * 0 + _ ≤ _; exact Nat.le_of_eq rfl) (hb hby d1_7) (fun _ _ => ⟨rfl, e1, (by decide : 0 + 0 ≤ _), (by decide : 0 + 0 ≤ _)⟩)
  dsimp only [Pt.U, Pt.locs, Pt.cells, Pt.slots] at X2 l2 y2 z2 st2 hQ2
  subst l2 y2 z2
  obtain ⟨r2, rfl, N2q, e2⟩ := hQ2
  have N2 := Fr.app N1 N2q
  refine own_via st2 ?_
  show own_G p e below _ (T2.setTop (mkF m 10 #[.val (.long q1), .second] [(.long r2), (.long r1)]))
  refine own_via (fun t k => XS.bipush X2.here hx rfl (hb hby d1_10) k) ?_
  show own_G p e below _ (T2.setTop (mkF m 12 #[.val (.long q1), .second] [(.int (8 : Int32)), (.long r2), (.long r1)]))
  refine own_via (fun t k => XS.lshl X2.here hx rfl (hb hby d1_12) rfl k) ?_
  show own_G p e below _ (T2.setTop (mkF m 13 #[.val (.long q1), .second] [(.long (r2 <<< ((8 : Int32) &&& 0x3f).toInt64)), (.long r1)]))
  refine own_via (fun t k => XS.lor X2.here hx rfl (hb hby d1_13) rfl k) ?_
  show own_G p e below _ (T2.setTop (mkF m 14 #[.val (.long q1), .second] [(.long (r1 ||| (r2 <<< ((8 : Int32) &&& 0x3f).toInt64)))]))
  refine own_via (fun t k => XS.lloadN X2.here hx rfl (hb hby d1_14) rfl k) ?_
  show own_G p e below _ (T2.setTop (mkF m 15 #[.val (.long q1), .second] [(.long q1), (.long (r1 ||| (r2 <<< ((8 : Int32) &&& 0x3f).toInt64)))]))
  refine own_via (fun t k => XS.iconst X2.here hx rfl (hb hby d1_15) k) ?_
  show own_G p e below _ (T2.setTop (mkF m 16 #[.val (.long q1), .second] [(.int (2 : Int32)), (.long q1), (.long (r1 ||| (r2 <<< ((8 : Int32) &&& 0x3f).toInt64)))]))
  obtain ⟨_, _, ⟨T3, L3, k3, n3⟩, -, X3, ⟨Lc3, hQ3, l3, y3, z3⟩, st3⟩ := Jvm.LawKit.callS X2 hx (y := (⟨"com/example/fee_simple/feesimple/cli/AsciiWordsMarksNotDigitsPinLaw", "digitByte", "(JI)J"⟩ : MethodName)) hown (mvT hZ (hw _ (List.mem_of_getElem? (i := 5) rfl))) (mvT hZ (hw _ (List.mem_of_getElem? (i := 6) rfl))) (mvT hZ (hw _ (List.mem_of_getElem? (i := 3) rfl))) (mvT hZ (hw _ (List.mem_of_getElem? (i := 7) rfl))) (by decide) (backOf (W := 2) (rm2 l Z a0 hw [] q1 (2 : Int32) h0 n0 Z0) hZ (hw _ (List.mem_of_getElem? (i := 7) rfl)) (hw _ (List.mem_of_getElem? (i := 3) rfl)) (by decide) (by decide)) (g := (mkF m 16 #[.val (.long q1), .second] [(.int (2 : Int32)), (.long q1), (.long (r1 ||| (r2 <<< ((8 : Int32) &&& 0x3f).toInt64)))])) rfl (by rw [hml]; rfl) (argsL := [(.long q1), (.int (2 : Int32))]) (rest := [(.long (r1 ||| (r2 <<< ((8 : Int32) &&& 0x3f).toInt64)))]) (lenOf pd_rm1_0 rfl) rfl (by show 2 * 0 + _ ≤ _; exact Nat.le_of_eq rfl) (hb hby d1_16) (fun _ _ => ⟨rfl, e2, (by decide : 0 + 0 ≤ _), (by decide : 0 + 0 ≤ _)⟩)
  dsimp only [Pt.U, Pt.locs, Pt.cells, Pt.slots] at X3 l3 y3 z3 st3 hQ3
  subst l3 y3 z3
  obtain ⟨r3, rfl, N3q, e3⟩ := hQ3
  have N3 := Fr.app N2 N3q
  refine own_via st3 ?_
  show own_G p e below _ (T3.setTop (mkF m 19 #[.val (.long q1), .second] [(.long r3), (.long (r1 ||| (r2 <<< ((8 : Int32) &&& 0x3f).toInt64)))]))
  refine own_via (fun t k => XS.bipush X3.here hx rfl (hb hby d1_19) k) ?_
  show own_G p e below _ (T3.setTop (mkF m 21 #[.val (.long q1), .second] [(.int (16 : Int32)), (.long r3), (.long (r1 ||| (r2 <<< ((8 : Int32) &&& 0x3f).toInt64)))]))
  refine own_via (fun t k => XS.lshl X3.here hx rfl (hb hby d1_21) rfl k) ?_
  show own_G p e below _ (T3.setTop (mkF m 22 #[.val (.long q1), .second] [(.long (r3 <<< ((16 : Int32) &&& 0x3f).toInt64)), (.long (r1 ||| (r2 <<< ((8 : Int32) &&& 0x3f).toInt64)))]))
  refine own_via (fun t k => XS.lor X3.here hx rfl (hb hby d1_22) rfl k) ?_
  show own_G p e below _ (T3.setTop (mkF m 23 #[.val (.long q1), .second] [(.long ((r1 ||| (r2 <<< ((8 : Int32) &&& 0x3f).toInt64)) ||| (r3 <<< ((16 : Int32) &&& 0x3f).toInt64)))]))
  refine own_via (fun t k => XS.lloadN X3.here hx rfl (hb hby d1_23) rfl k) ?_
  show own_G p e below _ (T3.setTop (mkF m 24 #[.val (.long q1), .second] [(.long q1), (.long ((r1 ||| (r2 <<< ((8 : Int32) &&& 0x3f).toInt64)) ||| (r3 <<< ((16 : Int32) &&& 0x3f).toInt64)))]))
  refine own_via (fun t k => XS.iconst X3.here hx rfl (hb hby d1_24) k) ?_
  show own_G p e below _ (T3.setTop (mkF m 25 #[.val (.long q1), .second] [(.int (3 : Int32)), (.long q1), (.long ((r1 ||| (r2 <<< ((8 : Int32) &&& 0x3f).toInt64)) ||| (r3 <<< ((16 : Int32) &&& 0x3f).toInt64)))]))
  obtain ⟨_, _, ⟨T4, L4, k4, n4⟩, -, X4, ⟨Lc4, hQ4, l4, y4, z4⟩, st4⟩ := Jvm.LawKit.callS X3 hx (y := (⟨"com/example/fee_simple/feesimple/cli/AsciiWordsMarksNotDigitsPinLaw", "digitByte", "(JI)J"⟩ : MethodName)) hown (mvT hZ (hw _ (List.mem_of_getElem? (i := 5) rfl))) (mvT hZ (hw _ (List.mem_of_getElem? (i := 6) rfl))) (mvT hZ (hw _ (List.mem_of_getElem? (i := 3) rfl))) (mvT hZ (hw _ (List.mem_of_getElem? (i := 7) rfl))) (by decide) (backOf (W := 2) (rm2 l Z a0 hw [] q1 (3 : Int32) h0 n0 Z0) hZ (hw _ (List.mem_of_getElem? (i := 7) rfl)) (hw _ (List.mem_of_getElem? (i := 3) rfl)) (by decide) (by decide)) (g := (mkF m 25 #[.val (.long q1), .second] [(.int (3 : Int32)), (.long q1), (.long ((r1 ||| (r2 <<< ((8 : Int32) &&& 0x3f).toInt64)) ||| (r3 <<< ((16 : Int32) &&& 0x3f).toInt64)))])) rfl (by rw [hml]; rfl) (argsL := [(.long q1), (.int (3 : Int32))]) (rest := [(.long ((r1 ||| (r2 <<< ((8 : Int32) &&& 0x3f).toInt64)) ||| (r3 <<< ((16 : Int32) &&& 0x3f).toInt64)))]) (lenOf pd_rm1_0 rfl) rfl (by show 2 * 0 + _ ≤ _; exact Nat.le_of_eq rfl) (hb hby d1_25) (fun _ _ => ⟨rfl, e3, (by decide : 0 + 0 ≤ _), (by decide : 0 + 0 ≤ _)⟩)
  dsimp only [Pt.U, Pt.locs, Pt.cells, Pt.slots] at X4 l4 y4 z4 st4 hQ4
  subst l4 y4 z4
  obtain ⟨r4, rfl, N4q, e4⟩ := hQ4
  have N4 := Fr.app N3 N4q
  refine own_via st4 ?_
  show own_G p e below _ (T4.setTop (mkF m 28 #[.val (.long q1), .second] [(.long r4), (.long ((r1 ||| (r2 <<< ((8 : Int32) &&& 0x3f).toInt64)) ||| (r3 <<< ((16 : Int32) &&& 0x3f).toInt64)))]))
  refine own_via (fun t k => XS.bipush X4.here hx rfl (hb hby d1_28) k) ?_
  show own_G p e below _ (T4.setTop (mkF m 30 #[.val (.long q1), .second] [(.int (24 : Int32)), (.long r4), (.long ((r1 ||| (r2 <<< ((8 : Int32) &&& 0x3f).toInt64)) ||| (r3 <<< ((16 : Int32) &&& 0x3f).toInt64)))]))
  refine own_via (fun t k => XS.lshl X4.here hx rfl (hb hby d1_30) rfl k) ?_
  show own_G p e below _ (T4.setTop (mkF m 31 #[.val (.long q1), .second] [(.long (r4 <<< ((24 : Int32) &&& 0x3f).toInt64)), (.long ((r1 ||| (r2 <<< ((8 : Int32) &&& 0x3f).toInt64)) ||| (r3 <<< ((16 : Int32) &&& 0x3f).toInt64)))]))
  refine own_via (fun t k => XS.lor X4.here hx rfl (hb hby d1_31) rfl k) ?_
  show own_G p e below _ (T4.setTop (mkF m 32 #[.val (.long q1), .second] [(.long (((r1 ||| (r2 <<< ((8 : Int32) &&& 0x3f).toInt64)) ||| (r3 <<< ((16 : Int32) &&& 0x3f).toInt64)) ||| (r4 <<< ((24 : Int32) &&& 0x3f).toInt64)))]))
  refine own_via (fun t k => XS.lloadN X4.here hx rfl (hb hby d1_32) rfl k) ?_
  show own_G p e below _ (T4.setTop (mkF m 33 #[.val (.long q1), .second] [(.long q1), (.long (((r1 ||| (r2 <<< ((8 : Int32) &&& 0x3f).toInt64)) ||| (r3 <<< ((16 : Int32) &&& 0x3f).toInt64)) ||| (r4 <<< ((24 : Int32) &&& 0x3f).toInt64)))]))
  refine own_via (fun t k => XS.iconst X4.here hx rfl (hb hby d1_33) k) ?_
  show own_G p e below _ (T4.setTop (mkF m 34 #[.val (.long q1), .second] [(.int (4 : Int32)), (.long q1), (.long (((r1 ||| (r2 <<< ((8 : Int32) &&& 0x3f).toInt64)) ||| (r3 <<< ((16 : Int32) &&& 0x3f).toInt64)) ||| (r4 <<< ((24 : Int32) &&& 0x3f).toInt64)))]))
  obtain ⟨_, _, ⟨T5, L5, k5, n5⟩, -, X5, ⟨Lc5, hQ5, l5, y5, z5⟩, st5⟩ := Jvm.LawKit.callS X4 hx (y := (⟨"com/example/fee_simple/feesimple/cli/AsciiWordsMarksNotDigitsPinLaw", "digitByte", "(JI)J"⟩ : MethodName)) hown (mvT hZ (hw _ (List.mem_of_getElem? (i := 5) rfl))) (mvT hZ (hw _ (List.mem_of_getElem? (i := 6) rfl))) (mvT hZ (hw _ (List.mem_of_getElem? (i := 3) rfl))) (mvT hZ (hw _ (List.mem_of_getElem? (i := 7) rfl))) (by decide) (backOf (W := 2) (rm2 l Z a0 hw [] q1 (4 : Int32) h0 n0 Z0) hZ (hw _ (List.mem_of_getElem? (i := 7) rfl)) (hw _ (List.mem_of_getElem? (i := 3) rfl)) (by decide) (by decide)) (g := (mkF m 34 #[.val (.long q1), .second] [(.int (4 : Int32)), (.long q1), (.long (((r1 ||| (r2 <<< ((8 : Int32) &&& 0x3f).toInt64)) ||| (r3 <<< ((16 : Int32) &&& 0x3f).toInt64)) ||| (r4 <<< ((24 : Int32) &&& 0x3f).toInt64)))])) rfl (by rw [hml]; rfl) (argsL := [(.long q1), (.int (4 : Int32))]) (rest := [(.long (((r1 ||| (r2 <<< ((8 : Int32) &&& 0x3f).toInt64)) ||| (r3 <<< ((16 : Int32) &&& 0x3f).toInt64)) ||| (r4 <<< ((24 : Int32) &&& 0x3f).toInt64)))]) (lenOf pd_rm1_0 rfl) rfl (by show 2 * 0 + _ ≤ _; exact Nat.le_of_eq rfl) (hb hby d1_34) (fun _ _ => ⟨rfl, e4, (by decide : 0 + 0 ≤ _), (by decide : 0 + 0 ≤ _)⟩)
  dsimp only [Pt.U, Pt.locs, Pt.cells, Pt.slots] at X5 l5 y5 z5 st5 hQ5
  subst l5 y5 z5
  obtain ⟨r5, rfl, N5q, e5⟩ := hQ5
  have N5 := Fr.app N4 N5q
  refine own_via st5 ?_
  show own_G p e below _ (T5.setTop (mkF m 37 #[.val (.long q1), .second] [(.long r5), (.long (((r1 ||| (r2 <<< ((8 : Int32) &&& 0x3f).toInt64)) ||| (r3 <<< ((16 : Int32) &&& 0x3f).toInt64)) ||| (r4 <<< ((24 : Int32) &&& 0x3f).toInt64)))]))
  refine own_via (fun t k => XS.bipush X5.here hx rfl (hb hby d1_37) k) ?_
  show own_G p e below _ (T5.setTop (mkF m 39 #[.val (.long q1), .second] [(.int (32 : Int32)), (.long r5), (.long (((r1 ||| (r2 <<< ((8 : Int32) &&& 0x3f).toInt64)) ||| (r3 <<< ((16 : Int32) &&& 0x3f).toInt64)) ||| (r4 <<< ((24 : Int32) &&& 0x3f).toInt64)))]))
  refine own_via (fun t k => XS.lshl X5.here hx rfl (hb hby d1_39) rfl k) ?_
  show own_G p e below _ (T5.setTop (mkF m 40 #[.val (.long q1), .second] [(.long (r5 <<< ((32 : Int32) &&& 0x3f).toInt64)), (.long (((r1 ||| (r2 <<< ((8 : Int32) &&& 0x3f).toInt64)) ||| (r3 <<< ((16 : Int32) &&& 0x3f).toInt64)) ||| (r4 <<< ((24 : Int32) &&& 0x3f).toInt64)))]))
  refine own_via (fun t k => XS.lor X5.here hx rfl (hb hby d1_40) rfl k) ?_
  show own_G p e below _ (T5.setTop (mkF m 41 #[.val (.long q1), .second] [(.long ((((r1 ||| (r2 <<< ((8 : Int32) &&& 0x3f).toInt64)) ||| (r3 <<< ((16 : Int32) &&& 0x3f).toInt64)) ||| (r4 <<< ((24 : Int32) &&& 0x3f).toInt64)) ||| (r5 <<< ((32 : Int32) &&& 0x3f).toInt64)))]))
  refine own_via (fun t k => XS.lloadN X5.here hx rfl (hb hby d1_41) rfl k) ?_
  show own_G p e below _ (T5.setTop (mkF m 42 #[.val (.long q1), .second] [(.long q1), (.long ((((r1 ||| (r2 <<< ((8 : Int32) &&& 0x3f).toInt64)) ||| (r3 <<< ((16 : Int32) &&& 0x3f).toInt64)) ||| (r4 <<< ((24 : Int32) &&& 0x3f).toInt64)) ||| (r5 <<< ((32 : Int32) &&& 0x3f).toInt64)))]))
  refine own_via (fun t k => XS.iconst X5.here hx rfl (hb hby d1_42) k) ?_
  show own_G p e below _ (T5.setTop (mkF m 43 #[.val (.long q1), .second] [(.int (5 : Int32)), (.long q1), (.long ((((r1 ||| (r2 <<< ((8 : Int32) &&& 0x3f).toInt64)) ||| (r3 <<< ((16 : Int32) &&& 0x3f).toInt64)) ||| (r4 <<< ((24 : Int32) &&& 0x3f).toInt64)) ||| (r5 <<< ((32 : Int32) &&& 0x3f).toInt64)))]))
  obtain ⟨_, _, ⟨T6, L6, k6, n6⟩, -, X6, ⟨Lc6, hQ6, l6, y6, z6⟩, st6⟩ := Jvm.LawKit.callS X5 hx (y := (⟨"com/example/fee_simple/feesimple/cli/AsciiWordsMarksNotDigitsPinLaw", "digitByte", "(JI)J"⟩ : MethodName)) hown (mvT hZ (hw _ (List.mem_of_getElem? (i := 5) rfl))) (mvT hZ (hw _ (List.mem_of_getElem? (i := 6) rfl))) (mvT hZ (hw _ (List.mem_of_getElem? (i := 3) rfl))) (mvT hZ (hw _ (List.mem_of_getElem? (i := 7) rfl))) (by decide) (backOf (W := 2) (rm2 l Z a0 hw [] q1 (5 : Int32) h0 n0 Z0) hZ (hw _ (List.mem_of_getElem? (i := 7) rfl)) (hw _ (List.mem_of_getElem? (i := 3) rfl)) (by decide) (by decide)) (g := (mkF m 43 #[.val (.long q1), .second] [(.int (5 : Int32)), (.long q1), (.long ((((r1 ||| (r2 <<< ((8 : Int32) &&& 0x3f).toInt64)) ||| (r3 <<< ((16 : Int32) &&& 0x3f).toInt64)) ||| (r4 <<< ((24 : Int32) &&& 0x3f).toInt64)) ||| (r5 <<< ((32 : Int32) &&& 0x3f).toInt64)))])) rfl (by rw [hml]; rfl) (argsL := [(.long q1), (.int (5 : Int32))]) (rest := [(.long ((((r1 ||| (r2 <<< ((8 : Int32) &&& 0x3f).toInt64)) ||| (r3 <<< ((16 : Int32) &&& 0x3f).toInt64)) ||| (r4 <<< ((24 : Int32) &&& 0x3f).toInt64)) ||| (r5 <<< ((32 : Int32) &&& 0x3f).toInt64)))]) (lenOf pd_rm1_0 rfl) rfl (by show 2 * 0 + _ ≤ _; exact Nat.le_of_eq rfl) (hb hby d1_43) (fun _ _ => ⟨rfl, e5, (by decide : 0 + 0 ≤ _), (by decide : 0 + 0 ≤ _)⟩)
  dsimp only [Pt.U, Pt.locs, Pt.cells, Pt.slots] at X6 l6 y6 z6 st6 hQ6
  subst l6 y6 z6
  obtain ⟨r6, rfl, N6q, e6⟩ := hQ6
  have N6 := Fr.app N5 N6q
  refine own_via st6 ?_
  show own_G p e below _ (T6.setTop (mkF m 46 #[.val (.long q1), .second] [(.long r6), (.long ((((r1 ||| (r2 <<< ((8 : Int32) &&& 0x3f).toInt64)) ||| (r3 <<< ((16 : Int32) &&& 0x3f).toInt64)) ||| (r4 <<< ((24 : Int32) &&& 0x3f).toInt64)) ||| (r5 <<< ((32 : Int32) &&& 0x3f).toInt64)))]))
  refine own_via (fun t k => XS.bipush X6.here hx rfl (hb hby d1_46) k) ?_
  show own_G p e below _ (T6.setTop (mkF m 48 #[.val (.long q1), .second] [(.int (40 : Int32)), (.long r6), (.long ((((r1 ||| (r2 <<< ((8 : Int32) &&& 0x3f).toInt64)) ||| (r3 <<< ((16 : Int32) &&& 0x3f).toInt64)) ||| (r4 <<< ((24 : Int32) &&& 0x3f).toInt64)) ||| (r5 <<< ((32 : Int32) &&& 0x3f).toInt64)))]))
  refine own_via (fun t k => XS.lshl X6.here hx rfl (hb hby d1_48) rfl k) ?_
  show own_G p e below _ (T6.setTop (mkF m 49 #[.val (.long q1), .second] [(.long (r6 <<< ((40 : Int32) &&& 0x3f).toInt64)), (.long ((((r1 ||| (r2 <<< ((8 : Int32) &&& 0x3f).toInt64)) ||| (r3 <<< ((16 : Int32) &&& 0x3f).toInt64)) ||| (r4 <<< ((24 : Int32) &&& 0x3f).toInt64)) ||| (r5 <<< ((32 : Int32) &&& 0x3f).toInt64)))]))
  refine own_via (fun t k => XS.lor X6.here hx rfl (hb hby d1_49) rfl k) ?_
  show own_G p e below _ (T6.setTop (mkF m 50 #[.val (.long q1), .second] [(.long (((((r1 ||| (r2 <<< ((8 : Int32) &&& 0x3f).toInt64)) ||| (r3 <<< ((16 : Int32) &&& 0x3f).toInt64)) ||| (r4 <<< ((24 : Int32) &&& 0x3f).toInt64)) ||| (r5 <<< ((32 : Int32) &&& 0x3f).toInt64)) ||| (r6 <<< ((40 : Int32) &&& 0x3f).toInt64)))]))
  refine own_via (fun t k => XS.lloadN X6.here hx rfl (hb hby d1_50) rfl k) ?_
  show own_G p e below _ (T6.setTop (mkF m 51 #[.val (.long q1), .second] [(.long q1), (.long (((((r1 ||| (r2 <<< ((8 : Int32) &&& 0x3f).toInt64)) ||| (r3 <<< ((16 : Int32) &&& 0x3f).toInt64)) ||| (r4 <<< ((24 : Int32) &&& 0x3f).toInt64)) ||| (r5 <<< ((32 : Int32) &&& 0x3f).toInt64)) ||| (r6 <<< ((40 : Int32) &&& 0x3f).toInt64)))]))
  refine own_via (fun t k => XS.bipush X6.here hx rfl (hb hby d1_51) k) ?_
  show own_G p e below _ (T6.setTop (mkF m 53 #[.val (.long q1), .second] [(.int (6 : Int32)), (.long q1), (.long (((((r1 ||| (r2 <<< ((8 : Int32) &&& 0x3f).toInt64)) ||| (r3 <<< ((16 : Int32) &&& 0x3f).toInt64)) ||| (r4 <<< ((24 : Int32) &&& 0x3f).toInt64)) ||| (r5 <<< ((32 : Int32) &&& 0x3f).toInt64)) ||| (r6 <<< ((40 : Int32) &&& 0x3f).toInt64)))]))
  obtain ⟨_, _, ⟨T7, L7, k7, n7⟩, -, X7, ⟨Lc7, hQ7, l7, y7, z7⟩, st7⟩ := Jvm.LawKit.callS X6 hx (y := (⟨"com/example/fee_simple/feesimple/cli/AsciiWordsMarksNotDigitsPinLaw", "digitByte", "(JI)J"⟩ : MethodName)) hown (mvT hZ (hw _ (List.mem_of_getElem? (i := 5) rfl))) (mvT hZ (hw _ (List.mem_of_getElem? (i := 6) rfl))) (mvT hZ (hw _ (List.mem_of_getElem? (i := 3) rfl))) (mvT hZ (hw _ (List.mem_of_getElem? (i := 7) rfl))) (by decide) (backOf (W := 2) (rm2 l Z a0 hw [] q1 (6 : Int32) h0 n0 Z0) hZ (hw _ (List.mem_of_getElem? (i := 7) rfl)) (hw _ (List.mem_of_getElem? (i := 3) rfl)) (by decide) (by decide)) (g := (mkF m 53 #[.val (.long q1), .second] [(.int (6 : Int32)), (.long q1), (.long (((((r1 ||| (r2 <<< ((8 : Int32) &&& 0x3f).toInt64)) ||| (r3 <<< ((16 : Int32) &&& 0x3f).toInt64)) ||| (r4 <<< ((24 : Int32) &&& 0x3f).toInt64)) ||| (r5 <<< ((32 : Int32) &&& 0x3f).toInt64)) ||| (r6 <<< ((40 : Int32) &&& 0x3f).toInt64)))])) rfl (by rw [hml]; rfl) (argsL := [(.long q1), (.int (6 : Int32))]) (rest := [(.long (((((r1 ||| (r2 <<< ((8 : Int32) &&& 0x3f).toInt64)) ||| (r3 <<< ((16 : Int32) &&& 0x3f).toInt64)) ||| (r4 <<< ((24 : Int32) &&& 0x3f).toInt64)) ||| (r5 <<< ((32 : Int32) &&& 0x3f).toInt64)) ||| (r6 <<< ((40 : Int32) &&& 0x3f).toInt64)))]) (lenOf pd_rm1_0 rfl) rfl (by show 2 * 0 + _ ≤ _; exact Nat.le_of_eq rfl) (hb hby d1_53) (fun _ _ => ⟨rfl, e6, (by decide : 0 + 0 ≤ _), (by decide : 0 + 0 ≤ _)⟩)
  dsimp only [Pt.U, Pt.locs, Pt.cells, Pt.slots] at X7 l7 y7 z7 st7 hQ7
  subst l7 y7 z7
  obtain ⟨r7, rfl, N7q, e7⟩ := hQ7
  have N7 := Fr.app N6 N7q
  refine own_via st7 ?_
  show own_G p e below _ (T7.setTop (mkF m 56 #[.val (.long q1), .second] [(.long r7), (.long (((((r1 ||| (r2 <<< ((8 : Int32) &&& 0x3f).toInt64)) ||| (r3 <<< ((16 : Int32) &&& 0x3f).toInt64)) ||| (r4 <<< ((24 : Int32) &&& 0x3f).toInt64)) ||| (r5 <<< ((32 : Int32) &&& 0x3f).toInt64)) ||| (r6 <<< ((40 : Int32) &&& 0x3f).toInt64)))]))
  refine own_via (fun t k => XS.bipush X7.here hx rfl (hb hby d1_56) k) ?_
  show own_G p e below _ (T7.setTop (mkF m 58 #[.val (.long q1), .second] [(.int (48 : Int32)), (.long r7), (.long (((((r1 ||| (r2 <<< ((8 : Int32) &&& 0x3f).toInt64)) ||| (r3 <<< ((16 : Int32) &&& 0x3f).toInt64)) ||| (r4 <<< ((24 : Int32) &&& 0x3f).toInt64)) ||| (r5 <<< ((32 : Int32) &&& 0x3f).toInt64)) ||| (r6 <<< ((40 : Int32) &&& 0x3f).toInt64)))]))
  refine own_via (fun t k => XS.lshl X7.here hx rfl (hb hby d1_58) rfl k) ?_
  show own_G p e below _ (T7.setTop (mkF m 59 #[.val (.long q1), .second] [(.long (r7 <<< ((48 : Int32) &&& 0x3f).toInt64)), (.long (((((r1 ||| (r2 <<< ((8 : Int32) &&& 0x3f).toInt64)) ||| (r3 <<< ((16 : Int32) &&& 0x3f).toInt64)) ||| (r4 <<< ((24 : Int32) &&& 0x3f).toInt64)) ||| (r5 <<< ((32 : Int32) &&& 0x3f).toInt64)) ||| (r6 <<< ((40 : Int32) &&& 0x3f).toInt64)))]))
  refine own_via (fun t k => XS.lor X7.here hx rfl (hb hby d1_59) rfl k) ?_
  show own_G p e below _ (T7.setTop (mkF m 60 #[.val (.long q1), .second] [(.long ((((((r1 ||| (r2 <<< ((8 : Int32) &&& 0x3f).toInt64)) ||| (r3 <<< ((16 : Int32) &&& 0x3f).toInt64)) ||| (r4 <<< ((24 : Int32) &&& 0x3f).toInt64)) ||| (r5 <<< ((32 : Int32) &&& 0x3f).toInt64)) ||| (r6 <<< ((40 : Int32) &&& 0x3f).toInt64)) ||| (r7 <<< ((48 : Int32) &&& 0x3f).toInt64)))]))
  refine own_via (fun t k => XS.lloadN X7.here hx rfl (hb hby d1_60) rfl k) ?_
  show own_G p e below _ (T7.setTop (mkF m 61 #[.val (.long q1), .second] [(.long q1), (.long ((((((r1 ||| (r2 <<< ((8 : Int32) &&& 0x3f).toInt64)) ||| (r3 <<< ((16 : Int32) &&& 0x3f).toInt64)) ||| (r4 <<< ((24 : Int32) &&& 0x3f).toInt64)) ||| (r5 <<< ((32 : Int32) &&& 0x3f).toInt64)) ||| (r6 <<< ((40 : Int32) &&& 0x3f).toInt64)) ||| (r7 <<< ((48 : Int32) &&& 0x3f).toInt64)))]))
  refine own_via (fun t k => XS.bipush X7.here hx rfl (hb hby d1_61) k) ?_
  show own_G p e below _ (T7.setTop (mkF m 63 #[.val (.long q1), .second] [(.int (7 : Int32)), (.long q1), (.long ((((((r1 ||| (r2 <<< ((8 : Int32) &&& 0x3f).toInt64)) ||| (r3 <<< ((16 : Int32) &&& 0x3f).toInt64)) ||| (r4 <<< ((24 : Int32) &&& 0x3f).toInt64)) ||| (r5 <<< ((32 : Int32) &&& 0x3f).toInt64)) ||| (r6 <<< ((40 : Int32) &&& 0x3f).toInt64)) ||| (r7 <<< ((48 : Int32) &&& 0x3f).toInt64)))]))
  obtain ⟨_, _, ⟨T8, L8, k8, n8⟩, -, X8, ⟨Lc8, hQ8, l8, y8, z8⟩, st8⟩ := Jvm.LawKit.callS X7 hx (y := (⟨"com/example/fee_simple/feesimple/cli/AsciiWordsMarksNotDigitsPinLaw", "digitByte", "(JI)J"⟩ : MethodName)) hown (mvT hZ (hw _ (List.mem_of_getElem? (i := 5) rfl))) (mvT hZ (hw _ (List.mem_of_getElem? (i := 6) rfl))) (mvT hZ (hw _ (List.mem_of_getElem? (i := 3) rfl))) (mvT hZ (hw _ (List.mem_of_getElem? (i := 7) rfl))) (by decide) (backOf (W := 2) (rm2 l Z a0 hw [] q1 (7 : Int32) h0 n0 Z0) hZ (hw _ (List.mem_of_getElem? (i := 7) rfl)) (hw _ (List.mem_of_getElem? (i := 3) rfl)) (by decide) (by decide)) (g := (mkF m 63 #[.val (.long q1), .second] [(.int (7 : Int32)), (.long q1), (.long ((((((r1 ||| (r2 <<< ((8 : Int32) &&& 0x3f).toInt64)) ||| (r3 <<< ((16 : Int32) &&& 0x3f).toInt64)) ||| (r4 <<< ((24 : Int32) &&& 0x3f).toInt64)) ||| (r5 <<< ((32 : Int32) &&& 0x3f).toInt64)) ||| (r6 <<< ((40 : Int32) &&& 0x3f).toInt64)) ||| (r7 <<< ((48 : Int32) &&& 0x3f).toInt64)))])) rfl (by rw [hml]; rfl) (argsL := [(.long q1), (.int (7 : Int32))]) (rest := [(.long ((((((r1 ||| (r2 <<< ((8 : Int32) &&& 0x3f).toInt64)) ||| (r3 <<< ((16 : Int32) &&& 0x3f).toInt64)) ||| (r4 <<< ((24 : Int32) &&& 0x3f).toInt64)) ||| (r5 <<< ((32 : Int32) &&& 0x3f).toInt64)) ||| (r6 <<< ((40 : Int32) &&& 0x3f).toInt64)) ||| (r7 <<< ((48 : Int32) &&& 0x3f).toInt64)))]) (lenOf pd_rm1_0 rfl) rfl (by show 2 * 0 + _ ≤ _; exact Nat.le_of_eq rfl) (hb hby d1_63) (fun _ _ => ⟨rfl, e7, (by decide : 0 + 0 ≤ _), (by decide : 0 + 0 ≤ _)⟩)
  dsimp only [Pt.U, Pt.locs, Pt.cells, Pt.slots] at X8 l8 y8 z8 st8 hQ8
  subst l8 y8 z8
  obtain ⟨r8, rfl, N8q, e8⟩ := hQ8
  have N8 := Fr.app N7 N8q
  refine own_via st8 ?_
  show own_G p e below _ (T8.setTop (mkF m 66 #[.val (.long q1), .second] [(.long r8), (.long ((((((r1 ||| (r2 <<< ((8 : Int32) &&& 0x3f).toInt64)) ||| (r3 <<< ((16 : Int32) &&& 0x3f).toInt64)) ||| (r4 <<< ((24 : Int32) &&& 0x3f).toInt64)) ||| (r5 <<< ((32 : Int32) &&& 0x3f).toInt64)) ||| (r6 <<< ((40 : Int32) &&& 0x3f).toInt64)) ||| (r7 <<< ((48 : Int32) &&& 0x3f).toInt64)))]))
  refine own_via (fun t k => XS.bipush X8.here hx rfl (hb hby d1_66) k) ?_
  show own_G p e below _ (T8.setTop (mkF m 68 #[.val (.long q1), .second] [(.int (56 : Int32)), (.long r8), (.long ((((((r1 ||| (r2 <<< ((8 : Int32) &&& 0x3f).toInt64)) ||| (r3 <<< ((16 : Int32) &&& 0x3f).toInt64)) ||| (r4 <<< ((24 : Int32) &&& 0x3f).toInt64)) ||| (r5 <<< ((32 : Int32) &&& 0x3f).toInt64)) ||| (r6 <<< ((40 : Int32) &&& 0x3f).toInt64)) ||| (r7 <<< ((48 : Int32) &&& 0x3f).toInt64)))]))
  refine own_via (fun t k => XS.lshl X8.here hx rfl (hb hby d1_68) rfl k) ?_
  show own_G p e below _ (T8.setTop (mkF m 69 #[.val (.long q1), .second] [(.long (r8 <<< ((56 : Int32) &&& 0x3f).toInt64)), (.long ((((((r1 ||| (r2 <<< ((8 : Int32) &&& 0x3f).toInt64)) ||| (r3 <<< ((16 : Int32) &&& 0x3f).toInt64)) ||| (r4 <<< ((24 : Int32) &&& 0x3f).toInt64)) ||| (r5 <<< ((32 : Int32) &&& 0x3f).toInt64)) ||| (r6 <<< ((40 : Int32) &&& 0x3f).toInt64)) ||| (r7 <<< ((48 : Int32) &&& 0x3f).toInt64)))]))
  refine own_via (fun t k => XS.lor X8.here hx rfl (hb hby d1_69) rfl k) ?_
  show own_G p e below _ (T8.setTop (mkF m 70 #[.val (.long q1), .second] [(.long (((((((r1 ||| (r2 <<< ((8 : Int32) &&& 0x3f).toInt64)) ||| (r3 <<< ((16 : Int32) &&& 0x3f).toInt64)) ||| (r4 <<< ((24 : Int32) &&& 0x3f).toInt64)) ||| (r5 <<< ((32 : Int32) &&& 0x3f).toInt64)) ||| (r6 <<< ((40 : Int32) &&& 0x3f).toInt64)) ||| (r7 <<< ((48 : Int32) &&& 0x3f).toInt64)) ||| (r8 <<< ((56 : Int32) &&& 0x3f).toInt64)))]))
  obtain ⟨fs, hr, hrun, hended, hW, hsame⟩ := X8.leave (v := some (.long (((((((r1 ||| (r2 <<< ((8 : Int32) &&& 0x3f).toInt64)) ||| (r3 <<< ((16 : Int32) &&& 0x3f).toInt64)) ||| (r4 <<< ((24 : Int32) &&& 0x3f).toInt64)) ||| (r5 <<< ((32 : Int32) &&& 0x3f).toInt64)) ||| (r6 <<< ((40 : Int32) &&& 0x3f).toInt64)) ||| (r7 <<< ((48 : Int32) &&& 0x3f).toInt64)) ||| (r8 <<< ((56 : Int32) &&& 0x3f).toInt64)))) (fun h => by rw [Bd.returns] at h; cases h)
  refine ⟨_, _, retOut X8 hx Bd.returns rfl (Or.inr (Or.inl ⟨rfl, rfl, _, rfl⟩)) (hb hby d1_70) hr, hrun, hended, _, _, rfl, ?_, ⟨_, rfl⟩, hW, hsame.mono (by decide) (by decide)⟩
  show rm1_Q Z q1 h0 n0 _ T8.heap _
  rw [e8]
  exact ⟨_, rfl, N8, rfl⟩

theorem d4_0 : decode method_5_code 0 = .ok (.lload_n 0, 1) := by decide +kernel
theorem d4_1 : decode method_5_code 1 = .ok (.bipush 8, 2) := by decide +kernel
theorem d4_3 : decode method_5_code 3 = .ok (.iload_n 2, 1) := by decide +kernel
theorem d4_4 : decode method_5_code 4 = .ok (.imul, 1) := by decide +kernel
theorem d4_5 : decode method_5_code 5 = .ok (.lushr, 1) := by decide +kernel
theorem d4_6 : decode method_5_code 6 = .ok (.ldc2_w 25, 3) := by decide +kernel
theorem d4_9 : decode method_5_code 9 = .ok (.land, 1) := by decide +kernel
theorem d4_10 : decode method_5_code 10 = .ok (.lstore_n 3, 1) := by decide +kernel
theorem d4_11 : decode method_5_code 11 = .ok (.lload_n 3, 1) := by decide +kernel
theorem d4_12 : decode method_5_code 12 = .ok (.ldc2_w 27, 3) := by decide +kernel
theorem d4_15 : decode method_5_code 15 = .ok (.lcmp, 1) := by decide +kernel
theorem d4_16 : decode method_5_code 16 = .ok (.ifCond .lt 15, 3) := by decide +kernel
theorem d4_19 : decode method_5_code 19 = .ok (.lload_n 3, 1) := by decide +kernel
theorem d4_20 : decode method_5_code 20 = .ok (.ldc2_w 35, 3) := by decide +kernel
theorem d4_23 : decode method_5_code 23 = .ok (.lcmp, 1) := by decide +kernel
theorem d4_24 : decode method_5_code 24 = .ok (.ifCond .gt 7, 3) := by decide +kernel
theorem d4_27 : decode method_5_code 27 = .ok (.iconst 1, 1) := by decide +kernel
theorem d4_28 : decode method_5_code 28 = .ok (.goto 4, 3) := by decide +kernel
theorem d4_31 : decode method_5_code 31 = .ok (.iconst 0, 1) := by decide +kernel
theorem d4_32 : decode method_5_code 32 = .ok (.ireturn, 1) := by decide +kernel
theorem rm4_pn : plainName "com/example/fee_simple/feesimple/cli/AsciiWordsMarksNotDigitsPinLaw" = true := by first | (simp [plainName, overriddenIn]; done) | decide +kernel
theorem rm4_ef (m : MethodId) (z0 : Int64) (z1 : Int32) : entryFrame m #[(.long z0), (.int z1)] 5 = mkF m 0 #[.val (.long z0), .second, .val (.int z1), .unset, .unset] [] := by first | (simp [entryFrame, mkF, argsToLocals, Value.category]; done) | rfl
def rm4_Q (Z : State) (q1 : Int64) (p2 : Int32)  (h0 : Heap) (n0 : Nat) (v : Option Value) (h : Heap) (L : List Loc) : Prop := v = some (.int (own_isd q1 p2)) ∧ Fr n0 L ∧ h = h0
set_option maxRecDepth 65536 in
set_option maxHeartbeats 40000000 in
theorem rm4 (l : Launch) (Z : State) (a0 : Array Value) (hw : ∀ d ∈ tables_1, d.before a0 Z = true) (ws : List Jvm.Cond) (q1 : Int64) (p2 : Int32)  (h0 : Heap) (n0 : Nat) (Z0 : n0 ≤ h0.size)  :
    MetFree l (⟨"com/example/fee_simple/feesimple/cli/AsciiWordsMarksNotDigitsPinLaw", "isDigitAt", "(JI)Z"⟩ : MethodName) (head1 (Jvm.Cond.code (⟨"com/example/fee_simple/feesimple/cli/AsciiWordsMarksNotDigitsPinLaw", "isDigitAt", "(JI)Z"⟩ : MethodName) method_5_code 5 (some .boolean) :: ws) ({ frames := 0, cells := 0, slots := 0, locals := 0 } : Room)) (fun a U => a = #[(.long q1), (.int p2)] ∧ Z.Warmed39 U.vm ∧ U.heap = h0) (fun _ _ _ _ _ => True) (fun _ U o U' => ∃ v L, o = .returned v ∧ rm4_Q Z q1 p2 h0 n0 v U'.heap L ∧ FrameEnd U o U' L ({ frames := 0, cells := 0, slots := 0, locals := 0 } : Room).cells ({ frames := 0, cells := 0, slots := 0, locals := 0 } : Room).slots) := by
  refine MetFree.of_bodySF (plainFor_of_name rm4_pn) hisR ?_
  intro p e s m args below meth c s₁ Bd hml0 hP hK
  obtain ⟨rfl, hZ, hh⟩ := hP
  have hx := Bd.exec
  have hby := Bd.bytes
  have hml : c.maxLocals = 5 := hml0
  have hown : s.vm.findClass "com/example/fee_simple/feesimple/cli/AsciiWordsMarksNotDigitsPinLaw" = some m.cls := findClass_of_methodNamed Bd.named
  have hnm := (name_of_methodNamed Bd.named Bd.method).1
  have X0 : Stand p l e ({ frames := 0, cells := 0, slots := 0, locals := 0 } : Room) s m #[(.long q1), (.int p2)] below meth c s₁ [] 0 0 := Stand.of_body Bd
  have e0 : s₁.heap = h0 := by rw [← hh, Bd.state]; rfl
  have N0 := Fr.nil n0
  refine own_via (fun t k => castTop (rm4_ef m q1 p2) k) ?_
  show own_G p e below _ (s₁.setTop (mkF m 0 #[.val (.long q1), .second, .val (.int p2), .unset, .unset] []))
  refine own_via (fun t k => XS.lloadN X0.here hx rfl (hb hby d4_0) rfl k) ?_
  show own_G p e below _ (s₁.setTop (mkF m 1 #[.val (.long q1), .second, .val (.int p2), .unset, .unset] [(.long q1)]))
  refine own_via (fun t k => XS.bipush X0.here hx rfl (hb hby d4_1) k) ?_
  show own_G p e below _ (s₁.setTop (mkF m 3 #[.val (.long q1), .second, .val (.int p2), .unset, .unset] [(.int (8 : Int32)), (.long q1)]))
  refine own_via (fun t k => XS.iloadN X0.here hx rfl (hb hby d4_3) rfl k) ?_
  show own_G p e below _ (s₁.setTop (mkF m 4 #[.val (.long q1), .second, .val (.int p2), .unset, .unset] [(.int p2), (.int (8 : Int32)), (.long q1)]))
  refine own_via (fun t k => XS.imul X0.here hx rfl (hb hby d4_4) rfl k) ?_
  show own_G p e below _ (s₁.setTop (mkF m 5 #[.val (.long q1), .second, .val (.int p2), .unset, .unset] [(.int ((8 : Int32) * p2)), (.long q1)]))
  refine own_via (fun t k => XS.lushr X0.here hx rfl (hb hby d4_5) rfl k) ?_
  show own_G p e below _ (s₁.setTop (mkF m 6 #[.val (.long q1), .second, .val (.int p2), .unset, .unset] [(.long ((q1.toUInt64 >>> (((8 : Int32) * p2) &&& 0x3f).toInt64.toUInt64).toInt64))]))
  refine own_via (fun t k => X0.ldc2Long hx hown (mvT hZ (hw _ (List.mem_of_getElem? (i := 9) rfl))) (g := (mkF m 6 #[.val (.long q1), .second, .val (.int p2), .unset, .unset] [(.long ((q1.toUInt64 >>> (((8 : Int32) * p2) &&& 0x3f).toInt64.toUInt64).toInt64))])) rfl (hb hby d4_6) _ k) ?_
  show own_G p e below _ (s₁.setTop (mkF m 9 #[.val (.long q1), .second, .val (.int p2), .unset, .unset] [(.long (255 : Int64)), (.long ((q1.toUInt64 >>> (((8 : Int32) * p2) &&& 0x3f).toInt64.toUInt64).toInt64))]))
  refine own_via (fun t k => XS.land X0.here hx rfl (hb hby d4_9) rfl k) ?_
  show own_G p e below _ (s₁.setTop (mkF m 10 #[.val (.long q1), .second, .val (.int p2), .unset, .unset] [(.long (((q1.toUInt64 >>> (((8 : Int32) * p2) &&& 0x3f).toInt64.toUInt64).toInt64) &&& (255 : Int64)))]))
  refine own_via (fun t k => XS.lstoreN X0.here hx rfl (hb hby d4_10) rfl (l' := #[.val (.long q1), .second, .val (.int p2), .val (.long (((q1.toUInt64 >>> (((8 : Int32) * p2) &&& 0x3f).toInt64.toUInt64).toInt64) &&& (255 : Int64))), .second]) rfl k) ?_
  show own_G p e below _ (s₁.setTop (mkF m 11 #[.val (.long q1), .second, .val (.int p2), .val (.long (((q1.toUInt64 >>> (((8 : Int32) * p2) &&& 0x3f).toInt64.toUInt64).toInt64) &&& (255 : Int64))), .second] []))
  refine own_via (fun t k => XS.lloadN X0.here hx rfl (hb hby d4_11) rfl k) ?_
  show own_G p e below _ (s₁.setTop (mkF m 12 #[.val (.long q1), .second, .val (.int p2), .val (.long (((q1.toUInt64 >>> (((8 : Int32) * p2) &&& 0x3f).toInt64.toUInt64).toInt64) &&& (255 : Int64))), .second] [(.long (((q1.toUInt64 >>> (((8 : Int32) * p2) &&& 0x3f).toInt64.toUInt64).toInt64) &&& (255 : Int64)))]))
  refine own_via (fun t k => X0.ldc2Long hx hown (mvT hZ (hw _ (List.mem_of_getElem? (i := 8) rfl))) (g := (mkF m 12 #[.val (.long q1), .second, .val (.int p2), .val (.long (((q1.toUInt64 >>> (((8 : Int32) * p2) &&& 0x3f).toInt64.toUInt64).toInt64) &&& (255 : Int64))), .second] [(.long (((q1.toUInt64 >>> (((8 : Int32) * p2) &&& 0x3f).toInt64.toUInt64).toInt64) &&& (255 : Int64)))])) rfl (hb hby d4_12) _ k) ?_
  show own_G p e below _ (s₁.setTop (mkF m 15 #[.val (.long q1), .second, .val (.int p2), .val (.long (((q1.toUInt64 >>> (((8 : Int32) * p2) &&& 0x3f).toInt64.toUInt64).toInt64) &&& (255 : Int64))), .second] [(.long (48 : Int64)), (.long (((q1.toUInt64 >>> (((8 : Int32) * p2) &&& 0x3f).toInt64.toUInt64).toInt64) &&& (255 : Int64)))]))
  refine own_via (fun t k => XS.lcmp X0.here hx rfl (hb hby d4_15) rfl k) ?_
  show own_G p e below _ (s₁.setTop (mkF m 16 #[.val (.long q1), .second, .val (.int p2), .val (.long (((q1.toUInt64 >>> (((8 : Int32) * p2) &&& 0x3f).toInt64.toUInt64).toInt64) &&& (255 : Int64))), .second] [(.int (lcmpW (((q1.toUInt64 >>> (((8 : Int32) * p2) &&& 0x3f).toInt64.toUInt64).toInt64) &&& (255 : Int64)) (48 : Int64)))]))
  by_cases c16_1 : (lcmpW (((q1.toUInt64 >>> (((8 : Int32) * p2) &&& 0x3f).toInt64.toUInt64).toInt64) &&& (255 : Int64)) (48 : Int64)) < (0 : Int32)
  · skip
    refine own_via (fun t k => XS.ifYes X0.here hx rfl (pc0 := 16) (pc' := 31) rfl (hb hby d4_16) rfl ((if0 _ _).trans (tlt c16_1).1) (by decide) (by decide) k) ?_
    show own_G p e below _ (s₁.setTop (mkF m 31 #[.val (.long q1), .second, .val (.int p2), .val (.long (((q1.toUInt64 >>> (((8 : Int32) * p2) &&& 0x3f).toInt64.toUInt64).toInt64) &&& (255 : Int64))), .second] []))
    refine own_via (fun t k => XS.iconst X0.here hx rfl (hb hby d4_31) k) ?_
    show own_G p e below _ (s₁.setTop (mkF m 32 #[.val (.long q1), .second, .val (.int p2), .val (.long (((q1.toUInt64 >>> (((8 : Int32) * p2) &&& 0x3f).toInt64.toUInt64).toInt64) &&& (255 : Int64))), .second] [(.int (0 : Int32))]))
    obtain ⟨fs, hr, hrun, hended, hW, hsame⟩ := X0.leave (v := some (.int (0 : Int32))) (fun h => by rw [Bd.returns] at h; cases h)
    refine ⟨_, _, retN X0 hx (t := .boolean) Bd.returns (by simp) (hb hby d4_32) hr, hrun, hended, _, _, rfl, ?_, ⟨_, rfl⟩, hW, hsame.mono (by decide) (by decide)⟩
    show rm4_Q Z q1 p2 h0 n0 _ s₁.heap _
    rw [e0]
    exact ⟨by simp only [own_isd, if_pos c16_1], N0, rfl⟩
  · skip
    refine own_via (fun t k => XS.ifNo X0.here hx rfl (hb hby d4_16) rfl ((if0 _ _).trans (flt c16_1).1) k) ?_
    show own_G p e below _ (s₁.setTop (mkF m 19 #[.val (.long q1), .second, .val (.int p2), .val (.long (((q1.toUInt64 >>> (((8 : Int32) * p2) &&& 0x3f).toInt64.toUInt64).toInt64) &&& (255 : Int64))), .second] []))
    refine own_via (fun t k => XS.lloadN X0.here hx rfl (hb hby d4_19) rfl k) ?_
    show own_G p e below _ (s₁.setTop (mkF m 20 #[.val (.long q1), .second, .val (.int p2), .val (.long (((q1.toUInt64 >>> (((8 : Int32) * p2) &&& 0x3f).toInt64.toUInt64).toInt64) &&& (255 : Int64))), .second] [(.long (((q1.toUInt64 >>> (((8 : Int32) * p2) &&& 0x3f).toInt64.toUInt64).toInt64) &&& (255 : Int64)))]))
    refine own_via (fun t k => X0.ldc2Long hx hown (mvT hZ (hw _ (List.mem_of_getElem? (i := 25) rfl))) (g := (mkF m 20 #[.val (.long q1), .second, .val (.int p2), .val (.long (((q1.toUInt64 >>> (((8 : Int32) * p2) &&& 0x3f).toInt64.toUInt64).toInt64) &&& (255 : Int64))), .second] [(.long (((q1.toUInt64 >>> (((8 : Int32) * p2) &&& 0x3f).toInt64.toUInt64).toInt64) &&& (255 : Int64)))])) rfl (hb hby d4_20) _ k) ?_
    show own_G p e below _ (s₁.setTop (mkF m 23 #[.val (.long q1), .second, .val (.int p2), .val (.long (((q1.toUInt64 >>> (((8 : Int32) * p2) &&& 0x3f).toInt64.toUInt64).toInt64) &&& (255 : Int64))), .second] [(.long (57 : Int64)), (.long (((q1.toUInt64 >>> (((8 : Int32) * p2) &&& 0x3f).toInt64.toUInt64).toInt64) &&& (255 : Int64)))]))
    refine own_via (fun t k => XS.lcmp X0.here hx rfl (hb hby d4_23) rfl k) ?_
    show own_G p e below _ (s₁.setTop (mkF m 24 #[.val (.long q1), .second, .val (.int p2), .val (.long (((q1.toUInt64 >>> (((8 : Int32) * p2) &&& 0x3f).toInt64.toUInt64).toInt64) &&& (255 : Int64))), .second] [(.int (lcmpW (((q1.toUInt64 >>> (((8 : Int32) * p2) &&& 0x3f).toInt64.toUInt64).toInt64) &&& (255 : Int64)) (57 : Int64)))]))
    by_cases c24_2 : (0 : Int32) < (lcmpW (((q1.toUInt64 >>> (((8 : Int32) * p2) &&& 0x3f).toInt64.toUInt64).toInt64) &&& (255 : Int64)) (57 : Int64))
    · skip
      refine own_via (fun t k => XS.ifYes X0.here hx rfl (pc0 := 24) (pc' := 31) rfl (hb hby d4_24) rfl ((if0 _ _).trans (tlt c24_2).2.2.1) (by decide) (by decide) k) ?_
      show own_G p e below _ (s₁.setTop (mkF m 31 #[.val (.long q1), .second, .val (.int p2), .val (.long (((q1.toUInt64 >>> (((8 : Int32) * p2) &&& 0x3f).toInt64.toUInt64).toInt64) &&& (255 : Int64))), .second] []))
      refine own_via (fun t k => XS.iconst X0.here hx rfl (hb hby d4_31) k) ?_
      show own_G p e below _ (s₁.setTop (mkF m 32 #[.val (.long q1), .second, .val (.int p2), .val (.long (((q1.toUInt64 >>> (((8 : Int32) * p2) &&& 0x3f).toInt64.toUInt64).toInt64) &&& (255 : Int64))), .second] [(.int (0 : Int32))]))
      obtain ⟨fs, hr, hrun, hended, hW, hsame⟩ := X0.leave (v := some (.int (0 : Int32))) (fun h => by rw [Bd.returns] at h; cases h)
      refine ⟨_, _, retN X0 hx (t := .boolean) Bd.returns (by simp) (hb hby d4_32) hr, hrun, hended, _, _, rfl, ?_, ⟨_, rfl⟩, hW, hsame.mono (by decide) (by decide)⟩
      show rm4_Q Z q1 p2 h0 n0 _ s₁.heap _
      rw [e0]
      exact ⟨by simp only [own_isd, if_neg c16_1, if_pos c24_2], N0, rfl⟩
    · skip
      refine own_via (fun t k => XS.ifNo X0.here hx rfl (hb hby d4_24) rfl ((if0 _ _).trans (flt c24_2).2.2.1) k) ?_
      show own_G p e below _ (s₁.setTop (mkF m 27 #[.val (.long q1), .second, .val (.int p2), .val (.long (((q1.toUInt64 >>> (((8 : Int32) * p2) &&& 0x3f).toInt64.toUInt64).toInt64) &&& (255 : Int64))), .second] []))
      refine own_via (fun t k => XS.iconst X0.here hx rfl (hb hby d4_27) k) ?_
      show own_G p e below _ (s₁.setTop (mkF m 28 #[.val (.long q1), .second, .val (.int p2), .val (.long (((q1.toUInt64 >>> (((8 : Int32) * p2) &&& 0x3f).toInt64.toUInt64).toInt64) &&& (255 : Int64))), .second] [(.int (1 : Int32))]))
      refine own_via (fun t k => XS.goto X0.here hx rfl (pc0 := 28) (pc' := 32) rfl (hb hby d4_28) (by decide) (by decide) k) ?_
      show own_G p e below _ (s₁.setTop (mkF m 32 #[.val (.long q1), .second, .val (.int p2), .val (.long (((q1.toUInt64 >>> (((8 : Int32) * p2) &&& 0x3f).toInt64.toUInt64).toInt64) &&& (255 : Int64))), .second] [(.int (1 : Int32))]))
      obtain ⟨fs, hr, hrun, hended, hW, hsame⟩ := X0.leave (v := some (.int (1 : Int32))) (fun h => by rw [Bd.returns] at h; cases h)
      refine ⟨_, _, retN X0 hx (t := .boolean) Bd.returns (by simp) (hb hby d4_32) hr, hrun, hended, _, _, rfl, ?_, ⟨_, rfl⟩, hW, hsame.mono (by decide) (by decide)⟩
      show rm4_Q Z q1 p2 h0 n0 _ s₁.heap _
      rw [e0]
      exact ⟨by simp only [own_isd, if_neg c16_1, if_neg c24_2], N0, rfl⟩

theorem d3_0 : decode method_6_code 0 = .ok (.lload_n 0, 1) := by decide +kernel
theorem d3_1 : decode method_6_code 1 = .ok (.iconst 0, 1) := by decide +kernel
theorem d3_2 : decode method_6_code 2 = .ok (.invokestatic 37, 3) := by decide +kernel
theorem d3_5 : decode method_6_code 5 = .ok (.ifCond .ne 5, 3) := by decide +kernel
theorem d3_8 : decode method_6_code 8 = .ok (.iconst 0, 1) := by decide +kernel
theorem d3_9 : decode method_6_code 9 = .ok (.ireturn, 1) := by decide +kernel
theorem d3_10 : decode method_6_code 10 = .ok (.lload_n 0, 1) := by decide +kernel
theorem d3_11 : decode method_6_code 11 = .ok (.iconst 1, 1) := by decide +kernel
theorem d3_12 : decode method_6_code 12 = .ok (.invokestatic 37, 3) := by decide +kernel
theorem d3_15 : decode method_6_code 15 = .ok (.ifCond .ne 5, 3) := by decide +kernel
theorem d3_18 : decode method_6_code 18 = .ok (.iconst 1, 1) := by decide +kernel
theorem d3_19 : decode method_6_code 19 = .ok (.ireturn, 1) := by decide +kernel
theorem d3_20 : decode method_6_code 20 = .ok (.lload_n 0, 1) := by decide +kernel
theorem d3_21 : decode method_6_code 21 = .ok (.iconst 2, 1) := by decide +kernel
theorem d3_22 : decode method_6_code 22 = .ok (.invokestatic 37, 3) := by decide +kernel
theorem d3_25 : decode method_6_code 25 = .ok (.ifCond .ne 5, 3) := by decide +kernel
theorem d3_28 : decode method_6_code 28 = .ok (.iconst 2, 1) := by decide +kernel
theorem d3_29 : decode method_6_code 29 = .ok (.ireturn, 1) := by decide +kernel
theorem d3_30 : decode method_6_code 30 = .ok (.lload_n 0, 1) := by decide +kernel
theorem d3_31 : decode method_6_code 31 = .ok (.iconst 3, 1) := by decide +kernel
theorem d3_32 : decode method_6_code 32 = .ok (.invokestatic 37, 3) := by decide +kernel
theorem d3_35 : decode method_6_code 35 = .ok (.ifCond .ne 5, 3) := by decide +kernel
theorem d3_38 : decode method_6_code 38 = .ok (.iconst 3, 1) := by decide +kernel
theorem d3_39 : decode method_6_code 39 = .ok (.ireturn, 1) := by decide +kernel
theorem d3_40 : decode method_6_code 40 = .ok (.lload_n 0, 1) := by decide +kernel
theorem d3_41 : decode method_6_code 41 = .ok (.iconst 4, 1) := by decide +kernel
theorem d3_42 : decode method_6_code 42 = .ok (.invokestatic 37, 3) := by decide +kernel
theorem d3_45 : decode method_6_code 45 = .ok (.ifCond .ne 5, 3) := by decide +kernel
theorem d3_48 : decode method_6_code 48 = .ok (.iconst 4, 1) := by decide +kernel
theorem d3_49 : decode method_6_code 49 = .ok (.ireturn, 1) := by decide +kernel
theorem d3_50 : decode method_6_code 50 = .ok (.lload_n 0, 1) := by decide +kernel
theorem d3_51 : decode method_6_code 51 = .ok (.iconst 5, 1) := by decide +kernel
theorem d3_52 : decode method_6_code 52 = .ok (.invokestatic 37, 3) := by decide +kernel
theorem d3_55 : decode method_6_code 55 = .ok (.ifCond .ne 5, 3) := by decide +kernel
theorem d3_58 : decode method_6_code 58 = .ok (.iconst 5, 1) := by decide +kernel
theorem d3_59 : decode method_6_code 59 = .ok (.ireturn, 1) := by decide +kernel
theorem d3_60 : decode method_6_code 60 = .ok (.lload_n 0, 1) := by decide +kernel
theorem d3_61 : decode method_6_code 61 = .ok (.bipush 6, 2) := by decide +kernel
theorem d3_63 : decode method_6_code 63 = .ok (.invokestatic 37, 3) := by decide +kernel
theorem d3_66 : decode method_6_code 66 = .ok (.ifCond .ne 6, 3) := by decide +kernel
theorem d3_69 : decode method_6_code 69 = .ok (.bipush 6, 2) := by decide +kernel
theorem d3_71 : decode method_6_code 71 = .ok (.ireturn, 1) := by decide +kernel
theorem d3_72 : decode method_6_code 72 = .ok (.lload_n 0, 1) := by decide +kernel
theorem d3_73 : decode method_6_code 73 = .ok (.bipush 7, 2) := by decide +kernel
theorem d3_75 : decode method_6_code 75 = .ok (.invokestatic 37, 3) := by decide +kernel
theorem d3_78 : decode method_6_code 78 = .ok (.ifCond .ne 6, 3) := by decide +kernel
theorem d3_81 : decode method_6_code 81 = .ok (.bipush 7, 2) := by decide +kernel
theorem d3_83 : decode method_6_code 83 = .ok (.ireturn, 1) := by decide +kernel
theorem d3_84 : decode method_6_code 84 = .ok (.bipush 8, 2) := by decide +kernel
theorem d3_86 : decode method_6_code 86 = .ok (.ireturn, 1) := by decide +kernel
theorem rm3_pn : plainName "com/example/fee_simple/feesimple/cli/AsciiWordsMarksNotDigitsPinLaw" = true := by first | (simp [plainName, overriddenIn]; done) | decide +kernel
theorem pd_rm3_0 : parseMethodDescriptor "(JI)Z" = some ⟨[.long, .int], some .boolean⟩ := by decide +kernel
theorem rm3_ef (m : MethodId) (z0 : Int64) : entryFrame m #[(.long z0)] 2 = mkF m 0 #[.val (.long z0), .second] [] := by first | (simp [entryFrame, mkF, argsToLocals, Value.category]; done) | rfl
def rm3_Q (Z : State) (q1 : Int64)  (h0 : Heap) (n0 : Nat) (v : Option Value) (h : Heap) (L : List Loc) : Prop := v = some (.int (own_fnd q1)) ∧ Fr n0 L ∧ h = h0
set_option maxRecDepth 65536 in
set_option maxHeartbeats 40000000 in
theorem rm3 (l : Launch) (Z : State) (a0 : Array Value) (hw : ∀ d ∈ tables_1, d.before a0 Z = true) (ws : List Jvm.Cond) (q1 : Int64)  (h0 : Heap) (n0 : Nat) (Z0 : n0 ≤ h0.size)  :
    MetFree l (⟨"com/example/fee_simple/feesimple/cli/AsciiWordsMarksNotDigitsPinLaw", "firstNonDigit", "(J)I"⟩ : MethodName) (head1 (Jvm.Cond.code (⟨"com/example/fee_simple/feesimple/cli/AsciiWordsMarksNotDigitsPinLaw", "firstNonDigit", "(J)I"⟩ : MethodName) method_6_code 2 (some .int) :: ws) ({ frames := 1, cells := 0, slots := 0, locals := 16 } : Room)) (fun a U => a = #[(.long q1)] ∧ Z.Warmed39 U.vm ∧ U.heap = h0) (fun _ _ _ _ _ => True) (fun _ U o U' => ∃ v L, o = .returned v ∧ rm3_Q Z q1 h0 n0 v U'.heap L ∧ FrameEnd U o U' L ({ frames := 1, cells := 0, slots := 0, locals := 16 } : Room).cells ({ frames := 1, cells := 0, slots := 0, locals := 16 } : Room).slots) := by
  refine MetFree.of_bodySF (plainFor_of_name rm3_pn) hisR ?_
  intro p e s m args below meth c s₁ Bd hml0 hP hK
  obtain ⟨rfl, hZ, hh⟩ := hP
  have hx := Bd.exec
  have hby := Bd.bytes
  have hml : c.maxLocals = 2 := hml0
  have hown : s.vm.findClass "com/example/fee_simple/feesimple/cli/AsciiWordsMarksNotDigitsPinLaw" = some m.cls := findClass_of_methodNamed Bd.named
  have hnm := (name_of_methodNamed Bd.named Bd.method).1
  have X0 : Stand p l e ({ frames := 1, cells := 0, slots := 0, locals := 16 } : Room) s m #[(.long q1)] below meth c s₁ [] 0 0 := Stand.of_body Bd
  have e0 : s₁.heap = h0 := by rw [← hh, Bd.state]; rfl
  have N0 := Fr.nil n0
  refine own_via (fun t k => castTop (rm3_ef m q1) k) ?_
  show own_G p e below _ (s₁.setTop (mkF m 0 #[.val (.long q1), .second] []))
  refine own_via (fun t k => XS.lloadN X0.here hx rfl (hb hby d3_0) rfl k) ?_
  show own_G p e below _ (s₁.setTop (mkF m 1 #[.val (.long q1), .second] [(.long q1)]))
  refine own_via (fun t k => XS.iconst X0.here hx rfl (hb hby d3_1) k) ?_
  show own_G p e below _ (s₁.setTop (mkF m 2 #[.val (.long q1), .second] [(.int (0 : Int32)), (.long q1)]))
  obtain ⟨_, _, ⟨T1, L1, k1, n1⟩, -, X1, ⟨Lc1, hQ1, l1, y1, z1⟩, st1⟩ := Jvm.LawKit.callS X0 hx (y := (⟨"com/example/fee_simple/feesimple/cli/AsciiWordsMarksNotDigitsPinLaw", "isDigitAt", "(JI)Z"⟩ : MethodName)) hown (mvT hZ (hw _ (List.mem_of_getElem? (i := 15) rfl))) (mvT hZ (hw _ (List.mem_of_getElem? (i := 16) rfl))) (mvT hZ (hw _ (List.mem_of_getElem? (i := 3) rfl))) (mvT hZ (hw _ (List.mem_of_getElem? (i := 17) rfl))) (by decide) (backOf (W := 0) (rm4 l Z a0 hw [] q1 (0 : Int32)  h0 n0 Z0 ) hZ (hw _ (List.mem_of_getElem? (i := 17) rfl)) (hw _ (List.mem_of_getElem? (i := 3) rfl)) (by decide) (by decide)) (g := (mkF m 2 #[.val (.long q1), .second] [(.int (0 : Int32)), (.long q1)])) rfl (by rw [hml]; rfl) (argsL := [(.long q1), (.int (0 : Int32))]) (rest := []) (lenOf pd_rm3_0 rfl) rfl (by show 2 * 0 + _ ≤ _; exact Nat.le_of_eq rfl) (hb hby d3_2) (fun _ _ => ⟨rfl, e0, (by decide : 0 + 0 ≤ _), (by decide : 0 + 0 ≤ _)⟩)
  dsimp only [Pt.U, Pt.locs, Pt.cells, Pt.slots] at X1 l1 y1 z1 st1 hQ1
  subst l1 y1 z1
  obtain ⟨rfl, N1q, e1⟩ := hQ1
  have N1 := Fr.app N0 N1q
  refine own_via st1 ?_
  show own_G p e below _ (T1.setTop (mkF m 5 #[.val (.long q1), .second] [(.int (own_isd q1 (0 : Int32)))]))
  by_cases c5_2 : (own_isd q1 (0 : Int32)) = (0 : Int32)
  · skip
    refine own_via (fun t k => XS.ifNo X1.here hx rfl (hb hby d3_5) rfl ((if0 _ _).trans (teq c5_2).2) k) ?_
    show own_G p e below _ (T1.setTop (mkF m 8 #[.val (.long q1), .second] []))
    refine own_via (fun t k => XS.iconst X1.here hx rfl (hb hby d3_8) k) ?_
    show own_G p e below _ (T1.setTop (mkF m 9 #[.val (.long q1), .second] [(.int (0 : Int32))]))
    obtain ⟨fs, hr, hrun, hended, hW, hsame⟩ := X1.leave (v := some (.int (0 : Int32))) (fun h => by rw [Bd.returns] at h; cases h)
    refine ⟨_, _, retOut X1 hx Bd.returns rfl (Or.inl ⟨rfl, Or.inl rfl, _, rfl⟩) (hb hby d3_9) hr, hrun, hended, _, _, rfl, ?_, ⟨_, rfl⟩, hW, hsame.mono (by decide) (by decide)⟩
    show rm3_Q Z q1 h0 n0 _ T1.heap _
    rw [e1]
    exact ⟨by simp only [own_fnd, if_pos c5_2], N1, rfl⟩
  · skip
    refine own_via (fun t k => XS.ifYes X1.here hx rfl (pc0 := 5) (pc' := 10) rfl (hb hby d3_5) rfl ((if0 _ _).trans (feq c5_2).2) (by decide) (by decide) k) ?_
    show own_G p e below _ (T1.setTop (mkF m 10 #[.val (.long q1), .second] []))
    refine own_via (fun t k => XS.lloadN X1.here hx rfl (hb hby d3_10) rfl k) ?_
    show own_G p e below _ (T1.setTop (mkF m 11 #[.val (.long q1), .second] [(.long q1)]))
    refine own_via (fun t k => XS.iconst X1.here hx rfl (hb hby d3_11) k) ?_
    show own_G p e below _ (T1.setTop (mkF m 12 #[.val (.long q1), .second] [(.int (1 : Int32)), (.long q1)]))
    obtain ⟨_, _, ⟨T3, L3, k3, n3⟩, -, X3, ⟨Lc3, hQ3, l3, y3, z3⟩, st3⟩ := Jvm.LawKit.callS X1 hx (y := (⟨"com/example/fee_simple/feesimple/cli/AsciiWordsMarksNotDigitsPinLaw", "isDigitAt", "(JI)Z"⟩ : MethodName)) hown (mvT hZ (hw _ (List.mem_of_getElem? (i := 15) rfl))) (mvT hZ (hw _ (List.mem_of_getElem? (i := 16) rfl))) (mvT hZ (hw _ (List.mem_of_getElem? (i := 3) rfl))) (mvT hZ (hw _ (List.mem_of_getElem? (i := 17) rfl))) (by decide) (backOf (W := 0) (rm4 l Z a0 hw [] q1 (1 : Int32)  h0 n0 Z0 ) hZ (hw _ (List.mem_of_getElem? (i := 17) rfl)) (hw _ (List.mem_of_getElem? (i := 3) rfl)) (by decide) (by decide)) (g := (mkF m 12 #[.val (.long q1), .second] [(.int (1 : Int32)), (.long q1)])) rfl (by rw [hml]; rfl) (argsL := [(.long q1), (.int (1 : Int32))]) (rest := []) (lenOf pd_rm3_0 rfl) rfl (by show 2 * 0 + _ ≤ _; exact Nat.le_of_eq rfl) (hb hby d3_12) (fun _ _ => ⟨rfl, e1, (by decide : 0 + 0 ≤ _), (by decide : 0 + 0 ≤ _)⟩)
    dsimp only [Pt.U, Pt.locs, Pt.cells, Pt.slots] at X3 l3 y3 z3 st3 hQ3
    subst l3 y3 z3
    obtain ⟨rfl, N3q, e3⟩ := hQ3
    have N3 := Fr.app N1 N3q
    refine own_via st3 ?_
    show own_G p e below _ (T3.setTop (mkF m 15 #[.val (.long q1), .second] [(.int (own_isd q1 (1 : Int32)))]))
    by_cases c15_4 : (own_isd q1 (1 : Int32)) = (0 : Int32)
    · skip
      refine own_via (fun t k => XS.ifNo X3.here hx rfl (hb hby d3_15) rfl ((if0 _ _).trans (teq c15_4).2) k) ?_
      show own_G p e below _ (T3.setTop (mkF m 18 #[.val (.long q1), .second] []))
      refine own_via (fun t k => XS.iconst X3.here hx rfl (hb hby d3_18) k) ?_
      show own_G p e below _ (T3.setTop (mkF m 19 #[.val (.long q1), .second] [(.int (1 : Int32))]))
      obtain ⟨fs, hr, hrun, hended, hW, hsame⟩ := X3.leave (v := some (.int (1 : Int32))) (fun h => by rw [Bd.returns] at h; cases h)
      refine ⟨_, _, retOut X3 hx Bd.returns rfl (Or.inl ⟨rfl, Or.inl rfl, _, rfl⟩) (hb hby d3_19) hr, hrun, hended, _, _, rfl, ?_, ⟨_, rfl⟩, hW, hsame.mono (by decide) (by decide)⟩
      show rm3_Q Z q1 h0 n0 _ T3.heap _
      rw [e3]
      exact ⟨by simp only [own_fnd, if_neg c5_2, if_pos c15_4], N3, rfl⟩
    · skip
      refine own_via (fun t k => XS.ifYes X3.here hx rfl (pc0 := 15) (pc' := 20) rfl (hb hby d3_15) rfl ((if0 _ _).trans (feq c15_4).2) (by decide) (by decide) k) ?_
      show own_G p e below _ (T3.setTop (mkF m 20 #[.val (.long q1), .second] []))
      refine own_via (fun t k => XS.lloadN X3.here hx rfl (hb hby d3_20) rfl k) ?_
      show own_G p e below _ (T3.setTop (mkF m 21 #[.val (.long q1), .second] [(.long q1)]))
      refine own_via (fun t k => XS.iconst X3.here hx rfl (hb hby d3_21) k) ?_
      show own_G p e below _ (T3.setTop (mkF m 22 #[.val (.long q1), .second] [(.int (2 : Int32)), (.long q1)]))
      obtain ⟨_, _, ⟨T5, L5, k5, n5⟩, -, X5, ⟨Lc5, hQ5, l5, y5, z5⟩, st5⟩ := Jvm.LawKit.callS X3 hx (y := (⟨"com/example/fee_simple/feesimple/cli/AsciiWordsMarksNotDigitsPinLaw", "isDigitAt", "(JI)Z"⟩ : MethodName)) hown (mvT hZ (hw _ (List.mem_of_getElem? (i := 15) rfl))) (mvT hZ (hw _ (List.mem_of_getElem? (i := 16) rfl))) (mvT hZ (hw _ (List.mem_of_getElem? (i := 3) rfl))) (mvT hZ (hw _ (List.mem_of_getElem? (i := 17) rfl))) (by decide) (backOf (W := 0) (rm4 l Z a0 hw [] q1 (2 : Int32)  h0 n0 Z0 ) hZ (hw _ (List.mem_of_getElem? (i := 17) rfl)) (hw _ (List.mem_of_getElem? (i := 3) rfl)) (by decide) (by decide)) (g := (mkF m 22 #[.val (.long q1), .second] [(.int (2 : Int32)), (.long q1)])) rfl (by rw [hml]; rfl) (argsL := [(.long q1), (.int (2 : Int32))]) (rest := []) (lenOf pd_rm3_0 rfl) rfl (by show 2 * 0 + _ ≤ _; exact Nat.le_of_eq rfl) (hb hby d3_22) (fun _ _ => ⟨rfl, e3, (by decide : 0 + 0 ≤ _), (by decide : 0 + 0 ≤ _)⟩)
      dsimp only [Pt.U, Pt.locs, Pt.cells, Pt.slots] at X5 l5 y5 z5 st5 hQ5
      subst l5 y5 z5
      obtain ⟨rfl, N5q, e5⟩ := hQ5
      have N5 := Fr.app N3 N5q
      refine own_via st5 ?_
      show own_G p e below _ (T5.setTop (mkF m 25 #[.val (.long q1), .second] [(.int (own_isd q1 (2 : Int32)))]))
      by_cases c25_6 : (own_isd q1 (2 : Int32)) = (0 : Int32)
      · skip
        refine own_via (fun t k => XS.ifNo X5.here hx rfl (hb hby d3_25) rfl ((if0 _ _).trans (teq c25_6).2) k) ?_
        show own_G p e below _ (T5.setTop (mkF m 28 #[.val (.long q1), .second] []))
        refine own_via (fun t k => XS.iconst X5.here hx rfl (hb hby d3_28) k) ?_
        show own_G p e below _ (T5.setTop (mkF m 29 #[.val (.long q1), .second] [(.int (2 : Int32))]))
        obtain ⟨fs, hr, hrun, hended, hW, hsame⟩ := X5.leave (v := some (.int (2 : Int32))) (fun h => by rw [Bd.returns] at h; cases h)
        refine ⟨_, _, retOut X5 hx Bd.returns rfl (Or.inl ⟨rfl, Or.inl rfl, _, rfl⟩) (hb hby d3_29) hr, hrun, hended, _, _, rfl, ?_, ⟨_, rfl⟩, hW, hsame.mono (by decide) (by decide)⟩
        show rm3_Q Z q1 h0 n0 _ T5.heap _
        rw [e5]
        exact ⟨by simp only [own_fnd, if_neg c5_2, if_neg c15_4, if_pos c25_6], N5, rfl⟩
      · skip
        refine own_via (fun t k => XS.ifYes X5.here hx rfl (pc0 := 25) (pc' := 30) rfl (hb hby d3_25) rfl ((if0 _ _).trans (feq c25_6).2) (by decide) (by decide) k) ?_
        show own_G p e below _ (T5.setTop (mkF m 30 #[.val (.long q1), .second] []))
        refine own_via (fun t k => XS.lloadN X5.here hx rfl (hb hby d3_30) rfl k) ?_
        show own_G p e below _ (T5.setTop (mkF m 31 #[.val (.long q1), .second] [(.long q1)]))
        refine own_via (fun t k => XS.iconst X5.here hx rfl (hb hby d3_31) k) ?_
        show own_G p e below _ (T5.setTop (mkF m 32 #[.val (.long q1), .second] [(.int (3 : Int32)), (.long q1)]))
        obtain ⟨_, _, ⟨T7, L7, k7, n7⟩, -, X7, ⟨Lc7, hQ7, l7, y7, z7⟩, st7⟩ := Jvm.LawKit.callS X5 hx (y := (⟨"com/example/fee_simple/feesimple/cli/AsciiWordsMarksNotDigitsPinLaw", "isDigitAt", "(JI)Z"⟩ : MethodName)) hown (mvT hZ (hw _ (List.mem_of_getElem? (i := 15) rfl))) (mvT hZ (hw _ (List.mem_of_getElem? (i := 16) rfl))) (mvT hZ (hw _ (List.mem_of_getElem? (i := 3) rfl))) (mvT hZ (hw _ (List.mem_of_getElem? (i := 17) rfl))) (by decide) (backOf (W := 0) (rm4 l Z a0 hw [] q1 (3 : Int32)  h0 n0 Z0 ) hZ (hw _ (List.mem_of_getElem? (i := 17) rfl)) (hw _ (List.mem_of_getElem? (i := 3) rfl)) (by decide) (by decide)) (g := (mkF m 32 #[.val (.long q1), .second] [(.int (3 : Int32)), (.long q1)])) rfl (by rw [hml]; rfl) (argsL := [(.long q1), (.int (3 : Int32))]) (rest := []) (lenOf pd_rm3_0 rfl) rfl (by show 2 * 0 + _ ≤ _; exact Nat.le_of_eq rfl) (hb hby d3_32) (fun _ _ => ⟨rfl, e5, (by decide : 0 + 0 ≤ _), (by decide : 0 + 0 ≤ _)⟩)
        dsimp only [Pt.U, Pt.locs, Pt.cells, Pt.slots] at X7 l7 y7 z7 st7 hQ7
        subst l7 y7 z7
        obtain ⟨rfl, N7q, e7⟩ := hQ7
        have N7 := Fr.app N5 N7q
        refine own_via st7 ?_
        show own_G p e below _ (T7.setTop (mkF m 35 #[.val (.long q1), .second] [(.int (own_isd q1 (3 : Int32)))]))
        by_cases c35_8 : (own_isd q1 (3 : Int32)) = (0 : Int32)
        · skip
          refine own_via (fun t k => XS.ifNo X7.here hx rfl (hb hby d3_35) rfl ((if0 _ _).trans (teq c35_8).2) k) ?_
          show own_G p e below _ (T7.setTop (mkF m 38 #[.val (.long q1), .second] []))
          refine own_via (fun t k => XS.iconst X7.here hx rfl (hb hby d3_38) k) ?_
          show own_G p e below _ (T7.setTop (mkF m 39 #[.val (.long q1), .second] [(.int (3 : Int32))]))
          obtain ⟨fs, hr, hrun, hended, hW, hsame⟩ := X7.leave (v := some (.int (3 : Int32))) (fun h => by rw [Bd.returns] at h; cases h)
          refine ⟨_, _, retOut X7 hx Bd.returns rfl (Or.inl ⟨rfl, Or.inl rfl, _, rfl⟩) (hb hby d3_39) hr, hrun, hended, _, _, rfl, ?_, ⟨_, rfl⟩, hW, hsame.mono (by decide) (by decide)⟩
          show rm3_Q Z q1 h0 n0 _ T7.heap _
          rw [e7]
          exact ⟨by simp only [own_fnd, if_neg c5_2, if_neg c15_4, if_neg c25_6, if_pos c35_8], N7, rfl⟩
        · skip
          refine own_via (fun t k => XS.ifYes X7.here hx rfl (pc0 := 35) (pc' := 40) rfl (hb hby d3_35) rfl ((if0 _ _).trans (feq c35_8).2) (by decide) (by decide) k) ?_
          show own_G p e below _ (T7.setTop (mkF m 40 #[.val (.long q1), .second] []))
          refine own_via (fun t k => XS.lloadN X7.here hx rfl (hb hby d3_40) rfl k) ?_
          show own_G p e below _ (T7.setTop (mkF m 41 #[.val (.long q1), .second] [(.long q1)]))
          refine own_via (fun t k => XS.iconst X7.here hx rfl (hb hby d3_41) k) ?_
          show own_G p e below _ (T7.setTop (mkF m 42 #[.val (.long q1), .second] [(.int (4 : Int32)), (.long q1)]))
          obtain ⟨_, _, ⟨T9, L9, k9, n9⟩, -, X9, ⟨Lc9, hQ9, l9, y9, z9⟩, st9⟩ := Jvm.LawKit.callS X7 hx (y := (⟨"com/example/fee_simple/feesimple/cli/AsciiWordsMarksNotDigitsPinLaw", "isDigitAt", "(JI)Z"⟩ : MethodName)) hown (mvT hZ (hw _ (List.mem_of_getElem? (i := 15) rfl))) (mvT hZ (hw _ (List.mem_of_getElem? (i := 16) rfl))) (mvT hZ (hw _ (List.mem_of_getElem? (i := 3) rfl))) (mvT hZ (hw _ (List.mem_of_getElem? (i := 17) rfl))) (by decide) (backOf (W := 0) (rm4 l Z a0 hw [] q1 (4 : Int32)  h0 n0 Z0 ) hZ (hw _ (List.mem_of_getElem? (i := 17) rfl)) (hw _ (List.mem_of_getElem? (i := 3) rfl)) (by decide) (by decide)) (g := (mkF m 42 #[.val (.long q1), .second] [(.int (4 : Int32)), (.long q1)])) rfl (by rw [hml]; rfl) (argsL := [(.long q1), (.int (4 : Int32))]) (rest := []) (lenOf pd_rm3_0 rfl) rfl (by show 2 * 0 + _ ≤ _; exact Nat.le_of_eq rfl) (hb hby d3_42) (fun _ _ => ⟨rfl, e7, (by decide : 0 + 0 ≤ _), (by decide : 0 + 0 ≤ _)⟩)
          dsimp only [Pt.U, Pt.locs, Pt.cells, Pt.slots] at X9 l9 y9 z9 st9 hQ9
          subst l9 y9 z9
          obtain ⟨rfl, N9q, e9⟩ := hQ9
          have N9 := Fr.app N7 N9q
          refine own_via st9 ?_
          show own_G p e below _ (T9.setTop (mkF m 45 #[.val (.long q1), .second] [(.int (own_isd q1 (4 : Int32)))]))
          by_cases c45_10 : (own_isd q1 (4 : Int32)) = (0 : Int32)
          · skip
            refine own_via (fun t k => XS.ifNo X9.here hx rfl (hb hby d3_45) rfl ((if0 _ _).trans (teq c45_10).2) k) ?_
            show own_G p e below _ (T9.setTop (mkF m 48 #[.val (.long q1), .second] []))
            refine own_via (fun t k => XS.iconst X9.here hx rfl (hb hby d3_48) k) ?_
            show own_G p e below _ (T9.setTop (mkF m 49 #[.val (.long q1), .second] [(.int (4 : Int32))]))
            obtain ⟨fs, hr, hrun, hended, hW, hsame⟩ := X9.leave (v := some (.int (4 : Int32))) (fun h => by rw [Bd.returns] at h; cases h)
            refine ⟨_, _, retOut X9 hx Bd.returns rfl (Or.inl ⟨rfl, Or.inl rfl, _, rfl⟩) (hb hby d3_49) hr, hrun, hended, _, _, rfl, ?_, ⟨_, rfl⟩, hW, hsame.mono (by decide) (by decide)⟩
            show rm3_Q Z q1 h0 n0 _ T9.heap _
            rw [e9]
            exact ⟨by simp only [own_fnd, if_neg c5_2, if_neg c15_4, if_neg c25_6, if_neg c35_8, if_pos c45_10], N9, rfl⟩
          · skip
            refine own_via (fun t k => XS.ifYes X9.here hx rfl (pc0 := 45) (pc' := 50) rfl (hb hby d3_45) rfl ((if0 _ _).trans (feq c45_10).2) (by decide) (by decide) k) ?_
            show own_G p e below _ (T9.setTop (mkF m 50 #[.val (.long q1), .second] []))
            refine own_via (fun t k => XS.lloadN X9.here hx rfl (hb hby d3_50) rfl k) ?_
            show own_G p e below _ (T9.setTop (mkF m 51 #[.val (.long q1), .second] [(.long q1)]))
            refine own_via (fun t k => XS.iconst X9.here hx rfl (hb hby d3_51) k) ?_
            show own_G p e below _ (T9.setTop (mkF m 52 #[.val (.long q1), .second] [(.int (5 : Int32)), (.long q1)]))
            obtain ⟨_, _, ⟨T11, L11, k11, n11⟩, -, X11, ⟨Lc11, hQ11, l11, y11, z11⟩, st11⟩ := Jvm.LawKit.callS X9 hx (y := (⟨"com/example/fee_simple/feesimple/cli/AsciiWordsMarksNotDigitsPinLaw", "isDigitAt", "(JI)Z"⟩ : MethodName)) hown (mvT hZ (hw _ (List.mem_of_getElem? (i := 15) rfl))) (mvT hZ (hw _ (List.mem_of_getElem? (i := 16) rfl))) (mvT hZ (hw _ (List.mem_of_getElem? (i := 3) rfl))) (mvT hZ (hw _ (List.mem_of_getElem? (i := 17) rfl))) (by decide) (backOf (W := 0) (rm4 l Z a0 hw [] q1 (5 : Int32)  h0 n0 Z0 ) hZ (hw _ (List.mem_of_getElem? (i := 17) rfl)) (hw _ (List.mem_of_getElem? (i := 3) rfl)) (by decide) (by decide)) (g := (mkF m 52 #[.val (.long q1), .second] [(.int (5 : Int32)), (.long q1)])) rfl (by rw [hml]; rfl) (argsL := [(.long q1), (.int (5 : Int32))]) (rest := []) (lenOf pd_rm3_0 rfl) rfl (by show 2 * 0 + _ ≤ _; exact Nat.le_of_eq rfl) (hb hby d3_52) (fun _ _ => ⟨rfl, e9, (by decide : 0 + 0 ≤ _), (by decide : 0 + 0 ≤ _)⟩)
            dsimp only [Pt.U, Pt.locs, Pt.cells, Pt.slots] at X11 l11 y11 z11 st11 hQ11
            subst l11 y11 z11
            obtain ⟨rfl, N11q, e11⟩ := hQ11
            have N11 := Fr.app N9 N11q
            refine own_via st11 ?_
            show own_G p e below _ (T11.setTop (mkF m 55 #[.val (.long q1), .second] [(.int (own_isd q1 (5 : Int32)))]))
            by_cases c55_12 : (own_isd q1 (5 : Int32)) = (0 : Int32)
            · skip
              refine own_via (fun t k => XS.ifNo X11.here hx rfl (hb hby d3_55) rfl ((if0 _ _).trans (teq c55_12).2) k) ?_
              show own_G p e below _ (T11.setTop (mkF m 58 #[.val (.long q1), .second] []))
              refine own_via (fun t k => XS.iconst X11.here hx rfl (hb hby d3_58) k) ?_
              show own_G p e below _ (T11.setTop (mkF m 59 #[.val (.long q1), .second] [(.int (5 : Int32))]))
              obtain ⟨fs, hr, hrun, hended, hW, hsame⟩ := X11.leave (v := some (.int (5 : Int32))) (fun h => by rw [Bd.returns] at h; cases h)
              refine ⟨_, _, retOut X11 hx Bd.returns rfl (Or.inl ⟨rfl, Or.inl rfl, _, rfl⟩) (hb hby d3_59) hr, hrun, hended, _, _, rfl, ?_, ⟨_, rfl⟩, hW, hsame.mono (by decide) (by decide)⟩
              show rm3_Q Z q1 h0 n0 _ T11.heap _
              rw [e11]
              exact ⟨by simp only [own_fnd, if_neg c5_2, if_neg c15_4, if_neg c25_6, if_neg c35_8, if_neg c45_10, if_pos c55_12], N11, rfl⟩
            · skip
              refine own_via (fun t k => XS.ifYes X11.here hx rfl (pc0 := 55) (pc' := 60) rfl (hb hby d3_55) rfl ((if0 _ _).trans (feq c55_12).2) (by decide) (by decide) k) ?_
              show own_G p e below _ (T11.setTop (mkF m 60 #[.val (.long q1), .second] []))
              refine own_via (fun t k => XS.lloadN X11.here hx rfl (hb hby d3_60) rfl k) ?_
              show own_G p e below _ (T11.setTop (mkF m 61 #[.val (.long q1), .second] [(.long q1)]))
              refine own_via (fun t k => XS.bipush X11.here hx rfl (hb hby d3_61) k) ?_
              show own_G p e below _ (T11.setTop (mkF m 63 #[.val (.long q1), .second] [(.int (6 : Int32)), (.long q1)]))
              obtain ⟨_, _, ⟨T13, L13, k13, n13⟩, -, X13, ⟨Lc13, hQ13, l13, y13, z13⟩, st13⟩ := Jvm.LawKit.callS X11 hx (y := (⟨"com/example/fee_simple/feesimple/cli/AsciiWordsMarksNotDigitsPinLaw", "isDigitAt", "(JI)Z"⟩ : MethodName)) hown (mvT hZ (hw _ (List.mem_of_getElem? (i := 15) rfl))) (mvT hZ (hw _ (List.mem_of_getElem? (i := 16) rfl))) (mvT hZ (hw _ (List.mem_of_getElem? (i := 3) rfl))) (mvT hZ (hw _ (List.mem_of_getElem? (i := 17) rfl))) (by decide) (backOf (W := 0) (rm4 l Z a0 hw [] q1 (6 : Int32)  h0 n0 Z0 ) hZ (hw _ (List.mem_of_getElem? (i := 17) rfl)) (hw _ (List.mem_of_getElem? (i := 3) rfl)) (by decide) (by decide)) (g := (mkF m 63 #[.val (.long q1), .second] [(.int (6 : Int32)), (.long q1)])) rfl (by rw [hml]; rfl) (argsL := [(.long q1), (.int (6 : Int32))]) (rest := []) (lenOf pd_rm3_0 rfl) rfl (by show 2 * 0 + _ ≤ _; exact Nat.le_of_eq rfl) (hb hby d3_63) (fun _ _ => ⟨rfl, e11, (by decide : 0 + 0 ≤ _), (by decide : 0 + 0 ≤ _)⟩)
              dsimp only [Pt.U, Pt.locs, Pt.cells, Pt.slots] at X13 l13 y13 z13 st13 hQ13
              subst l13 y13 z13
              obtain ⟨rfl, N13q, e13⟩ := hQ13
              have N13 := Fr.app N11 N13q
              refine own_via st13 ?_
              show own_G p e below _ (T13.setTop (mkF m 66 #[.val (.long q1), .second] [(.int (own_isd q1 (6 : Int32)))]))
              by_cases c66_14 : (own_isd q1 (6 : Int32)) = (0 : Int32)
              · skip
                refine own_via (fun t k => XS.ifNo X13.here hx rfl (hb hby d3_66) rfl ((if0 _ _).trans (teq c66_14).2) k) ?_
                show own_G p e below _ (T13.setTop (mkF m 69 #[.val (.long q1), .second] []))
                refine own_via (fun t k => XS.bipush X13.here hx rfl (hb hby d3_69) k) ?_
                show own_G p e below _ (T13.setTop (mkF m 71 #[.val (.long q1), .second] [(.int (6 : Int32))]))
                obtain ⟨fs, hr, hrun, hended, hW, hsame⟩ := X13.leave (v := some (.int (6 : Int32))) (fun h => by rw [Bd.returns] at h; cases h)
                refine ⟨_, _, retOut X13 hx Bd.returns rfl (Or.inl ⟨rfl, Or.inl rfl, _, rfl⟩) (hb hby d3_71) hr, hrun, hended, _, _, rfl, ?_, ⟨_, rfl⟩, hW, hsame.mono (by decide) (by decide)⟩
                show rm3_Q Z q1 h0 n0 _ T13.heap _
                rw [e13]
                exact ⟨by simp only [own_fnd, if_neg c5_2, if_neg c15_4, if_neg c25_6, if_neg c35_8, if_neg c45_10, if_neg c55_12, if_pos c66_14], N13, rfl⟩
              · skip
                refine own_via (fun t k => XS.ifYes X13.here hx rfl (pc0 := 66) (pc' := 72) rfl (hb hby d3_66) rfl ((if0 _ _).trans (feq c66_14).2) (by decide) (by decide) k) ?_
                show own_G p e below _ (T13.setTop (mkF m 72 #[.val (.long q1), .second] []))
                refine own_via (fun t k => XS.lloadN X13.here hx rfl (hb hby d3_72) rfl k) ?_
                show own_G p e below _ (T13.setTop (mkF m 73 #[.val (.long q1), .second] [(.long q1)]))
                refine own_via (fun t k => XS.bipush X13.here hx rfl (hb hby d3_73) k) ?_
                show own_G p e below _ (T13.setTop (mkF m 75 #[.val (.long q1), .second] [(.int (7 : Int32)), (.long q1)]))
                obtain ⟨_, _, ⟨T15, L15, k15, n15⟩, -, X15, ⟨Lc15, hQ15, l15, y15, z15⟩, st15⟩ := Jvm.LawKit.callS X13 hx (y := (⟨"com/example/fee_simple/feesimple/cli/AsciiWordsMarksNotDigitsPinLaw", "isDigitAt", "(JI)Z"⟩ : MethodName)) hown (mvT hZ (hw _ (List.mem_of_getElem? (i := 15) rfl))) (mvT hZ (hw _ (List.mem_of_getElem? (i := 16) rfl))) (mvT hZ (hw _ (List.mem_of_getElem? (i := 3) rfl))) (mvT hZ (hw _ (List.mem_of_getElem? (i := 17) rfl))) (by decide) (backOf (W := 0) (rm4 l Z a0 hw [] q1 (7 : Int32)  h0 n0 Z0 ) hZ (hw _ (List.mem_of_getElem? (i := 17) rfl)) (hw _ (List.mem_of_getElem? (i := 3) rfl)) (by decide) (by decide)) (g := (mkF m 75 #[.val (.long q1), .second] [(.int (7 : Int32)), (.long q1)])) rfl (by rw [hml]; rfl) (argsL := [(.long q1), (.int (7 : Int32))]) (rest := []) (lenOf pd_rm3_0 rfl) rfl (by show 2 * 0 + _ ≤ _; exact Nat.le_of_eq rfl) (hb hby d3_75) (fun _ _ => ⟨rfl, e13, (by decide : 0 + 0 ≤ _), (by decide : 0 + 0 ≤ _)⟩)
                dsimp only [Pt.U, Pt.locs, Pt.cells, Pt.slots] at X15 l15 y15 z15 st15 hQ15
                subst l15 y15 z15
                obtain ⟨rfl, N15q, e15⟩ := hQ15
                have N15 := Fr.app N13 N15q
                refine own_via st15 ?_
                show own_G p e below _ (T15.setTop (mkF m 78 #[.val (.long q1), .second] [(.int (own_isd q1 (7 : Int32)))]))
                by_cases c78_16 : (own_isd q1 (7 : Int32)) = (0 : Int32)
                · skip
                  refine own_via (fun t k => XS.ifNo X15.here hx rfl (hb hby d3_78) rfl ((if0 _ _).trans (teq c78_16).2) k) ?_
                  show own_G p e below _ (T15.setTop (mkF m 81 #[.val (.long q1), .second] []))
                  refine own_via (fun t k => XS.bipush X15.here hx rfl (hb hby d3_81) k) ?_
                  show own_G p e below _ (T15.setTop (mkF m 83 #[.val (.long q1), .second] [(.int (7 : Int32))]))
                  obtain ⟨fs, hr, hrun, hended, hW, hsame⟩ := X15.leave (v := some (.int (7 : Int32))) (fun h => by rw [Bd.returns] at h; cases h)
                  refine ⟨_, _, retOut X15 hx Bd.returns rfl (Or.inl ⟨rfl, Or.inl rfl, _, rfl⟩) (hb hby d3_83) hr, hrun, hended, _, _, rfl, ?_, ⟨_, rfl⟩, hW, hsame.mono (by decide) (by decide)⟩
                  show rm3_Q Z q1 h0 n0 _ T15.heap _
                  rw [e15]
                  exact ⟨by simp only [own_fnd, if_neg c5_2, if_neg c15_4, if_neg c25_6, if_neg c35_8, if_neg c45_10, if_neg c55_12, if_neg c66_14, if_pos c78_16], N15, rfl⟩
                · skip
                  refine own_via (fun t k => XS.ifYes X15.here hx rfl (pc0 := 78) (pc' := 84) rfl (hb hby d3_78) rfl ((if0 _ _).trans (feq c78_16).2) (by decide) (by decide) k) ?_
                  show own_G p e below _ (T15.setTop (mkF m 84 #[.val (.long q1), .second] []))
                  refine own_via (fun t k => XS.bipush X15.here hx rfl (hb hby d3_84) k) ?_
                  show own_G p e below _ (T15.setTop (mkF m 86 #[.val (.long q1), .second] [(.int (8 : Int32))]))
                  obtain ⟨fs, hr, hrun, hended, hW, hsame⟩ := X15.leave (v := some (.int (8 : Int32))) (fun h => by rw [Bd.returns] at h; cases h)
                  refine ⟨_, _, retOut X15 hx Bd.returns rfl (Or.inl ⟨rfl, Or.inl rfl, _, rfl⟩) (hb hby d3_86) hr, hrun, hended, _, _, rfl, ?_, ⟨_, rfl⟩, hW, hsame.mono (by decide) (by decide)⟩
                  show rm3_Q Z q1 h0 n0 _ T15.heap _
                  rw [e15]
                  exact ⟨by simp only [own_fnd, if_neg c5_2, if_neg c15_4, if_neg c25_6, if_neg c35_8, if_neg c45_10, if_neg c55_12, if_neg c66_14, if_neg c78_16], N15, rfl⟩

theorem d5_0 : decode prog_10_method_5_code 0 = .ok (.lload_n 0, 1) := by decide +kernel
theorem d5_1 : decode prog_10_method_5_code 1 = .ok (.ldc2_w 27, 3) := by decide +kernel
theorem d5_4 : decode prog_10_method_5_code 4 = .ok (.land, 1) := by decide +kernel
theorem d5_5 : decode prog_10_method_5_code 5 = .ok (.ldc2_w 29, 3) := by decide +kernel
theorem d5_8 : decode prog_10_method_5_code 8 = .ok (.lxor, 1) := by decide +kernel
theorem d5_9 : decode prog_10_method_5_code 9 = .ok (.lstore_n 2, 1) := by decide +kernel
theorem d5_10 : decode prog_10_method_5_code 10 = .ok (.lload_n 0, 1) := by decide +kernel
theorem d5_11 : decode prog_10_method_5_code 11 = .ok (.ldc2_w 31, 3) := by decide +kernel
theorem d5_14 : decode prog_10_method_5_code 14 = .ok (.ladd, 1) := by decide +kernel
theorem d5_15 : decode prog_10_method_5_code 15 = .ok (.ldc2_w 27, 3) := by decide +kernel
theorem d5_18 : decode prog_10_method_5_code 18 = .ok (.land, 1) := by decide +kernel
theorem d5_19 : decode prog_10_method_5_code 19 = .ok (.ldc2_w 29, 3) := by decide +kernel
theorem d5_22 : decode prog_10_method_5_code 22 = .ok (.lxor, 1) := by decide +kernel
theorem d5_23 : decode prog_10_method_5_code 23 = .ok (.lstore 4, 2) := by decide +kernel
theorem d5_25 : decode prog_10_method_5_code 25 = .ok (.lload_n 2, 1) := by decide +kernel
theorem d5_26 : decode prog_10_method_5_code 26 = .ok (.lload 4, 2) := by decide +kernel
theorem d5_28 : decode prog_10_method_5_code 28 = .ok (.lor, 1) := by decide +kernel
theorem d5_29 : decode prog_10_method_5_code 29 = .ok (.lreturn, 1) := by decide +kernel
theorem rm5_pn : plainName "com/example/fee_simple/feesimple/cli/AsciiWords" = true := by first | (simp [plainName, overriddenIn]; done) | decide +kernel
theorem rm5_ef (m : MethodId) (z0 : Int64) : entryFrame m #[(.long z0)] 6 = mkF m 0 #[.val (.long z0), .second, .unset, .unset, .unset, .unset] [] := by first | (simp [entryFrame, mkF, argsToLocals, Value.category]; done) | rfl
def rm5_Q (Z : State) (q1 : Int64)  (h0 : Heap) (n0 : Nat) (v : Option Value) (h : Heap) (L : List Loc) : Prop := v = some (.long (own_mk q1)) ∧ Fr n0 L ∧ h = h0
set_option maxRecDepth 65536 in
set_option maxHeartbeats 40000000 in
theorem rm5 (l : Launch) (Z : State) (a0 : Array Value) (hw : ∀ d ∈ tables_1, d.before a0 Z = true) (ws : List Jvm.Cond) (q1 : Int64)  (h0 : Heap) (n0 : Nat) (Z0 : n0 ≤ h0.size)  :
    MetFree l (⟨"com/example/fee_simple/feesimple/cli/AsciiWords", "marksNotDigits", "(J)J"⟩ : MethodName) (head1 (Jvm.Cond.code (⟨"com/example/fee_simple/feesimple/cli/AsciiWords", "marksNotDigits", "(J)J"⟩ : MethodName) prog_10_method_5_code 6 (some .long) :: ws) ({ frames := 0, cells := 0, slots := 0, locals := 0 } : Room)) (fun a U => a = #[(.long q1)] ∧ Z.Warmed39 U.vm ∧ U.heap = h0) (fun _ _ _ _ _ => True) (fun _ U o U' => ∃ v L, o = .returned v ∧ rm5_Q Z q1 h0 n0 v U'.heap L ∧ FrameEnd U o U' L ({ frames := 0, cells := 0, slots := 0, locals := 0 } : Room).cells ({ frames := 0, cells := 0, slots := 0, locals := 0 } : Room).slots) := by
  refine MetFree.of_bodySF (plainFor_of_name rm5_pn) hisR ?_
  intro p e s m args below meth c s₁ Bd hml0 hP hK
  obtain ⟨rfl, hZ, hh⟩ := hP
  have hx := Bd.exec
  have hby := Bd.bytes
  have hml : c.maxLocals = 6 := hml0
  have hown : s.vm.findClass "com/example/fee_simple/feesimple/cli/AsciiWords" = some m.cls := findClass_of_methodNamed Bd.named
  have hnm := (name_of_methodNamed Bd.named Bd.method).1
  have X0 : Stand p l e ({ frames := 0, cells := 0, slots := 0, locals := 0 } : Room) s m #[(.long q1)] below meth c s₁ [] 0 0 := Stand.of_body Bd
  have e0 : s₁.heap = h0 := by rw [← hh, Bd.state]; rfl
  have N0 := Fr.nil n0
  refine own_via (fun t k => castTop (rm5_ef m q1) k) ?_
  show own_G p e below _ (s₁.setTop (mkF m 0 #[.val (.long q1), .second, .unset, .unset, .unset, .unset] []))
  refine own_via (fun t k => XS.lloadN X0.here hx rfl (hb hby d5_0) rfl k) ?_
  show own_G p e below _ (s₁.setTop (mkF m 1 #[.val (.long q1), .second, .unset, .unset, .unset, .unset] [(.long q1)]))
  refine own_via (fun t k => X0.ldc2Long hx hown (mvT hZ (hw _ (List.mem_of_getElem? (i := 22) rfl))) (g := (mkF m 1 #[.val (.long q1), .second, .unset, .unset, .unset, .unset] [(.long q1)])) rfl (hb hby d5_1) _ k) ?_
  show own_G p e below _ (s₁.setTop (mkF m 4 #[.val (.long q1), .second, .unset, .unset, .unset, .unset] [(.long (-1085102592571150096 : Int64)), (.long q1)]))
  refine own_via (fun t k => XS.land X0.here hx rfl (hb hby d5_4) rfl k) ?_
  show own_G p e below _ (s₁.setTop (mkF m 5 #[.val (.long q1), .second, .unset, .unset, .unset, .unset] [(.long (q1 &&& (-1085102592571150096 : Int64)))]))
  refine own_via (fun t k => X0.ldc2Long hx hown (mvT hZ (hw _ (List.mem_of_getElem? (i := 23) rfl))) (g := (mkF m 5 #[.val (.long q1), .second, .unset, .unset, .unset, .unset] [(.long (q1 &&& (-1085102592571150096 : Int64)))])) rfl (hb hby d5_5) _ k) ?_
  show own_G p e below _ (s₁.setTop (mkF m 8 #[.val (.long q1), .second, .unset, .unset, .unset, .unset] [(.long (3472328296227680304 : Int64)), (.long (q1 &&& (-1085102592571150096 : Int64)))]))
  refine own_via (fun t k => XS.lxor X0.here hx rfl (hb hby d5_8) rfl k) ?_
  show own_G p e below _ (s₁.setTop (mkF m 9 #[.val (.long q1), .second, .unset, .unset, .unset, .unset] [(.long ((q1 &&& (-1085102592571150096 : Int64)) ^^^ (3472328296227680304 : Int64)))]))
  refine own_via (fun t k => XS.lstoreN X0.here hx rfl (hb hby d5_9) rfl (l' := #[.val (.long q1), .second, .val (.long ((q1 &&& (-1085102592571150096 : Int64)) ^^^ (3472328296227680304 : Int64))), .second, .unset, .unset]) rfl k) ?_
  show own_G p e below _ (s₁.setTop (mkF m 10 #[.val (.long q1), .second, .val (.long ((q1 &&& (-1085102592571150096 : Int64)) ^^^ (3472328296227680304 : Int64))), .second, .unset, .unset] []))
  refine own_via (fun t k => XS.lloadN X0.here hx rfl (hb hby d5_10) rfl k) ?_
  show own_G p e below _ (s₁.setTop (mkF m 11 #[.val (.long q1), .second, .val (.long ((q1 &&& (-1085102592571150096 : Int64)) ^^^ (3472328296227680304 : Int64))), .second, .unset, .unset] [(.long q1)]))
  refine own_via (fun t k => X0.ldc2Long hx hown (mvT hZ (hw _ (List.mem_of_getElem? (i := 24) rfl))) (g := (mkF m 11 #[.val (.long q1), .second, .val (.long ((q1 &&& (-1085102592571150096 : Int64)) ^^^ (3472328296227680304 : Int64))), .second, .unset, .unset] [(.long q1)])) rfl (hb hby d5_11) _ k) ?_
  show own_G p e below _ (s₁.setTop (mkF m 14 #[.val (.long q1), .second, .val (.long ((q1 &&& (-1085102592571150096 : Int64)) ^^^ (3472328296227680304 : Int64))), .second, .unset, .unset] [(.long (434041037028460038 : Int64)), (.long q1)]))
  refine own_via (fun t k => XS.ladd X0.here hx rfl (hb hby d5_14) rfl k) ?_
  show own_G p e below _ (s₁.setTop (mkF m 15 #[.val (.long q1), .second, .val (.long ((q1 &&& (-1085102592571150096 : Int64)) ^^^ (3472328296227680304 : Int64))), .second, .unset, .unset] [(.long (q1 + (434041037028460038 : Int64)))]))
  refine own_via (fun t k => X0.ldc2Long hx hown (mvT hZ (hw _ (List.mem_of_getElem? (i := 22) rfl))) (g := (mkF m 15 #[.val (.long q1), .second, .val (.long ((q1 &&& (-1085102592571150096 : Int64)) ^^^ (3472328296227680304 : Int64))), .second, .unset, .unset] [(.long (q1 + (434041037028460038 : Int64)))])) rfl (hb hby d5_15) _ k) ?_
  show own_G p e below _ (s₁.setTop (mkF m 18 #[.val (.long q1), .second, .val (.long ((q1 &&& (-1085102592571150096 : Int64)) ^^^ (3472328296227680304 : Int64))), .second, .unset, .unset] [(.long (-1085102592571150096 : Int64)), (.long (q1 + (434041037028460038 : Int64)))]))
  refine own_via (fun t k => XS.land X0.here hx rfl (hb hby d5_18) rfl k) ?_
  show own_G p e below _ (s₁.setTop (mkF m 19 #[.val (.long q1), .second, .val (.long ((q1 &&& (-1085102592571150096 : Int64)) ^^^ (3472328296227680304 : Int64))), .second, .unset, .unset] [(.long ((q1 + (434041037028460038 : Int64)) &&& (-1085102592571150096 : Int64)))]))
  refine own_via (fun t k => X0.ldc2Long hx hown (mvT hZ (hw _ (List.mem_of_getElem? (i := 23) rfl))) (g := (mkF m 19 #[.val (.long q1), .second, .val (.long ((q1 &&& (-1085102592571150096 : Int64)) ^^^ (3472328296227680304 : Int64))), .second, .unset, .unset] [(.long ((q1 + (434041037028460038 : Int64)) &&& (-1085102592571150096 : Int64)))])) rfl (hb hby d5_19) _ k) ?_
  show own_G p e below _ (s₁.setTop (mkF m 22 #[.val (.long q1), .second, .val (.long ((q1 &&& (-1085102592571150096 : Int64)) ^^^ (3472328296227680304 : Int64))), .second, .unset, .unset] [(.long (3472328296227680304 : Int64)), (.long ((q1 + (434041037028460038 : Int64)) &&& (-1085102592571150096 : Int64)))]))
  refine own_via (fun t k => XS.lxor X0.here hx rfl (hb hby d5_22) rfl k) ?_
  show own_G p e below _ (s₁.setTop (mkF m 23 #[.val (.long q1), .second, .val (.long ((q1 &&& (-1085102592571150096 : Int64)) ^^^ (3472328296227680304 : Int64))), .second, .unset, .unset] [(.long (((q1 + (434041037028460038 : Int64)) &&& (-1085102592571150096 : Int64)) ^^^ (3472328296227680304 : Int64)))]))
  refine own_via (fun t k => XS.lstore X0.here hx rfl (hb hby d5_23) rfl (l' := #[.val (.long q1), .second, .val (.long ((q1 &&& (-1085102592571150096 : Int64)) ^^^ (3472328296227680304 : Int64))), .second, .val (.long (((q1 + (434041037028460038 : Int64)) &&& (-1085102592571150096 : Int64)) ^^^ (3472328296227680304 : Int64))), .second]) rfl k) ?_
  show own_G p e below _ (s₁.setTop (mkF m 25 #[.val (.long q1), .second, .val (.long ((q1 &&& (-1085102592571150096 : Int64)) ^^^ (3472328296227680304 : Int64))), .second, .val (.long (((q1 + (434041037028460038 : Int64)) &&& (-1085102592571150096 : Int64)) ^^^ (3472328296227680304 : Int64))), .second] []))
  refine own_via (fun t k => XS.lloadN X0.here hx rfl (hb hby d5_25) rfl k) ?_
  show own_G p e below _ (s₁.setTop (mkF m 26 #[.val (.long q1), .second, .val (.long ((q1 &&& (-1085102592571150096 : Int64)) ^^^ (3472328296227680304 : Int64))), .second, .val (.long (((q1 + (434041037028460038 : Int64)) &&& (-1085102592571150096 : Int64)) ^^^ (3472328296227680304 : Int64))), .second] [(.long ((q1 &&& (-1085102592571150096 : Int64)) ^^^ (3472328296227680304 : Int64)))]))
  refine own_via (fun t k => XS.lload X0.here hx rfl (hb hby d5_26) rfl k) ?_
  show own_G p e below _ (s₁.setTop (mkF m 28 #[.val (.long q1), .second, .val (.long ((q1 &&& (-1085102592571150096 : Int64)) ^^^ (3472328296227680304 : Int64))), .second, .val (.long (((q1 + (434041037028460038 : Int64)) &&& (-1085102592571150096 : Int64)) ^^^ (3472328296227680304 : Int64))), .second] [(.long (((q1 + (434041037028460038 : Int64)) &&& (-1085102592571150096 : Int64)) ^^^ (3472328296227680304 : Int64))), (.long ((q1 &&& (-1085102592571150096 : Int64)) ^^^ (3472328296227680304 : Int64)))]))
  refine own_via (fun t k => XS.lor X0.here hx rfl (hb hby d5_28) rfl k) ?_
  show own_G p e below _ (s₁.setTop (mkF m 29 #[.val (.long q1), .second, .val (.long ((q1 &&& (-1085102592571150096 : Int64)) ^^^ (3472328296227680304 : Int64))), .second, .val (.long (((q1 + (434041037028460038 : Int64)) &&& (-1085102592571150096 : Int64)) ^^^ (3472328296227680304 : Int64))), .second] [(.long (((q1 &&& (-1085102592571150096 : Int64)) ^^^ (3472328296227680304 : Int64)) ||| (((q1 + (434041037028460038 : Int64)) &&& (-1085102592571150096 : Int64)) ^^^ (3472328296227680304 : Int64))))]))
  obtain ⟨fs, hr, hrun, hended, hW, hsame⟩ := X0.leave (v := some (.long (((q1 &&& (-1085102592571150096 : Int64)) ^^^ (3472328296227680304 : Int64)) ||| (((q1 + (434041037028460038 : Int64)) &&& (-1085102592571150096 : Int64)) ^^^ (3472328296227680304 : Int64))))) (fun h => by rw [Bd.returns] at h; cases h)
  refine ⟨_, _, retOut X0 hx Bd.returns rfl (Or.inr (Or.inl ⟨rfl, rfl, _, rfl⟩)) (hb hby d5_29) hr, hrun, hended, _, _, rfl, ?_, ⟨_, rfl⟩, hW, hsame.mono (by decide) (by decide)⟩
  show rm5_Q Z q1 h0 n0 _ s₁.heap _
  rw [e0]
  exact ⟨rfl, N0, rfl⟩

theorem rm0_pn : plainName "com/example/fee_simple/feesimple/cli/AsciiWordsMarksNotDigitsPinLaw" = true := by first | (simp [plainName, overriddenIn]; done) | decide +kernel
theorem pd_rm0_0 : parseMethodDescriptor "(J)J" = some ⟨[.long], some .long⟩ := by decide +kernel
theorem pd_rm0_1 : parseMethodDescriptor "(J)I" = some ⟨[.long], some .int⟩ := by decide +kernel
theorem rm0_ef (m : MethodId) (z0 : Int64) (z1 : Int64) (z2 : Int32) : entryFrame m #[(.long z0), (.long z1), (.int z2)] maxLocals = mkF m 0 #[.val (.long z0), .second, .val (.long z1), .second, .val (.int z2), .unset, .unset, .unset, .unset, .unset, .unset, .unset, .unset, .unset, .unset, .unset, .unset] [] := by first | (simp [entryFrame, mkF, argsToLocals, Value.category, maxLocals]; done) | rfl
def rm0_Q (Z : State) (q1 : Int64) (q2 : Int64) (p3 : Int32)  (h0 : Heap) (n0 : Nat) (v : Option Value) (h : Heap) (L : List Loc) : Prop := v = some (.int 1) ∧ Fr n0 L
set_option maxRecDepth 65536 in
set_option maxHeartbeats 40000000 in
theorem rm0 (l : Launch) (Z : State) (a0 : Array Value) (hw : ∀ d ∈ tables_1, d.before a0 Z = true) (ws : List Jvm.Cond) (q1 : Int64) (q2 : Int64) (p3 : Int32)  (h0 : Heap) (n0 : Nat) (Z0 : n0 ≤ h0.size)  :
    MetFree l x (head1 (Jvm.Cond.code x code maxLocals ret :: ws) room_1) (fun a U => a = #[(.long q1), (.long q2), (.int p3)] ∧ Z.Warmed39 U.vm ∧ U.heap = h0) (fun _ _ _ _ _ => True) (fun _ U o U' => ∃ v L, o = .returned v ∧ rm0_Q Z q1 q2 p3 h0 n0 v U'.heap L ∧ FrameEnd U o U' L room_1.cells room_1.slots) := by
  refine MetFree.of_bodySF (plainFor_of_name rm0_pn) hisR ?_
  intro p e s m args below meth c s₁ Bd hml0 hP hK
  obtain ⟨rfl, hZ, hh⟩ := hP
  have hx := Bd.exec
  have hby := Bd.bytes
  have hml : c.maxLocals = 17 := hml0
  have hown : s.vm.findClass "com/example/fee_simple/feesimple/cli/AsciiWordsMarksNotDigitsPinLaw" = some m.cls := findClass_of_methodNamed Bd.named
  have hnm := (name_of_methodNamed Bd.named Bd.method).1
  have X0 : Stand p l e room_1 s m #[(.long q1), (.long q2), (.int p3)] below meth c s₁ [] 0 0 := Stand.of_body Bd
  have e0 : s₁.heap = h0 := by rw [← hh, Bd.state]; rfl
  have N0 := Fr.nil n0
  refine own_via (fun t k => castTop (rm0_ef m q1 q2 p3) k) ?_
  show own_G p e below _ (s₁.setTop (mkF m 0 #[.val (.long q1), .second, .val (.long q2), .second, .val (.int p3), .unset, .unset, .unset, .unset, .unset, .unset, .unset, .unset, .unset, .unset, .unset, .unset] []))
  refine own_via (fun t k => XS.iload X0.here hx rfl (hb hby at_0) rfl k) ?_
  show own_G p e below _ (s₁.setTop (mkF m 2 #[.val (.long q1), .second, .val (.long q2), .second, .val (.int p3), .unset, .unset, .unset, .unset, .unset, .unset, .unset, .unset, .unset, .unset, .unset, .unset] [(.int p3)]))
  refine own_via (fun t k => X0.ldcInt hx hown (mvT hZ (hw _ (List.mem_of_getElem? (i := 0) rfl))) (g := (mkF m 2 #[.val (.long q1), .second, .val (.long q2), .second, .val (.int p3), .unset, .unset, .unset, .unset, .unset, .unset, .unset, .unset, .unset, .unset, .unset, .unset] [(.int p3)])) rfl (hb hby at_2) _ k) ?_
  show own_G p e below _ (s₁.setTop (mkF m 4 #[.val (.long q1), .second, .val (.long q2), .second, .val (.int p3), .unset, .unset, .unset, .unset, .unset, .unset, .unset, .unset, .unset, .unset, .unset, .unset] [(.int (2147483647 : Int32)), (.int p3)]))
  refine own_via (fun t k => XS.iand X0.here hx rfl (hb hby at_4) rfl k) ?_
  show own_G p e below _ (s₁.setTop (mkF m 5 #[.val (.long q1), .second, .val (.long q2), .second, .val (.int p3), .unset, .unset, .unset, .unset, .unset, .unset, .unset, .unset, .unset, .unset, .unset, .unset] [(.int (p3 &&& (2147483647 : Int32)))]))
  refine own_via (fun t k => XS.bipush X0.here hx rfl (hb hby at_5) k) ?_
  show own_G p e below _ (s₁.setTop (mkF m 7 #[.val (.long q1), .second, .val (.long q2), .second, .val (.int p3), .unset, .unset, .unset, .unset, .unset, .unset, .unset, .unset, .unset, .unset, .unset, .unset] [(.int (9 : Int32)), (.int (p3 &&& (2147483647 : Int32)))]))
  refine own_via (fun t k => iremM X0 hx rfl (hb hby at_7) rfl (by decide) k) ?_
  show own_G p e below _ (s₁.setTop (mkF m 8 #[.val (.long q1), .second, .val (.long q2), .second, .val (.int p3), .unset, .unset, .unset, .unset, .unset, .unset, .unset, .unset, .unset, .unset, .unset, .unset] [(.int ((p3 &&& (2147483647 : Int32)) % (9 : Int32)))]))
  generalize hg_kk : ((p3 &&& (2147483647 : Int32)) % (9 : Int32)) = kk
  refine own_via (fun t k => XS.istore X0.here hx rfl (hb hby at_8) rfl (l' := #[.val (.long q1), .second, .val (.long q2), .second, .val (.int p3), .val (.int kk), .unset, .unset, .unset, .unset, .unset, .unset, .unset, .unset, .unset, .unset, .unset]) rfl k) ?_
  show own_G p e below _ (s₁.setTop (mkF m 10 #[.val (.long q1), .second, .val (.long q2), .second, .val (.int p3), .val (.int kk), .unset, .unset, .unset, .unset, .unset, .unset, .unset, .unset, .unset, .unset, .unset] []))
  refine own_via (fun t k => XS.lloadN X0.here hx rfl (hb hby at_10) rfl k) ?_
  show own_G p e below _ (s₁.setTop (mkF m 11 #[.val (.long q1), .second, .val (.long q2), .second, .val (.int p3), .val (.int kk), .unset, .unset, .unset, .unset, .unset, .unset, .unset, .unset, .unset, .unset, .unset] [(.long q2)]))
  obtain ⟨_, _, ⟨T2, L2, k2, n2⟩, -, X2, ⟨Lc2, hQ2, l2, y2, z2⟩, st2⟩ := Jvm.LawKit.callS X0 hx (y := (⟨"com/example/fee_simple/feesimple/cli/AsciiWordsMarksNotDigitsPinLaw", "digitWord", "(J)J"⟩ : MethodName)) hown (mvT hZ (hw _ (List.mem_of_getElem? (i := 1) rfl))) (mvT hZ (hw _ (List.mem_of_getElem? (i := 2) rfl))) (mvT hZ (hw _ (List.mem_of_getElem? (i := 3) rfl))) (mvT hZ (hw _ (List.mem_of_getElem? (i := 4) rfl))) (by decide) (backOf (W := 0) (rm1 l Z a0 hw [] q2 h0 n0 Z0) hZ (hw _ (List.mem_of_getElem? (i := 4) rfl)) (hw _ (List.mem_of_getElem? (i := 3) rfl)) (by decide) (by decide)) (g := (mkF m 11 #[.val (.long q1), .second, .val (.long q2), .second, .val (.int p3), .val (.int kk), .unset, .unset, .unset, .unset, .unset, .unset, .unset, .unset, .unset, .unset, .unset] [(.long q2)])) rfl (by rw [hml]; rfl) (argsL := [(.long q2)]) (rest := []) (lenOf pd_rm0_0 rfl) rfl (by show 2 * 0 + _ ≤ _; exact Nat.le_of_eq rfl) (hb hby at_11) (fun _ _ => ⟨rfl, e0, (by decide : 0 + 0 ≤ _), (by decide : 0 + 0 ≤ _)⟩)
  dsimp only [Pt.U, Pt.locs, Pt.cells, Pt.slots] at X2 l2 y2 z2 st2 hQ2
  subst l2 y2 z2
  obtain ⟨r2, rfl, N2q, e2⟩ := hQ2
  have N2 := Fr.app N0 N2q
  refine own_via st2 ?_
  show own_G p e below _ (T2.setTop (mkF m 14 #[.val (.long q1), .second, .val (.long q2), .second, .val (.int p3), .val (.int kk), .unset, .unset, .unset, .unset, .unset, .unset, .unset, .unset, .unset, .unset, .unset] [(.long r2)]))
  refine own_via (fun t k => XS.lstore X2.here hx rfl (hb hby at_14) rfl (l' := #[.val (.long q1), .second, .val (.long q2), .second, .val (.int p3), .val (.int kk), .val (.long r2), .second, .unset, .unset, .unset, .unset, .unset, .unset, .unset, .unset, .unset]) rfl k) ?_
  show own_G p e below _ (T2.setTop (mkF m 16 #[.val (.long q1), .second, .val (.long q2), .second, .val (.int p3), .val (.int kk), .val (.long r2), .second, .unset, .unset, .unset, .unset, .unset, .unset, .unset, .unset, .unset] []))
  refine own_via (fun t k => XS.iload X2.here hx rfl (hb hby at_16) rfl k) ?_
  show own_G p e below _ (T2.setTop (mkF m 18 #[.val (.long q1), .second, .val (.long q2), .second, .val (.int p3), .val (.int kk), .val (.long r2), .second, .unset, .unset, .unset, .unset, .unset, .unset, .unset, .unset, .unset] [(.int kk)]))
  refine own_via (fun t k => XS.bipush X2.here hx rfl (hb hby at_18) k) ?_
  show own_G p e below _ (T2.setTop (mkF m 20 #[.val (.long q1), .second, .val (.long q2), .second, .val (.int p3), .val (.int kk), .val (.long r2), .second, .unset, .unset, .unset, .unset, .unset, .unset, .unset, .unset, .unset] [(.int (8 : Int32)), (.int kk)]))
  by_cases c20_3 : kk = (8 : Int32)
  · skip
    refine own_via (fun t k => XS.icmpNo X2.here hx rfl (hb hby at_20) rfl (teq c20_3).2 k) ?_
    show own_G p e below _ (T2.setTop (mkF m 23 #[.val (.long q1), .second, .val (.long q2), .second, .val (.int p3), .val (.int kk), .val (.long r2), .second, .unset, .unset, .unset, .unset, .unset, .unset, .unset, .unset, .unset] []))
    refine own_via (fun t k => X2.ldc2Long hx hown (mvT hZ (hw _ (List.mem_of_getElem? (i := 11) rfl))) (g := (mkF m 23 #[.val (.long q1), .second, .val (.long q2), .second, .val (.int p3), .val (.int kk), .val (.long r2), .second, .unset, .unset, .unset, .unset, .unset, .unset, .unset, .unset, .unset] [])) rfl (hb hby at_23) _ k) ?_
    show own_G p e below _ (T2.setTop (mkF m 26 #[.val (.long q1), .second, .val (.long q2), .second, .val (.int p3), .val (.int kk), .val (.long r2), .second, .unset, .unset, .unset, .unset, .unset, .unset, .unset, .unset, .unset] [(.long (-1 : Int64))]))
    refine own_via (fun t k => XS.goto X2.here hx rfl (pc0 := 26) (pc' := 38) rfl (hb hby at_26) (by decide) (by decide) k) ?_
    show own_G p e below _ (T2.setTop (mkF m 38 #[.val (.long q1), .second, .val (.long q2), .second, .val (.int p3), .val (.int kk), .val (.long r2), .second, .unset, .unset, .unset, .unset, .unset, .unset, .unset, .unset, .unset] [(.long (-1 : Int64))]))
    refine own_via (fun t k => XS.lstore X2.here hx rfl (hb hby at_38) rfl (l' := #[.val (.long q1), .second, .val (.long q2), .second, .val (.int p3), .val (.int kk), .val (.long r2), .second, .val (.long (-1 : Int64)), .second, .unset, .unset, .unset, .unset, .unset, .unset, .unset]) rfl k) ?_
    show own_G p e below _ (T2.setTop (mkF m 40 #[.val (.long q1), .second, .val (.long q2), .second, .val (.int p3), .val (.int kk), .val (.long r2), .second, .val (.long (-1 : Int64)), .second, .unset, .unset, .unset, .unset, .unset, .unset, .unset] []))
    refine own_via (fun t k => XS.lloadN X2.here hx rfl (hb hby at_40) rfl k) ?_
    show own_G p e below _ (T2.setTop (mkF m 41 #[.val (.long q1), .second, .val (.long q2), .second, .val (.int p3), .val (.int kk), .val (.long r2), .second, .val (.long (-1 : Int64)), .second, .unset, .unset, .unset, .unset, .unset, .unset, .unset] [(.long q1)]))
    refine own_via (fun t k => XS.lload X2.here hx rfl (hb hby at_41) rfl k) ?_
    show own_G p e below _ (T2.setTop (mkF m 43 #[.val (.long q1), .second, .val (.long q2), .second, .val (.int p3), .val (.int kk), .val (.long r2), .second, .val (.long (-1 : Int64)), .second, .unset, .unset, .unset, .unset, .unset, .unset, .unset] [(.long (-1 : Int64)), (.long q1)]))
    refine own_via (fun t k => X2.ldc2Long hx hown (mvT hZ (hw _ (List.mem_of_getElem? (i := 11) rfl))) (g := (mkF m 43 #[.val (.long q1), .second, .val (.long q2), .second, .val (.int p3), .val (.int kk), .val (.long r2), .second, .val (.long (-1 : Int64)), .second, .unset, .unset, .unset, .unset, .unset, .unset, .unset] [(.long (-1 : Int64)), (.long q1)])) rfl (hb hby at_43) _ k) ?_
    show own_G p e below _ (T2.setTop (mkF m 46 #[.val (.long q1), .second, .val (.long q2), .second, .val (.int p3), .val (.int kk), .val (.long r2), .second, .val (.long (-1 : Int64)), .second, .unset, .unset, .unset, .unset, .unset, .unset, .unset] [(.long (-1 : Int64)), (.long (-1 : Int64)), (.long q1)]))
    refine own_via (fun t k => XS.lxor X2.here hx rfl (hb hby at_46) rfl k) ?_
    show own_G p e below _ (T2.setTop (mkF m 47 #[.val (.long q1), .second, .val (.long q2), .second, .val (.int p3), .val (.int kk), .val (.long r2), .second, .val (.long (-1 : Int64)), .second, .unset, .unset, .unset, .unset, .unset, .unset, .unset] [(.long ((-1 : Int64) ^^^ (-1 : Int64))), (.long q1)]))
    refine own_via (fun t k => XS.land X2.here hx rfl (hb hby at_47) rfl k) ?_
    show own_G p e below _ (T2.setTop (mkF m 48 #[.val (.long q1), .second, .val (.long q2), .second, .val (.int p3), .val (.int kk), .val (.long r2), .second, .val (.long (-1 : Int64)), .second, .unset, .unset, .unset, .unset, .unset, .unset, .unset] [(.long (q1 &&& ((-1 : Int64) ^^^ (-1 : Int64))))]))
    refine own_via (fun t k => XS.lload X2.here hx rfl (hb hby at_48) rfl k) ?_
    show own_G p e below _ (T2.setTop (mkF m 50 #[.val (.long q1), .second, .val (.long q2), .second, .val (.int p3), .val (.int kk), .val (.long r2), .second, .val (.long (-1 : Int64)), .second, .unset, .unset, .unset, .unset, .unset, .unset, .unset] [(.long r2), (.long (q1 &&& ((-1 : Int64) ^^^ (-1 : Int64))))]))
    refine own_via (fun t k => XS.lload X2.here hx rfl (hb hby at_50) rfl k) ?_
    show own_G p e below _ (T2.setTop (mkF m 52 #[.val (.long q1), .second, .val (.long q2), .second, .val (.int p3), .val (.int kk), .val (.long r2), .second, .val (.long (-1 : Int64)), .second, .unset, .unset, .unset, .unset, .unset, .unset, .unset] [(.long (-1 : Int64)), (.long r2), (.long (q1 &&& ((-1 : Int64) ^^^ (-1 : Int64))))]))
    refine own_via (fun t k => XS.land X2.here hx rfl (hb hby at_52) rfl k) ?_
    show own_G p e below _ (T2.setTop (mkF m 53 #[.val (.long q1), .second, .val (.long q2), .second, .val (.int p3), .val (.int kk), .val (.long r2), .second, .val (.long (-1 : Int64)), .second, .unset, .unset, .unset, .unset, .unset, .unset, .unset] [(.long (r2 &&& (-1 : Int64))), (.long (q1 &&& ((-1 : Int64) ^^^ (-1 : Int64))))]))
    refine own_via (fun t k => XS.lor X2.here hx rfl (hb hby at_53) rfl k) ?_
    show own_G p e below _ (T2.setTop (mkF m 54 #[.val (.long q1), .second, .val (.long q2), .second, .val (.int p3), .val (.int kk), .val (.long r2), .second, .val (.long (-1 : Int64)), .second, .unset, .unset, .unset, .unset, .unset, .unset, .unset] [(.long ((q1 &&& ((-1 : Int64) ^^^ (-1 : Int64))) ||| (r2 &&& (-1 : Int64))))]))
    generalize hg_wd : ((q1 &&& ((-1 : Int64) ^^^ (-1 : Int64))) ||| (r2 &&& (-1 : Int64))) = wd
    refine own_via (fun t k => XS.lstore X2.here hx rfl (hb hby at_54) rfl (l' := #[.val (.long q1), .second, .val (.long q2), .second, .val (.int p3), .val (.int kk), .val (.long r2), .second, .val (.long (-1 : Int64)), .second, .val (.long wd), .second, .unset, .unset, .unset, .unset, .unset]) rfl k) ?_
    show own_G p e below _ (T2.setTop (mkF m 56 #[.val (.long q1), .second, .val (.long q2), .second, .val (.int p3), .val (.int kk), .val (.long r2), .second, .val (.long (-1 : Int64)), .second, .val (.long wd), .second, .unset, .unset, .unset, .unset, .unset] []))
    refine own_via (fun t k => XS.lload X2.here hx rfl (hb hby at_56) rfl k) ?_
    show own_G p e below _ (T2.setTop (mkF m 58 #[.val (.long q1), .second, .val (.long q2), .second, .val (.int p3), .val (.int kk), .val (.long r2), .second, .val (.long (-1 : Int64)), .second, .val (.long wd), .second, .unset, .unset, .unset, .unset, .unset] [(.long wd)]))
    obtain ⟨_, _, ⟨T5, L5, k5, n5⟩, -, X5, ⟨Lc5, hQ5, l5, y5, z5⟩, st5⟩ := Jvm.LawKit.callS X2 hx (y := (⟨"com/example/fee_simple/feesimple/cli/AsciiWordsMarksNotDigitsPinLaw", "firstNonDigit", "(J)I"⟩ : MethodName)) hown (mvT hZ (hw _ (List.mem_of_getElem? (i := 12) rfl))) (mvT hZ (hw _ (List.mem_of_getElem? (i := 13) rfl))) (mvT hZ (hw _ (List.mem_of_getElem? (i := 3) rfl))) (mvT hZ (hw _ (List.mem_of_getElem? (i := 14) rfl))) (by decide) (backOf (W := 0) (rm3 l Z a0 hw [] wd  h0 n0 Z0 ) hZ (hw _ (List.mem_of_getElem? (i := 14) rfl)) (hw _ (List.mem_of_getElem? (i := 3) rfl)) (by decide) (by decide)) (g := (mkF m 58 #[.val (.long q1), .second, .val (.long q2), .second, .val (.int p3), .val (.int kk), .val (.long r2), .second, .val (.long (-1 : Int64)), .second, .val (.long wd), .second, .unset, .unset, .unset, .unset, .unset] [(.long wd)])) rfl (by rw [hml]; rfl) (argsL := [(.long wd)]) (rest := []) (lenOf pd_rm0_1 rfl) rfl (by show 2 * 0 + _ ≤ _; exact Nat.le_of_eq rfl) (hb hby at_58) (fun _ _ => ⟨rfl, e2, (by decide : 0 + 0 ≤ _), (by decide : 0 + 0 ≤ _)⟩)
    dsimp only [Pt.U, Pt.locs, Pt.cells, Pt.slots] at X5 l5 y5 z5 st5 hQ5
    subst l5 y5 z5
    obtain ⟨rfl, N5q, e5⟩ := hQ5
    have N5 := Fr.app N2 N5q
    refine own_via st5 ?_
    show own_G p e below _ (T5.setTop (mkF m 61 #[.val (.long q1), .second, .val (.long q2), .second, .val (.int p3), .val (.int kk), .val (.long r2), .second, .val (.long (-1 : Int64)), .second, .val (.long wd), .second, .unset, .unset, .unset, .unset, .unset] [(.int (own_fnd wd))]))
    refine own_via (fun t k => XS.istore X5.here hx rfl (hb hby at_61) rfl (l' := #[.val (.long q1), .second, .val (.long q2), .second, .val (.int p3), .val (.int kk), .val (.long r2), .second, .val (.long (-1 : Int64)), .second, .val (.long wd), .second, .val (.int (own_fnd wd)), .unset, .unset, .unset, .unset]) rfl k) ?_
    show own_G p e below _ (T5.setTop (mkF m 63 #[.val (.long q1), .second, .val (.long q2), .second, .val (.int p3), .val (.int kk), .val (.long r2), .second, .val (.long (-1 : Int64)), .second, .val (.long wd), .second, .val (.int (own_fnd wd)), .unset, .unset, .unset, .unset] []))
    refine own_via (fun t k => XS.lload X5.here hx rfl (hb hby at_63) rfl k) ?_
    show own_G p e below _ (T5.setTop (mkF m 65 #[.val (.long q1), .second, .val (.long q2), .second, .val (.int p3), .val (.int kk), .val (.long r2), .second, .val (.long (-1 : Int64)), .second, .val (.long wd), .second, .val (.int (own_fnd wd)), .unset, .unset, .unset, .unset] [(.long wd)]))
    obtain ⟨_, _, ⟨T6, L6, k6, n6⟩, -, X6, ⟨Lc6, hQ6, l6, y6, z6⟩, st6⟩ := Jvm.LawKit.callS X5 hx (y := (⟨"com/example/fee_simple/feesimple/cli/AsciiWords", "marksNotDigits", "(J)J"⟩ : MethodName)) hown (mvT hZ (hw _ (List.mem_of_getElem? (i := 18) rfl))) (mvT hZ (hw _ (List.mem_of_getElem? (i := 19) rfl))) (mvT hZ (hw _ (List.mem_of_getElem? (i := 20) rfl))) (mvT hZ (hw _ (List.mem_of_getElem? (i := 21) rfl))) (by decide) (backOf (W := 0) (rm5 l Z a0 hw [] wd  h0 n0 Z0 ) hZ (hw _ (List.mem_of_getElem? (i := 21) rfl)) (hw _ (List.mem_of_getElem? (i := 20) rfl)) (by decide) (by decide)) (g := (mkF m 65 #[.val (.long q1), .second, .val (.long q2), .second, .val (.int p3), .val (.int kk), .val (.long r2), .second, .val (.long (-1 : Int64)), .second, .val (.long wd), .second, .val (.int (own_fnd wd)), .unset, .unset, .unset, .unset] [(.long wd)])) rfl (by rw [hml]; rfl) (argsL := [(.long wd)]) (rest := []) (lenOf pd_rm0_0 rfl) rfl (by show 2 * 0 + _ ≤ _; exact Nat.le_of_eq rfl) (hb hby at_65) (fun _ _ => ⟨rfl, e5, (by decide : 0 + 0 ≤ _), (by decide : 0 + 0 ≤ _)⟩)
    dsimp only [Pt.U, Pt.locs, Pt.cells, Pt.slots] at X6 l6 y6 z6 st6 hQ6
    subst l6 y6 z6
    obtain ⟨rfl, N6q, e6⟩ := hQ6
    have N6 := Fr.app N5 N6q
    refine own_via st6 ?_
    show own_G p e below _ (T6.setTop (mkF m 68 #[.val (.long q1), .second, .val (.long q2), .second, .val (.int p3), .val (.int kk), .val (.long r2), .second, .val (.long (-1 : Int64)), .second, .val (.long wd), .second, .val (.int (own_fnd wd)), .unset, .unset, .unset, .unset] [(.long (own_mk wd))]))
    refine own_via (fun t k => XS.lstore X6.here hx rfl (hb hby at_68) rfl (l' := #[.val (.long q1), .second, .val (.long q2), .second, .val (.int p3), .val (.int kk), .val (.long r2), .second, .val (.long (-1 : Int64)), .second, .val (.long wd), .second, .val (.int (own_fnd wd)), .val (.long (own_mk wd)), .second, .unset, .unset]) rfl k) ?_
    show own_G p e below _ (T6.setTop (mkF m 70 #[.val (.long q1), .second, .val (.long q2), .second, .val (.int p3), .val (.int kk), .val (.long r2), .second, .val (.long (-1 : Int64)), .second, .val (.long wd), .second, .val (.int (own_fnd wd)), .val (.long (own_mk wd)), .second, .unset, .unset] []))
    refine own_via (fun t k => XS.iload X6.here hx rfl (hb hby at_70) rfl k) ?_
    show own_G p e below _ (T6.setTop (mkF m 72 #[.val (.long q1), .second, .val (.long q2), .second, .val (.int p3), .val (.int kk), .val (.long r2), .second, .val (.long (-1 : Int64)), .second, .val (.long wd), .second, .val (.int (own_fnd wd)), .val (.long (own_mk wd)), .second, .unset, .unset] [(.int (own_fnd wd))]))
    refine own_via (fun t k => XS.bipush X6.here hx rfl (hb hby at_72) k) ?_
    show own_G p e below _ (T6.setTop (mkF m 74 #[.val (.long q1), .second, .val (.long q2), .second, .val (.int p3), .val (.int kk), .val (.long r2), .second, .val (.long (-1 : Int64)), .second, .val (.long wd), .second, .val (.int (own_fnd wd)), .val (.long (own_mk wd)), .second, .unset, .unset] [(.int (8 : Int32)), (.int (own_fnd wd))]))
    by_cases c74_7 : (own_fnd wd) = (8 : Int32)
    · skip
      refine own_via (fun t k => XS.icmpNo X6.here hx rfl (hb hby at_74) rfl (teq c74_7).2 k) ?_
      show own_G p e below _ (T6.setTop (mkF m 77 #[.val (.long q1), .second, .val (.long q2), .second, .val (.int p3), .val (.int kk), .val (.long r2), .second, .val (.long (-1 : Int64)), .second, .val (.long wd), .second, .val (.int (own_fnd wd)), .val (.long (own_mk wd)), .second, .unset, .unset] []))
      refine own_via (fun t k => XS.lload X6.here hx rfl (hb hby at_77) rfl k) ?_
      show own_G p e below _ (T6.setTop (mkF m 79 #[.val (.long q1), .second, .val (.long q2), .second, .val (.int p3), .val (.int kk), .val (.long r2), .second, .val (.long (-1 : Int64)), .second, .val (.long wd), .second, .val (.int (own_fnd wd)), .val (.long (own_mk wd)), .second, .unset, .unset] [(.long (own_mk wd))]))
      refine own_via (fun t k => XS.lconst X6.here hx rfl (hb hby at_79) k) ?_
      show own_G p e below _ (T6.setTop (mkF m 80 #[.val (.long q1), .second, .val (.long q2), .second, .val (.int p3), .val (.int kk), .val (.long r2), .second, .val (.long (-1 : Int64)), .second, .val (.long wd), .second, .val (.int (own_fnd wd)), .val (.long (own_mk wd)), .second, .unset, .unset] [(.long (0 : Int64)), (.long (own_mk wd))]))
      refine own_via (fun t k => XS.lcmp X6.here hx rfl (hb hby at_80) rfl k) ?_
      show own_G p e below _ (T6.setTop (mkF m 81 #[.val (.long q1), .second, .val (.long q2), .second, .val (.int p3), .val (.int kk), .val (.long r2), .second, .val (.long (-1 : Int64)), .second, .val (.long wd), .second, .val (.int (own_fnd wd)), .val (.long (own_mk wd)), .second, .unset, .unset] [(.int (lcmpW (own_mk wd) (0 : Int64)))]))
      by_cases c81_8 : (lcmpW (own_mk wd) (0 : Int64)) = (0 : Int32)
      · skip
        refine own_via (fun t k => XS.ifNo X6.here hx rfl (hb hby at_81) rfl ((if0 _ _).trans (teq c81_8).2) k) ?_
        show own_G p e below _ (T6.setTop (mkF m 84 #[.val (.long q1), .second, .val (.long q2), .second, .val (.int p3), .val (.int kk), .val (.long r2), .second, .val (.long (-1 : Int64)), .second, .val (.long wd), .second, .val (.int (own_fnd wd)), .val (.long (own_mk wd)), .second, .unset, .unset] []))
        refine own_via (fun t k => XS.iconst X6.here hx rfl (hb hby at_84) k) ?_
        show own_G p e below _ (T6.setTop (mkF m 85 #[.val (.long q1), .second, .val (.long q2), .second, .val (.int p3), .val (.int kk), .val (.long r2), .second, .val (.long (-1 : Int64)), .second, .val (.long wd), .second, .val (.int (own_fnd wd)), .val (.long (own_mk wd)), .second, .unset, .unset] [(.int (1 : Int32))]))
        refine own_via (fun t k => XS.goto X6.here hx rfl (pc0 := 85) (pc' := 89) rfl (hb hby at_85) (by decide) (by decide) k) ?_
        show own_G p e below _ (T6.setTop (mkF m 89 #[.val (.long q1), .second, .val (.long q2), .second, .val (.int p3), .val (.int kk), .val (.long r2), .second, .val (.long (-1 : Int64)), .second, .val (.long wd), .second, .val (.int (own_fnd wd)), .val (.long (own_mk wd)), .second, .unset, .unset] [(.int (1 : Int32))]))
        obtain ⟨fs, hr, hrun, hended, hW, hsame⟩ := X6.leave (v := some (.int (1 : Int32))) (fun h => by rw [Bd.returns] at h; cases h)
        refine ⟨_, _, retN X6 hx (t := .boolean) Bd.returns (by simp) (hb hby at_89) hr, hrun, hended, _, _, rfl, ?_, ⟨_, rfl⟩, hW, hsame.mono (by decide) (by decide)⟩
        show rm0_Q Z q1 q2 p3 h0 n0 _ T6.heap _
        rw [e6]
        exact ⟨rfl, N6⟩
      · exfalso
        exact c81_8 (own_L1 wd c74_7)
    · skip
      refine own_via (fun t k => XS.icmpYes X6.here hx rfl (pc0 := 74) (pc' := 90) rfl (hb hby at_74) rfl (feq c74_7).2 (by decide) (by decide) k) ?_
      show own_G p e below _ (T6.setTop (mkF m 90 #[.val (.long q1), .second, .val (.long q2), .second, .val (.int p3), .val (.int kk), .val (.long r2), .second, .val (.long (-1 : Int64)), .second, .val (.long wd), .second, .val (.int (own_fnd wd)), .val (.long (own_mk wd)), .second, .unset, .unset] []))
      refine own_via (fun t k => XS.lconst X6.here hx rfl (hb hby at_90) k) ?_
      show own_G p e below _ (T6.setTop (mkF m 91 #[.val (.long q1), .second, .val (.long q2), .second, .val (.int p3), .val (.int kk), .val (.long r2), .second, .val (.long (-1 : Int64)), .second, .val (.long wd), .second, .val (.int (own_fnd wd)), .val (.long (own_mk wd)), .second, .unset, .unset] [(.long (1 : Int64))]))
      refine own_via (fun t k => XS.bipush X6.here hx rfl (hb hby at_91) k) ?_
      show own_G p e below _ (T6.setTop (mkF m 93 #[.val (.long q1), .second, .val (.long q2), .second, .val (.int p3), .val (.int kk), .val (.long r2), .second, .val (.long (-1 : Int64)), .second, .val (.long wd), .second, .val (.int (own_fnd wd)), .val (.long (own_mk wd)), .second, .unset, .unset] [(.int (8 : Int32)), (.long (1 : Int64))]))
      refine own_via (fun t k => XS.iload X6.here hx rfl (hb hby at_93) rfl k) ?_
      show own_G p e below _ (T6.setTop (mkF m 95 #[.val (.long q1), .second, .val (.long q2), .second, .val (.int p3), .val (.int kk), .val (.long r2), .second, .val (.long (-1 : Int64)), .second, .val (.long wd), .second, .val (.int (own_fnd wd)), .val (.long (own_mk wd)), .second, .unset, .unset] [(.int (own_fnd wd)), (.int (8 : Int32)), (.long (1 : Int64))]))
      refine own_via (fun t k => XS.imul X6.here hx rfl (hb hby at_95) rfl k) ?_
      show own_G p e below _ (T6.setTop (mkF m 96 #[.val (.long q1), .second, .val (.long q2), .second, .val (.int p3), .val (.int kk), .val (.long r2), .second, .val (.long (-1 : Int64)), .second, .val (.long wd), .second, .val (.int (own_fnd wd)), .val (.long (own_mk wd)), .second, .unset, .unset] [(.int ((8 : Int32) * (own_fnd wd))), (.long (1 : Int64))]))
      refine own_via (fun t k => XS.lshl X6.here hx rfl (hb hby at_96) rfl k) ?_
      show own_G p e below _ (T6.setTop (mkF m 97 #[.val (.long q1), .second, .val (.long q2), .second, .val (.int p3), .val (.int kk), .val (.long r2), .second, .val (.long (-1 : Int64)), .second, .val (.long wd), .second, .val (.int (own_fnd wd)), .val (.long (own_mk wd)), .second, .unset, .unset] [(.long ((1 : Int64) <<< (((8 : Int32) * (own_fnd wd)) &&& 0x3f).toInt64))]))
      refine own_via (fun t k => XS.lconst X6.here hx rfl (hb hby at_97) k) ?_
      show own_G p e below _ (T6.setTop (mkF m 98 #[.val (.long q1), .second, .val (.long q2), .second, .val (.int p3), .val (.int kk), .val (.long r2), .second, .val (.long (-1 : Int64)), .second, .val (.long wd), .second, .val (.int (own_fnd wd)), .val (.long (own_mk wd)), .second, .unset, .unset] [(.long (1 : Int64)), (.long ((1 : Int64) <<< (((8 : Int32) * (own_fnd wd)) &&& 0x3f).toInt64))]))
      refine own_via (fun t k => XS.lsub X6.here hx rfl (hb hby at_98) rfl k) ?_
      show own_G p e below _ (T6.setTop (mkF m 99 #[.val (.long q1), .second, .val (.long q2), .second, .val (.int p3), .val (.int kk), .val (.long r2), .second, .val (.long (-1 : Int64)), .second, .val (.long wd), .second, .val (.int (own_fnd wd)), .val (.long (own_mk wd)), .second, .unset, .unset] [(.long (((1 : Int64) <<< (((8 : Int32) * (own_fnd wd)) &&& 0x3f).toInt64) - (1 : Int64)))]))
      refine own_via (fun t k => XS.lstore X6.here hx rfl (hb hby at_99) rfl (l' := #[.val (.long q1), .second, .val (.long q2), .second, .val (.int p3), .val (.int kk), .val (.long r2), .second, .val (.long (-1 : Int64)), .second, .val (.long wd), .second, .val (.int (own_fnd wd)), .val (.long (own_mk wd)), .second, .val (.long (((1 : Int64) <<< (((8 : Int32) * (own_fnd wd)) &&& 0x3f).toInt64) - (1 : Int64))), .second]) rfl k) ?_
      show own_G p e below _ (T6.setTop (mkF m 101 #[.val (.long q1), .second, .val (.long q2), .second, .val (.int p3), .val (.int kk), .val (.long r2), .second, .val (.long (-1 : Int64)), .second, .val (.long wd), .second, .val (.int (own_fnd wd)), .val (.long (own_mk wd)), .second, .val (.long (((1 : Int64) <<< (((8 : Int32) * (own_fnd wd)) &&& 0x3f).toInt64) - (1 : Int64))), .second] []))
      refine own_via (fun t k => XS.lload X6.here hx rfl (hb hby at_101) rfl k) ?_
      show own_G p e below _ (T6.setTop (mkF m 103 #[.val (.long q1), .second, .val (.long q2), .second, .val (.int p3), .val (.int kk), .val (.long r2), .second, .val (.long (-1 : Int64)), .second, .val (.long wd), .second, .val (.int (own_fnd wd)), .val (.long (own_mk wd)), .second, .val (.long (((1 : Int64) <<< (((8 : Int32) * (own_fnd wd)) &&& 0x3f).toInt64) - (1 : Int64))), .second] [(.long (own_mk wd))]))
      refine own_via (fun t k => XS.lload X6.here hx rfl (hb hby at_103) rfl k) ?_
      show own_G p e below _ (T6.setTop (mkF m 105 #[.val (.long q1), .second, .val (.long q2), .second, .val (.int p3), .val (.int kk), .val (.long r2), .second, .val (.long (-1 : Int64)), .second, .val (.long wd), .second, .val (.int (own_fnd wd)), .val (.long (own_mk wd)), .second, .val (.long (((1 : Int64) <<< (((8 : Int32) * (own_fnd wd)) &&& 0x3f).toInt64) - (1 : Int64))), .second] [(.long (((1 : Int64) <<< (((8 : Int32) * (own_fnd wd)) &&& 0x3f).toInt64) - (1 : Int64))), (.long (own_mk wd))]))
      refine own_via (fun t k => XS.land X6.here hx rfl (hb hby at_105) rfl k) ?_
      show own_G p e below _ (T6.setTop (mkF m 106 #[.val (.long q1), .second, .val (.long q2), .second, .val (.int p3), .val (.int kk), .val (.long r2), .second, .val (.long (-1 : Int64)), .second, .val (.long wd), .second, .val (.int (own_fnd wd)), .val (.long (own_mk wd)), .second, .val (.long (((1 : Int64) <<< (((8 : Int32) * (own_fnd wd)) &&& 0x3f).toInt64) - (1 : Int64))), .second] [(.long ((own_mk wd) &&& (((1 : Int64) <<< (((8 : Int32) * (own_fnd wd)) &&& 0x3f).toInt64) - (1 : Int64))))]))
      refine own_via (fun t k => XS.lconst X6.here hx rfl (hb hby at_106) k) ?_
      show own_G p e below _ (T6.setTop (mkF m 107 #[.val (.long q1), .second, .val (.long q2), .second, .val (.int p3), .val (.int kk), .val (.long r2), .second, .val (.long (-1 : Int64)), .second, .val (.long wd), .second, .val (.int (own_fnd wd)), .val (.long (own_mk wd)), .second, .val (.long (((1 : Int64) <<< (((8 : Int32) * (own_fnd wd)) &&& 0x3f).toInt64) - (1 : Int64))), .second] [(.long (0 : Int64)), (.long ((own_mk wd) &&& (((1 : Int64) <<< (((8 : Int32) * (own_fnd wd)) &&& 0x3f).toInt64) - (1 : Int64))))]))
      refine own_via (fun t k => XS.lcmp X6.here hx rfl (hb hby at_107) rfl k) ?_
      show own_G p e below _ (T6.setTop (mkF m 108 #[.val (.long q1), .second, .val (.long q2), .second, .val (.int p3), .val (.int kk), .val (.long r2), .second, .val (.long (-1 : Int64)), .second, .val (.long wd), .second, .val (.int (own_fnd wd)), .val (.long (own_mk wd)), .second, .val (.long (((1 : Int64) <<< (((8 : Int32) * (own_fnd wd)) &&& 0x3f).toInt64) - (1 : Int64))), .second] [(.int (lcmpW ((own_mk wd) &&& (((1 : Int64) <<< (((8 : Int32) * (own_fnd wd)) &&& 0x3f).toInt64) - (1 : Int64))) (0 : Int64)))]))
      by_cases c108_9 : (lcmpW ((own_mk wd) &&& (((1 : Int64) <<< (((8 : Int32) * (own_fnd wd)) &&& 0x3f).toInt64) - (1 : Int64))) (0 : Int64)) = (0 : Int32)
      · skip
        refine own_via (fun t k => XS.ifNo X6.here hx rfl (hb hby at_108) rfl ((if0 _ _).trans (teq c108_9).2) k) ?_
        show own_G p e below _ (T6.setTop (mkF m 111 #[.val (.long q1), .second, .val (.long q2), .second, .val (.int p3), .val (.int kk), .val (.long r2), .second, .val (.long (-1 : Int64)), .second, .val (.long wd), .second, .val (.int (own_fnd wd)), .val (.long (own_mk wd)), .second, .val (.long (((1 : Int64) <<< (((8 : Int32) * (own_fnd wd)) &&& 0x3f).toInt64) - (1 : Int64))), .second] []))
        refine own_via (fun t k => XS.lload X6.here hx rfl (hb hby at_111) rfl k) ?_
        show own_G p e below _ (T6.setTop (mkF m 113 #[.val (.long q1), .second, .val (.long q2), .second, .val (.int p3), .val (.int kk), .val (.long r2), .second, .val (.long (-1 : Int64)), .second, .val (.long wd), .second, .val (.int (own_fnd wd)), .val (.long (own_mk wd)), .second, .val (.long (((1 : Int64) <<< (((8 : Int32) * (own_fnd wd)) &&& 0x3f).toInt64) - (1 : Int64))), .second] [(.long (own_mk wd))]))
        refine own_via (fun t k => XS.bipush X6.here hx rfl (hb hby at_113) k) ?_
        show own_G p e below _ (T6.setTop (mkF m 115 #[.val (.long q1), .second, .val (.long q2), .second, .val (.int p3), .val (.int kk), .val (.long r2), .second, .val (.long (-1 : Int64)), .second, .val (.long wd), .second, .val (.int (own_fnd wd)), .val (.long (own_mk wd)), .second, .val (.long (((1 : Int64) <<< (((8 : Int32) * (own_fnd wd)) &&& 0x3f).toInt64) - (1 : Int64))), .second] [(.int (8 : Int32)), (.long (own_mk wd))]))
        refine own_via (fun t k => XS.iload X6.here hx rfl (hb hby at_115) rfl k) ?_
        show own_G p e below _ (T6.setTop (mkF m 117 #[.val (.long q1), .second, .val (.long q2), .second, .val (.int p3), .val (.int kk), .val (.long r2), .second, .val (.long (-1 : Int64)), .second, .val (.long wd), .second, .val (.int (own_fnd wd)), .val (.long (own_mk wd)), .second, .val (.long (((1 : Int64) <<< (((8 : Int32) * (own_fnd wd)) &&& 0x3f).toInt64) - (1 : Int64))), .second] [(.int (own_fnd wd)), (.int (8 : Int32)), (.long (own_mk wd))]))
        refine own_via (fun t k => XS.imul X6.here hx rfl (hb hby at_117) rfl k) ?_
        show own_G p e below _ (T6.setTop (mkF m 118 #[.val (.long q1), .second, .val (.long q2), .second, .val (.int p3), .val (.int kk), .val (.long r2), .second, .val (.long (-1 : Int64)), .second, .val (.long wd), .second, .val (.int (own_fnd wd)), .val (.long (own_mk wd)), .second, .val (.long (((1 : Int64) <<< (((8 : Int32) * (own_fnd wd)) &&& 0x3f).toInt64) - (1 : Int64))), .second] [(.int ((8 : Int32) * (own_fnd wd))), (.long (own_mk wd))]))
        refine own_via (fun t k => XS.lushr X6.here hx rfl (hb hby at_118) rfl k) ?_
        show own_G p e below _ (T6.setTop (mkF m 119 #[.val (.long q1), .second, .val (.long q2), .second, .val (.int p3), .val (.int kk), .val (.long r2), .second, .val (.long (-1 : Int64)), .second, .val (.long wd), .second, .val (.int (own_fnd wd)), .val (.long (own_mk wd)), .second, .val (.long (((1 : Int64) <<< (((8 : Int32) * (own_fnd wd)) &&& 0x3f).toInt64) - (1 : Int64))), .second] [(.long (((own_mk wd).toUInt64 >>> (((8 : Int32) * (own_fnd wd)) &&& 0x3f).toInt64.toUInt64).toInt64))]))
        refine own_via (fun t k => X6.ldc2Long hx hown (mvT hZ (hw _ (List.mem_of_getElem? (i := 9) rfl))) (g := (mkF m 119 #[.val (.long q1), .second, .val (.long q2), .second, .val (.int p3), .val (.int kk), .val (.long r2), .second, .val (.long (-1 : Int64)), .second, .val (.long wd), .second, .val (.int (own_fnd wd)), .val (.long (own_mk wd)), .second, .val (.long (((1 : Int64) <<< (((8 : Int32) * (own_fnd wd)) &&& 0x3f).toInt64) - (1 : Int64))), .second] [(.long (((own_mk wd).toUInt64 >>> (((8 : Int32) * (own_fnd wd)) &&& 0x3f).toInt64.toUInt64).toInt64))])) rfl (hb hby at_119) _ k) ?_
        show own_G p e below _ (T6.setTop (mkF m 122 #[.val (.long q1), .second, .val (.long q2), .second, .val (.int p3), .val (.int kk), .val (.long r2), .second, .val (.long (-1 : Int64)), .second, .val (.long wd), .second, .val (.int (own_fnd wd)), .val (.long (own_mk wd)), .second, .val (.long (((1 : Int64) <<< (((8 : Int32) * (own_fnd wd)) &&& 0x3f).toInt64) - (1 : Int64))), .second] [(.long (255 : Int64)), (.long (((own_mk wd).toUInt64 >>> (((8 : Int32) * (own_fnd wd)) &&& 0x3f).toInt64.toUInt64).toInt64))]))
        refine own_via (fun t k => XS.land X6.here hx rfl (hb hby at_122) rfl k) ?_
        show own_G p e below _ (T6.setTop (mkF m 123 #[.val (.long q1), .second, .val (.long q2), .second, .val (.int p3), .val (.int kk), .val (.long r2), .second, .val (.long (-1 : Int64)), .second, .val (.long wd), .second, .val (.int (own_fnd wd)), .val (.long (own_mk wd)), .second, .val (.long (((1 : Int64) <<< (((8 : Int32) * (own_fnd wd)) &&& 0x3f).toInt64) - (1 : Int64))), .second] [(.long ((((own_mk wd).toUInt64 >>> (((8 : Int32) * (own_fnd wd)) &&& 0x3f).toInt64.toUInt64).toInt64) &&& (255 : Int64)))]))
        refine own_via (fun t k => XS.lconst X6.here hx rfl (hb hby at_123) k) ?_
        show own_G p e below _ (T6.setTop (mkF m 124 #[.val (.long q1), .second, .val (.long q2), .second, .val (.int p3), .val (.int kk), .val (.long r2), .second, .val (.long (-1 : Int64)), .second, .val (.long wd), .second, .val (.int (own_fnd wd)), .val (.long (own_mk wd)), .second, .val (.long (((1 : Int64) <<< (((8 : Int32) * (own_fnd wd)) &&& 0x3f).toInt64) - (1 : Int64))), .second] [(.long (0 : Int64)), (.long ((((own_mk wd).toUInt64 >>> (((8 : Int32) * (own_fnd wd)) &&& 0x3f).toInt64.toUInt64).toInt64) &&& (255 : Int64)))]))
        refine own_via (fun t k => XS.lcmp X6.here hx rfl (hb hby at_124) rfl k) ?_
        show own_G p e below _ (T6.setTop (mkF m 125 #[.val (.long q1), .second, .val (.long q2), .second, .val (.int p3), .val (.int kk), .val (.long r2), .second, .val (.long (-1 : Int64)), .second, .val (.long wd), .second, .val (.int (own_fnd wd)), .val (.long (own_mk wd)), .second, .val (.long (((1 : Int64) <<< (((8 : Int32) * (own_fnd wd)) &&& 0x3f).toInt64) - (1 : Int64))), .second] [(.int (lcmpW ((((own_mk wd).toUInt64 >>> (((8 : Int32) * (own_fnd wd)) &&& 0x3f).toInt64.toUInt64).toInt64) &&& (255 : Int64)) (0 : Int64)))]))
        by_cases c125_10 : (lcmpW ((((own_mk wd).toUInt64 >>> (((8 : Int32) * (own_fnd wd)) &&& 0x3f).toInt64.toUInt64).toInt64) &&& (255 : Int64)) (0 : Int64)) = (0 : Int32)
        · exfalso
          exact own_L3 wd c74_7 c125_10
        · skip
          refine own_via (fun t k => XS.ifNo X6.here hx rfl (hb hby at_125) rfl ((if0 _ _).trans (feq c125_10).1) k) ?_
          show own_G p e below _ (T6.setTop (mkF m 128 #[.val (.long q1), .second, .val (.long q2), .second, .val (.int p3), .val (.int kk), .val (.long r2), .second, .val (.long (-1 : Int64)), .second, .val (.long wd), .second, .val (.int (own_fnd wd)), .val (.long (own_mk wd)), .second, .val (.long (((1 : Int64) <<< (((8 : Int32) * (own_fnd wd)) &&& 0x3f).toInt64) - (1 : Int64))), .second] []))
          refine own_via (fun t k => XS.iconst X6.here hx rfl (hb hby at_128) k) ?_
          show own_G p e below _ (T6.setTop (mkF m 129 #[.val (.long q1), .second, .val (.long q2), .second, .val (.int p3), .val (.int kk), .val (.long r2), .second, .val (.long (-1 : Int64)), .second, .val (.long wd), .second, .val (.int (own_fnd wd)), .val (.long (own_mk wd)), .second, .val (.long (((1 : Int64) <<< (((8 : Int32) * (own_fnd wd)) &&& 0x3f).toInt64) - (1 : Int64))), .second] [(.int (1 : Int32))]))
          refine own_via (fun t k => XS.goto X6.here hx rfl (pc0 := 129) (pc' := 133) rfl (hb hby at_129) (by decide) (by decide) k) ?_
          show own_G p e below _ (T6.setTop (mkF m 133 #[.val (.long q1), .second, .val (.long q2), .second, .val (.int p3), .val (.int kk), .val (.long r2), .second, .val (.long (-1 : Int64)), .second, .val (.long wd), .second, .val (.int (own_fnd wd)), .val (.long (own_mk wd)), .second, .val (.long (((1 : Int64) <<< (((8 : Int32) * (own_fnd wd)) &&& 0x3f).toInt64) - (1 : Int64))), .second] [(.int (1 : Int32))]))
          obtain ⟨fs, hr, hrun, hended, hW, hsame⟩ := X6.leave (v := some (.int (1 : Int32))) (fun h => by rw [Bd.returns] at h; cases h)
          refine ⟨_, _, retN X6 hx (t := .boolean) Bd.returns (by simp) (hb hby at_133) hr, hrun, hended, _, _, rfl, ?_, ⟨_, rfl⟩, hW, hsame.mono (by decide) (by decide)⟩
          show rm0_Q Z q1 q2 p3 h0 n0 _ T6.heap _
          rw [e6]
          exact ⟨rfl, N6⟩
      · exfalso
        exact c108_9 (own_L2 wd c74_7)
  · skip
    refine own_via (fun t k => XS.icmpYes X2.here hx rfl (pc0 := 20) (pc' := 29) rfl (hb hby at_20) rfl (feq c20_3).2 (by decide) (by decide) k) ?_
    show own_G p e below _ (T2.setTop (mkF m 29 #[.val (.long q1), .second, .val (.long q2), .second, .val (.int p3), .val (.int kk), .val (.long r2), .second, .unset, .unset, .unset, .unset, .unset, .unset, .unset, .unset, .unset] []))
    refine own_via (fun t k => XS.lconst X2.here hx rfl (hb hby at_29) k) ?_
    show own_G p e below _ (T2.setTop (mkF m 30 #[.val (.long q1), .second, .val (.long q2), .second, .val (.int p3), .val (.int kk), .val (.long r2), .second, .unset, .unset, .unset, .unset, .unset, .unset, .unset, .unset, .unset] [(.long (1 : Int64))]))
    refine own_via (fun t k => XS.bipush X2.here hx rfl (hb hby at_30) k) ?_
    show own_G p e below _ (T2.setTop (mkF m 32 #[.val (.long q1), .second, .val (.long q2), .second, .val (.int p3), .val (.int kk), .val (.long r2), .second, .unset, .unset, .unset, .unset, .unset, .unset, .unset, .unset, .unset] [(.int (8 : Int32)), (.long (1 : Int64))]))
    refine own_via (fun t k => XS.iload X2.here hx rfl (hb hby at_32) rfl k) ?_
    show own_G p e below _ (T2.setTop (mkF m 34 #[.val (.long q1), .second, .val (.long q2), .second, .val (.int p3), .val (.int kk), .val (.long r2), .second, .unset, .unset, .unset, .unset, .unset, .unset, .unset, .unset, .unset] [(.int kk), (.int (8 : Int32)), (.long (1 : Int64))]))
    refine own_via (fun t k => XS.imul X2.here hx rfl (hb hby at_34) rfl k) ?_
    show own_G p e below _ (T2.setTop (mkF m 35 #[.val (.long q1), .second, .val (.long q2), .second, .val (.int p3), .val (.int kk), .val (.long r2), .second, .unset, .unset, .unset, .unset, .unset, .unset, .unset, .unset, .unset] [(.int ((8 : Int32) * kk)), (.long (1 : Int64))]))
    refine own_via (fun t k => XS.lshl X2.here hx rfl (hb hby at_35) rfl k) ?_
    show own_G p e below _ (T2.setTop (mkF m 36 #[.val (.long q1), .second, .val (.long q2), .second, .val (.int p3), .val (.int kk), .val (.long r2), .second, .unset, .unset, .unset, .unset, .unset, .unset, .unset, .unset, .unset] [(.long ((1 : Int64) <<< (((8 : Int32) * kk) &&& 0x3f).toInt64))]))
    refine own_via (fun t k => XS.lconst X2.here hx rfl (hb hby at_36) k) ?_
    show own_G p e below _ (T2.setTop (mkF m 37 #[.val (.long q1), .second, .val (.long q2), .second, .val (.int p3), .val (.int kk), .val (.long r2), .second, .unset, .unset, .unset, .unset, .unset, .unset, .unset, .unset, .unset] [(.long (1 : Int64)), (.long ((1 : Int64) <<< (((8 : Int32) * kk) &&& 0x3f).toInt64))]))
    refine own_via (fun t k => XS.lsub X2.here hx rfl (hb hby at_37) rfl k) ?_
    show own_G p e below _ (T2.setTop (mkF m 38 #[.val (.long q1), .second, .val (.long q2), .second, .val (.int p3), .val (.int kk), .val (.long r2), .second, .unset, .unset, .unset, .unset, .unset, .unset, .unset, .unset, .unset] [(.long (((1 : Int64) <<< (((8 : Int32) * kk) &&& 0x3f).toInt64) - (1 : Int64)))]))
    refine own_via (fun t k => XS.lstore X2.here hx rfl (hb hby at_38) rfl (l' := #[.val (.long q1), .second, .val (.long q2), .second, .val (.int p3), .val (.int kk), .val (.long r2), .second, .val (.long (((1 : Int64) <<< (((8 : Int32) * kk) &&& 0x3f).toInt64) - (1 : Int64))), .second, .unset, .unset, .unset, .unset, .unset, .unset, .unset]) rfl k) ?_
    show own_G p e below _ (T2.setTop (mkF m 40 #[.val (.long q1), .second, .val (.long q2), .second, .val (.int p3), .val (.int kk), .val (.long r2), .second, .val (.long (((1 : Int64) <<< (((8 : Int32) * kk) &&& 0x3f).toInt64) - (1 : Int64))), .second, .unset, .unset, .unset, .unset, .unset, .unset, .unset] []))
    refine own_via (fun t k => XS.lloadN X2.here hx rfl (hb hby at_40) rfl k) ?_
    show own_G p e below _ (T2.setTop (mkF m 41 #[.val (.long q1), .second, .val (.long q2), .second, .val (.int p3), .val (.int kk), .val (.long r2), .second, .val (.long (((1 : Int64) <<< (((8 : Int32) * kk) &&& 0x3f).toInt64) - (1 : Int64))), .second, .unset, .unset, .unset, .unset, .unset, .unset, .unset] [(.long q1)]))
    refine own_via (fun t k => XS.lload X2.here hx rfl (hb hby at_41) rfl k) ?_
    show own_G p e below _ (T2.setTop (mkF m 43 #[.val (.long q1), .second, .val (.long q2), .second, .val (.int p3), .val (.int kk), .val (.long r2), .second, .val (.long (((1 : Int64) <<< (((8 : Int32) * kk) &&& 0x3f).toInt64) - (1 : Int64))), .second, .unset, .unset, .unset, .unset, .unset, .unset, .unset] [(.long (((1 : Int64) <<< (((8 : Int32) * kk) &&& 0x3f).toInt64) - (1 : Int64))), (.long q1)]))
    refine own_via (fun t k => X2.ldc2Long hx hown (mvT hZ (hw _ (List.mem_of_getElem? (i := 11) rfl))) (g := (mkF m 43 #[.val (.long q1), .second, .val (.long q2), .second, .val (.int p3), .val (.int kk), .val (.long r2), .second, .val (.long (((1 : Int64) <<< (((8 : Int32) * kk) &&& 0x3f).toInt64) - (1 : Int64))), .second, .unset, .unset, .unset, .unset, .unset, .unset, .unset] [(.long (((1 : Int64) <<< (((8 : Int32) * kk) &&& 0x3f).toInt64) - (1 : Int64))), (.long q1)])) rfl (hb hby at_43) _ k) ?_
    show own_G p e below _ (T2.setTop (mkF m 46 #[.val (.long q1), .second, .val (.long q2), .second, .val (.int p3), .val (.int kk), .val (.long r2), .second, .val (.long (((1 : Int64) <<< (((8 : Int32) * kk) &&& 0x3f).toInt64) - (1 : Int64))), .second, .unset, .unset, .unset, .unset, .unset, .unset, .unset] [(.long (-1 : Int64)), (.long (((1 : Int64) <<< (((8 : Int32) * kk) &&& 0x3f).toInt64) - (1 : Int64))), (.long q1)]))
    refine own_via (fun t k => XS.lxor X2.here hx rfl (hb hby at_46) rfl k) ?_
    show own_G p e below _ (T2.setTop (mkF m 47 #[.val (.long q1), .second, .val (.long q2), .second, .val (.int p3), .val (.int kk), .val (.long r2), .second, .val (.long (((1 : Int64) <<< (((8 : Int32) * kk) &&& 0x3f).toInt64) - (1 : Int64))), .second, .unset, .unset, .unset, .unset, .unset, .unset, .unset] [(.long ((((1 : Int64) <<< (((8 : Int32) * kk) &&& 0x3f).toInt64) - (1 : Int64)) ^^^ (-1 : Int64))), (.long q1)]))
    refine own_via (fun t k => XS.land X2.here hx rfl (hb hby at_47) rfl k) ?_
    show own_G p e below _ (T2.setTop (mkF m 48 #[.val (.long q1), .second, .val (.long q2), .second, .val (.int p3), .val (.int kk), .val (.long r2), .second, .val (.long (((1 : Int64) <<< (((8 : Int32) * kk) &&& 0x3f).toInt64) - (1 : Int64))), .second, .unset, .unset, .unset, .unset, .unset, .unset, .unset] [(.long (q1 &&& ((((1 : Int64) <<< (((8 : Int32) * kk) &&& 0x3f).toInt64) - (1 : Int64)) ^^^ (-1 : Int64))))]))
    refine own_via (fun t k => XS.lload X2.here hx rfl (hb hby at_48) rfl k) ?_
    show own_G p e below _ (T2.setTop (mkF m 50 #[.val (.long q1), .second, .val (.long q2), .second, .val (.int p3), .val (.int kk), .val (.long r2), .second, .val (.long (((1 : Int64) <<< (((8 : Int32) * kk) &&& 0x3f).toInt64) - (1 : Int64))), .second, .unset, .unset, .unset, .unset, .unset, .unset, .unset] [(.long r2), (.long (q1 &&& ((((1 : Int64) <<< (((8 : Int32) * kk) &&& 0x3f).toInt64) - (1 : Int64)) ^^^ (-1 : Int64))))]))
    refine own_via (fun t k => XS.lload X2.here hx rfl (hb hby at_50) rfl k) ?_
    show own_G p e below _ (T2.setTop (mkF m 52 #[.val (.long q1), .second, .val (.long q2), .second, .val (.int p3), .val (.int kk), .val (.long r2), .second, .val (.long (((1 : Int64) <<< (((8 : Int32) * kk) &&& 0x3f).toInt64) - (1 : Int64))), .second, .unset, .unset, .unset, .unset, .unset, .unset, .unset] [(.long (((1 : Int64) <<< (((8 : Int32) * kk) &&& 0x3f).toInt64) - (1 : Int64))), (.long r2), (.long (q1 &&& ((((1 : Int64) <<< (((8 : Int32) * kk) &&& 0x3f).toInt64) - (1 : Int64)) ^^^ (-1 : Int64))))]))
    refine own_via (fun t k => XS.land X2.here hx rfl (hb hby at_52) rfl k) ?_
    show own_G p e below _ (T2.setTop (mkF m 53 #[.val (.long q1), .second, .val (.long q2), .second, .val (.int p3), .val (.int kk), .val (.long r2), .second, .val (.long (((1 : Int64) <<< (((8 : Int32) * kk) &&& 0x3f).toInt64) - (1 : Int64))), .second, .unset, .unset, .unset, .unset, .unset, .unset, .unset] [(.long (r2 &&& (((1 : Int64) <<< (((8 : Int32) * kk) &&& 0x3f).toInt64) - (1 : Int64)))), (.long (q1 &&& ((((1 : Int64) <<< (((8 : Int32) * kk) &&& 0x3f).toInt64) - (1 : Int64)) ^^^ (-1 : Int64))))]))
    refine own_via (fun t k => XS.lor X2.here hx rfl (hb hby at_53) rfl k) ?_
    show own_G p e below _ (T2.setTop (mkF m 54 #[.val (.long q1), .second, .val (.long q2), .second, .val (.int p3), .val (.int kk), .val (.long r2), .second, .val (.long (((1 : Int64) <<< (((8 : Int32) * kk) &&& 0x3f).toInt64) - (1 : Int64))), .second, .unset, .unset, .unset, .unset, .unset, .unset, .unset] [(.long ((q1 &&& ((((1 : Int64) <<< (((8 : Int32) * kk) &&& 0x3f).toInt64) - (1 : Int64)) ^^^ (-1 : Int64))) ||| (r2 &&& (((1 : Int64) <<< (((8 : Int32) * kk) &&& 0x3f).toInt64) - (1 : Int64)))))]))
    generalize hg_wd : ((q1 &&& ((((1 : Int64) <<< (((8 : Int32) * kk) &&& 0x3f).toInt64) - (1 : Int64)) ^^^ (-1 : Int64))) ||| (r2 &&& (((1 : Int64) <<< (((8 : Int32) * kk) &&& 0x3f).toInt64) - (1 : Int64)))) = wd
    refine own_via (fun t k => XS.lstore X2.here hx rfl (hb hby at_54) rfl (l' := #[.val (.long q1), .second, .val (.long q2), .second, .val (.int p3), .val (.int kk), .val (.long r2), .second, .val (.long (((1 : Int64) <<< (((8 : Int32) * kk) &&& 0x3f).toInt64) - (1 : Int64))), .second, .val (.long wd), .second, .unset, .unset, .unset, .unset, .unset]) rfl k) ?_
    show own_G p e below _ (T2.setTop (mkF m 56 #[.val (.long q1), .second, .val (.long q2), .second, .val (.int p3), .val (.int kk), .val (.long r2), .second, .val (.long (((1 : Int64) <<< (((8 : Int32) * kk) &&& 0x3f).toInt64) - (1 : Int64))), .second, .val (.long wd), .second, .unset, .unset, .unset, .unset, .unset] []))
    refine own_via (fun t k => XS.lload X2.here hx rfl (hb hby at_56) rfl k) ?_
    show own_G p e below _ (T2.setTop (mkF m 58 #[.val (.long q1), .second, .val (.long q2), .second, .val (.int p3), .val (.int kk), .val (.long r2), .second, .val (.long (((1 : Int64) <<< (((8 : Int32) * kk) &&& 0x3f).toInt64) - (1 : Int64))), .second, .val (.long wd), .second, .unset, .unset, .unset, .unset, .unset] [(.long wd)]))
    obtain ⟨_, _, ⟨T12, L12, k12, n12⟩, -, X12, ⟨Lc12, hQ12, l12, y12, z12⟩, st12⟩ := Jvm.LawKit.callS X2 hx (y := (⟨"com/example/fee_simple/feesimple/cli/AsciiWordsMarksNotDigitsPinLaw", "firstNonDigit", "(J)I"⟩ : MethodName)) hown (mvT hZ (hw _ (List.mem_of_getElem? (i := 12) rfl))) (mvT hZ (hw _ (List.mem_of_getElem? (i := 13) rfl))) (mvT hZ (hw _ (List.mem_of_getElem? (i := 3) rfl))) (mvT hZ (hw _ (List.mem_of_getElem? (i := 14) rfl))) (by decide) (backOf (W := 0) (rm3 l Z a0 hw [] wd  h0 n0 Z0 ) hZ (hw _ (List.mem_of_getElem? (i := 14) rfl)) (hw _ (List.mem_of_getElem? (i := 3) rfl)) (by decide) (by decide)) (g := (mkF m 58 #[.val (.long q1), .second, .val (.long q2), .second, .val (.int p3), .val (.int kk), .val (.long r2), .second, .val (.long (((1 : Int64) <<< (((8 : Int32) * kk) &&& 0x3f).toInt64) - (1 : Int64))), .second, .val (.long wd), .second, .unset, .unset, .unset, .unset, .unset] [(.long wd)])) rfl (by rw [hml]; rfl) (argsL := [(.long wd)]) (rest := []) (lenOf pd_rm0_1 rfl) rfl (by show 2 * 0 + _ ≤ _; exact Nat.le_of_eq rfl) (hb hby at_58) (fun _ _ => ⟨rfl, e2, (by decide : 0 + 0 ≤ _), (by decide : 0 + 0 ≤ _)⟩)
    dsimp only [Pt.U, Pt.locs, Pt.cells, Pt.slots] at X12 l12 y12 z12 st12 hQ12
    subst l12 y12 z12
    obtain ⟨rfl, N12q, e12⟩ := hQ12
    have N12 := Fr.app N2 N12q
    refine own_via st12 ?_
    show own_G p e below _ (T12.setTop (mkF m 61 #[.val (.long q1), .second, .val (.long q2), .second, .val (.int p3), .val (.int kk), .val (.long r2), .second, .val (.long (((1 : Int64) <<< (((8 : Int32) * kk) &&& 0x3f).toInt64) - (1 : Int64))), .second, .val (.long wd), .second, .unset, .unset, .unset, .unset, .unset] [(.int (own_fnd wd))]))
    refine own_via (fun t k => XS.istore X12.here hx rfl (hb hby at_61) rfl (l' := #[.val (.long q1), .second, .val (.long q2), .second, .val (.int p3), .val (.int kk), .val (.long r2), .second, .val (.long (((1 : Int64) <<< (((8 : Int32) * kk) &&& 0x3f).toInt64) - (1 : Int64))), .second, .val (.long wd), .second, .val (.int (own_fnd wd)), .unset, .unset, .unset, .unset]) rfl k) ?_
    show own_G p e below _ (T12.setTop (mkF m 63 #[.val (.long q1), .second, .val (.long q2), .second, .val (.int p3), .val (.int kk), .val (.long r2), .second, .val (.long (((1 : Int64) <<< (((8 : Int32) * kk) &&& 0x3f).toInt64) - (1 : Int64))), .second, .val (.long wd), .second, .val (.int (own_fnd wd)), .unset, .unset, .unset, .unset] []))
    refine own_via (fun t k => XS.lload X12.here hx rfl (hb hby at_63) rfl k) ?_
    show own_G p e below _ (T12.setTop (mkF m 65 #[.val (.long q1), .second, .val (.long q2), .second, .val (.int p3), .val (.int kk), .val (.long r2), .second, .val (.long (((1 : Int64) <<< (((8 : Int32) * kk) &&& 0x3f).toInt64) - (1 : Int64))), .second, .val (.long wd), .second, .val (.int (own_fnd wd)), .unset, .unset, .unset, .unset] [(.long wd)]))
    obtain ⟨_, _, ⟨T13, L13, k13, n13⟩, -, X13, ⟨Lc13, hQ13, l13, y13, z13⟩, st13⟩ := Jvm.LawKit.callS X12 hx (y := (⟨"com/example/fee_simple/feesimple/cli/AsciiWords", "marksNotDigits", "(J)J"⟩ : MethodName)) hown (mvT hZ (hw _ (List.mem_of_getElem? (i := 18) rfl))) (mvT hZ (hw _ (List.mem_of_getElem? (i := 19) rfl))) (mvT hZ (hw _ (List.mem_of_getElem? (i := 20) rfl))) (mvT hZ (hw _ (List.mem_of_getElem? (i := 21) rfl))) (by decide) (backOf (W := 0) (rm5 l Z a0 hw [] wd  h0 n0 Z0 ) hZ (hw _ (List.mem_of_getElem? (i := 21) rfl)) (hw _ (List.mem_of_getElem? (i := 20) rfl)) (by decide) (by decide)) (g := (mkF m 65 #[.val (.long q1), .second, .val (.long q2), .second, .val (.int p3), .val (.int kk), .val (.long r2), .second, .val (.long (((1 : Int64) <<< (((8 : Int32) * kk) &&& 0x3f).toInt64) - (1 : Int64))), .second, .val (.long wd), .second, .val (.int (own_fnd wd)), .unset, .unset, .unset, .unset] [(.long wd)])) rfl (by rw [hml]; rfl) (argsL := [(.long wd)]) (rest := []) (lenOf pd_rm0_0 rfl) rfl (by show 2 * 0 + _ ≤ _; exact Nat.le_of_eq rfl) (hb hby at_65) (fun _ _ => ⟨rfl, e12, (by decide : 0 + 0 ≤ _), (by decide : 0 + 0 ≤ _)⟩)
    dsimp only [Pt.U, Pt.locs, Pt.cells, Pt.slots] at X13 l13 y13 z13 st13 hQ13
    subst l13 y13 z13
    obtain ⟨rfl, N13q, e13⟩ := hQ13
    have N13 := Fr.app N12 N13q
    refine own_via st13 ?_
    show own_G p e below _ (T13.setTop (mkF m 68 #[.val (.long q1), .second, .val (.long q2), .second, .val (.int p3), .val (.int kk), .val (.long r2), .second, .val (.long (((1 : Int64) <<< (((8 : Int32) * kk) &&& 0x3f).toInt64) - (1 : Int64))), .second, .val (.long wd), .second, .val (.int (own_fnd wd)), .unset, .unset, .unset, .unset] [(.long (own_mk wd))]))
    refine own_via (fun t k => XS.lstore X13.here hx rfl (hb hby at_68) rfl (l' := #[.val (.long q1), .second, .val (.long q2), .second, .val (.int p3), .val (.int kk), .val (.long r2), .second, .val (.long (((1 : Int64) <<< (((8 : Int32) * kk) &&& 0x3f).toInt64) - (1 : Int64))), .second, .val (.long wd), .second, .val (.int (own_fnd wd)), .val (.long (own_mk wd)), .second, .unset, .unset]) rfl k) ?_
    show own_G p e below _ (T13.setTop (mkF m 70 #[.val (.long q1), .second, .val (.long q2), .second, .val (.int p3), .val (.int kk), .val (.long r2), .second, .val (.long (((1 : Int64) <<< (((8 : Int32) * kk) &&& 0x3f).toInt64) - (1 : Int64))), .second, .val (.long wd), .second, .val (.int (own_fnd wd)), .val (.long (own_mk wd)), .second, .unset, .unset] []))
    refine own_via (fun t k => XS.iload X13.here hx rfl (hb hby at_70) rfl k) ?_
    show own_G p e below _ (T13.setTop (mkF m 72 #[.val (.long q1), .second, .val (.long q2), .second, .val (.int p3), .val (.int kk), .val (.long r2), .second, .val (.long (((1 : Int64) <<< (((8 : Int32) * kk) &&& 0x3f).toInt64) - (1 : Int64))), .second, .val (.long wd), .second, .val (.int (own_fnd wd)), .val (.long (own_mk wd)), .second, .unset, .unset] [(.int (own_fnd wd))]))
    refine own_via (fun t k => XS.bipush X13.here hx rfl (hb hby at_72) k) ?_
    show own_G p e below _ (T13.setTop (mkF m 74 #[.val (.long q1), .second, .val (.long q2), .second, .val (.int p3), .val (.int kk), .val (.long r2), .second, .val (.long (((1 : Int64) <<< (((8 : Int32) * kk) &&& 0x3f).toInt64) - (1 : Int64))), .second, .val (.long wd), .second, .val (.int (own_fnd wd)), .val (.long (own_mk wd)), .second, .unset, .unset] [(.int (8 : Int32)), (.int (own_fnd wd))]))
    by_cases c74_14 : (own_fnd wd) = (8 : Int32)
    · skip
      refine own_via (fun t k => XS.icmpNo X13.here hx rfl (hb hby at_74) rfl (teq c74_14).2 k) ?_
      show own_G p e below _ (T13.setTop (mkF m 77 #[.val (.long q1), .second, .val (.long q2), .second, .val (.int p3), .val (.int kk), .val (.long r2), .second, .val (.long (((1 : Int64) <<< (((8 : Int32) * kk) &&& 0x3f).toInt64) - (1 : Int64))), .second, .val (.long wd), .second, .val (.int (own_fnd wd)), .val (.long (own_mk wd)), .second, .unset, .unset] []))
      refine own_via (fun t k => XS.lload X13.here hx rfl (hb hby at_77) rfl k) ?_
      show own_G p e below _ (T13.setTop (mkF m 79 #[.val (.long q1), .second, .val (.long q2), .second, .val (.int p3), .val (.int kk), .val (.long r2), .second, .val (.long (((1 : Int64) <<< (((8 : Int32) * kk) &&& 0x3f).toInt64) - (1 : Int64))), .second, .val (.long wd), .second, .val (.int (own_fnd wd)), .val (.long (own_mk wd)), .second, .unset, .unset] [(.long (own_mk wd))]))
      refine own_via (fun t k => XS.lconst X13.here hx rfl (hb hby at_79) k) ?_
      show own_G p e below _ (T13.setTop (mkF m 80 #[.val (.long q1), .second, .val (.long q2), .second, .val (.int p3), .val (.int kk), .val (.long r2), .second, .val (.long (((1 : Int64) <<< (((8 : Int32) * kk) &&& 0x3f).toInt64) - (1 : Int64))), .second, .val (.long wd), .second, .val (.int (own_fnd wd)), .val (.long (own_mk wd)), .second, .unset, .unset] [(.long (0 : Int64)), (.long (own_mk wd))]))
      refine own_via (fun t k => XS.lcmp X13.here hx rfl (hb hby at_80) rfl k) ?_
      show own_G p e below _ (T13.setTop (mkF m 81 #[.val (.long q1), .second, .val (.long q2), .second, .val (.int p3), .val (.int kk), .val (.long r2), .second, .val (.long (((1 : Int64) <<< (((8 : Int32) * kk) &&& 0x3f).toInt64) - (1 : Int64))), .second, .val (.long wd), .second, .val (.int (own_fnd wd)), .val (.long (own_mk wd)), .second, .unset, .unset] [(.int (lcmpW (own_mk wd) (0 : Int64)))]))
      by_cases c81_15 : (lcmpW (own_mk wd) (0 : Int64)) = (0 : Int32)
      · skip
        refine own_via (fun t k => XS.ifNo X13.here hx rfl (hb hby at_81) rfl ((if0 _ _).trans (teq c81_15).2) k) ?_
        show own_G p e below _ (T13.setTop (mkF m 84 #[.val (.long q1), .second, .val (.long q2), .second, .val (.int p3), .val (.int kk), .val (.long r2), .second, .val (.long (((1 : Int64) <<< (((8 : Int32) * kk) &&& 0x3f).toInt64) - (1 : Int64))), .second, .val (.long wd), .second, .val (.int (own_fnd wd)), .val (.long (own_mk wd)), .second, .unset, .unset] []))
        refine own_via (fun t k => XS.iconst X13.here hx rfl (hb hby at_84) k) ?_
        show own_G p e below _ (T13.setTop (mkF m 85 #[.val (.long q1), .second, .val (.long q2), .second, .val (.int p3), .val (.int kk), .val (.long r2), .second, .val (.long (((1 : Int64) <<< (((8 : Int32) * kk) &&& 0x3f).toInt64) - (1 : Int64))), .second, .val (.long wd), .second, .val (.int (own_fnd wd)), .val (.long (own_mk wd)), .second, .unset, .unset] [(.int (1 : Int32))]))
        refine own_via (fun t k => XS.goto X13.here hx rfl (pc0 := 85) (pc' := 89) rfl (hb hby at_85) (by decide) (by decide) k) ?_
        show own_G p e below _ (T13.setTop (mkF m 89 #[.val (.long q1), .second, .val (.long q2), .second, .val (.int p3), .val (.int kk), .val (.long r2), .second, .val (.long (((1 : Int64) <<< (((8 : Int32) * kk) &&& 0x3f).toInt64) - (1 : Int64))), .second, .val (.long wd), .second, .val (.int (own_fnd wd)), .val (.long (own_mk wd)), .second, .unset, .unset] [(.int (1 : Int32))]))
        obtain ⟨fs, hr, hrun, hended, hW, hsame⟩ := X13.leave (v := some (.int (1 : Int32))) (fun h => by rw [Bd.returns] at h; cases h)
        refine ⟨_, _, retN X13 hx (t := .boolean) Bd.returns (by simp) (hb hby at_89) hr, hrun, hended, _, _, rfl, ?_, ⟨_, rfl⟩, hW, hsame.mono (by decide) (by decide)⟩
        show rm0_Q Z q1 q2 p3 h0 n0 _ T13.heap _
        rw [e13]
        exact ⟨rfl, N13⟩
      · exfalso
        exact c81_15 (own_L1 wd c74_14)
    · skip
      refine own_via (fun t k => XS.icmpYes X13.here hx rfl (pc0 := 74) (pc' := 90) rfl (hb hby at_74) rfl (feq c74_14).2 (by decide) (by decide) k) ?_
      show own_G p e below _ (T13.setTop (mkF m 90 #[.val (.long q1), .second, .val (.long q2), .second, .val (.int p3), .val (.int kk), .val (.long r2), .second, .val (.long (((1 : Int64) <<< (((8 : Int32) * kk) &&& 0x3f).toInt64) - (1 : Int64))), .second, .val (.long wd), .second, .val (.int (own_fnd wd)), .val (.long (own_mk wd)), .second, .unset, .unset] []))
      refine own_via (fun t k => XS.lconst X13.here hx rfl (hb hby at_90) k) ?_
      show own_G p e below _ (T13.setTop (mkF m 91 #[.val (.long q1), .second, .val (.long q2), .second, .val (.int p3), .val (.int kk), .val (.long r2), .second, .val (.long (((1 : Int64) <<< (((8 : Int32) * kk) &&& 0x3f).toInt64) - (1 : Int64))), .second, .val (.long wd), .second, .val (.int (own_fnd wd)), .val (.long (own_mk wd)), .second, .unset, .unset] [(.long (1 : Int64))]))
      refine own_via (fun t k => XS.bipush X13.here hx rfl (hb hby at_91) k) ?_
      show own_G p e below _ (T13.setTop (mkF m 93 #[.val (.long q1), .second, .val (.long q2), .second, .val (.int p3), .val (.int kk), .val (.long r2), .second, .val (.long (((1 : Int64) <<< (((8 : Int32) * kk) &&& 0x3f).toInt64) - (1 : Int64))), .second, .val (.long wd), .second, .val (.int (own_fnd wd)), .val (.long (own_mk wd)), .second, .unset, .unset] [(.int (8 : Int32)), (.long (1 : Int64))]))
      refine own_via (fun t k => XS.iload X13.here hx rfl (hb hby at_93) rfl k) ?_
      show own_G p e below _ (T13.setTop (mkF m 95 #[.val (.long q1), .second, .val (.long q2), .second, .val (.int p3), .val (.int kk), .val (.long r2), .second, .val (.long (((1 : Int64) <<< (((8 : Int32) * kk) &&& 0x3f).toInt64) - (1 : Int64))), .second, .val (.long wd), .second, .val (.int (own_fnd wd)), .val (.long (own_mk wd)), .second, .unset, .unset] [(.int (own_fnd wd)), (.int (8 : Int32)), (.long (1 : Int64))]))
      refine own_via (fun t k => XS.imul X13.here hx rfl (hb hby at_95) rfl k) ?_
      show own_G p e below _ (T13.setTop (mkF m 96 #[.val (.long q1), .second, .val (.long q2), .second, .val (.int p3), .val (.int kk), .val (.long r2), .second, .val (.long (((1 : Int64) <<< (((8 : Int32) * kk) &&& 0x3f).toInt64) - (1 : Int64))), .second, .val (.long wd), .second, .val (.int (own_fnd wd)), .val (.long (own_mk wd)), .second, .unset, .unset] [(.int ((8 : Int32) * (own_fnd wd))), (.long (1 : Int64))]))
      refine own_via (fun t k => XS.lshl X13.here hx rfl (hb hby at_96) rfl k) ?_
      show own_G p e below _ (T13.setTop (mkF m 97 #[.val (.long q1), .second, .val (.long q2), .second, .val (.int p3), .val (.int kk), .val (.long r2), .second, .val (.long (((1 : Int64) <<< (((8 : Int32) * kk) &&& 0x3f).toInt64) - (1 : Int64))), .second, .val (.long wd), .second, .val (.int (own_fnd wd)), .val (.long (own_mk wd)), .second, .unset, .unset] [(.long ((1 : Int64) <<< (((8 : Int32) * (own_fnd wd)) &&& 0x3f).toInt64))]))
      refine own_via (fun t k => XS.lconst X13.here hx rfl (hb hby at_97) k) ?_
      show own_G p e below _ (T13.setTop (mkF m 98 #[.val (.long q1), .second, .val (.long q2), .second, .val (.int p3), .val (.int kk), .val (.long r2), .second, .val (.long (((1 : Int64) <<< (((8 : Int32) * kk) &&& 0x3f).toInt64) - (1 : Int64))), .second, .val (.long wd), .second, .val (.int (own_fnd wd)), .val (.long (own_mk wd)), .second, .unset, .unset] [(.long (1 : Int64)), (.long ((1 : Int64) <<< (((8 : Int32) * (own_fnd wd)) &&& 0x3f).toInt64))]))
      refine own_via (fun t k => XS.lsub X13.here hx rfl (hb hby at_98) rfl k) ?_
      show own_G p e below _ (T13.setTop (mkF m 99 #[.val (.long q1), .second, .val (.long q2), .second, .val (.int p3), .val (.int kk), .val (.long r2), .second, .val (.long (((1 : Int64) <<< (((8 : Int32) * kk) &&& 0x3f).toInt64) - (1 : Int64))), .second, .val (.long wd), .second, .val (.int (own_fnd wd)), .val (.long (own_mk wd)), .second, .unset, .unset] [(.long (((1 : Int64) <<< (((8 : Int32) * (own_fnd wd)) &&& 0x3f).toInt64) - (1 : Int64)))]))
      refine own_via (fun t k => XS.lstore X13.here hx rfl (hb hby at_99) rfl (l' := #[.val (.long q1), .second, .val (.long q2), .second, .val (.int p3), .val (.int kk), .val (.long r2), .second, .val (.long (((1 : Int64) <<< (((8 : Int32) * kk) &&& 0x3f).toInt64) - (1 : Int64))), .second, .val (.long wd), .second, .val (.int (own_fnd wd)), .val (.long (own_mk wd)), .second, .val (.long (((1 : Int64) <<< (((8 : Int32) * (own_fnd wd)) &&& 0x3f).toInt64) - (1 : Int64))), .second]) rfl k) ?_
      show own_G p e below _ (T13.setTop (mkF m 101 #[.val (.long q1), .second, .val (.long q2), .second, .val (.int p3), .val (.int kk), .val (.long r2), .second, .val (.long (((1 : Int64) <<< (((8 : Int32) * kk) &&& 0x3f).toInt64) - (1 : Int64))), .second, .val (.long wd), .second, .val (.int (own_fnd wd)), .val (.long (own_mk wd)), .second, .val (.long (((1 : Int64) <<< (((8 : Int32) * (own_fnd wd)) &&& 0x3f).toInt64) - (1 : Int64))), .second] []))
      refine own_via (fun t k => XS.lload X13.here hx rfl (hb hby at_101) rfl k) ?_
      show own_G p e below _ (T13.setTop (mkF m 103 #[.val (.long q1), .second, .val (.long q2), .second, .val (.int p3), .val (.int kk), .val (.long r2), .second, .val (.long (((1 : Int64) <<< (((8 : Int32) * kk) &&& 0x3f).toInt64) - (1 : Int64))), .second, .val (.long wd), .second, .val (.int (own_fnd wd)), .val (.long (own_mk wd)), .second, .val (.long (((1 : Int64) <<< (((8 : Int32) * (own_fnd wd)) &&& 0x3f).toInt64) - (1 : Int64))), .second] [(.long (own_mk wd))]))
      refine own_via (fun t k => XS.lload X13.here hx rfl (hb hby at_103) rfl k) ?_
      show own_G p e below _ (T13.setTop (mkF m 105 #[.val (.long q1), .second, .val (.long q2), .second, .val (.int p3), .val (.int kk), .val (.long r2), .second, .val (.long (((1 : Int64) <<< (((8 : Int32) * kk) &&& 0x3f).toInt64) - (1 : Int64))), .second, .val (.long wd), .second, .val (.int (own_fnd wd)), .val (.long (own_mk wd)), .second, .val (.long (((1 : Int64) <<< (((8 : Int32) * (own_fnd wd)) &&& 0x3f).toInt64) - (1 : Int64))), .second] [(.long (((1 : Int64) <<< (((8 : Int32) * (own_fnd wd)) &&& 0x3f).toInt64) - (1 : Int64))), (.long (own_mk wd))]))
      refine own_via (fun t k => XS.land X13.here hx rfl (hb hby at_105) rfl k) ?_
      show own_G p e below _ (T13.setTop (mkF m 106 #[.val (.long q1), .second, .val (.long q2), .second, .val (.int p3), .val (.int kk), .val (.long r2), .second, .val (.long (((1 : Int64) <<< (((8 : Int32) * kk) &&& 0x3f).toInt64) - (1 : Int64))), .second, .val (.long wd), .second, .val (.int (own_fnd wd)), .val (.long (own_mk wd)), .second, .val (.long (((1 : Int64) <<< (((8 : Int32) * (own_fnd wd)) &&& 0x3f).toInt64) - (1 : Int64))), .second] [(.long ((own_mk wd) &&& (((1 : Int64) <<< (((8 : Int32) * (own_fnd wd)) &&& 0x3f).toInt64) - (1 : Int64))))]))
      refine own_via (fun t k => XS.lconst X13.here hx rfl (hb hby at_106) k) ?_
      show own_G p e below _ (T13.setTop (mkF m 107 #[.val (.long q1), .second, .val (.long q2), .second, .val (.int p3), .val (.int kk), .val (.long r2), .second, .val (.long (((1 : Int64) <<< (((8 : Int32) * kk) &&& 0x3f).toInt64) - (1 : Int64))), .second, .val (.long wd), .second, .val (.int (own_fnd wd)), .val (.long (own_mk wd)), .second, .val (.long (((1 : Int64) <<< (((8 : Int32) * (own_fnd wd)) &&& 0x3f).toInt64) - (1 : Int64))), .second] [(.long (0 : Int64)), (.long ((own_mk wd) &&& (((1 : Int64) <<< (((8 : Int32) * (own_fnd wd)) &&& 0x3f).toInt64) - (1 : Int64))))]))
      refine own_via (fun t k => XS.lcmp X13.here hx rfl (hb hby at_107) rfl k) ?_
      show own_G p e below _ (T13.setTop (mkF m 108 #[.val (.long q1), .second, .val (.long q2), .second, .val (.int p3), .val (.int kk), .val (.long r2), .second, .val (.long (((1 : Int64) <<< (((8 : Int32) * kk) &&& 0x3f).toInt64) - (1 : Int64))), .second, .val (.long wd), .second, .val (.int (own_fnd wd)), .val (.long (own_mk wd)), .second, .val (.long (((1 : Int64) <<< (((8 : Int32) * (own_fnd wd)) &&& 0x3f).toInt64) - (1 : Int64))), .second] [(.int (lcmpW ((own_mk wd) &&& (((1 : Int64) <<< (((8 : Int32) * (own_fnd wd)) &&& 0x3f).toInt64) - (1 : Int64))) (0 : Int64)))]))
      by_cases c108_16 : (lcmpW ((own_mk wd) &&& (((1 : Int64) <<< (((8 : Int32) * (own_fnd wd)) &&& 0x3f).toInt64) - (1 : Int64))) (0 : Int64)) = (0 : Int32)
      · skip
        refine own_via (fun t k => XS.ifNo X13.here hx rfl (hb hby at_108) rfl ((if0 _ _).trans (teq c108_16).2) k) ?_
        show own_G p e below _ (T13.setTop (mkF m 111 #[.val (.long q1), .second, .val (.long q2), .second, .val (.int p3), .val (.int kk), .val (.long r2), .second, .val (.long (((1 : Int64) <<< (((8 : Int32) * kk) &&& 0x3f).toInt64) - (1 : Int64))), .second, .val (.long wd), .second, .val (.int (own_fnd wd)), .val (.long (own_mk wd)), .second, .val (.long (((1 : Int64) <<< (((8 : Int32) * (own_fnd wd)) &&& 0x3f).toInt64) - (1 : Int64))), .second] []))
        refine own_via (fun t k => XS.lload X13.here hx rfl (hb hby at_111) rfl k) ?_
        show own_G p e below _ (T13.setTop (mkF m 113 #[.val (.long q1), .second, .val (.long q2), .second, .val (.int p3), .val (.int kk), .val (.long r2), .second, .val (.long (((1 : Int64) <<< (((8 : Int32) * kk) &&& 0x3f).toInt64) - (1 : Int64))), .second, .val (.long wd), .second, .val (.int (own_fnd wd)), .val (.long (own_mk wd)), .second, .val (.long (((1 : Int64) <<< (((8 : Int32) * (own_fnd wd)) &&& 0x3f).toInt64) - (1 : Int64))), .second] [(.long (own_mk wd))]))
        refine own_via (fun t k => XS.bipush X13.here hx rfl (hb hby at_113) k) ?_
        show own_G p e below _ (T13.setTop (mkF m 115 #[.val (.long q1), .second, .val (.long q2), .second, .val (.int p3), .val (.int kk), .val (.long r2), .second, .val (.long (((1 : Int64) <<< (((8 : Int32) * kk) &&& 0x3f).toInt64) - (1 : Int64))), .second, .val (.long wd), .second, .val (.int (own_fnd wd)), .val (.long (own_mk wd)), .second, .val (.long (((1 : Int64) <<< (((8 : Int32) * (own_fnd wd)) &&& 0x3f).toInt64) - (1 : Int64))), .second] [(.int (8 : Int32)), (.long (own_mk wd))]))
        refine own_via (fun t k => XS.iload X13.here hx rfl (hb hby at_115) rfl k) ?_
        show own_G p e below _ (T13.setTop (mkF m 117 #[.val (.long q1), .second, .val (.long q2), .second, .val (.int p3), .val (.int kk), .val (.long r2), .second, .val (.long (((1 : Int64) <<< (((8 : Int32) * kk) &&& 0x3f).toInt64) - (1 : Int64))), .second, .val (.long wd), .second, .val (.int (own_fnd wd)), .val (.long (own_mk wd)), .second, .val (.long (((1 : Int64) <<< (((8 : Int32) * (own_fnd wd)) &&& 0x3f).toInt64) - (1 : Int64))), .second] [(.int (own_fnd wd)), (.int (8 : Int32)), (.long (own_mk wd))]))
        refine own_via (fun t k => XS.imul X13.here hx rfl (hb hby at_117) rfl k) ?_
        show own_G p e below _ (T13.setTop (mkF m 118 #[.val (.long q1), .second, .val (.long q2), .second, .val (.int p3), .val (.int kk), .val (.long r2), .second, .val (.long (((1 : Int64) <<< (((8 : Int32) * kk) &&& 0x3f).toInt64) - (1 : Int64))), .second, .val (.long wd), .second, .val (.int (own_fnd wd)), .val (.long (own_mk wd)), .second, .val (.long (((1 : Int64) <<< (((8 : Int32) * (own_fnd wd)) &&& 0x3f).toInt64) - (1 : Int64))), .second] [(.int ((8 : Int32) * (own_fnd wd))), (.long (own_mk wd))]))
        refine own_via (fun t k => XS.lushr X13.here hx rfl (hb hby at_118) rfl k) ?_
        show own_G p e below _ (T13.setTop (mkF m 119 #[.val (.long q1), .second, .val (.long q2), .second, .val (.int p3), .val (.int kk), .val (.long r2), .second, .val (.long (((1 : Int64) <<< (((8 : Int32) * kk) &&& 0x3f).toInt64) - (1 : Int64))), .second, .val (.long wd), .second, .val (.int (own_fnd wd)), .val (.long (own_mk wd)), .second, .val (.long (((1 : Int64) <<< (((8 : Int32) * (own_fnd wd)) &&& 0x3f).toInt64) - (1 : Int64))), .second] [(.long (((own_mk wd).toUInt64 >>> (((8 : Int32) * (own_fnd wd)) &&& 0x3f).toInt64.toUInt64).toInt64))]))
        refine own_via (fun t k => X13.ldc2Long hx hown (mvT hZ (hw _ (List.mem_of_getElem? (i := 9) rfl))) (g := (mkF m 119 #[.val (.long q1), .second, .val (.long q2), .second, .val (.int p3), .val (.int kk), .val (.long r2), .second, .val (.long (((1 : Int64) <<< (((8 : Int32) * kk) &&& 0x3f).toInt64) - (1 : Int64))), .second, .val (.long wd), .second, .val (.int (own_fnd wd)), .val (.long (own_mk wd)), .second, .val (.long (((1 : Int64) <<< (((8 : Int32) * (own_fnd wd)) &&& 0x3f).toInt64) - (1 : Int64))), .second] [(.long (((own_mk wd).toUInt64 >>> (((8 : Int32) * (own_fnd wd)) &&& 0x3f).toInt64.toUInt64).toInt64))])) rfl (hb hby at_119) _ k) ?_
        show own_G p e below _ (T13.setTop (mkF m 122 #[.val (.long q1), .second, .val (.long q2), .second, .val (.int p3), .val (.int kk), .val (.long r2), .second, .val (.long (((1 : Int64) <<< (((8 : Int32) * kk) &&& 0x3f).toInt64) - (1 : Int64))), .second, .val (.long wd), .second, .val (.int (own_fnd wd)), .val (.long (own_mk wd)), .second, .val (.long (((1 : Int64) <<< (((8 : Int32) * (own_fnd wd)) &&& 0x3f).toInt64) - (1 : Int64))), .second] [(.long (255 : Int64)), (.long (((own_mk wd).toUInt64 >>> (((8 : Int32) * (own_fnd wd)) &&& 0x3f).toInt64.toUInt64).toInt64))]))
        refine own_via (fun t k => XS.land X13.here hx rfl (hb hby at_122) rfl k) ?_
        show own_G p e below _ (T13.setTop (mkF m 123 #[.val (.long q1), .second, .val (.long q2), .second, .val (.int p3), .val (.int kk), .val (.long r2), .second, .val (.long (((1 : Int64) <<< (((8 : Int32) * kk) &&& 0x3f).toInt64) - (1 : Int64))), .second, .val (.long wd), .second, .val (.int (own_fnd wd)), .val (.long (own_mk wd)), .second, .val (.long (((1 : Int64) <<< (((8 : Int32) * (own_fnd wd)) &&& 0x3f).toInt64) - (1 : Int64))), .second] [(.long ((((own_mk wd).toUInt64 >>> (((8 : Int32) * (own_fnd wd)) &&& 0x3f).toInt64.toUInt64).toInt64) &&& (255 : Int64)))]))
        refine own_via (fun t k => XS.lconst X13.here hx rfl (hb hby at_123) k) ?_
        show own_G p e below _ (T13.setTop (mkF m 124 #[.val (.long q1), .second, .val (.long q2), .second, .val (.int p3), .val (.int kk), .val (.long r2), .second, .val (.long (((1 : Int64) <<< (((8 : Int32) * kk) &&& 0x3f).toInt64) - (1 : Int64))), .second, .val (.long wd), .second, .val (.int (own_fnd wd)), .val (.long (own_mk wd)), .second, .val (.long (((1 : Int64) <<< (((8 : Int32) * (own_fnd wd)) &&& 0x3f).toInt64) - (1 : Int64))), .second] [(.long (0 : Int64)), (.long ((((own_mk wd).toUInt64 >>> (((8 : Int32) * (own_fnd wd)) &&& 0x3f).toInt64.toUInt64).toInt64) &&& (255 : Int64)))]))
        refine own_via (fun t k => XS.lcmp X13.here hx rfl (hb hby at_124) rfl k) ?_
        show own_G p e below _ (T13.setTop (mkF m 125 #[.val (.long q1), .second, .val (.long q2), .second, .val (.int p3), .val (.int kk), .val (.long r2), .second, .val (.long (((1 : Int64) <<< (((8 : Int32) * kk) &&& 0x3f).toInt64) - (1 : Int64))), .second, .val (.long wd), .second, .val (.int (own_fnd wd)), .val (.long (own_mk wd)), .second, .val (.long (((1 : Int64) <<< (((8 : Int32) * (own_fnd wd)) &&& 0x3f).toInt64) - (1 : Int64))), .second] [(.int (lcmpW ((((own_mk wd).toUInt64 >>> (((8 : Int32) * (own_fnd wd)) &&& 0x3f).toInt64.toUInt64).toInt64) &&& (255 : Int64)) (0 : Int64)))]))
        by_cases c125_17 : (lcmpW ((((own_mk wd).toUInt64 >>> (((8 : Int32) * (own_fnd wd)) &&& 0x3f).toInt64.toUInt64).toInt64) &&& (255 : Int64)) (0 : Int64)) = (0 : Int32)
        · exfalso
          exact own_L3 wd c74_14 c125_17
        · skip
          refine own_via (fun t k => XS.ifNo X13.here hx rfl (hb hby at_125) rfl ((if0 _ _).trans (feq c125_17).1) k) ?_
          show own_G p e below _ (T13.setTop (mkF m 128 #[.val (.long q1), .second, .val (.long q2), .second, .val (.int p3), .val (.int kk), .val (.long r2), .second, .val (.long (((1 : Int64) <<< (((8 : Int32) * kk) &&& 0x3f).toInt64) - (1 : Int64))), .second, .val (.long wd), .second, .val (.int (own_fnd wd)), .val (.long (own_mk wd)), .second, .val (.long (((1 : Int64) <<< (((8 : Int32) * (own_fnd wd)) &&& 0x3f).toInt64) - (1 : Int64))), .second] []))
          refine own_via (fun t k => XS.iconst X13.here hx rfl (hb hby at_128) k) ?_
          show own_G p e below _ (T13.setTop (mkF m 129 #[.val (.long q1), .second, .val (.long q2), .second, .val (.int p3), .val (.int kk), .val (.long r2), .second, .val (.long (((1 : Int64) <<< (((8 : Int32) * kk) &&& 0x3f).toInt64) - (1 : Int64))), .second, .val (.long wd), .second, .val (.int (own_fnd wd)), .val (.long (own_mk wd)), .second, .val (.long (((1 : Int64) <<< (((8 : Int32) * (own_fnd wd)) &&& 0x3f).toInt64) - (1 : Int64))), .second] [(.int (1 : Int32))]))
          refine own_via (fun t k => XS.goto X13.here hx rfl (pc0 := 129) (pc' := 133) rfl (hb hby at_129) (by decide) (by decide) k) ?_
          show own_G p e below _ (T13.setTop (mkF m 133 #[.val (.long q1), .second, .val (.long q2), .second, .val (.int p3), .val (.int kk), .val (.long r2), .second, .val (.long (((1 : Int64) <<< (((8 : Int32) * kk) &&& 0x3f).toInt64) - (1 : Int64))), .second, .val (.long wd), .second, .val (.int (own_fnd wd)), .val (.long (own_mk wd)), .second, .val (.long (((1 : Int64) <<< (((8 : Int32) * (own_fnd wd)) &&& 0x3f).toInt64) - (1 : Int64))), .second] [(.int (1 : Int32))]))
          obtain ⟨fs, hr, hrun, hended, hW, hsame⟩ := X13.leave (v := some (.int (1 : Int32))) (fun h => by rw [Bd.returns] at h; cases h)
          refine ⟨_, _, retN X13 hx (t := .boolean) Bd.returns (by simp) (hb hby at_133) hr, hrun, hended, _, _, rfl, ?_, ⟨_, rfl⟩, hW, hsame.mono (by decide) (by decide)⟩
          show rm0_Q Z q1 q2 p3 h0 n0 _ T13.heap _
          rw [e13]
          exact ⟨rfl, N13⟩
      · exfalso
        exact c108_16 (own_L2 wd c74_14)

set_option maxRecDepth 65536 in
set_option maxHeartbeats 40000000 in
theorem comes_1 {Post : Tables → Env → Array Value → State → Outcome → State → Prop} (hpost : ∀ tb e args s v u, (limb_1_1.after args s (.returned v) u = true ∧ limb_1_2.after args s (.returned v) u = true ∧ True) → FrameEnd s (.returned v) u (Jvm.fieldLocs frame_1_writes args s ++ Jvm.arrayLocs frame_1_arrays args s ++ Jvm.staticLocs frame_1_statics s) 0 0 → Post tb e args s (.returned v) u) :
    ArmFor flags0 classFile x code maxLocals ret World_1 tables_1 room_1 Calls_1 rest_1 Pre_1 Post := by
  intro l hfl _ _ p e ha hc hk s m args below hf hA hF happ hP
  obtain ⟨hcalls, hrest, hpre⟩ := hP
  obtain ⟨-, -, -, hnamed, -, -, -, hat⟩ := (Spec.applies_iff hf).mp happ
  obtain ⟨hg, hn⟩ := and_e (Cond.before_iff.mp (show (Jvm.Cond.and given_1 narrow_1).before args s = true from hpre))
  obtain ⟨gg1, gg2⟩ := and_e hg
  obtain ⟨gg3, gg4⟩ := and_e gg2
  obtain ⟨gg5, gg6⟩ := and_e gg4
  obtain ⟨w0, w1, w2, rfl⟩ : ∃ w0 w1 w2 : Value, args = #[w0, w1, w2] := by
    have hs : args.size = 3 := by simpa [Cond.value, given_1] using gg1
    obtain ⟨L⟩ := args
    match L, hs with
    | [w0, w1, w2], _ => exact ⟨w0, w1, w2, rfl⟩
  have hw := fun d (hd : d ∈ tables_1) => atoms_spec (ws := Jvm.Cond.code x code maxLocals ret :: tables_1) hat d (List.mem_cons_of_mem _ hd)
  obtain ⟨i0, ei0⟩ := isL_v gg3
  obtain rfl : w0 = (.long i0) := Option.some.inj ei0
  obtain ⟨i1, ei1⟩ := isL_v gg5
  obtain rfl : w1 = (.long i1) := Option.some.inj ei1
  obtain ⟨i2, ei2⟩ := is_v gg6
  obtain rfl : w2 = (.int i2) := Option.some.inj ei2
  obtain ⟨n, o, h1, h2, h3, _, L, rfl, ⟨rfl, N⟩, hq⟩ := rm0 l s _ hw tables_1 i0 i1 i2 s.heap s.heap.size (Nat.le_refl _) p e ha hc hk s m _ below hf ((Spec.applies_iff_loose hf).mp happ).1 ⟨rfl, State.Warmed39.refl s, rfl⟩ trivial
  refine ⟨n, _, h1, h2, h3, hpost _ _ _ _ _ _ ⟨Cond.after_iff.mpr rfl, Cond.after_iff.mpr (eq_i res_at (Term.int_eval (1)) rfl), trivial⟩ ⟨hq.1, hq.2.1, (hq.2.2.sift fun y hy => Or.inr (N y hy)).mono (by decide) (by decide)⟩⟩
theorem main_1_1 : Claimed_1_1 := comes_1 fun _ _ _ _ _ _ h hF => ⟨h.1, hF⟩
theorem main_1_2 : Claimed_1_2 := comes_1 fun _ _ _ _ _ _ h hF => ⟨h.2.1, hF⟩

end Jvm.Pilot.@@N@@
namespace Jvm.Pilot.@@N@@
open Jvm Jvm.ClassFile Sem Op Lib Jvm.Free Jvm.Stand Jvm.Pilot.@@N@@.Jvm.D
/-! MADE BY PROGRAM (witnessworld.py) out of the Statement's table words and the real class files: 9 classes; the members and pool entries that the words name. The judged class is class 1, her method 1. -/
namespace start1
open Jvm.ClassFile
def u (s : String) : CpInfo := .utf8 (stringToUtf16 s)
/-- a pool by its gaps: so many unusable entries, then the entry; so many at the end -/
def gap : Nat → List CpInfo → List CpInfo
  | 0, r => r
  | n + 1, r => .unusable :: gap n r
def poolList (es : List (Nat × CpInfo)) (last : Nat) : List CpInfo := es.foldr (fun e r => gap e.1 (e.2 :: r)) (gap last [])
def pool (es : List (Nat × CpInfo)) (last : Nat) : Array CpInfo := ⟨poolList es last⟩
def fileOf (pool : Array CpInfo) (this : Nat) (attrs : Array Attribute := #[]) (ms : Array MethodInfo := #[]) (fl : Nat := 33) (sup : Nat := 0) (ifs : Array Nat := #[]) (fds : Array FieldInfo := #[]) : ClassFile where
  minorVersion := 0
  majorVersion := 65
  constantPool := pool
  accessFlags := fl
  thisClass := this
  superClass := sup
  interfaces := ifs
  fields := fds
  methods := ms
  attributes := attrs
def plain (name : String) (sup : Option ClassId) : Class where
  name := name
  kind := .ordinary
  loader := none
  accessFlags := 33
  super := sup
  interfaces := #[]
  cf := none
  fields := #[]
  methods := #[]
  instanceTypes := #[]
  staticTypes := #[]
  resolved := #[]
  callSites := []
  init := .initialized
  statics := none
  mirror := none

def pool0 : Array CpInfo := pool [(5, u "<init>"), (0, u "()V"), (1, .class_ 10), (1, u "java/lang/Object")] 113

def k0m0 : Method := { name := "<init>", desc := "()V", sig := { parameters := [], returnType := none }, accessFlags := 1, code := none }
/-- java/lang/Object -/
def k0 : Class := { plain "java/lang/Object" none with
  accessFlags := 33
  interfaces := #[]
  cf := some (fileOf pool0 8 #[] #[{ accessFlags := 1, nameIndex := 5, descriptorIndex := 6, attributes := #[] }] 33 0 #[] #[])
  fields := #[]
  methods := #[k0m0]
  instanceTypes := #[]
  staticTypes := #[]
  resolved := Array.replicate 124 none
  statics := none }

def pool1 : Array CpInfo := pool [(2, .class_ 4), (1, u "java/lang/Object"), (0, u "<init>"), (0, u "()V"), (0, .integer 2147483647), (0, .methodref 9 10), (0, .class_ 11), (0, .nameAndType 12 13), (0, u "com/example/fee_simple/feesimple/cli/AsciiWordsMarksNotDigitsPinLaw"), (0, u "digitWord"), (0, u "(J)J"), (0, .long 18446744073709551615), (1, .methodref 9 17), (0, .nameAndType 18 19), (0, u "firstNonDigit"), (0, u "(J)I"), (0, .methodref 21 22), (0, .class_ 23), (0, .nameAndType 24 13), (0, u "com/example/fee_simple/feesimple/cli/AsciiWords"), (0, u "marksNotDigits"), (0, .long 255), (1, .long 48), (1, .long 10), (1, .methodref 9 32), (0, .nameAndType 33 34), (0, u "digitByte"), (0, u "(JI)J"), (0, .long 57), (1, .methodref 9 38), (0, .nameAndType 39 40), (0, u "isDigitAt"), (0, u "(JI)Z"), (2, u "law"), (0, u "(JJI)Z")] 3

def k1m0 : Method := { name := "<init>", desc := "()V", sig := { parameters := [], returnType := none }, accessFlags := 1, code := none }
def k1c1 : Code := { maxStack := 6, maxLocals := 17, code := code, exceptionTable := #[], attributes := #[] }
def k1m1 : Method := { name := "law", desc := "(JJI)Z", sig := { parameters := [.long, .long, .int], returnType := some .boolean }, accessFlags := 9, code := some k1c1 }
def k1c2 : Code := { maxStack := 6, maxLocals := 3, code := method_3_code, exceptionTable := #[], attributes := #[] }
def k1m2 : Method := { name := "digitByte", desc := "(JI)J", sig := { parameters := [.long, .int], returnType := some .long }, accessFlags := 10, code := some k1c2 }
def k1c3 : Code := { maxStack := 5, maxLocals := 2, code := method_4_code, exceptionTable := #[], attributes := #[] }
def k1m3 : Method := { name := "digitWord", desc := "(J)J", sig := { parameters := [.long], returnType := some .long }, accessFlags := 10, code := some k1c3 }
def k1c4 : Code := { maxStack := 4, maxLocals := 5, code := method_5_code, exceptionTable := #[], attributes := #[] }
def k1m4 : Method := { name := "isDigitAt", desc := "(JI)Z", sig := { parameters := [.long, .int], returnType := some .boolean }, accessFlags := 10, code := some k1c4 }
def k1c5 : Code := { maxStack := 3, maxLocals := 2, code := method_6_code, exceptionTable := #[], attributes := #[] }
def k1m5 : Method := { name := "firstNonDigit", desc := "(J)I", sig := { parameters := [.long], returnType := some .int }, accessFlags := 10, code := some k1c5 }
/-- com/example/fee_simple/feesimple/cli/AsciiWordsMarksNotDigitsPinLaw -/
def k1 : Class := { plain "com/example/fee_simple/feesimple/cli/AsciiWordsMarksNotDigitsPinLaw" (some 0) with
  accessFlags := 49
  interfaces := #[]
  cf := some (fileOf pool1 9 #[] #[{ accessFlags := 1, nameIndex := 5, descriptorIndex := 6, attributes := #[] }, { accessFlags := 9, nameIndex := 43, descriptorIndex := 44, attributes := #[] }, { accessFlags := 10, nameIndex := 33, descriptorIndex := 34, attributes := #[] }, { accessFlags := 10, nameIndex := 12, descriptorIndex := 13, attributes := #[] }, { accessFlags := 10, nameIndex := 39, descriptorIndex := 40, attributes := #[] }, { accessFlags := 10, nameIndex := 18, descriptorIndex := 19, attributes := #[] }] 49 2 #[] #[])
  fields := #[]
  methods := #[k1m0, k1m1, k1m2, k1m3, k1m4, k1m5]
  instanceTypes := #[]
  staticTypes := #[]
  resolved := Array.replicate 48 none
  statics := none }

def pool2 : Array CpInfo := pool [(4, .class_ 6), (1, u "java/lang/Object"), (0, u "<init>"), (0, u "()V"), (1, .class_ 12), (1, u "com/example/fee_simple/feesimple/cli/AsciiWords"), (0, u "WORDS"), (0, u "Ljava/lang/invoke/VarHandle;"), (12, .long 17361641481138401520), (1, .long 3472328296227680304), (1, .long 434041037028460038), (49, u "READ_AHEAD"), (0, u "I"), (2, u "ONES"), (0, u "J"), (0, u "HIGH_BITS"), (0, u "HIGH_HALVES"), (0, u "DIGIT_HIGH_HALVES"), (0, u "PAST_NINE"), (4, u "marksNotDigits"), (0, u "(J)J")] 8

def k2m0 : Method := { name := "<init>", desc := "()V", sig := { parameters := [], returnType := none }, accessFlags := 2, code := none }
def k2c1 : Code := { maxStack := 4, maxLocals := 6, code := prog_10_method_5_code, exceptionTable := #[], attributes := #[] }
def k2m1 : Method := { name := "marksNotDigits", desc := "(J)J", sig := { parameters := [.long], returnType := some .long }, accessFlags := 8, code := some k2c1 }
/-- com/example/fee_simple/feesimple/cli/AsciiWords -/
def k2 : Class := { plain "com/example/fee_simple/feesimple/cli/AsciiWords" (some 0) with
  accessFlags := 32
  interfaces := #[]
  cf := some (fileOf pool2 10 #[] #[{ accessFlags := 2, nameIndex := 7, descriptorIndex := 8, attributes := #[] }, { accessFlags := 8, nameIndex := 95, descriptorIndex := 96, attributes := #[] }] 32 4 #[] #[{ accessFlags := 24, nameIndex := 81, descriptorIndex := 82, attributes := #[] }, { accessFlags := 26, nameIndex := 13, descriptorIndex := 14, attributes := #[] }, { accessFlags := 26, nameIndex := 85, descriptorIndex := 86, attributes := #[] }, { accessFlags := 26, nameIndex := 87, descriptorIndex := 86, attributes := #[] }, { accessFlags := 26, nameIndex := 88, descriptorIndex := 86, attributes := #[] }, { accessFlags := 26, nameIndex := 89, descriptorIndex := 86, attributes := #[] }, { accessFlags := 26, nameIndex := 90, descriptorIndex := 86, attributes := #[] }])
  fields := #[{ name := "READ_AHEAD", type := .int, accessFlags := 24, slot := 0, constantValue := 0 }, { name := "WORDS", type := (.object "java/lang/invoke/VarHandle"), accessFlags := 26, slot := 1, constantValue := 0 }, { name := "ONES", type := .long, accessFlags := 26, slot := 2, constantValue := 0 }, { name := "HIGH_BITS", type := .long, accessFlags := 26, slot := 3, constantValue := 0 }, { name := "HIGH_HALVES", type := .long, accessFlags := 26, slot := 4, constantValue := 0 }, { name := "DIGIT_HIGH_HALVES", type := .long, accessFlags := 26, slot := 5, constantValue := 0 }, { name := "PAST_NINE", type := .long, accessFlags := 26, slot := 6, constantValue := 0 }]
  methods := #[k2m0, k2m1]
  instanceTypes := #[]
  staticTypes := #[.int, (.object "java/lang/invoke/VarHandle"), .long, .long, .long, .long, .long]
  resolved := Array.replicate 105 none
  statics := none }

def pool3 : Array CpInfo := pool [(1, u "java/lang/Cloneable"), (0, .class_ 1), (0, u "java/lang/Object"), (0, .class_ 3)] 3

/-- java/lang/Cloneable -/
def k3 : Class := { plain "java/lang/Cloneable" (some 0) with
  accessFlags := 1537
  interfaces := #[]
  cf := some (fileOf pool3 2 #[] #[] 1537 4 #[] #[])
  fields := #[]
  methods := #[]
  instanceTypes := #[]
  staticTypes := #[]
  resolved := Array.replicate 8 none
  statics := none }

def pool4 : Array CpInfo := pool [(1, u "java/io/Serializable"), (0, .class_ 1), (0, u "java/lang/Object"), (0, .class_ 3)] 3

/-- java/io/Serializable -/
def k4 : Class := { plain "java/io/Serializable" (some 0) with
  accessFlags := 1537
  interfaces := #[]
  cf := some (fileOf pool4 2 #[] #[] 1537 4 #[] #[])
  fields := #[]
  methods := #[]
  instanceTypes := #[]
  staticTypes := #[]
  resolved := Array.replicate 8 none
  statics := none }

/-- the primitive byte -/
def k5 : Class := { plain "byte" none with kind := .primitive 'B', accessFlags := 0x411 }
/-- [B -/
def k6 : Class := { plain "[B" (some 0) with kind := .array 5 .byte, interfaces := #[3, 4], accessFlags := 1041 }

/-- the primitive int -/
def k7 : Class := { plain "int" none with kind := .primitive 'I', accessFlags := 0x411 }
/-- [I -/
def k8 : Class := { plain "[I" (some 0) with kind := .array 7 .int, interfaces := #[3, 4], accessFlags := 1041 }

def heap : Heap := #[]
def classes : Array Class := #[k0, k1, k2, k3, k4, k5, k6, k7, k8]
def interned : List (Array UInt16 × Addr) := []
def slotsUsed : Nat := 0
def theMethod : MethodId := ⟨1, 1⟩
def args0 : Array Value := #[.long 5, .long 7, .int 3]
def aboutOver (below : List Frame) : State where
  vm := { classes := classes, interned := interned.toArray }
  heap := heap
  slotsUsed := slotsUsed
  threads := #[{ frames := .invoking theMethod args0 :: below }]
def below0 : List Frame := [.native { method := ⟨0, 0⟩, args := #[] }]
def about1 : State := aboutOver below0
def p0 : Program := .bare "" "" ""
def e0 : Env := launch0.env 0 0 0
theorem w_frames : about1.frames = Frame.invoking theMethod args0 :: below0 := rfl
set_option maxRecDepth 65536 in
theorem w_args : argsFit about1.vm theMethod args0 = true := by decide +kernel
set_option maxRecDepth 65536 in
theorem w_heap : heapFits about1 = true := by decide +kernel
set_option maxRecDepth 65536 in
theorem w_runnable : about1.curStatus? = some .runnable := by decide +kernel
set_option maxRecDepth 65536 in
theorem w_alone : about1.alone = true := by decide +kernel
set_option maxRecDepth 65536 in
theorem w_named : about1.methodNamed? x = some theMethod := by decide +kernel
set_option maxRecDepth 65536 in
theorem w_hears : about1.hears theMethod below0 = true := by decide +kernel
set_option maxRecDepth 65536 in
theorem w_ripe : about1.ripe theMethod args0 below0 = true := by decide +kernel
theorem w_running : about1.status = .running := rfl
set_option maxRecDepth 65536 in
theorem w_room : about1.hasRoom e0.platform room_1 = true :=
  launch0.hasRoom_least _ room_1 (by decide +kernel) (by decide +kernel) (by decide +kernel) (by decide +kernel) (by decide +kernel) (by decide +kernel)
theorem allAtoms_all (ts : List Jvm.Cond) (a : Array Jvm.Value) (st : Jvm.State) : (allAtoms ts).before a st = ts.all (fun c => c.before a st) := by
  induction ts with
  | nil => rfl
  | cons c t ih =>
    show (Jvm.Cond.and c (allAtoms t)).before a st = _
    rw [Jvm.Cond.before_and, ih, List.all_cons]
def words1 : List Jvm.Cond := Jvm.Cond.code x code maxLocals ret :: tables_1
/-- a 'code' word, met by the world's own term for the bytes: nothing is compared byte by byte -/
theorem code_word {y : MethodName} {bytes : ByteArray} {mx : Nat} {rt : Option FieldType} {a : Array Value} {s : State} {m : MethodId} {meth : Method} {c : Code} (h1 : s.methodNamed? y = some m) (h2 : s.vm.method? m = some meth) (h3 : meth.code = some c) (h4 : c.code = bytes)
    (h5 : (c.maxLocals == mx && c.exceptionTable.isEmpty && decide (c.maxStack ≤ mostOperands) && decide (meth.sig.returnType = rt) && !meth.locks && decide (parseMethodDescriptor y.desc = some meth.sig)) = true) : (Jvm.Cond.code y bytes mx rt).before a s = true := by
  simp only [Bool.and_eq_true, beq_iff_eq, Bool.not_eq_true', decide_eq_true_eq] at h5
  obtain ⟨⟨⟨⟨⟨g1, g2⟩, g3⟩, g4⟩, g5⟩, g6⟩ := h5
  simp [Cond.before, Cond.holds, Cond.value, h1, h2, h3, h4, g1, g2, g3, g4, g5, g6]
def isCode : Jvm.Cond → Bool
  | .code _ _ _ _ => true
  | _ => false
theorem all_split {L : List Jvm.Cond} {P : Jvm.Cond → Bool} (h1 : L.all (fun c => isCode c || P c) = true) (h2 : ∀ c ∈ L.filter isCode, P c = true) : L.all P = true := by
  refine List.all_eq_true.mpr fun c hc => ?_
  have h := List.all_eq_true.mp h1 c hc
  rcases Bool.eq_false_or_eq_true (isCode c) with hi | hi
  · exact h2 c (List.mem_filter.mpr ⟨hc, hi⟩)
  · simpa [hi] using h
set_option maxRecDepth 65536 in
theorem w_c0 : (Jvm.Cond.code x code maxLocals ret).before args0 about1 = true := code_word (m := ⟨1, 1⟩) (meth := k1m1) (c := k1c1) (by decide +kernel) rfl rfl rfl (by decide +kernel)
set_option maxRecDepth 65536 in
theorem w_c1 : (Jvm.Cond.code ({ cls := "com/example/fee_simple/feesimple/cli/AsciiWordsMarksNotDigitsPinLaw", name := "digitWord", desc := "(J)J" } : Jvm.MethodName) method_4_code (2 : Nat) (Option.some Jvm.ClassFile.FieldType.long)).before args0 about1 = true := code_word (m := ⟨1, 3⟩) (meth := k1m3) (c := k1c3) (by decide +kernel) rfl rfl rfl (by decide +kernel)
set_option maxRecDepth 65536 in
theorem w_c2 : (Jvm.Cond.code ({ cls := "com/example/fee_simple/feesimple/cli/AsciiWordsMarksNotDigitsPinLaw", name := "digitByte", desc := "(JI)J" } : Jvm.MethodName) method_3_code (3 : Nat) (Option.some Jvm.ClassFile.FieldType.long)).before args0 about1 = true := code_word (m := ⟨1, 2⟩) (meth := k1m2) (c := k1c2) (by decide +kernel) rfl rfl rfl (by decide +kernel)
set_option maxRecDepth 65536 in
theorem w_c3 : (Jvm.Cond.code ({ cls := "com/example/fee_simple/feesimple/cli/AsciiWordsMarksNotDigitsPinLaw", name := "firstNonDigit", desc := "(J)I" } : Jvm.MethodName) method_6_code (2 : Nat) (Option.some Jvm.ClassFile.FieldType.int)).before args0 about1 = true := code_word (m := ⟨1, 5⟩) (meth := k1m5) (c := k1c5) (by decide +kernel) rfl rfl rfl (by decide +kernel)
set_option maxRecDepth 65536 in
theorem w_c4 : (Jvm.Cond.code ({ cls := "com/example/fee_simple/feesimple/cli/AsciiWordsMarksNotDigitsPinLaw", name := "isDigitAt", desc := "(JI)Z" } : Jvm.MethodName) method_5_code (5 : Nat) (Option.some Jvm.ClassFile.FieldType.boolean)).before args0 about1 = true := code_word (m := ⟨1, 4⟩) (meth := k1m4) (c := k1c4) (by decide +kernel) rfl rfl rfl (by decide +kernel)
set_option maxRecDepth 65536 in
theorem w_c5 : (Jvm.Cond.code ({ cls := "com/example/fee_simple/feesimple/cli/AsciiWords", name := "marksNotDigits", desc := "(J)J" } : Jvm.MethodName) prog_10_method_5_code (6 : Nat) (Option.some Jvm.ClassFile.FieldType.long)).before args0 about1 = true := code_word (m := ⟨2, 1⟩) (meth := k2m1) (c := k2c1) (by decide +kernel) rfl rfl rfl (by decide +kernel)
def codes1 : List Jvm.Cond := [Jvm.Cond.code x code maxLocals ret, Jvm.Cond.code ({ cls := "com/example/fee_simple/feesimple/cli/AsciiWordsMarksNotDigitsPinLaw", name := "digitWord", desc := "(J)J" } : Jvm.MethodName) method_4_code (2 : Nat) (Option.some Jvm.ClassFile.FieldType.long), Jvm.Cond.code ({ cls := "com/example/fee_simple/feesimple/cli/AsciiWordsMarksNotDigitsPinLaw", name := "digitByte", desc := "(JI)J" } : Jvm.MethodName) method_3_code (3 : Nat) (Option.some Jvm.ClassFile.FieldType.long), Jvm.Cond.code ({ cls := "com/example/fee_simple/feesimple/cli/AsciiWordsMarksNotDigitsPinLaw", name := "firstNonDigit", desc := "(J)I" } : Jvm.MethodName) method_6_code (2 : Nat) (Option.some Jvm.ClassFile.FieldType.int), Jvm.Cond.code ({ cls := "com/example/fee_simple/feesimple/cli/AsciiWordsMarksNotDigitsPinLaw", name := "isDigitAt", desc := "(JI)Z" } : Jvm.MethodName) method_5_code (5 : Nat) (Option.some Jvm.ClassFile.FieldType.boolean), Jvm.Cond.code ({ cls := "com/example/fee_simple/feesimple/cli/AsciiWords", name := "marksNotDigits", desc := "(J)J" } : Jvm.MethodName) prog_10_method_5_code (6 : Nat) (Option.some Jvm.ClassFile.FieldType.long)]
set_option maxRecDepth 65536 in
theorem codes_eq : words1.filter isCode = codes1 := rfl
theorem w_codes : ∀ c ∈ words1.filter isCode, c.before args0 about1 = true := by
  rw [codes_eq]
  intro c hc
  simp only [codes1, List.mem_cons, List.not_mem_nil, or_false] at hc
  rcases hc with rfl | rfl | rfl | rfl | rfl | rfl
  · exact w_c0
  · exact w_c1
  · exact w_c2
  · exact w_c3
  · exact w_c4
  · exact w_c5
set_option maxRecDepth 65536 in
theorem w_t1 : (words1.take 24).all (fun c => isCode c || c.before args0 about1) = true := by decide +kernel
set_option maxRecDepth 65536 in
theorem w_t2 : (words1.drop 24).all (fun c => isCode c || c.before args0 about1) = true := by decide +kernel
theorem w_tables : (allAtoms (Jvm.Cond.code x code maxLocals ret :: tables_1)).before args0 about1 = true := by
  rw [allAtoms_all]
  show words1.all (fun c => c.before args0 about1) = true
  refine all_split ?_ w_codes
  rw [← List.take_append_drop 24 words1, List.all_append, w_t1, w_t2]
  rfl
set_option maxRecDepth 65536 in
theorem w_case : (Jvm.Cond.and given_1 narrow_1).before args0 about1 = true := by decide +kernel
theorem w_applies : (headSpec (Jvm.Cond.code x code maxLocals ret :: tables_1) room_1).applies x e0.platform about1 = true :=
  (Spec.applies_iff w_frames).mpr ⟨w_running, w_runnable, w_alone, w_named, w_hears, w_ripe, w_room, w_tables⟩
theorem atStart : AtStart classFile x code maxLocals ret World_1 tables_1 room_1 Calls_1 rest_1 Pre_1 launch0 p0 e0 about1 theMethod args0 below0 :=
  ⟨lists_1, trivial, launch0.admits_env _ _ _, launch0.least_env, fairChoices_fair.cas, fairChoices_fair.clock, w_frames, w_args, w_heap, w_applies, trivial, trivial, w_case⟩
end start1
theorem witness_1 : WitnessClaimed_1 := ⟨start1.p0, start1.e0, start1.about1, start1.theMethod, start1.args0, start1.below0, start1.atStart⟩
end Jvm.Pilot.@@N@@
