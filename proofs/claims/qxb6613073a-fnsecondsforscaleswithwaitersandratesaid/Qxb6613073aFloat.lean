/- The plain arithmetic of double-precision rounding: no Go in sight. -/
import Ieee.Arith
namespace Go.Proofs.Qxb6613073a
open Ieee

/-! ### Powers of two as rationals -/
def T (e : Int) : Rat := (2 : Rat) ^ e
theorem two_ne : (2 : Rat) ≠ 0 := by decide
theorem T_add (a b : Int) : T (a + b) = T a * T b := Rat.zpow_add two_ne a b
theorem T_pos (a : Int) : 0 < T a := Rat.zpow_pos (by decide)
theorem T_zero : T 0 = 1 := Rat.zpow_zero 2
theorem T_one : T 1 = 2 := Rat.zpow_one 2
theorem T_nat (n : Nat) : T (n : Int) = ((2 ^ n : Nat) : Rat) := by
  unfold T; rw [Rat.zpow_natCast, Rat.natCast_pow]; rfl
theorem T_succ (a : Int) : T (a + 1) = 2 * T a := by rw [T_add, T_one]; grind
theorem T_ge_one (n : Nat) : 1 ≤ T (n : Int) := by
  rw [T_nat]
  have : 1 ≤ 2 ^ n := Nat.one_le_two_pow
  have h : ((1 : Nat) : Rat) ≤ ((2 ^ n : Nat) : Rat) := Rat.natCast_le_natCast.2 this
  simpa using h
theorem T_mono {a b : Int} (h : a ≤ b) : T a ≤ T b := by
  obtain ⟨n, rfl⟩ : ∃ n : Nat, b = a + n := ⟨(b - a).toNat, by omega⟩
  rw [T_add]
  have h1 := T_ge_one n
  have h2 := T_pos a
  have := Rat.mul_le_mul_of_nonneg_left h1 (Rat.le_of_lt h2)
  rwa [Rat.mul_one] at this
theorem T_lt {a b : Int} (h : a < b) : T a < T b := by
  have h1 := T_mono (show a + 1 ≤ b by omega)
  rw [T_succ] at h1
  have h2 := T_pos a
  grind

/-! ### Rounding a whole number to even -/
theorem cut_bound (neg : Bool) (n d : Nat) : 2 * (Toward.even.cut neg n d * 2 ^ d) ≤ 2 * n + 2 ^ d ∧ 2 * n ≤ 2 * (Toward.even.cut neg n d * 2 ^ d) + 2 ^ d := by
  unfold Toward.cut
  dsimp only
  by_cases hd : d ≤ n.log2 + 2
  · rw [Nat.min_eq_left hd, Nat.one_shiftLeft]
    have hp : 0 < 2 ^ d := Nat.two_pow_pos d
    have hdm := Nat.div_add_mod n (2 ^ d)
    have hr := Nat.mod_lt n hp
    have e1 : (n / 2 ^ d) * 2 ^ d = 2 ^ d * (n / 2 ^ d) := Nat.mul_comm _ _
    generalize 2 ^ d = g at *
    generalize n % g = r at *
    generalize hq : n / g = q at *
    cases hm : (decide (g < 2 * r) || (g == 2 * r && q % 2 == 1)) with
    | true =>
      have : g ≤ 2 * r := by
        simp only [Bool.or_eq_true, decide_eq_true_eq, Bool.and_eq_true, beq_iff_eq] at hm
        omega
      have e2 : (q + true.toNat) * g = g * q + g := by rw [Bool.toNat_true, Nat.add_mul, Nat.one_mul, Nat.mul_comm]
      rw [e2]; omega
    | false =>
      have : 2 * r ≤ g := by
        simp only [Bool.or_eq_false_iff, decide_eq_false_iff_not] at hm
        omega
      have e2 : (q + false.toNat) * g = g * q := by rw [Bool.toNat_false, Nat.add_zero, Nat.mul_comm]
      rw [e2]; omega
  · have hd' : n.log2 + 2 ≤ d := by omega
    rw [Nat.min_eq_right hd', Nat.one_shiftLeft]
    have hn : n < 2 ^ (n.log2 + 1) := Nat.lt_log2_self
    have h2 : 2 ^ (n.log2 + 2) = 2 * 2 ^ (n.log2 + 1) := by rw [Nat.pow_succ]; omega
    have hdd : 2 ^ (n.log2 + 2) ≤ 2 ^ d := Nat.pow_le_pow_right (by omega) hd'
    have hq : n / 2 ^ (n.log2 + 2) = 0 := Nat.div_eq_of_lt (by omega)
    have hr : n % 2 ^ (n.log2 + 2) = n := Nat.mod_eq_of_lt (by omega)
    rw [hq, hr]
    have hm : (decide (2 ^ (n.log2 + 2) < 2 * n) || (2 ^ (n.log2 + 2) == 2 * n && (0 : Nat) % 2 == 1)) = false := by
      have : ¬ 2 ^ (n.log2 + 2) < 2 * n := by omega
      simp [this]
    rw [hm]
    simp only [Bool.toNat_false, Nat.add_zero, Nat.zero_mul]
    omega

/-- What is cut lies where the number lies. -/
theorem cut_le (neg : Bool) (n d b : Nat) (h : n ≤ b * 2 ^ d) : Toward.even.cut neg n d ≤ b := by
  have := (cut_bound neg n d).1
  have hp : 0 < 2 ^ d := Nat.two_pow_pos d
  apply Nat.le_of_lt_succ
  apply Nat.lt_of_mul_lt_mul_right (a := 2 ^ d)
  rw [Nat.succ_mul]
  omega
theorem le_cut (neg : Bool) (n d b : Nat) (h : b * 2 ^ d ≤ n) : b ≤ Toward.even.cut neg n d := by
  have := (cut_bound neg n d).2
  have hp : 0 < 2 ^ d := Nat.two_pow_pos d
  apply Nat.le_of_lt_succ
  apply Nat.lt_of_mul_lt_mul_right (a := 2 ^ d)
  rw [Nat.succ_mul]
  omega
/-- A whole multiple is cut exactly. -/
theorem cut_exact (neg : Bool) (m d : Nat) : Toward.even.cut neg (m * 2 ^ d) d = m := Nat.le_antisymm (cut_le _ _ _ _ (Nat.le_refl _)) (le_cut _ _ _ _ (Nat.le_refl _))
theorem cut_zero (neg : Bool) (n : Nat) : Toward.even.cut neg n 0 = n := by
  have := cut_exact neg n 0
  rwa [Nat.pow_zero, Nat.mul_one] at this

end Go.Proofs.Qxb6613073a
