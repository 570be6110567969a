/- The operations on doubles, by sign and magnitude: how far each lies from the exact result. No Go in sight. -/
import Derived.Test.Qxb6613073aFloatB
import Derived.Laws.FloatBits
namespace Go.Proofs.Qxb6613073a
open Ieee

theorem T_le_imp {a b : Int} (h : T a ≤ T b) : a ≤ b := by
  by_cases hc : a ≤ b
  · exact hc
  · have := T_lt (show b < a by omega)
    exact absurd h (Rat.not_le.2 this)

theorem log_le {mag : Nat} {place : Int} {b : Int} (hm : mag ≠ 0) (h : (mag : Rat) * T place ≤ T b) : place + mag.log2 ≤ b := by
  have hx : T (mag.log2 : Int) ≤ (mag : Rat) := by rw [T_nat]; exact Rat.natCast_le_natCast.2 (log2_lo hm)
  have q1 := Rat.mul_le_mul_of_nonneg_right hx (Rat.le_of_lt (T_pos place))
  rw [← T_add] at q1
  have := T_le_imp (Rat.le_trans q1 h)
  omega

/-- c is v, rounded (a little sloppier than half a unit). -/
def Close (c v : Rat) : Prop := c ≤ v + (v * T (-52) + T (-1074)) ∧ v ≤ c + (v * T (-52) + T (-1074)) ∧ (v = 0 → c = 0)

theorem h52 : T (-52) = 2 * T (-53) := by rw [← T_succ]; rfl
theorem h53 : T (-53) = 2 * T (-54) := by rw [← T_succ]; rfl
theorem h1074 : T (-1074) = 2 * T (-1075) := by rw [← T_succ]; rfl

theorem Close0.close {c v : Rat} (hv : 0 ≤ v) (h : Close0 c v) : Close c v := by
  obtain ⟨h1, h2, h3⟩ := h
  have e1 := h52
  have e2 := h1074
  have p1 := T_pos (-53)
  have p2 := T_pos (-1075)
  have p3 : 0 ≤ v * T (-53) := Rat.mul_nonneg hv (Rat.le_of_lt p1)
  refine ⟨?_, ?_, h3⟩
  · rw [e1, e2]; grind
  · rw [e1, e2]; grind

theorem val_nonneg (m : Nat) (e : Int) : 0 ≤ (m : Rat) * T e := Rat.mul_nonneg Rat.natCast_nonneg (Rat.le_of_lt (T_pos e))
theorem Mg.nonneg {x : Nat} {s : Bool} {v : Rat} (h : Mg x s v) : 0 ≤ v := by
  obtain ⟨m, e, _, rfl⟩ := h
  exact val_nonneg m e

theorem near_ok (neg : Bool) (mag : Nat) (place : Int) (h : (mag : Rat) * T place ≤ T 1000) : ∃ c, Mg (double.nearest neg mag place) neg c ∧ Close c ((mag : Rat) * T place) := by
  obtain ⟨c, h1, h2⟩ := nearest_close neg mag place (fun hm => log_le hm h)
  exact ⟨c, h1, h2.close (val_nonneg _ _)⟩

theorem mul_ok {x y : Nat} {s t : Bool} {a b : Rat} (hx : Mg x s a) (hy : Mg y t b) (h : a * b ≤ T 1000) : ∃ z c, double.mul x y = some z ∧ Mg z (s ^^ t) c ∧ Close c (a * b) := by
  obtain ⟨m, i, rx, rfl⟩ := hx
  obtain ⟨n, j, ry, rfl⟩ := hy
  have e : (m : Rat) * T i * ((n : Rat) * T j) = ((m * n : Nat) : Rat) * T (i + j) := by rw [T_add, Rat.natCast_mul]; grind
  rw [e] at h ⊢
  obtain ⟨c, h1, h2⟩ := near_ok (s ^^ t) (m * n) (i + j) h
  refine ⟨_, c, ?_, h1, h2⟩
  unfold Format.mul
  rw [rx, ry]; rfl

theorem T_split (a b : Int) (h : a = b + 1) : T a = 2 * T b := by rw [h, T_succ]

set_option maxHeartbeats 1000000 in
theorem div_ok {x y : Nat} {s t : Bool} {a b : Rat} (hx : Mg x s a) (hy : Mg y t b) (hb : b ≠ 0) (h : a / b ≤ T 998) : ∃ z c, double.div x y = some z ∧ Mg z (s ^^ t) c ∧ Close c (a / b) := by
  obtain ⟨m, i, rx, rfl⟩ := hx
  obtain ⟨n, j, ry, rfl⟩ := hy
  have hn : n ≠ 0 := by rintro rfl; exact hb (by simp)
  have hnp : (0 : Rat) < (n : Rat) := mag_pos hn
  obtain ⟨more, hmore⟩ : ∃ more, more = 54 + n.log2 - m.log2 := ⟨_, rfl⟩
  obtain ⟨Q, hQ⟩ : ∃ Q, Q = m * 2 ^ more := ⟨_, rfl⟩
  obtain ⟨M, hM⟩ : ∃ M, M = 2 * (Q / n) + (Q % n != 0).toNat := ⟨_, rfl⟩
  have hdiv : double.div x y = some (double.nearest (s ^^ t) M (i - j - more - 1)) := by
    unfold Format.div
    rw [rx, ry, fb]
    simp only [Datum.quotient]
    rw [if_neg hn, hM, hQ, hmore, Nat.shiftLeft_eq]
    rfl
  -- the datum against the exact quotient
  have hv : (m : Rat) * T i / ((n : Rat) * T j) = 2 * ((Q : Rat) / (n : Rat)) * T (i - j - more - 1) := by
    have e1 : T i = T more * (T (i - j - more - 1) * 2) * T j := by
      clear h
      have e0 : T i = T more * (T (i - j - more - 1) * T 1) * T j := by
        rw [← T_add, ← T_add, ← T_add]; exact congrArg T (by omega)
      rw [e0, T_one]
    have e2 : (Q : Rat) = (m : Rat) * T more := by rw [hQ, Rat.natCast_mul, T_p]
    rw [e1, e2]
    have := T_pos j
    have hj : T j ≠ 0 := Rat.ne_of_gt this
    have hn' : (n : Rat) ≠ 0 := Rat.ne_of_gt hnp
    grind
  have hdm := Nat.div_add_mod Q n
  have hmod := Nat.mod_lt Q (Nat.pos_of_ne_zero hn)
  have hMn : M * n ≤ 2 * Q + n ∧ 2 * Q ≤ M * n + n := by
    have e : M * n = 2 * (n * (Q / n)) + (Q % n != 0).toNat * n := by rw [hM, Nat.add_mul, Nat.mul_assoc, Nat.mul_comm (Q / n) n]
    cases hz : (Q % n != 0) with
    | true => rw [hz] at e; simp only [Bool.toNat_true, Nat.one_mul] at e; omega
    | false =>
      rw [hz] at e
      simp only [Bool.toNat_false, Nat.zero_mul, Nat.add_zero] at e
      have : Q % n = 0 := by simpa using hz
      omega
  generalize hp : i - j - (more : Int) - 1 = p at *
  have c1 : (M : Rat) * (n : Rat) ≤ 2 * (Q : Rat) + (n : Rat) := by
    have := Rat.natCast_le_natCast.2 hMn.1
    simpa [Rat.natCast_mul, Rat.natCast_add] using this
  have c2 : 2 * (Q : Rat) ≤ (M : Rat) * (n : Rat) + (n : Rat) := by
    have := Rat.natCast_le_natCast.2 hMn.2
    simpa [Rat.natCast_mul, Rat.natCast_add] using this
  have hqn : (Q : Rat) = ((Q : Rat) / (n : Rat)) * (n : Rat) := (Rat.div_mul_cancel (Rat.ne_of_gt hnp)).symm
  generalize hr : (Q : Rat) / (n : Rat) = r at *
  have d1 : (M : Rat) ≤ 2 * r + 1 := by
    refine Rat.le_of_mul_le_mul_right (c := (n : Rat)) ?_ hnp
    rw [hqn] at c1; grind
  have d2 : 2 * r ≤ (M : Rat) + 1 := by
    refine Rat.le_of_mul_le_mul_right (c := (n : Rat)) ?_ hnp
    rw [hqn] at c2; grind
  have hr0 : 0 ≤ r := by
    rw [← hr, Rat.div_def]
    exact Rat.mul_nonneg Rat.natCast_nonneg (Rat.le_of_lt (Rat.inv_pos.2 hnp))
  rw [hv] at h ⊢
  have pp := T_pos p
  by_cases hm : m = 0
  · have hQ0 : Q = 0 := by rw [hQ, hm, Nat.zero_mul]
    have hM0 : M = 0 := by rw [hM, hQ0]; simp
    have hr00 : r = 0 := by rw [← hr, hQ0]; simp [Rat.div_def]
    rw [hdiv, hM0, hr00]
    refine ⟨_, 0, rfl, ?_, ?_⟩
    · rw [nearest_zero]; exact ⟨0, -1074, read_zero _, by simp⟩
    · have := T_pos (-1074)
      exact ⟨by grind, by grind, fun _ => rfl⟩
  · -- the quotient has at least 54 digits
    have hlarge : T 54 ≤ 2 * r := by
      have hQ1 : 2 ^ (54 + n.log2) ≤ Q := by
        rw [hQ]
        have h1 : 2 ^ m.log2 * 2 ^ more ≤ m * 2 ^ more := Nat.mul_le_mul_right _ (log2_lo hm)
        rw [← Nat.pow_add] at h1
        exact Nat.le_trans (Nat.pow_le_pow_right (by omega) (by omega)) h1
      have hn2 : n * 2 ^ 53 ≤ Q := by
        have h1 : n ≤ 2 ^ (n.log2 + 1) := Nat.le_of_lt (log2_hi n)
        have h2 : n * 2 ^ 53 ≤ 2 ^ (n.log2 + 1) * 2 ^ 53 := Nat.mul_le_mul_right _ h1
        rw [← Nat.pow_add] at h2
        exact Nat.le_trans h2 (Nat.le_trans (Nat.pow_le_pow_right (by omega) (by omega)) hQ1)
      have := Rat.natCast_le_natCast.2 hn2
      rw [Rat.natCast_mul, T_p] at this
      rw [show T 54 = 2 * T 53 from T_succ 53]
      have h3 : T 53 ≤ r := by
        refine Rat.le_of_mul_le_mul_right (c := (n : Rat)) ?_ hnp
        rw [← hqn, Rat.mul_comm]; exact this
      grind
    have e54 : T 54 * T (-54) = 1 := by rw [← T_add]; exact T_zero
    have p54 := T_pos (-54)
    have one_le : 1 ≤ 2 * r * T (-54) := by
      have := Rat.mul_le_mul_of_nonneg_right hlarge (Rat.le_of_lt p54)
      rwa [e54] at this
    -- v and v' := M * T p
    have a1 : (M : Rat) * T p ≤ 2 * r * T p + 2 * r * T p * T (-54) := by
      have := Rat.mul_le_mul_of_nonneg_right (show (M : Rat) ≤ 2 * r + 2 * r * T (-54) by grind) (Rat.le_of_lt pp)
      grind
    have a2 : 2 * r * T p ≤ (M : Rat) * T p + 2 * r * T p * T (-54) := by
      have := Rat.mul_le_mul_of_nonneg_right (show 2 * r ≤ (M : Rat) + 2 * r * T (-54) by grind) (Rat.le_of_lt pp)
      grind
    have v0 : 0 ≤ 2 * r * T p := Rat.mul_nonneg (Rat.mul_nonneg (by decide) hr0) (Rat.le_of_lt pp)
    generalize 2 * r * T p = v at *
    have t54 : T (-54) ≤ 1 := by have := T_mono (show (-54 : Int) ≤ 0 by omega); rwa [T_zero] at this
    have vt : v * T (-54) ≤ v := by
      have := Rat.mul_le_mul_of_nonneg_left t54 v0
      rwa [Rat.mul_one] at this
    have hlt : (M : Rat) * T p ≤ T 1000 := by
      have e1 : T 1000 = 2 * (2 * T 998) := by rw [← T_succ, ← T_succ]; rfl
      rw [e1]
      have := T_pos 998
      grind
    have hM0 : M ≠ 0 := by
      rintro rfl
      have h4 : T 54 ≤ 1 := by
        have : 2 * r ≤ 1 := by
          rw [show ((0 : Nat) : Rat) = 0 from rfl] at d2; grind
        exact Rat.le_trans hlarge this
      have h5 := T_lt (show (0 : Int) < 54 by omega)
      rw [T_zero] at h5
      exact absurd h4 (Rat.not_le.2 h5)
    obtain ⟨c, g1, g2, g3, g4⟩ := nearest_close (s ^^ t) M p (fun hm => log_le hm hlt)
    refine ⟨_, c, hdiv, g1, ?_⟩
    have u0 : 0 ≤ (M : Rat) * T p := val_nonneg M p
    generalize (M : Rat) * T p = u at *
    have e53 := h53
    have e52 := h52
    have e1074 := h1074
    have p1075 := T_pos (-1075)
    -- |u - v| ≤ v/2^54; |c - u| ≤ u/2^53 + η
    have t53 : T (-53) ≤ T (-54) * 2 := by rw [e53]; grind
    have k1 : u * T (-54) ≤ v * T (-54) + v * T (-54) * T (-54) := by
      have := Rat.mul_le_mul_of_nonneg_right a1 (Rat.le_of_lt p54)
      grind
    have t4 : T (-54) * 16 ≤ 1 := by
      have h6 : T (-54) * T 4 ≤ 1 := by
        rw [← T_add]
        have := T_mono (show (-54 + 4 : Int) ≤ 0 by omega)
        rwa [T_zero] at this
      have h7 : T 4 = 16 := by rw [show (4 : Int) = ((4 : Nat) : Int) from rfl, T_nat]; rfl
      rwa [h7] at h6
    have vv : 0 ≤ v * T (-54) := Rat.mul_nonneg v0 (Rat.le_of_lt p54)
    have k2 : v * T (-54) * T (-54) * 16 ≤ v * T (-54) := by
      have := Rat.mul_le_mul_of_nonneg_left t4 vv
      grind
    refine ⟨?_, ?_, fun hz => ?_⟩
    · rw [e52, e53, e1074]; rw [e53] at g2; grind
    · rw [e52, e53, e1074]; rw [e53] at g3; grind
    · have h8 : 0 < (2 : Rat) * r := by
        have := T_pos 54; grind
      have h9 : v = 0 := hz
      have : u = 0 := by grind
      exact g4 this

end Go.Proofs.Qxb6613073a
