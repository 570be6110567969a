/- Relative errors, and intervals by powers of two. No Go in sight. -/
import Derived.Test.Qxb6613073aFloatE
namespace Go.Proofs.Qxb6613073a
open Ieee
set_option linter.unusedVariables false

/-- The unit of relative error. -/
def E : Rat := T (-51)
theorem E_pos : 0 < E := T_pos _
theorem E_small : E * 1000000 ≤ 1 := by
  have h1 : T (-51) * T 20 ≤ 1 := by
    rw [← T_add]
    have := T_mono (show (-51 + 20 : Int) ≤ 0 by omega)
    rwa [T_zero] at this
  have h2 : T 20 = 1048576 := by rw [show (20 : Int) = ((20 : Nat) : Int) from rfl, T_nat]; rfl
  rw [h2] at h1
  have := E_pos
  unfold E at *
  grind

/-- c lies within k units of relative error of v. -/
def Rk (k c v : Rat) : Prop := c ≤ v + k * (v * E) ∧ v ≤ c + k * (v * E)

theorem Close.rel {c v : Rat} (hv : 0 ≤ v) (h : Close c v) (hb : v = 0 ∨ T (-1000) ≤ v) : Rk 1 c v := by
  obtain ⟨h1, h2, h3⟩ := h
  rcases hb with hz | hb
  · rw [h3 hz, hz]; exact ⟨by grind, by grind⟩
  · have e1 : E = 2 * T (-52) := by unfold E; rw [← T_succ]; rfl
    have e2 : T (-1074) ≤ v * T (-52) := by
      have h4 := Rat.mul_le_mul_of_nonneg_right hb (Rat.le_of_lt (T_pos (-52)))
      rw [← T_add] at h4
      exact Rat.le_trans (T_mono (by omega)) h4
    unfold Rk
    rw [e1]
    constructor <;> grind

theorem Rk.comp {k c v' v : Rat} (hv : 0 ≤ v) (hk0 : 0 ≤ k) (hk : k ≤ 10) (h : Rk k v' v) (hc : Rk 1 c v') (hv' : 0 ≤ v') : Rk (k + 11 / 10) c v := by
  obtain ⟨a1, a2⟩ := h
  obtain ⟨b1, b2⟩ := hc
  have ep := E_pos
  have es := E_small
  have x1 : 0 ≤ v * E := Rat.mul_nonneg hv (Rat.le_of_lt ep)
  have x2 : v * E * E * 1000000 ≤ v * E := by
    have := Rat.mul_le_mul_of_nonneg_left es x1
    grind
  have x3 : k * (v * E) ≤ 10 * (v * E) := Rat.mul_le_mul_of_nonneg_right hk x1
  have x4 : v' * E ≤ v * E + 10 * (v * E * E) := by
    have := Rat.mul_le_mul_of_nonneg_right (show v' ≤ v + 10 * (v * E) by grind) (Rat.le_of_lt ep)
    grind
  have x5 : 0 ≤ v * E * E := Rat.mul_nonneg x1 (Rat.le_of_lt ep)
  have x6 : (k + 11 / 10) * (v * E) = k * (v * E) + 11 / 10 * (v * E) := by grind
  unfold Rk
  rw [x6]
  constructor <;> grind

theorem Rk.scale {k c v t : Rat} (ht : 0 ≤ t) (h : Rk k c v) : Rk k (c * t) (v * t) := by
  obtain ⟨a1, a2⟩ := h
  have b1 := Rat.mul_le_mul_of_nonneg_right a1 ht
  have b2 := Rat.mul_le_mul_of_nonneg_right a2 ht
  unfold Rk
  constructor <;> grind

theorem Rk.div {k c v r : Rat} (hr : 0 < r) (h : Rk k c v) : Rk k (c / r) (v / r) := by
  rw [Rat.div_def, Rat.div_def]
  exact h.scale (Rat.le_of_lt (Rat.inv_pos.2 hr))

theorem Rk.mono {k l c v : Rat} (hv : 0 ≤ v) (h : Rk k c v) (hkl : k ≤ l) : Rk l c v := by
  obtain ⟨a1, a2⟩ := h
  have x1 : 0 ≤ v * E := Rat.mul_nonneg hv (Rat.le_of_lt E_pos)
  have := Rat.mul_le_mul_of_nonneg_right hkl x1
  unfold Rk
  constructor <;> grind

theorem Rk.add {k a b a' b' : Rat} (h1 : Rk k a' a) (h2 : Rk k b' b) : Rk k (a' + b') (a + b) := by
  obtain ⟨x1, x2⟩ := h1
  obtain ⟨y1, y2⟩ := h2
  unfold Rk
  constructor <;> grind

theorem Rk.refl (k v : Rat) (hk : 0 ≤ k) (hv : 0 ≤ v) : Rk k v v := by
  have x1 : 0 ≤ k * (v * E) := Rat.mul_nonneg hk (Rat.mul_nonneg hv (Rat.le_of_lt E_pos))
  unfold Rk
  constructor <;> grind

/-- x lies between two powers of two. -/
def In (x : Rat) (a b : Int) : Prop := T a ≤ x ∧ x ≤ T b
theorem In.pos {x : Rat} {a b : Int} (h : In x a b) : 0 < x := by
  have := T_pos a
  have := h.1
  grind
theorem In.mono {x : Rat} {a b c d : Int} (h : In x a b) (h1 : c ≤ a) (h2 : b ≤ d) : In x c d := ⟨Rat.le_trans (T_mono h1) h.1, Rat.le_trans h.2 (T_mono h2)⟩
theorem In.mul {x y : Rat} {a b c d : Int} (hx : In x a b) (hy : In y c d) : In (x * y) (a + c) (b + d) := by
  have p1 := T_pos a
  have p2 := hy.pos
  have p3 := T_pos b
  constructor
  · rw [T_add]
    exact Rat.le_trans (Rat.mul_le_mul_of_nonneg_left hy.1 (Rat.le_of_lt p1)) (Rat.mul_le_mul_of_nonneg_right hx.1 (Rat.le_of_lt p2))
  · rw [T_add]
    exact Rat.le_trans (Rat.mul_le_mul_of_nonneg_right hx.2 (Rat.le_of_lt p2)) (Rat.mul_le_mul_of_nonneg_left hy.2 (Rat.le_of_lt p3))
theorem T_neg (a : Int) : T (-a) = (T a)⁻¹ := Rat.zpow_neg 2 a
theorem In.inv {x : Rat} {a b : Int} (h : In x a b) : In x⁻¹ (-b) (-a) := by
  have px := h.pos
  have pa := T_pos a
  have pb := T_pos b
  have pi : 0 < x⁻¹ := Rat.inv_pos.2 px
  have e := Rat.mul_inv_cancel x (Rat.ne_of_gt px)
  constructor
  · have e1 : T (-b) * T b = 1 := by rw [← T_add, Int.add_left_neg]; exact T_zero
    refine Rat.le_of_mul_le_mul_right (c := T b) ?_ pb
    rw [e1]
    have := Rat.mul_le_mul_of_nonneg_left h.2 (Rat.le_of_lt pi)
    grind
  · have e1 : T (-a) * T a = 1 := by rw [← T_add, Int.add_left_neg]; exact T_zero
    refine Rat.le_of_mul_le_mul_right (c := T a) ?_ pa
    rw [e1]
    have := Rat.mul_le_mul_of_nonneg_left h.1 (Rat.le_of_lt pi)
    grind
theorem In.div {x y : Rat} {a b c d : Int} (hx : In x a b) (hy : In y c d) : In (x / y) (a - d) (b - c) := by
  rw [Rat.div_def]
  exact hx.mul hy.inv
theorem In.rk {c v k : Rat} {a b : Int} (h : In v a b) (hr : Rk k c v) (hk : k ≤ 10) : In c (a - 1) (b + 1) := by
  obtain ⟨r1, r2⟩ := hr
  have pv := h.pos
  have es := E_small
  have ep := E_pos
  have x1 : 0 ≤ v * E := Rat.mul_nonneg (Rat.le_of_lt pv) (Rat.le_of_lt ep)
  have x2 : v * E * 1000000 ≤ v := by
    have := Rat.mul_le_mul_of_nonneg_left es (Rat.le_of_lt pv)
    grind
  have x3 : k * (v * E) ≤ 10 * (v * E) := Rat.mul_le_mul_of_nonneg_right hk x1
  have e1 : T a = 2 * T (a - 1) := by rw [← T_succ]; exact congrArg T (by omega)
  have e2 : T (b + 1) = 2 * T b := T_succ b
  have h1 := h.1
  have h2 := h.2
  unfold In
  rw [e2]
  rw [e1] at h1
  constructor <;> grind
theorem In.nat {n : Nat} {b : Nat} (h1 : 1 ≤ n) (h2 : n ≤ 2 ^ b) : In (n : Rat) 0 b := by
  constructor
  · rw [T_zero]
    have := Rat.natCast_le_natCast.2 h1
    simpa using this
  · rw [T_nat]; exact Rat.natCast_le_natCast.2 h2

end Go.Proofs.Qxb6613073a
