/- Rounding to the nearest double: how far, and when exactly. No Go in sight. -/
import Derived.Test.Qxb6613073aFloat
namespace Go.Proofs.Qxb6613073a
open Ieee

theorem sw : double.signWeight = 9223372036854775808 := by decide
theorem bn : double.binade = 4503599627370496 := by decide
theorem ir : double.infRung = 9218868437227405312 := by decide
theorem lp : double.leastPlace = -1074 := by decide
theorem fb : double.fractionBits = 52 := by decide

/-- A word's reading, off its sign and rung. -/
theorem read_word (neg : Bool) (r : Nat) (h : r < 9218868437227405312) :
    double.read (double.word neg r) = if r < 4503599627370496 then .number neg r (-1074) else .number neg (4503599627370496 + r % 4503599627370496) (-1074 + (r / 4503599627370496 - 1 : Nat)) := by
  have h1 : (double.word neg r) / 9223372036854775808 % 2 = neg.toNat := by
    unfold Format.word; rw [sw]; cases neg <;> simp <;> omega
  have h2 : (double.word neg r) % 9223372036854775808 = r := by
    unfold Format.word; rw [sw]; cases neg <;> simp <;> omega
  unfold Format.read
  rw [sw, bn, ir, lp, h1, h2]
  have h3 : (neg.toNat == 1) = neg := by cases neg <;> rfl
  rw [h3]
  dsimp only
  split
  · rfl
  · rfl

/-- The word x reads as a finite number of this sign and magnitude. -/
def Mg (x : Nat) (s : Bool) (v : Rat) : Prop := ∃ m e, double.read x = .number s m e ∧ v = (m : Rat) * T e

theorem rung_mg (neg : Bool) (a k : Nat) (hk : k ≤ 9007199254740992) (hk0 : a = 0 ∨ 4503599627370496 ≤ k) (hr : a * 4503599627370496 + k < 9218868437227405312) :
    Mg (double.word neg (a * 4503599627370496 + k)) neg ((k : Rat) * T ((a : Int) - 1074)) := by
  unfold Mg
  rw [read_word neg _ hr]
  by_cases h1 : k < 4503599627370496
  · obtain rfl : a = 0 := by omega
    rw [if_pos (by omega)]
    exact ⟨_, _, rfl, by simp⟩
  · rw [if_neg (by omega)]
    by_cases h2 : k < 9007199254740992
    · have e1 : (a * 4503599627370496 + k) % 4503599627370496 = k - 4503599627370496 := by omega
      have e2 : (a * 4503599627370496 + k) / 4503599627370496 = a + 1 := by omega
      rw [e1, e2]
      refine ⟨_, _, rfl, ?_⟩
      have e3 : 4503599627370496 + (k - 4503599627370496) = k := by omega
      rw [e3, Nat.add_sub_cancel, show (-1074 : Int) + (a : Int) = (a : Int) - 1074 by omega]
    · obtain rfl : k = 9007199254740992 := by omega
      have e1 : (a * 4503599627370496 + 9007199254740992) % 4503599627370496 = 0 := by omega
      have e2 : (a * 4503599627370496 + 9007199254740992) / 4503599627370496 = a + 2 := by omega
      rw [e1, e2]
      refine ⟨_, _, rfl, ?_⟩
      rw [show (-1074 : Int) + ((a + 2 - 1 : Nat) : Int) = ((a : Int) - 1074) + 1 by omega, T_succ]
      have e4 : ((9007199254740992 : Nat) : Rat) = 2 * ((4503599627370496 + 0 : Nat) : Rat) := by
        rw [show (9007199254740992 : Nat) = 2 * (4503599627370496 + 0) by omega, Rat.natCast_mul]; rfl
      rw [e4]
      grind

/-- The parts of 'nearest', named. -/
theorem nearest_parts (neg : Bool) (mag : Nat) (place : Int) (h : mag ≠ 0) : ∃ (last : Int) (p d kept : Nat),
    last = max (place + mag.log2 - 52) (-1074) ∧ (p : Int) - d = place - last ∧ kept = Toward.even.cut neg (mag * 2 ^ p) d ∧ (p = 0 ∨ d = 0) ∧
    double.nearest neg mag place = double.word neg (min ((last + 1074).toNat * 4503599627370496 + kept) 9218868437227405312) := by
  refine ⟨_, (place - max (place + mag.log2 - 52) (-1074)).toNat, (max (place + mag.log2 - 52) (-1074) - place).toNat, _, rfl, ?_, rfl, ?_, ?_⟩
  · omega
  · omega
  · unfold Format.nearest
    rw [if_neg h, lp, fb, bn, ir]
    dsimp only
    rw [Nat.shiftLeft_eq]
    rfl

theorem log2_lo {mag : Nat} (h : mag ≠ 0) : 2 ^ mag.log2 ≤ mag := Nat.log2_self_le h
theorem log2_hi (mag : Nat) : mag < 2 ^ (mag.log2 + 1) := Nat.lt_log2_self

/-- What is kept has 53 digits, or the number is subnormal. -/
theorem kept_range (neg : Bool) (mag : Nat) (place : Int) (h : mag ≠ 0) (last : Int) (p d : Nat) (hl : last = max (place + mag.log2 - 52) (-1074)) (hpd : (p : Int) - d = place - last) :
    Toward.even.cut neg (mag * 2 ^ p) d ≤ 9007199254740992 ∧ (last = -1074 ∨ 4503599627370496 ≤ Toward.even.cut neg (mag * 2 ^ p) d) := by
  have hi := log2_hi mag
  have lo := log2_lo h
  constructor
  · apply cut_le
    have h1 : mag * 2 ^ p ≤ 2 ^ (mag.log2 + 1) * 2 ^ p := Nat.mul_le_mul_right _ (Nat.le_of_lt hi)
    have h2 : 2 ^ (mag.log2 + 1) * 2 ^ p ≤ 2 ^ 53 * 2 ^ d := by
      rw [← Nat.pow_add, ← Nat.pow_add]
      exact Nat.pow_le_pow_right (by omega) (by omega)
    exact Nat.le_trans h1 h2
  · by_cases hc : last = -1074
    · exact .inl hc
    · refine .inr (le_cut _ _ _ _ ?_)
      have h1 : 2 ^ mag.log2 * 2 ^ p ≤ mag * 2 ^ p := Nat.mul_le_mul_right _ lo
      have h2 : 2 ^ 52 * 2 ^ d ≤ 2 ^ mag.log2 * 2 ^ p := by
        rw [← Nat.pow_add, ← Nat.pow_add]
        exact Nat.pow_le_pow_right (by omega) (by omega)
      exact Nat.le_trans h2 h1

/-- c is v, rounded: half a unit in the last place, or half the least number. -/
def Close0 (c v : Rat) : Prop := c ≤ v + (v * T (-53) + T (-1075)) ∧ v ≤ c + (v * T (-53) + T (-1075)) ∧ (v = 0 → c = 0)

theorem nearest_zero (neg : Bool) (place : Int) : double.nearest neg 0 place = double.word neg 0 := by
  unfold Format.nearest; rw [if_pos rfl]

theorem read_zero (neg : Bool) : double.read (double.word neg 0) = .number neg 0 (-1074) := by
  rw [read_word neg 0 (by decide), if_pos (by decide)]

theorem mag_pos {mag : Nat} (h : mag ≠ 0) : (0 : Rat) < (mag : Rat) := Rat.natCast_pos.2 (Nat.pos_of_ne_zero h)

theorem T_p (n : Nat) : ((2 ^ n : Nat) : Rat) = T n := (T_nat n).symm

set_option maxHeartbeats 400000 in
theorem nearest_close (neg : Bool) (mag : Nat) (place : Int) (hlt : mag ≠ 0 → place + mag.log2 ≤ 1000) : ∃ c, Mg (double.nearest neg mag place) neg c ∧ Close0 c ((mag : Rat) * T place) := by
  by_cases h : mag = 0
  · subst h
    rw [nearest_zero]
    refine ⟨0, ⟨0, -1074, read_zero neg, by simp⟩, ?_, ?_, fun _ => rfl⟩
    · have := T_pos (-1075); grind
    · have := T_pos (-1075); grind
  · obtain ⟨last, p, d, kept, hl, hpd, hk, _, hn⟩ := nearest_parts neg mag place h
    have hlt' := hlt h
    obtain ⟨k1, k2⟩ := kept_range neg mag place h last p d hl hpd
    rw [← hk] at k1 k2
    have hb : (last + 1074).toNat * 4503599627370496 + kept < 9218868437227405312 := by omega
    rw [hn, Nat.min_eq_left (by omega)]
    refine ⟨_, rung_mg neg (last + 1074).toNat kept k1 (by omega) hb, ?_⟩
    have el : (((last + 1074).toNat : Nat) : Int) - 1074 = last := by omega
    rw [el]
    obtain ⟨c1, c2⟩ := cut_bound neg (mag * 2 ^ p) d
    rw [← hk] at c1 c2
    have d1 : (2 : Rat) * ((kept : Rat) * T d) ≤ 2 * ((mag : Rat) * T p) + T d := by
      have := Rat.natCast_le_natCast.2 c1
      simp only [Rat.natCast_mul, Rat.natCast_add, T_p] at this
      simpa using this
    have d2 : (2 : Rat) * ((mag : Rat) * T p) ≤ 2 * ((kept : Rat) * T d) + T d := by
      have := Rat.natCast_le_natCast.2 c2
      simp only [Rat.natCast_mul, Rat.natCast_add, T_p] at this
      simpa using this
    have e1 : T d * T (last - d) = T last := by rw [← T_add]; congr 1; omega
    have e2 : T p * T (last - d) = T place := by rw [← T_add]; congr 1; omega
    have pz := Rat.le_of_lt (T_pos (last - d))
    have f1 := Rat.mul_le_mul_of_nonneg_right d1 pz
    have f2 := Rat.mul_le_mul_of_nonneg_right d2 pz
    have g1 : 2 * ((kept : Rat) * T last) ≤ 2 * ((mag : Rat) * T place) + T last := by
      rw [← e1, ← e2]; grind
    have g2 : 2 * ((mag : Rat) * T place) ≤ 2 * ((kept : Rat) * T last) + T last := by
      rw [← e1, ← e2]; grind
    have hx : T (mag.log2 : Int) ≤ (mag : Rat) := by rw [T_nat]; exact Rat.natCast_le_natCast.2 (log2_lo h)
    have hT : T last ≤ (mag : Rat) * T place * T (-52) + T (-1074) := by
      have q0 := T_pos (-1074)
      have q1 := Rat.mul_le_mul_of_nonneg_right hx (Rat.le_of_lt (T_pos place))
      have q2 := Rat.mul_le_mul_of_nonneg_right q1 (Rat.le_of_lt (T_pos (-52)))
      rw [← T_add, ← T_add] at q2
      have q3 : 0 ≤ (mag : Rat) * T place * T (-52) := Rat.mul_nonneg (Rat.mul_nonneg (Rat.le_of_lt (mag_pos h)) (Rat.le_of_lt (T_pos _))) (Rat.le_of_lt (T_pos _))
      by_cases hc : last = -1074
      · rw [hc]; grind
      · have : last = (mag.log2 : Int) + place + -52 := by omega
        rw [this]; grind
    have h52 : T (-52) = 2 * T (-53) := by rw [← T_succ]; rfl
    have h1074 : T (-1074) = 2 * T (-1075) := by rw [← T_succ]; rfl
    rw [h52, h1074] at hT
    refine ⟨?_, ?_, fun hz => ?_⟩
    · grind
    · grind
    · exact absurd hz (Rat.ne_of_gt (Rat.mul_pos (mag_pos h) (T_pos _)))

end Go.Proofs.Qxb6613073a
