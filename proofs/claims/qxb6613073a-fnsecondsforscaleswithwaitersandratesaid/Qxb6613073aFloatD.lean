/- Sums, differences and comparisons of doubles, by sign and magnitude. No Go in sight. -/
import Derived.Test.Qxb6613073aFloatC
namespace Go.Proofs.Qxb6613073a
open Ieee

/-- The value of a signed whole number at a place. -/
theorem signed_val (s : Bool) (m : Nat) (i base : Int) (h : base ≤ i) : ((signed s m (i - base).toNat : Int) : Rat) * T base = if s then -((m : Rat) * T i) else (m : Rat) * T i := by
  have e : T (((i - base).toNat : Nat) : Int) * T base = T i := by rw [← T_add]; exact congrArg T (by omega)
  unfold signed
  rw [Nat.shiftLeft_eq]
  cases s with
  | true =>
    simp only [if_true]
    rw [Rat.intCast_neg, Rat.intCast_natCast, Rat.natCast_mul, T_p, ← e]; grind
  | false =>
    simp only [Bool.false_eq_true, if_false]
    rw [Rat.intCast_natCast, Rat.natCast_mul, T_p, ← e]; grind

/-- The exact sum, as a datum. -/
theorem sum_eq (s t : Bool) (m n : Nat) (i j : Int) : ∃ (sg : Bool) (M : Nat) (base : Int), Datum.sum (.number s m i) (.number t n j) = some (.number sg M base) ∧
    (if sg then -((M : Rat) * T base) else (M : Rat) * T base) = (if s then -((m : Rat) * T i) else (m : Rat) * T i) + (if t then -((n : Rat) * T j) else (n : Rat) * T j) := by
  refine ⟨_, _, _, rfl, ?_⟩
  have h1 := signed_val s m i (min i j) (by omega)
  have h2 := signed_val t n j (min i j) (by omega)
  rw [← h1, ← h2, ← Rat.add_mul, ← Rat.intCast_add]
  generalize signed s m (i - min i j).toNat + signed t n (j - min i j).toNat = tot
  by_cases h0 : tot = 0
  · subst h0
    have e : ((Int.natAbs 0 : Nat) : Rat) = 0 := rfl
    have e2 : ((0 : Int) : Rat) = 0 := rfl
    rw [e, e2]
    split <;> simp
  · rw [if_neg h0]
    by_cases hneg : tot < 0
    · have e1 : decide (tot < 0) = true := decide_eq_true hneg
      rw [e1, if_pos rfl]
      have e2 : (tot : Rat) = -((tot.natAbs : Nat) : Rat) := by
        rw [← Rat.intCast_natCast, ← Rat.intCast_neg]; congr 1; omega
      rw [e2]; grind
    · have e1 : decide (tot < 0) = false := decide_eq_false hneg
      rw [e1, if_neg (by decide)]
      have e2 : (tot : Rat) = ((tot.natAbs : Nat) : Rat) := by
        rw [← Rat.intCast_natCast]; congr 1; omega
      rw [e2]

theorem add_ok {x y : Nat} {s t : Bool} {a b : Rat} (hx : Mg x s a) (hy : Mg y t b) (hst : s = t ∨ a = 0 ∨ b = 0) (h : a + b ≤ T 1000) :
    ∃ z c sg, double.add x y = some z ∧ Mg z sg c ∧ Close c (a + b) ∧ (a ≠ 0 → sg = s) ∧ (b ≠ 0 → sg = t) := by
  have ha := hx.nonneg
  have hb := hy.nonneg
  obtain ⟨m, i, rx, rfl⟩ := hx
  obtain ⟨n, j, ry, rfl⟩ := hy
  obtain ⟨sg, M, base, hs, hv⟩ := sum_eq s t m n i j
  have hM := val_nonneg M base
  have hadd : double.add x y = some (double.nearest sg M base) := by
    unfold Format.add
    rw [rx, ry, hs]; rfl
  generalize (m : Rat) * T i = a at *
  generalize (n : Rat) * T j = b at *
  have key : (M : Rat) * T base = a + b ∧ (a ≠ 0 → sg = s) ∧ (b ≠ 0 → sg = t) := by
    rcases hst with rfl | rfl | rfl
    · cases s <;> cases sg <;> simp at hv ⊢ <;> grind
    · cases s <;> cases t <;> cases sg <;> simp at hv ⊢ <;> grind
    · cases s <;> cases t <;> cases sg <;> simp at hv ⊢ <;> grind
  obtain ⟨k1, k2, k3⟩ := key
  rw [← k1] at h
  obtain ⟨c, h1, h2⟩ := near_ok sg M base h
  rw [k1] at h2
  exact ⟨_, c, sg, hadd, h1, h2, k2, k3⟩

/-- The distance of two numbers of one sign. -/
theorem sub_ok {x y : Nat} {s : Bool} {a b : Rat} (hx : Mg x s a) (hy : Mg y s b) (h : a + b ≤ T 1000) :
    ∃ z c sg v, double.sub x y = some z ∧ Mg z sg c ∧ Close c v ∧ ((a ≤ b ∧ v = b - a) ∨ (b ≤ a ∧ v = a - b)) := by
  have ha := hx.nonneg
  have hb := hy.nonneg
  obtain ⟨m, i, rx, rfl⟩ := hx
  obtain ⟨n, j, ry, rfl⟩ := hy
  obtain ⟨sg, M, base, hs, hv⟩ := sum_eq s (!s) m n i j
  have hM := val_nonneg M base
  have hsub : double.sub x y = some (double.nearest sg M base) := by
    unfold Format.sub
    rw [rx, ry]
    show (Datum.sum (.number s m i) (.number (!s) n j)).map double.write = _
    rw [hs]; rfl
  generalize (m : Rat) * T i = a at *
  generalize (n : Rat) * T j = b at *
  have key : (a ≤ b ∧ (M : Rat) * T base = b - a) ∨ (b ≤ a ∧ (M : Rat) * T base = a - b) := by
    cases s <;> cases sg <;> simp at hv <;> grind
  have h' : (M : Rat) * T base ≤ T 1000 := by grind
  obtain ⟨c, h1, h2⟩ := near_ok sg M base h'
  exact ⟨_, c, sg, _, hsub, h1, h2, key⟩

/-! ### Comparing -/
theorem order_mg {x y : Nat} {s t : Bool} {a b : Rat} (hx : Mg x s a) (hy : Mg y t b) : ∃ p q : Int, ∃ base : Int, double.order x y = some (compare p q) ∧ (p : Rat) * T base = (if s then -a else a) ∧ (q : Rat) * T base = (if t then -b else b) := by
  obtain ⟨m, i, rx, rfl⟩ := hx
  obtain ⟨n, j, ry, rfl⟩ := hy
  refine ⟨_, _, min i j, ?_, signed_val s m i (min i j) (by omega), signed_val t n j (min i j) (by omega)⟩
  unfold Format.order
  rw [rx, ry]; rfl

theorem le_of_val {p q base : Int} (h : (p : Rat) * T base ≤ (q : Rat) * T base) : p ≤ q := Rat.intCast_le_intCast.1 (Rat.le_of_mul_le_mul_right h (T_pos base))

/-- The signed value of a word's number. -/
theorem order_le {x y : Nat} {s t : Bool} {a b : Rat} (hx : Mg x s a) (hy : Mg y t b) (h : (if s then -a else a) ≤ (if t then -b else b)) : (double.order x y == some .lt || double.order x y == some .eq) = true := by
  obtain ⟨p, q, base, ho, hp, hq⟩ := order_mg hx hy
  rw [← hp, ← hq] at h
  have hpq := le_of_val h
  rw [ho]
  by_cases e : p = q
  · subst e; simp
  · have : compare p q = .lt := by rw [Int.compare_eq_lt]; omega
    rw [this]; rfl

theorem order_eq {x y : Nat} {s t : Bool} {a b : Rat} (hx : Mg x s a) (hy : Mg y t b) (h : (if s then -a else a) = (if t then -b else b)) : (double.order x y == some .eq) = true := by
  obtain ⟨p, q, base, ho, hp, hq⟩ := order_mg hx hy
  rw [← hp, ← hq] at h
  have h1 := le_of_val (show (p : Rat) * T base ≤ (q : Rat) * T base by rw [h]; exact Rat.le_refl)
  have h2 := le_of_val (show (q : Rat) * T base ≤ (p : Rat) * T base by rw [h]; exact Rat.le_refl)
  obtain rfl : p = q := by omega
  rw [ho]; simp

/-- x < 0 is told by the sign, but for a zero. -/
theorem order_lt_zero {x : Nat} {s : Bool} {a : Rat} (hx : Mg x s a) : (double.order x 0 == some .lt) = (s && decide (a ≠ 0)) := by
  have h0 : Mg 0 false 0 := ⟨0, -1074, by decide, by simp⟩
  have ha := hx.nonneg
  obtain ⟨p, q, base, ho, hp, hq⟩ := order_mg hx h0
  have hq0 : q = 0 := by
    simp at hq
    have := T_pos base
    rcases Rat.mul_eq_zero.1 hq with h | h
    · exact Rat.intCast_eq_zero_iff.1 h
    · exact absurd h (Rat.ne_of_gt this)
  subst hq0
  rw [ho]
  have hT := T_pos base
  cases s with
  | false =>
    have : ¬ p < 0 := by
      intro hlt
      have h1 : (p : Rat) < 0 := by have := Rat.intCast_lt_intCast.2 hlt; simpa using this
      have h2 := Rat.mul_lt_mul_of_pos_right h1 hT
      simp at hp
      grind
    have e : (compare p 0 == Ordering.lt) = false := by
      have : compare p 0 ≠ .lt := fun h => this (Int.compare_eq_lt.1 h)
      simpa using this
    simpa using e
  | true =>
    simp at hp
    by_cases ha0 : a = 0
    · have : p = 0 := by
        rw [ha0] at hp
        have h3 : (p : Rat) * T base = 0 := by grind
        rcases Rat.mul_eq_zero.1 h3 with h | h
        · exact Rat.intCast_eq_zero_iff.1 h
        · exact absurd h (Rat.ne_of_gt hT)
      subst this
      simp [ha0]
    · have : p < 0 := by
        by_cases hc : p < 0
        · exact hc
        · have h1 : (0 : Rat) ≤ (p : Rat) := Rat.intCast_nonneg.2 (by omega)
          have h2 := Rat.mul_nonneg h1 (Rat.le_of_lt hT)
          exact absurd (show a = 0 by grind) ha0
      have e : compare p 0 = .lt := Int.compare_eq_lt.2 this
      rw [e]; simp [ha0]

theorem xor_low (a : Nat) (h : a < 2 ^ 63) : a ^^^ 2 ^ 63 = 2 ^ 63 + a := by
  apply Nat.eq_of_testBit_eq
  intro i
  rw [Nat.testBit_xor, Nat.testBit_two_pow]
  by_cases e : i = 63
  · subst e
    rw [Nat.testBit_two_pow_add_eq, Nat.testBit_lt_two_pow h]; rfl
  · by_cases hl : i < 63
    · rw [Nat.testBit_two_pow_add_gt hl]
      have : decide (63 = i) = false := decide_eq_false (fun h => e h.symm)
      rw [this, Bool.xor_false]
    · have h1 : a.testBit i = false := Nat.testBit_lt_two_pow (Nat.lt_of_lt_of_le h (Nat.pow_le_pow_right (by omega) (by omega)))
      have h2 : (2 ^ 63 + a).testBit i = false := Nat.testBit_lt_two_pow (Nat.lt_of_lt_of_le (by omega : 2 ^ 63 + a < 2 ^ 64) (Nat.pow_le_pow_right (by omega) (by omega)))
      have : decide (63 = i) = false := decide_eq_false (fun h => e h.symm)
      rw [h1, h2, this]; rfl

/-- The sign bit struck. -/
theorem neg_mg {x : Nat} {a : Rat} (hlt : x < 2 ^ 64) (hx : Mg x true a) : Mg (x ^^^ 2 ^ 63) false a := by
  obtain ⟨m, e, rx, rfl⟩ := hx
  have hbit : (x / 9223372036854775808 % 2 == 1) = true := by
    have h := rx
    unfold Format.read at h
    rw [sw] at h
    dsimp only at h
    generalize (x / 9223372036854775808 % 2 == 1) = g at h
    split at h
    · cases h; rfl
    · split at h
      · cases h; rfl
      · split at h
        · cases h
        · cases h
  have hge : 2 ^ 63 ≤ x := by
    have : x / 9223372036854775808 % 2 = 1 := by simpa using hbit
    omega
  obtain ⟨r, rfl⟩ : ∃ r, x = 2 ^ 63 + r := ⟨x - 2 ^ 63, by omega⟩
  have hr : r < 2 ^ 63 := by omega
  have e1 : (2 ^ 63 + r) ^^^ 2 ^ 63 = r := by rw [← xor_low r hr, Nat.xor_assoc, Nat.xor_self, Nat.xor_zero]
  rw [e1]
  refine ⟨m, e, ?_, rfl⟩
  have m1 : (2 ^ 63 + r) % 9223372036854775808 = r := by omega
  have m2 : r % 9223372036854775808 = r := by omega
  have m3 : (r / 9223372036854775808 % 2 == 1) = false := by
    have : r / 9223372036854775808 % 2 = 0 := by omega
    rw [this]; rfl
  unfold Format.read at rx ⊢
  rw [sw] at rx ⊢
  rw [m1, hbit] at rx
  rw [m2, m3]
  dsimp only at rx ⊢
  split at rx
  · cases rx; rw [if_pos ‹_›]
  · split at rx
    · cases rx; rw [if_neg ‹_›, if_pos ‹_›]
    · split at rx
      · cases rx
      · cases rx

end Go.Proofs.Qxb6613073a
