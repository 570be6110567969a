/- Twice a double is exact, and rounding commutes with it. No Go in sight. -/
import Derived.Test.Qxb6613073aFloatD
namespace Go.Proofs.Qxb6613073a
open Ieee

theorem log_ge {mag : Nat} {place : Int} {b : Int} (h : T b ≤ (mag : Rat) * T place) : b ≤ place + mag.log2 := by
  have hx : (mag : Rat) < T ((mag.log2 : Int) + 1) := by
    have := Rat.natCast_lt_natCast.2 (log2_hi mag)
    rw [T_p] at this
    exact this
  have q1 := Rat.mul_lt_mul_of_pos_right hx (T_pos place)
  rw [← T_add] at q1
  by_cases hc : b ≤ place + mag.log2
  · exact hc
  · have h1 := T_mono (show (mag.log2 : Int) + 1 + place ≤ b by omega)
    exact absurd (Rat.le_trans h1 h) (Rat.not_le.2 q1)

theorem cut_two (neg : Bool) (n d : Nat) (hn : n ≠ 0) : Toward.even.cut neg (2 * n) (d + 1) = Toward.even.cut neg n d := by
  unfold Toward.cut
  dsimp only
  rw [Nat.log2_two_mul hn]
  have e1 : min (d + 1) (n.log2 + 1 + 2) = min d (n.log2 + 2) + 1 := by omega
  rw [e1, Nat.one_shiftLeft, Nat.one_shiftLeft, Nat.pow_succ, Nat.mul_comm (2 ^ _) 2]
  generalize 2 ^ min d (n.log2 + 2) = g
  rw [Nat.mul_div_mul_left _ _ (by omega), Nat.mul_mod_mul_left]
  have e2 : decide (2 * g < 2 * (2 * (n % g))) = decide (g < 2 * (n % g)) := by
    by_cases h : g < 2 * (n % g)
    · rw [decide_eq_true h, decide_eq_true (by omega)]
    · rw [decide_eq_false h, decide_eq_false (by omega)]
  have e3 : (2 * g == 2 * (2 * (n % g))) = (g == 2 * (n % g)) := by
    by_cases h : g = 2 * (n % g)
    · rw [← h]; simp
    · have : ¬ 2 * g = 2 * (2 * (n % g)) := by omega
      rw [beq_eq_false_iff_ne.2 h, beq_eq_false_iff_ne.2 this]
  rw [e2, e3]

theorem nearest_two (neg : Bool) (mag : Nat) (place : Int) (h : mag ≠ 0) : double.nearest neg (2 * mag) place = double.nearest neg mag (place + 1) := by
  obtain ⟨l1, p1, d1, k1, hl1, hpd1, hk1, hz1, hn1⟩ := nearest_parts neg (2 * mag) place (by omega)
  obtain ⟨l2, p2, d2, k2, hl2, hpd2, hk2, hz2, hn2⟩ := nearest_parts neg mag (place + 1) h
  rw [Nat.log2_two_mul h] at hl1
  obtain rfl : l1 = l2 := by omega
  have hk : k1 = k2 := by
    rw [hk1, hk2]
    by_cases hp : p2 = 0
    · obtain rfl : p1 = 0 := by omega
      obtain rfl : d1 = d2 + 1 := by omega
      rw [hp, Nat.pow_zero, Nat.mul_one, Nat.mul_one]
      exact cut_two neg mag d2 h
    · obtain rfl : d2 = 0 := by omega
      obtain rfl : d1 = 0 := by omega
      obtain rfl : p2 = p1 + 1 := by omega
      rw [Nat.pow_succ, Nat.mul_comm (2 ^ p1) 2, ← Nat.mul_assoc, Nat.mul_comm mag 2]
  rw [hn1, hn2, hk]

/-- A normal result, and the same at the next place. -/
theorem nearest_norm (neg : Bool) (mag : Nat) (place : Int) (h : mag ≠ 0) (hlo : -1022 ≤ place + mag.log2) (hhi : place + mag.log2 ≤ 1000) :
    ∃ m e, double.read (double.nearest neg mag place) = .number neg m e ∧ 4503599627370496 ≤ m ∧ m < 9007199254740992 ∧ double.read (double.nearest neg mag (place + 1)) = .number neg m (e + 1) := by
  obtain ⟨l1, p1, d1, k1, hl1, hpd1, hk1, hz1, hn1⟩ := nearest_parts neg mag place h
  obtain ⟨l2, p2, d2, k2, hl2, hpd2, hk2, hz2, hn2⟩ := nearest_parts neg mag (place + 1) h
  obtain rfl : l2 = l1 + 1 := by omega
  obtain rfl : p2 = p1 := by omega
  obtain rfl : d2 = d1 := by omega
  obtain rfl : k2 = k1 := by rw [hk1, hk2]
  obtain ⟨r1, r2⟩ := kept_range neg mag place h l1 p2 d2 hl1 hpd1
  have r3 : 4503599627370496 ≤ Toward.even.cut neg (mag * 2 ^ p2) d2 := by
    rcases r2 with hc | hc
    · -- the least place of a normal number: what is kept still has 53 digits
      refine le_cut _ _ _ _ ?_
      have h1 : 2 ^ mag.log2 * 2 ^ p2 ≤ mag * 2 ^ p2 := Nat.mul_le_mul_right _ (log2_lo h)
      have h2 : 2 ^ 52 * 2 ^ d2 ≤ 2 ^ mag.log2 * 2 ^ p2 := by
        rw [← Nat.pow_add, ← Nat.pow_add]
        exact Nat.pow_le_pow_right (by omega) (by omega)
      exact Nat.le_trans h2 h1
    · exact hc
  rw [← hk1] at r1 r3
  obtain ⟨a, ha⟩ : ∃ a : Nat, (l1 + 1074).toNat = a := ⟨_, rfl⟩
  have ha2 : (l1 + 1 + 1074).toNat = a + 1 := by omega
  have ha3 : a ≤ 2022 := by omega
  rw [ha] at hn1
  rw [ha2] at hn2
  clear hl1 hl2 hpd1 hpd2 hk1 hk2 hz1 hz2 r2 hlo hhi ha ha2
  have e0 : (a + 1) * 4503599627370496 + k2 = a * 4503599627370496 + k2 + 4503599627370496 := by rw [Nat.add_mul, Nat.one_mul, Nat.add_right_comm]
  rw [e0] at hn2
  have hg : a * 4503599627370496 ≤ 2022 * 4503599627370496 := Nat.mul_le_mul_right _ ha3
  clear e0 ha3
  obtain ⟨r, hr⟩ : ∃ r, r = a * 4503599627370496 + k2 := ⟨_, rfl⟩
  rw [← hr] at hn1 hn2
  have hge : 4503599627370496 ≤ r := by omega
  have b1 : r < 9218868437227405312 := by omega
  have b2 : r + 4503599627370496 < 9218868437227405312 := by omega
  clear r1 r3 hg hr
  rw [hn1, hn2, Nat.min_eq_left (Nat.le_of_lt b1), Nat.min_eq_left (Nat.le_of_lt b2), read_word neg _ b1, read_word neg _ b2, if_neg (by omega), if_neg (by omega)]
  clear hn1 hn2
  refine ⟨_, _, rfl, by omega, by omega, ?_⟩
  have e1 : (r + 4503599627370496) % 4503599627370496 = r % 4503599627370496 := by omega
  have e2 : (-1074 : Int) + ((r + 4503599627370496) / 4503599627370496 - 1 : Nat) = -1074 + (r / 4503599627370496 - 1 : Nat) + 1 := by omega
  rw [e1, e2]

/-- y is twice x: both the same zero, or one more in the exponent. -/
def Dbl (x y : Nat) : Prop := ∃ s m e, double.read x = .number s m e ∧ ((m = 0 ∧ x = double.word s 0 ∧ y = x) ∨ (4503599627370496 ≤ m ∧ m < 9007199254740992 ∧ double.read y = .number s m (e + 1)))

theorem dbl_near {neg : Bool} {mag : Nat} {place : Int} (h : mag ≠ 0) (hlo : T (-1022) ≤ (mag : Rat) * T place) (hhi : (mag : Rat) * T place ≤ T 1000) : Dbl (double.nearest neg mag place) (double.nearest neg mag (place + 1)) := by
  obtain ⟨m, e, h1, h2, h3, h4⟩ := nearest_norm neg mag place h (log_ge hlo) (log_le h hhi)
  exact ⟨neg, m, e, h1, .inr ⟨h2, h3, h4⟩⟩

theorem dbl_zero (neg : Bool) : Dbl (double.word neg 0) (double.word neg 0) := ⟨neg, 0, -1074, read_zero neg, .inl ⟨rfl, rfl, rfl⟩⟩

theorem mul_read {x y : Nat} {s t : Bool} {m n : Nat} {i j : Int} (hx : double.read x = .number s m i) (hy : double.read y = .number t n j) : double.mul x y = some (double.nearest (s ^^ t) (m * n) (i + j)) := by
  unfold Format.mul; rw [hx, hy]; rfl

theorem dbl_mul {x x2 y : Nat} {t : Bool} {n : Nat} {j : Int} (h : Dbl x x2) (hy : double.read y = .number t n j)
    (hb : ∀ s m e, double.read x = .number s m e → m ≠ 0 → n ≠ 0 → T (-1022) ≤ ((m * n : Nat) : Rat) * T (e + j) ∧ ((m * n : Nat) : Rat) * T (e + j) ≤ T 1000) :
    ∃ z z2, double.mul x y = some z ∧ double.mul x2 y = some z2 ∧ Dbl z z2 := by
  obtain ⟨s, m, e, hx, ⟨rfl, hw, rfl⟩ | ⟨h1, h2, h3⟩⟩ := h
  · refine ⟨_, _, mul_read hx hy, mul_read hx hy, ?_⟩
    rw [Nat.zero_mul, nearest_zero]; exact dbl_zero _
  · by_cases hn : n = 0
    · subst hn
      refine ⟨_, _, mul_read hx hy, mul_read h3 hy, ?_⟩
      rw [Nat.mul_zero, nearest_zero, nearest_zero]; exact dbl_zero _
    · obtain ⟨b1, b2⟩ := hb s m e hx (by omega) hn
      refine ⟨_, _, mul_read hx hy, mul_read h3 hy, ?_⟩
      rw [show e + 1 + j = e + j + 1 by omega]
      exact dbl_near (Nat.mul_ne_zero (by omega) hn) b1 b2

/-- The quotient's datum, and where it lies. -/
theorem quo_form (m n : Nat) (hm : m ≠ 0) (hn : n ≠ 0) : ∃ (M more : Nat) (r : Rat), (∀ (s t : Bool) (i j : Int), Datum.quotient 54 (.number s m i) (.number t n j) = some (.number (s ^^ t) M (i - j - more - 1))) ∧
    (∀ i j : Int, (m : Rat) * T i / ((n : Rat) * T j) = r * T (i - j - more - 1)) ∧ (M : Rat) ≤ r + 1 ∧ r ≤ (M : Rat) + 1 ∧ T 54 ≤ r := by
  have hnp : (0 : Rat) < (n : Rat) := mag_pos hn
  obtain ⟨more, hmore⟩ : ∃ more, more = 54 + n.log2 - m.log2 := ⟨_, rfl⟩
  obtain ⟨Q, hQ⟩ : ∃ Q, Q = m * 2 ^ more := ⟨_, rfl⟩
  refine ⟨2 * (Q / n) + (Q % n != 0).toNat, more, 2 * ((Q : Rat) / (n : Rat)), fun s t i j => ?_, fun i j => ?_, ?_⟩
  · simp only [Datum.quotient]
    rw [if_neg hn, hQ, hmore, Nat.shiftLeft_eq]
  · have e1 : T i = T more * (T (i - j - more - 1) * 2) * T j := by
      have e0 : T i = T more * (T (i - j - more - 1) * T 1) * T j := by
        rw [← T_add, ← T_add, ← T_add]; exact congrArg T (by omega)
      rw [e0, T_one]
    have e2 : (Q : Rat) = (m : Rat) * T more := by rw [hQ, Rat.natCast_mul, T_p]
    rw [e1, e2]
    have hj : T j ≠ 0 := Rat.ne_of_gt (T_pos j)
    have hn' : (n : Rat) ≠ 0 := Rat.ne_of_gt hnp
    grind
  · obtain ⟨M, hM⟩ : ∃ M, M = 2 * (Q / n) + (Q % n != 0).toNat := ⟨_, rfl⟩
    rw [← hM]
    have hdm := Nat.div_add_mod Q n
    have hmod := Nat.mod_lt Q (Nat.pos_of_ne_zero hn)
    have hMn : M * n ≤ 2 * Q + n ∧ 2 * Q ≤ M * n + n := by
      have e : M * n = 2 * (n * (Q / n)) + (Q % n != 0).toNat * n := by rw [hM, Nat.add_mul, Nat.mul_assoc, Nat.mul_comm (Q / n) n]
      cases hz : (Q % n != 0) with
      | true => rw [hz] at e; simp only [Bool.toNat_true, Nat.one_mul] at e; omega
      | false =>
        rw [hz] at e
        simp only [Bool.toNat_false, Nat.zero_mul, Nat.add_zero] at e
        have : Q % n = 0 := by simpa using hz
        omega
    have c1 : (M : Rat) * (n : Rat) ≤ 2 * (Q : Rat) + (n : Rat) := by
      have := Rat.natCast_le_natCast.2 hMn.1
      simpa [Rat.natCast_mul, Rat.natCast_add] using this
    have c2 : 2 * (Q : Rat) ≤ (M : Rat) * (n : Rat) + (n : Rat) := by
      have := Rat.natCast_le_natCast.2 hMn.2
      simpa [Rat.natCast_mul, Rat.natCast_add] using this
    have hqn : (Q : Rat) = ((Q : Rat) / (n : Rat)) * (n : Rat) := (Rat.div_mul_cancel (Rat.ne_of_gt hnp)).symm
    have hQ1 : 2 ^ (54 + n.log2) ≤ Q := by
      rw [hQ]
      have h1 : 2 ^ m.log2 * 2 ^ more ≤ m * 2 ^ more := Nat.mul_le_mul_right _ (log2_lo hm)
      rw [← Nat.pow_add] at h1
      exact Nat.le_trans (Nat.pow_le_pow_right (by omega) (by omega)) h1
    have hn2 : n * 2 ^ 53 ≤ Q := by
      have h1 : n ≤ 2 ^ (n.log2 + 1) := Nat.le_of_lt (log2_hi n)
      have h2 : n * 2 ^ 53 ≤ 2 ^ (n.log2 + 1) * 2 ^ 53 := Nat.mul_le_mul_right _ h1
      rw [← Nat.pow_add] at h2
      exact Nat.le_trans h2 (Nat.le_trans (Nat.pow_le_pow_right (by omega) (by omega)) hQ1)
    have hn3 := Rat.natCast_le_natCast.2 hn2
    rw [Rat.natCast_mul, T_p] at hn3
    generalize (Q : Rat) / (n : Rat) = r at *
    refine ⟨?_, ?_, ?_⟩
    · refine Rat.le_of_mul_le_mul_right (c := (n : Rat)) ?_ hnp
      rw [hqn] at c1; grind
    · refine Rat.le_of_mul_le_mul_right (c := (n : Rat)) ?_ hnp
      rw [hqn] at c2; grind
    · rw [show T 54 = 2 * T 53 from T_succ 53]
      have h3 : T 53 ≤ r := by
        refine Rat.le_of_mul_le_mul_right (c := (n : Rat)) ?_ hnp
        rw [← hqn, Rat.mul_comm]; exact hn3
      grind

theorem div_read {x y : Nat} {s t : Bool} {m n : Nat} {i j : Int} (hx : double.read x = .number s m i) (hy : double.read y = .number t n j) : double.div x y = ((Datum.quotient 54 (.number s m i) (.number t n j))).map double.write := by
  unfold Format.div; rw [hx, hy, fb]

theorem div_zero_read {x y : Nat} {s t : Bool} {n : Nat} {i j : Int} (hx : double.read x = .number s 0 i) (hy : double.read y = .number t n j) (hn : n ≠ 0) : double.div x y = some (double.word (s ^^ t) 0) := by
  rw [div_read hx hy]
  simp only [Datum.quotient]
  rw [if_neg hn]
  simp only [Nat.zero_shiftLeft, Nat.zero_div, Nat.zero_mod]
  show some (double.nearest (s ^^ t) 0 _) = _
  rw [nearest_zero]

theorem dbl_div {x x2 y y2 : Nat} {t : Bool} {n : Nat} {j : Int} (h : Dbl x x2) (hy : double.read y = .number t n j) (hy2 : double.read y2 = .number t n (j + 1)) (hn : n ≠ 0)
    (hb : ∀ s m e, double.read x = .number s m e → m ≠ 0 → T (-1000) ≤ (m : Rat) * T e / ((n : Rat) * T j) ∧ (m : Rat) * T e / ((n : Rat) * T j) ≤ T 990) :
    ∃ z z2, double.div x y = some z ∧ double.div x2 y = some z2 ∧ double.div x2 y2 = some z ∧ Dbl z z2 := by
  obtain ⟨s, m, e, hx, ⟨rfl, hw, rfl⟩ | ⟨h1, h2, h3⟩⟩ := h
  · exact ⟨_, _, div_zero_read hx hy hn, div_zero_read hx hy hn, div_zero_read hx hy2 hn, dbl_zero _⟩
  · have hm : m ≠ 0 := by omega
    obtain ⟨b1, b2⟩ := hb s m e hx hm
    obtain ⟨M, more, r, hq, hv, k1, k2, k3⟩ := quo_form m n hm hn
    rw [hv] at b1 b2
    have e54 : (2 : Rat) ≤ T 54 := by have := T_mono (show (1 : Int) ≤ 54 by omega); rwa [T_one] at this
    have pp := T_pos (e - j - more - 1)
    have hM : M ≠ 0 := by
      rintro rfl
      rw [show ((0 : Nat) : Rat) = 0 from rfl] at k2
      grind
    have u1 : (M : Rat) * T (e - j - more - 1) ≤ T 1000 := by
      have h4 := Rat.mul_le_mul_of_nonneg_right (show (M : Rat) ≤ 2 * r by grind) (Rat.le_of_lt pp)
      have h5 : T 991 = 2 * T 990 := by rw [← T_succ]; rfl
      have h6 := T_mono (show (991 : Int) ≤ 1000 by omega)
      grind
    have u2 : T (-1022) ≤ (M : Rat) * T (e - j - more - 1) := by
      have h4 := Rat.mul_le_mul_of_nonneg_right (show r ≤ 2 * (M : Rat) by grind) (Rat.le_of_lt pp)
      have h5 : T (-1000) = 2 * T (-1001) := by rw [← T_succ]; rfl
      have h6 := T_mono (show (-1022 : Int) ≤ -1001 by omega)
      grind
    refine ⟨double.nearest (s ^^ t) M (e - j - more - 1), double.nearest (s ^^ t) M (e - j - more - 1 + 1), ?_, ?_, ?_, dbl_near hM u2 u1⟩
    · rw [div_read hx hy, hq]; rfl
    · rw [div_read h3 hy, hq]
      show some (double.nearest _ _ _) = _
      rw [show e + 1 - j - (more : Int) - 1 = e - j - more - 1 + 1 by omega]
    · rw [div_read h3 hy2, hq]
      show some (double.nearest _ _ _) = _
      rw [show e + 1 - (j + 1) - (more : Int) - 1 = e - j - more - 1 by omega]

/-- 2.0 -/
theorem read_two : double.read 4611686018427387904 = .number false 4503599627370496 (-51) := by decide

theorem two_read {x : Nat} {s : Bool} {m : Nat} {e : Int} (hx : double.read x = .number s m e) (h1 : 4503599627370496 ≤ m) (h2 : m < 9007199254740992) (he : -1074 ≤ e) (he2 : e ≤ 960) :
    ∃ z, double.mul 4611686018427387904 x = some z ∧ double.read z = .number s m (e + 1) := by
  refine ⟨_, mul_read read_two hx, ?_⟩
  have hne : 4503599627370496 * m ≠ 0 := by omega
  have hlog : (4503599627370496 * m).log2 = 104 := (Nat.log2_eq_iff hne).2 ⟨by omega, by omega⟩
  obtain ⟨l, p, d, k, hl, hpd, hk, hz, hn⟩ := nearest_parts (false ^^ s) (4503599627370496 * m) (-51 + e) hne
  rw [hlog] at hl
  obtain rfl : l = e + 1 := by omega
  obtain rfl : p = 0 := by omega
  obtain rfl : d = 52 := by omega
  have hkm : k = m := by
    rw [hk, Nat.pow_zero, Nat.mul_one, Nat.mul_comm]
    exact cut_exact _ m 52
  subst hkm
  have b1 : (e + 1 + 1074).toNat * 4503599627370496 + k < 9218868437227405312 := by omega
  rw [hn, Nat.min_eq_left (Nat.le_of_lt b1), read_word _ _ b1, if_neg (by omega)]
  have e1 : 4503599627370496 + ((e + 1 + 1074).toNat * 4503599627370496 + k) % 4503599627370496 = k := by omega
  have e2 : (-1074 : Int) + (((e + 1 + 1074).toNat * 4503599627370496 + k) / 4503599627370496 - 1 : Nat) = e + 1 := by omega
  rw [e1, e2, Bool.false_xor]

/-- What is twice x compares equal with 2.0 * x. -/
theorem dbl_two {x x2 : Nat} (h : Dbl x x2) (hb : ∀ s m e, double.read x = .number s m e → -1074 ≤ e ∧ e ≤ 960) : ∃ z, double.mul 4611686018427387904 x = some z ∧ (double.order x2 z == some .eq) = true := by
  obtain ⟨s, m, e, hx, ⟨rfl, hw, rfl⟩ | ⟨h1, h2, h3⟩⟩ := h
  · refine ⟨_, mul_read read_two hx, ?_⟩
    rw [Nat.mul_zero, nearest_zero]
    exact order_eq (a := 0) (b := 0) (s := s) (t := false ^^ s) ⟨0, e, hx, by simp⟩ ⟨0, -1074, read_zero _, by simp⟩ (by cases s <;> simp)
  · obtain ⟨b1, b2⟩ := hb s m e hx
    obtain ⟨z, hz, hr⟩ := two_read hx h1 h2 b1 b2
    exact ⟨z, hz, order_eq (s := s) (t := s) ⟨m, e + 1, h3, rfl⟩ ⟨m, e + 1, hr, rfl⟩ rfl⟩

end Go.Proofs.Qxb6613073a
