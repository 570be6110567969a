/- THE PLAIN LAW of secondsFor: twice the waiters take exactly twice as long, twice the waiters at twice the rate exactly as long, and the estimate lies within a relative 1e-14 of n*unit/rate. No Go in sight. -/
import Derived.Test.Qxb6613073aFloatF
namespace Go.Proofs.Qxb6613073a
open Ieee
set_option linter.unusedVariables false

/-- float64(n) -/
def Fi (n : Int) : Nat := double.nearest (decide (n < 0)) n.natAbs 0
/-- |x| as the law's text reckons it. -/
def absF (x : Nat) : Nat := if (double.order x 0 == some .lt) = true then x ^^^ 2 ^ 63 else x

/-! ### zero, or between two powers of two -/
def In0 (x : Rat) (a b : Int) : Prop := x = 0 ∨ In x a b
theorem In0.mul {x y : Rat} {a b c d : Int} (hx : In0 x a b) (hy : In0 y c d) : In0 (x * y) (a + c) (b + d) := by
  rcases hx with rfl | hx
  · exact .inl (by simp)
  · rcases hy with rfl | hy
    · exact .inl (by simp)
    · exact .inr (hx.mul hy)
theorem In0.div {x y : Rat} {a b c d : Int} (hx : In0 x a b) (hy : In y c d) : In0 (x / y) (a - d) (b - c) := by
  rcases hx with rfl | hx
  · exact .inl (by simp [Rat.div_def])
  · exact .inr (hx.div hy)
theorem In0.rk {c v k : Rat} {a b : Int} (h : In0 v a b) (hr : Rk k c v) (hk : k ≤ 10) (hc : 0 ≤ c) : In0 c (a - 1) (b + 1) := by
  rcases h with rfl | h
  · refine .inl ?_
    obtain ⟨h1, h2⟩ := hr
    simp at h1
    grind
  · exact .inr (h.rk hr hk)
theorem In0.le {x : Rat} {a b c : Int} (h : In0 x a b) (hb : b ≤ c) : x ≤ T c := by
  rcases h with rfl | h
  · exact Rat.le_of_lt (T_pos c)
  · exact Rat.le_trans h.2 (T_mono hb)
theorem In0.ge {x : Rat} {a b c : Int} (h : In0 x a b) (ha : c ≤ a) : x = 0 ∨ T c ≤ x := by
  rcases h with h | h
  · exact .inl h
  · exact .inr (Rat.le_trans (T_mono ha) h.1)
theorem In0.nonneg {x : Rat} {a b : Int} (h : In0 x a b) : 0 ≤ x := by
  rcases h with rfl | h
  · exact Rat.le_refl
  · exact Rat.le_of_lt h.pos
theorem In0.mono {x : Rat} {a b c d : Int} (h : In0 x a b) (h1 : c ≤ a) (h2 : b ≤ d) : In0 x c d := by
  rcases h with h | h
  · exact .inl h
  · exact .inr (h.mono h1 h2)
theorem In0.add {x y : Rat} {a b : Int} (hx : In0 x a b) (hy : In0 y a b) : In0 (x + y) a (b + 1) := by
  have e2 : T (b + 1) = 2 * T b := T_succ b
  have pb := T_pos b
  rcases hx with rfl | hx
  · rcases hy with rfl | hy
    · exact .inl (Rat.add_zero 0)
    · refine .inr ?_
      rw [Rat.zero_add]
      exact hy.mono (Int.le_refl _) (by omega)
  · rcases hy with rfl | hy
    · refine .inr ?_
      rw [Rat.add_zero]
      exact hx.mono (Int.le_refl _) (by omega)
    · refine .inr ?_
      have h1 := hx.1
      have h2 := hx.2
      have h3 := hy.1
      have h4 := hy.2
      have pa := T_pos a
      unfold In
      rw [e2]
      constructor <;> grind
theorem In0.nat {n b : Nat} (h2 : n ≤ 2 ^ b) : In0 (n : Rat) 0 b := by
  by_cases h : n = 0
  · subst h; exact .inl rfl
  · exact .inr (In.nat (by omega) h2)

theorem nat_val (n : Nat) : (n : Rat) * T 0 = (n : Rat) := by rw [T_zero, Rat.mul_one]

theorem Fi_ok (n : Int) (b : Nat) (hb : n.natAbs ≤ 2 ^ b) (hb2 : b ≤ 64) : ∃ c, Mg (Fi n) (decide (n < 0)) c ∧ Rk 1 c (n.natAbs : Rat) ∧ In0 c (-1) (b + 1) := by
  have hi := In0.nat hb
  have h0 : ((n.natAbs : Nat) : Rat) * T 0 ≤ T 1000 := by rw [nat_val]; exact hi.le (by omega)
  obtain ⟨c, h1, h2⟩ := near_ok (decide (n < 0)) n.natAbs 0 h0
  rw [nat_val] at h2
  have hr := h2.rel hi.nonneg (hi.ge (by omega))
  exact ⟨c, h1, hr, hi.rk hr (by decide) h1.nonneg⟩

theorem sub_ok' {x y : Nat} {s t : Bool} {a b : Rat} (hx : Mg x s a) (hy : Mg y t b) (hst : s = t ∨ (a = 0 ∧ b = 0)) (h : a + b ≤ T 1000) :
    ∃ z c sg v, double.sub x y = some z ∧ Mg z sg c ∧ Close c v ∧ ((a ≤ b ∧ v = b - a) ∨ (b ≤ a ∧ v = a - b)) := by
  by_cases e : s = t
  · subst e; exact sub_ok hx hy h
  · obtain ⟨ha, hb⟩ : a = 0 ∧ b = 0 := hst.resolve_left e
    obtain ⟨m, i, rx, ea⟩ := hx
    obtain ⟨n, j, ry, eb⟩ := hy
    obtain ⟨sg, M, base, hs, hv⟩ := sum_eq s (!t) m n i j
    have hsub : double.sub x y = some (double.nearest sg M base) := by
      unfold Format.sub
      rw [rx, ry]
      show (Datum.sum (.number s m i) (.number (!t) n j)).map double.write = _
      rw [hs]; rfl
    rw [← ea, ← eb, ha, hb] at hv
    have hM := val_nonneg M base
    have hM0 : (M : Rat) * T base = 0 := by
      have e0 : (-0 : Rat) = 0 := rfl
      cases s <;> cases t <;> cases sg <;> simp at hv <;> grind
    obtain ⟨c, h1, h2⟩ := near_ok sg M base (by rw [hM0]; exact Rat.le_of_lt (T_pos _))
    refine ⟨_, c, sg, _, hsub, h1, h2, .inl ⟨by rw [ha, hb]; exact Rat.le_refl, ?_⟩⟩
    rw [hM0, ha, hb]; grind

/-! ### the rate -/
theorem read_cases {x : Nat} {s : Bool} {m : Nat} {e : Int} (h : double.read x = .number s m e) : (m < 4503599627370496 ∧ e = -1074) ∨ (4503599627370496 ≤ m ∧ m < 9007199254740992 ∧ -1074 ≤ e) := by
  unfold Format.read at h
  rw [sw, bn, ir, lp] at h
  dsimp only at h
  generalize (x / 9223372036854775808 % 2 == 1) = g at h
  generalize x % 9223372036854775808 = r at h
  split at h
  · cases h; exact .inl ⟨‹_›, rfl⟩
  · split at h
    · cases h; exact .inr ⟨by omega, by omega, by omega⟩
    · split at h
      · cases h
      · cases h

theorem val_of_le {x y : Nat} {s t : Bool} {a b : Rat} (hx : Mg x s a) (hy : Mg y t b) (h : (double.order x y == some .lt || double.order x y == some .eq) = true) : (if s then -a else a) ≤ (if t then -b else b) := by
  obtain ⟨p, q, base, ho, hp, hq⟩ := order_mg hx hy
  rw [← hp, ← hq]
  refine Rat.mul_le_mul_of_nonneg_right (Rat.intCast_le_intCast.2 ?_) (Rat.le_of_lt (T_pos _))
  rw [ho] at h
  by_cases hc : p ≤ q
  · exact hc
  · have : compare p q = .gt := Int.compare_eq_gt.2 (by omega)
    rw [this] at h
    cases h
theorem val_of_ge {x y : Nat} {s t : Bool} {a b : Rat} (hx : Mg x s a) (hy : Mg y t b) (h : (double.order x y == some .gt || double.order x y == some .eq) = true) : (if t then -b else b) ≤ (if s then -a else a) := by
  obtain ⟨p, q, base, ho, hp, hq⟩ := order_mg hx hy
  rw [← hp, ← hq]
  refine Rat.mul_le_mul_of_nonneg_right (Rat.intCast_le_intCast.2 ?_) (Rat.le_of_lt (T_pos _))
  rw [ho] at h
  by_cases hc : q ≤ p
  · exact hc
  · have : compare p q = .lt := Int.compare_eq_lt.2 (by omega)
    rw [this] at h
    cases h

theorem lo_read : double.read 866636436678541900 = .number false 6448907850777164 (-883) := by decide
theorem hi_read : double.read 8346956694235468292 = .number false 6290184345309700 778 := by decide
theorem giga_read : double.read 4741671816366391296 = .number false 8388608000000000 (-23) := by decide
theorem tiny_read : double.read 4397347889687374747 = .number false 6338253001141147 (-99) := by decide

theorem giga_val : ((8388608000000000 : Nat) : Rat) * T (-23) = 1000000000 := by
  have e1 : ((8388608000000000 : Nat) : Rat) = 1000000000 * T 23 := by
    rw [show (23 : Int) = ((23 : Nat) : Int) from rfl, T_nat, show (8388608000000000 : Nat) = 1000000000 * 2 ^ 23 by decide, Rat.natCast_mul]; rfl
  have e2 : T 23 * T (-23) = 1 := by rw [← T_add]; exact T_zero
  rw [e1]; grind
theorem giga_in : In (1000000000 : Rat) 29 30 := by
  constructor
  · rw [show (29 : Int) = ((29 : Nat) : Int) from rfl, T_nat]
    have := Rat.natCast_le_natCast.2 (show 2 ^ 29 ≤ 1000000000 by decide)
    simpa using this
  · rw [show (30 : Int) = ((30 : Nat) : Int) from rfl, T_nat]
    have := Rat.natCast_le_natCast.2 (show 1000000000 ≤ 2 ^ 30 by decide)
    simpa using this

theorem rate_in {rate : Nat} (h1 : (double.order rate 866636436678541900 == some .gt || double.order rate 866636436678541900 == some .eq) = true)
    (h2 : (double.order rate 8346956694235468292 == some .lt || double.order rate 8346956694235468292 == some .eq) = true) :
    ∃ m e, double.read rate = .number false m e ∧ 4503599627370496 ≤ m ∧ m < 9007199254740992 ∧ -1074 ≤ e ∧ e ≤ 900 ∧ In ((m : Rat) * T e) (-831) 831 := by
  cases hr : double.read rate with
  | nan s t =>
    exfalso
    unfold Format.order at h1
    rw [hr] at h1
    simp [Datum.order] at h1
  | infinity s =>
    exfalso
    unfold Format.order at h1 h2
    rw [hr, lo_read] at h1
    rw [hr, hi_read] at h2
    cases s <;> simp [Datum.order] at h1 h2
  | number s m e =>
    have v1 := val_of_ge ⟨m, e, hr, rfl⟩ ⟨_, _, lo_read, rfl⟩ h1
    have v2 := val_of_le ⟨m, e, hr, rfl⟩ ⟨_, _, hi_read, rfl⟩ h2
    have nn := val_nonneg m e
    simp only [Bool.false_eq_true, if_false] at v1 v2
    have l1 : T (-831) ≤ ((6448907850777164 : Nat) : Rat) * T (-883) := by
      have h3 : T 52 ≤ ((6448907850777164 : Nat) : Rat) := by
        rw [show (52 : Int) = ((52 : Nat) : Int) from rfl, T_nat]; exact Rat.natCast_le_natCast.2 (by decide)
      have h4 := Rat.mul_le_mul_of_nonneg_right h3 (Rat.le_of_lt (T_pos (-883)))
      rw [← T_add] at h4
      exact h4
    have l2 : ((6290184345309700 : Nat) : Rat) * T 778 ≤ T 831 := by
      have h3 : ((6290184345309700 : Nat) : Rat) ≤ T 53 := by
        rw [show (53 : Int) = ((53 : Nat) : Int) from rfl, T_nat]; exact Rat.natCast_le_natCast.2 (by decide)
      have h4 := Rat.mul_le_mul_of_nonneg_right h3 (Rat.le_of_lt (T_pos 778))
      rw [← T_add] at h4
      exact h4
    have pT := T_pos (-831)
    cases s with
    | true =>
      exfalso
      simp only [if_true] at v1
      grind
    | false =>
      simp only [Bool.false_eq_true, if_false] at v1 v2
      have hin : In ((m : Rat) * T e) (-831) 831 := ⟨Rat.le_trans l1 v1, Rat.le_trans v2 l2⟩
      rcases read_cases hr with ⟨c1, c2⟩ | ⟨c1, c2, c3⟩
      · exfalso
        subst c2
        have h3 : (m : Rat) ≤ T 52 := by
          rw [show (52 : Int) = ((52 : Nat) : Int) from rfl, T_nat]; exact Rat.natCast_le_natCast.2 (by omega)
        have h4 := Rat.mul_le_mul_of_nonneg_right h3 (Rat.le_of_lt (T_pos (-1074)))
        rw [← T_add] at h4
        have h5 := T_lt (show (52 + -1074 : Int) < -831 by omega)
        exact absurd (Rat.le_trans hin.1 h4) (Rat.not_le.2 h5)
      · refine ⟨m, e, rfl, c1, c2, c3, ?_, hin⟩
        have h3 : T 52 ≤ (m : Rat) := by
          rw [show (52 : Int) = ((52 : Nat) : Int) from rfl, T_nat]; exact Rat.natCast_le_natCast.2 (by omega)
        have h4 := Rat.mul_le_mul_of_nonneg_right h3 (Rat.le_of_lt (T_pos e))
        rw [← T_add] at h4
        have := T_le_imp (Rat.le_trans h4 hin.2)
        omega

/-! ### Seconds -/
theorem parts (unit : Int) : (unit.tdiv 1000000000).natAbs * 1000000000 + (unit.tmod 1000000000).natAbs = unit.natAbs ∧ (unit.tmod 1000000000).natAbs < 1000000000 ∧
    ((unit.tdiv 1000000000).natAbs ≠ 0 → decide (unit.tdiv 1000000000 < 0) = decide (unit < 0)) ∧ ((unit.tmod 1000000000).natAbs ≠ 0 → decide (unit.tmod 1000000000 < 0) = decide (unit < 0)) := by
  by_cases h : 0 ≤ unit
  · rw [Int.tdiv_eq_ediv_of_nonneg h, Int.tmod_eq_emod_of_nonneg h]
    refine ⟨by omega, by omega, fun _ => ?_, fun _ => ?_⟩
    · rw [decide_eq_false (by omega), decide_eq_false (by omega)]
    · rw [decide_eq_false (by omega), decide_eq_false (by omega)]
  · obtain ⟨k, rfl⟩ : ∃ k, unit = -k := ⟨-unit, by omega⟩
    rw [Int.neg_tdiv, Int.neg_tmod, Int.tdiv_eq_ediv_of_nonneg (by omega), Int.tmod_eq_emod_of_nonneg (by omega)]
    refine ⟨by omega, by omega, fun _ => ?_, fun _ => ?_⟩
    · rw [decide_eq_true (show -(k / 1000000000) < 0 by omega), decide_eq_true (by omega)]
    · rw [decide_eq_true (show -(k % 1000000000) < 0 by omega), decide_eq_true (by omega)]

theorem Rk.zero {k c : Rat} (h : Rk k c 0) (hc : 0 ≤ c) : c = 0 := by
  obtain ⟨h1, h2⟩ := h
  have e : k * (0 * E) = 0 := by rw [Rat.zero_mul, Rat.mul_zero]
  rw [e] at h1
  grind

/-- d.Seconds(): how far from unit / 1e9; its sign. -/
theorem seconds_ok (unit : Int) (hu : unit.natAbs ≤ 2 ^ 63) : ∃ d S σ sg, double.div (Fi (unit.tmod 1000000000)) 4741671816366391296 = some d ∧ double.add (Fi (unit.tdiv 1000000000)) d = some S ∧
    Mg S sg σ ∧ Rk (33 / 10) σ ((unit.natAbs : Rat) / 1000000000) ∧ In0 σ (-40) 70 ∧ (unit ≠ 0 → sg = decide (unit < 0)) := by
  obtain ⟨p1, p2, p3, p4⟩ := parts unit
  generalize unit.tdiv 1000000000 = sec at *
  generalize unit.tmod 1000000000 = nsec at *
  obtain ⟨a, A1, A2, A3⟩ := Fi_ok sec 63 (by omega) (by omega)
  obtain ⟨b, B1, B2, B3⟩ := Fi_ok nsec 30 (by omega) (by omega)
  have G1 : Mg 4741671816366391296 false 1000000000 := ⟨_, _, giga_read, giga_val.symm⟩
  have gp : (0 : Rat) < 1000000000 := by decide
  have I1 : In0 (b / 1000000000) (-1 - 30) (30 + 1 - 29) := B3.div giga_in
  obtain ⟨d, δ, d1, d2, d3⟩ := div_ok B1 G1 (by decide) (I1.le (by omega))
  have d4 := d3.rel I1.nonneg (I1.ge (by omega))
  have I2 := I1.rk d4 (by decide) d2.nonneg
  have hst : decide (sec < 0) = (decide (nsec < 0) ^^ false) ∨ a = 0 ∨ δ = 0 := by
    by_cases h1 : sec.natAbs = 0
    · rw [h1] at A2
      exact .inr (.inl (A2.zero A1.nonneg))
    · by_cases h2 : nsec.natAbs = 0
      · rw [h2] at B2
        have hb0 := B2.zero B1.nonneg
        rw [hb0, Rat.div_def, Rat.zero_mul] at d4
        exact .inr (.inr (d4.zero d2.nonneg))
      · rw [p3 h1, p4 h2]; exact .inl (by simp)
  have I3 : In0 (a + δ) (-32) (64 + 1) := (A3.mono (by omega) (by omega)).add (I2.mono (by omega) (by omega))
  obtain ⟨S, σ, sg, s1, s2, s3, s4, s5⟩ := add_ok A1 d2 hst (I3.le (by omega))
  have s6 := s3.rel I3.nonneg (I3.ge (by omega))
  have I4 := I3.rk s6 (by decide) s2.nonneg
  refine ⟨d, S, σ, sg, d1, s1, s2, ?_, I4.mono (by omega) (by omega), fun hu0 => ?_⟩
  · have e1 : (unit.natAbs : Rat) / 1000000000 = (sec.natAbs : Rat) + (nsec.natAbs : Rat) / 1000000000 := by
      rw [← p1, Rat.natCast_add, Rat.natCast_mul]
      have : ((1000000000 : Nat) : Rat) = 1000000000 := rfl
      rw [this]
      grind
    rw [e1]
    have na : (0 : Rat) ≤ (sec.natAbs : Rat) := Rat.natCast_nonneg
    have nb : (0 : Rat) ≤ (nsec.natAbs : Rat) / 1000000000 := by rw [Rat.div_def]; exact Rat.mul_nonneg Rat.natCast_nonneg (Rat.le_of_lt (Rat.inv_pos.2 gp))
    have c1 : Rk (21 / 10) a (sec.natAbs : Rat) := A2.mono na (by grind)
    have c2 : Rk (1 + 11 / 10) δ ((nsec.natAbs : Rat) / 1000000000) := (B2.div gp).comp nb (by decide) (by decide) d4 I1.nonneg
    have e21 : (1 + 11 / 10 : Rat) = 21 / 10 := by grind
    rw [e21] at c2
    have c3 := (c1.add c2).comp (Rat.add_nonneg na nb) (by grind) (by grind) s6 I3.nonneg
    exact c3.mono (Rat.add_nonneg na nb) (by grind)
  · by_cases h1 : sec.natAbs = 0
    · have h2 : nsec.natAbs ≠ 0 := by omega
      rw [← p4 h2]
      have hd : δ ≠ 0 := by
        intro hz
        have hb : b = 0 := by
          rcases I1 with hz1 | hin
          · have := Rat.div_mul_cancel (a := b) (b := 1000000000) (by decide)
            rw [hz1, Rat.zero_mul] at this; exact this.symm
          · exfalso
            have := (hin.rk d4 (by decide)).pos
            rw [hz] at this
            exact Rat.lt_irrefl this
        rcases In0.nat (show nsec.natAbs ≤ 2 ^ 30 by omega) with hz2 | hin
        · exact h2 (Rat.natCast_eq_zero_iff.1 hz2)
        · have := (hin.rk B2 (by decide)).pos
          rw [hb] at this
          exact Rat.lt_irrefl this
      rw [s5 hd]; simp
    · rw [← p3 h1]
      refine s4 ?_
      intro hz
      rcases In0.nat (show sec.natAbs ≤ 2 ^ 63 by omega) with hz2 | hin
      · exact h1 (Rat.natCast_eq_zero_iff.1 hz2)
      · have := (hin.rk A2 (by decide)).pos
        rw [hz] at this
        exact Rat.lt_irrefl this

end Go.Proofs.Qxb6613073a
