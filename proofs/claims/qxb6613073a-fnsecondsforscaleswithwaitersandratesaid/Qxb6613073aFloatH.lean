/- THE PLAIN LAW, put together. No Go in sight. -/
import Derived.Test.Qxb6613073aFloatG
namespace Go.Proofs.Qxb6613073a
open Ieee
set_option linter.unusedVariables false

theorem dbl_Fi (n : Int) (hn : n.natAbs ≤ 2 ^ 62) : Dbl (Fi n) (Fi (2 * n)) := by
  unfold Fi
  have e1 : decide (2 * n < 0) = decide (n < 0) := by
    by_cases h : n < 0
    · rw [decide_eq_true h, decide_eq_true (by omega)]
    · rw [decide_eq_false h, decide_eq_false (by omega)]
  have e2 : (2 * n).natAbs = 2 * n.natAbs := by omega
  rw [e1, e2]
  by_cases h : n.natAbs = 0
  · rw [h, Nat.mul_zero, nearest_zero]; exact dbl_zero _
  · rw [nearest_two _ _ _ h]
    have hi := In.nat (show 1 ≤ n.natAbs by omega) hn
    refine dbl_near h ?_ ?_
    · rw [nat_val]; exact Rat.le_trans (T_mono (by omega)) hi.1
    · rw [nat_val]; exact Rat.le_trans hi.2 (T_mono (by omega))

theorem absF_ok {x : Nat} {s : Bool} {a : Rat} (hlt : x < 2 ^ 64) (hx : Mg x s a) : ∃ t, Mg (absF x) t a ∧ (t = false ∨ a = 0) := by
  have ho := order_lt_zero hx
  unfold absF
  rw [ho]
  cases s with
  | false => exact ⟨false, by simpa using hx, .inl rfl⟩
  | true =>
    by_cases h : a = 0
    · subst h
      exact ⟨true, by simpa using hx, .inr rfl⟩
    · refine ⟨false, ?_, .inl rfl⟩
      have e : (true && decide (a ≠ 0)) = true := by simp [h]
      rw [e, if_pos rfl]
      exact neg_mg hlt hx

theorem tiny_ok : Mg 4397347889687374747 false (((6338253001141147 : Nat) : Rat) * T (-99)) ∧ 22 * E ≤ ((6338253001141147 : Nat) : Rat) * T (-99) ∧ In (((6338253001141147 : Nat) : Rat) * T (-99)) (-47) (-46) := by
  refine ⟨⟨_, _, tiny_read, rfl⟩, ?_, ?_, ?_⟩
  · have e1 : E = T 48 * T (-99) := by unfold E; rw [← T_add]; rfl
    have e2 : T 48 = ((281474976710656 : Nat) : Rat) := by rw [show (48 : Int) = ((48 : Nat) : Int) from rfl, T_nat]
    have e3 : (22 : Rat) * T 48 ≤ ((6338253001141147 : Nat) : Rat) := by
      rw [e2]
      have := Rat.natCast_le_natCast.2 (show 22 * 281474976710656 ≤ 6338253001141147 by decide)
      rw [Rat.natCast_mul] at this
      exact this
    rw [e1, ← Rat.mul_assoc]
    exact Rat.mul_le_mul_of_nonneg_right e3 (Rat.le_of_lt (T_pos _))
  · have h3 : T 52 ≤ ((6338253001141147 : Nat) : Rat) := by
      rw [show (52 : Int) = ((52 : Nat) : Int) from rfl, T_nat]; exact Rat.natCast_le_natCast.2 (by decide)
    have h4 := Rat.mul_le_mul_of_nonneg_right h3 (Rat.le_of_lt (T_pos (-99)))
    rw [← T_add] at h4
    exact h4
  · have h3 : ((6338253001141147 : Nat) : Rat) ≤ T 53 := by
      rw [show (53 : Int) = ((53 : Nat) : Int) from rfl, T_nat]; exact Rat.natCast_le_natCast.2 (by decide)
    have h4 := Rat.mul_le_mul_of_nonneg_right h3 (Rat.le_of_lt (T_pos (-99)))
    rw [← T_add] at h4
    exact h4

/-- The distance of two estimates, each within a few units of one number. -/
theorem far {o μ t v : Rat} (ht : 0 ≤ t) (h1 : Rk (56 / 10) o t) (h2 : Rk (44 / 10) μ t) (hv : (o ≤ μ ∧ v = μ - o) ∨ (μ ≤ o ∧ v = o - μ)) : v ≤ 10 * (t * E) ∧ t ≤ μ + t / 1000 := by
  obtain ⟨a1, a2⟩ := h1
  obtain ⟨b1, b2⟩ := h2
  have es := E_small
  have x0 : 0 ≤ t * E := Rat.mul_nonneg ht (Rat.le_of_lt E_pos)
  have x1 : t * E * 1000000 ≤ t := by
    have := Rat.mul_le_mul_of_nonneg_left es ht
    grind
  constructor
  · rcases hv with ⟨_, rfl⟩ | ⟨_, rfl⟩ <;> grind
  · grind

set_option maxHeartbeats 1000000 in
theorem seconds_law (rate : Nat) (unit n : Int) (hu : unit.natAbs ≤ 2 ^ 63) (hn : n.natAbs ≤ 2 ^ 62)
    (h1 : (double.order rate 866636436678541900 == some .gt || double.order rate 866636436678541900 == some .eq) = true)
    (h2 : (double.order rate 8346956694235468292 == some .lt || double.order rate 8346956694235468292 == some .eq) = true) :
    ∃ d S P1 one P2 two R2 A B model Z D Y, double.div (Fi (unit.tmod 1000000000)) 4741671816366391296 = some d ∧ double.add (Fi (unit.tdiv 1000000000)) d = some S ∧
      double.mul (Fi n) S = some P1 ∧ double.div P1 rate = some one ∧ double.mul (Fi (2 * n)) S = some P2 ∧ double.div P2 rate = some two ∧
      double.mul 4611686018427387904 rate = some R2 ∧ double.div P2 R2 = some one ∧
      double.mul (Fi n) (Fi unit) = some A ∧ double.div A 4741671816366391296 = some B ∧ double.div B rate = some model ∧
      double.mul 4611686018427387904 one = some Z ∧ (double.order two Z == some .eq) = true ∧ (double.order one one == some .eq) = true ∧
      double.sub one model = some D ∧ double.mul 4397347889687374747 (absF model) = some Y ∧ (double.order (absF D) Y == some .lt || double.order (absF D) Y == some .eq) = true := by
  obtain ⟨mr, er, R1, r2, r3, r4, r5, RI⟩ := rate_in h1 h2
  have hr0 : mr ≠ 0 := by omega
  obtain ⟨R2, q1, q2⟩ := two_read R1 r2 r3 r4 (by omega)
  obtain ⟨d, S, σ, sS, d1, s1, s2, s3, s4, s5⟩ := seconds_ok unit hu
  obtain ⟨ν, N1, N2, N3⟩ := Fi_ok n 62 hn (by omega)
  obtain ⟨U, U1, U2, U3⟩ := Fi_ok unit 63 hu (by omega)
  have MR : Mg rate false ((mr : Rat) * T er) := ⟨mr, er, R1, rfl⟩
  have G1 : Mg 4741671816366391296 false 1000000000 := ⟨_, _, giga_read, giga_val.symm⟩
  have gp : (0 : Rat) < 1000000000 := by decide
  obtain ⟨ρ, hρ⟩ : ∃ ρ, ρ = (mr : Rat) * T er := ⟨_, rfl⟩
  rw [← hρ] at RI MR
  have rp := RI.pos
  -- the products and quotients
  have IP : In0 (ν * σ) (-1 + -40) (62 + 1 + 70) := N3.mul s4
  obtain ⟨P1, π, p1, p2, p3⟩ := mul_ok N1 s2 (IP.le (by omega))
  have p4 := p3.rel IP.nonneg (IP.ge (by omega))
  have IP2 := IP.rk p4 (by decide) p2.nonneg
  have JO : In0 (π / ρ) _ _ := IP2.div RI
  obtain ⟨one, o, o1, o2, o3⟩ := div_ok p2 MR (Rat.ne_of_gt rp) (JO.le (by omega))
  have o4 := o3.rel JO.nonneg (JO.ge (by omega))
  have JO2 := JO.rk o4 (by decide) o2.nonneg
  have IA : In0 (ν * U) (-1 + -1) (62 + 1 + (63 + 1)) := N3.mul U3
  obtain ⟨A, α, a1, a2, a3⟩ := mul_ok N1 U1 (IA.le (by omega))
  have a4 := a3.rel IA.nonneg (IA.ge (by omega))
  have IA2 := IA.rk a4 (by decide) a2.nonneg
  have IB : In0 (α / 1000000000) _ _ := IA2.div giga_in
  obtain ⟨B, β, b1, b2, b3⟩ := div_ok a2 G1 (by decide) (IB.le (by omega))
  have b4 := b3.rel IB.nonneg (IB.ge (by omega))
  have IB2 := IB.rk b4 (by decide) b2.nonneg
  have IM : In0 (β / ρ) _ _ := IB2.div RI
  obtain ⟨model, μ, m1, m2, m3⟩ := div_ok b2 MR (Rat.ne_of_gt rp) (IM.le (by omega))
  have m4 := m3.rel IM.nonneg (IM.ge (by omega))
  have IM2 := IM.rk m4 (by decide) m2.nonneg
  -- the exact number
  obtain ⟨u, hu'⟩ : ∃ u : Rat, u = (unit.natAbs : Rat) := ⟨_, rfl⟩
  rw [← hu'] at s3 U2
  have u0 : 0 ≤ u := by rw [hu']; exact Rat.natCast_nonneg
  have ν0 := N1.nonneg
  have ig : (0 : Rat) ≤ (1000000000 : Rat)⁻¹ := Rat.le_of_lt (Rat.inv_pos.2 gp)
  have ir : (0 : Rat) ≤ ρ⁻¹ := Rat.le_of_lt (Rat.inv_pos.2 rp)
  obtain ⟨t, ht⟩ : ∃ t, t = ν * (u / 1000000000) / ρ := ⟨_, rfl⟩
  have ug : 0 ≤ u / 1000000000 := by rw [Rat.div_def]; exact Rat.mul_nonneg u0 ig
  have νug : 0 ≤ ν * (u / 1000000000) := Rat.mul_nonneg ν0 ug
  have t0 : 0 ≤ t := by rw [ht, Rat.div_def]; exact Rat.mul_nonneg νug ir
  have k1 : Rk (33 / 10 + 11 / 10) π (ν * (u / 1000000000)) := by
    have := s3.scale ν0
    rw [Rat.mul_comm σ ν, Rat.mul_comm (u / 1000000000) ν] at this
    exact this.comp νug (by grind) (by grind) p4 IP.nonneg
  have k2 : Rk (56 / 10) o t := by
    rw [ht]
    have := (k1.div rp).comp (by rw [← ht]; exact t0) (by grind) (by grind) o4 JO.nonneg
    exact this.mono (by rw [← ht]; exact t0) (by grind)
  have k3 : Rk (1 + 11 / 10) α (ν * u) := by
    have := U2.scale ν0
    rw [Rat.mul_comm U ν, Rat.mul_comm u ν] at this
    exact this.comp (Rat.mul_nonneg ν0 u0) (by grind) (by grind) a4 IA.nonneg
  have e4 : ν * u / 1000000000 = ν * (u / 1000000000) := by rw [Rat.div_def, Rat.div_def, Rat.mul_assoc]
  have k4 : Rk (1 + 11 / 10 + 11 / 10) β (ν * (u / 1000000000)) := by
    have := k3.div gp
    rw [e4] at this
    exact this.comp νug (by grind) (by grind) b4 IB.nonneg
  have k5 : Rk (44 / 10) μ t := by
    rw [ht]
    have := (k4.div rp).comp (by rw [← ht]; exact t0) (by grind) (by grind) m4 IM.nonneg
    exact this.mono (by rw [← ht]; exact t0) (by grind)
  -- the signs
  have hst : (decide (n < 0) ^^ sS ^^ false) = (decide (n < 0) ^^ decide (unit < 0) ^^ false ^^ false) ∨ (o = 0 ∧ μ = 0) := by
    by_cases hu0 : unit = 0
    · refine .inr ?_
      have t00 : t = 0 := by
        rw [ht, hu', hu0]
        have : ((Int.natAbs 0 : Nat) : Rat) = 0 := rfl
        rw [this]; simp [Rat.div_def]
      rw [t00] at k2 k5
      exact ⟨k2.zero o2.nonneg, k5.zero m2.nonneg⟩
    · rw [s5 hu0]; simp
  have hom : o + μ ≤ T 1000 := by
    have x1 := JO2.le (c := 998) (by omega)
    have x2 := IM2.le (c := 998) (by omega)
    have e1 : T 1000 = 2 * (2 * T 998) := by rw [← T_succ, ← T_succ]; rfl
    have := T_pos 998
    grind
  have o2' : Mg one (decide (n < 0) ^^ sS ^^ false) o := o2
  have m2' : Mg model (decide (n < 0) ^^ decide (unit < 0) ^^ false ^^ false) μ := m2
  obtain ⟨D, δ, sD, v, D1, D2, D3, D4⟩ := sub_ok' o2' m2' hst hom
  obtain ⟨f1, f2⟩ := far t0 k2 k5 D4
  have Dlt : D < 2 ^ 64 := Format.sub_lt _ D1
  have Mlt : model < 2 ^ 64 := Format.div_lt _ m1
  obtain ⟨sA, A1', A2'⟩ := absF_ok Dlt D2
  obtain ⟨sM, M1', M2'⟩ := absF_ok Mlt m2'
  obtain ⟨T1, T2, T3⟩ := tiny_ok
  obtain ⟨τ, hτ⟩ : ∃ τ, τ = ((6338253001141147 : Nat) : Rat) * T (-99) := ⟨_, rfl⟩
  rw [← hτ] at T1 T2 T3
  have IY : In0 (τ * μ) _ _ := (show In0 τ (-47) (-46) from .inr T3).mul IM2
  obtain ⟨Y, y, Y1, Y2, Y3⟩ := mul_ok T1 M1' (IY.le (by omega))
  have y4 := Y3.rel IY.nonneg (IY.ge (by omega))
  -- twice
  have DN := dbl_Fi n hn
  obtain ⟨mS, eS, RS, eσ⟩ := s2
  have DP : ∃ z z2, double.mul (Fi n) S = some z ∧ double.mul (Fi (2 * n)) S = some z2 ∧ Dbl z z2 := by
    refine dbl_mul DN RS (fun s m e hx hm hnz => ?_)
    have ev : ((m * mS : Nat) : Rat) * T (e + eS) = ν * σ := by
      obtain ⟨m', e', hx', hv'⟩ := N1
      rw [hx] at hx'
      cases hx'
      rw [hv', eσ, T_add, Rat.natCast_mul]; grind
    have hpos : ν * σ ≠ 0 := by
      rw [← ev]
      exact Rat.ne_of_gt (Rat.mul_pos (mag_pos (Nat.mul_ne_zero hm hnz)) (T_pos _))
    rw [ev]
    rcases IP with hz | hin
    · exact absurd hz hpos
    · exact ⟨Rat.le_trans (T_mono (by omega)) hin.1, Rat.le_trans hin.2 (T_mono (by omega))⟩
  obtain ⟨P1', P2, w1, w2, DP⟩ := DP
  obtain rfl : P1' = P1 := by rw [p1] at w1; cases w1; rfl
  have DO : ∃ z z2, double.div P1' rate = some z ∧ double.div P2 rate = some z2 ∧ double.div P2 R2 = some z ∧ Dbl z z2 := by
    refine dbl_div DP R1 q2 hr0 (fun s m e hx hm => ?_)
    have ev : (m : Rat) * T e / ((mr : Rat) * T er) = π / ρ := by
      obtain ⟨m', e', hx', hv'⟩ := p2
      rw [hx] at hx'
      cases hx'
      rw [hv', hρ]
    have hπ : π ≠ 0 := by
      obtain ⟨m', e', hx', hv'⟩ := p2
      rw [hx] at hx'
      cases hx'
      rw [hv']
      exact Rat.ne_of_gt (Rat.mul_pos (mag_pos hm) (T_pos _))
    rw [ev]
    rcases JO with hz | hin
    · exfalso
      have := Rat.div_mul_cancel (a := π) (b := ρ) (Rat.ne_of_gt rp)
      rw [hz, Rat.zero_mul] at this
      exact hπ this.symm
    · exact ⟨Rat.le_trans (T_mono (by omega)) hin.1, Rat.le_trans hin.2 (T_mono (by omega))⟩
  obtain ⟨one', two, x1, x2, x3, DO⟩ := DO
  obtain rfl : one' = one := by rw [o1] at x1; cases x1; rfl
  obtain ⟨Z, z1, z2⟩ := dbl_two DO (fun s m e hx => by
    rcases read_cases hx with ⟨c1, c2⟩ | ⟨c1, c2, c3⟩
    · omega
    · refine ⟨c3, ?_⟩
      have ev : (m : Rat) * T e = o := by
        obtain ⟨m', e', hx', hv'⟩ := o2
        rw [hx] at hx'
        cases hx'
        exact hv'.symm
      have h4 : T 52 ≤ (m : Rat) := by
        rw [show (52 : Int) = ((52 : Nat) : Int) from rfl, T_nat]; exact Rat.natCast_le_natCast.2 (by omega)
      have h5 := Rat.mul_le_mul_of_nonneg_right h4 (Rat.le_of_lt (T_pos e))
      rw [← T_add, ev] at h5
      have := T_le_imp (Rat.le_trans h5 (JO2.le (Int.le_refl _)))
      omega)
  refine ⟨d, S, P1', one', P2, two, R2, A, B, model, Z, D, Y, d1, s1, p1, o1, w2, x2, q1, x3, a1, b1, m1, z1, z2, order_eq o2' o2' rfl, D1, Y1, ?_⟩
  refine order_le A1' Y2 ?_
  -- δ ≤ y
  have es := E_small
  have ep := E_pos
  have key : δ ≤ y := by
    obtain ⟨D5, D6, D7⟩ := D3
    obtain ⟨y5, y6⟩ := y4
    have τ0 : 0 < τ := T3.pos
    have μ0 := m2'.nonneg
    by_cases hz : t = 0
    · rw [hz] at f1
      have hv0 : v = 0 := by
        have e0 : 10 * ((0 : Rat) * E) = 0 := by rw [Rat.zero_mul, Rat.mul_zero]
        rw [e0] at f1
        rcases D4 with ⟨g1, g2⟩ | ⟨g1, g2⟩ <;> grind
      rw [D7 hv0]
      exact Y2.nonneg
    · -- t is not small
      have hμ : T (-1000 + 60) ≤ μ := by
        rcases IM2 with hz2 | hin
        · exfalso
          rw [hz2] at k5
          obtain ⟨g1, g2⟩ := k5
          have x0 : 0 ≤ t * E := Rat.mul_nonneg t0 (Rat.le_of_lt ep)
          have x1 : t * E * 1000000 ≤ t := by
            have := Rat.mul_le_mul_of_nonneg_left es t0
            grind
          exact hz (by grind)
        · exact Rat.le_trans (T_mono (by omega)) hin.1
      have hη : T (-1074) ≤ μ * E := by
        have h4 := Rat.mul_le_mul_of_nonneg_right hμ (Rat.le_of_lt ep)
        have e5 : T (-1000 + 60) * E = T (-1000 + 60 + -51) := by rw [T_add (-1000 + 60) (-51)]; rfl
        rw [e5] at h4
        exact Rat.le_trans (T_mono (by omega)) h4
      have v0 : 0 ≤ v := by rcases D4 with ⟨g1, g2⟩ | ⟨g1, g2⟩ <;> grind
      have t52 : T (-52) ≤ E := T_mono (by omega)
      have vE : v * T (-52) ≤ v * E := Rat.mul_le_mul_of_nonneg_left t52 v0
      have x0 : 0 ≤ t * E := Rat.mul_nonneg t0 (Rat.le_of_lt ep)
      have vE2 : v * E ≤ v := by
        have h4 := Rat.mul_le_mul_of_nonneg_left (show E ≤ 1 / 1000000 by grind) v0
        grind
      have vE3 : v * E * 1000000 ≤ v := by
        have := Rat.mul_le_mul_of_nonneg_left es v0
        grind
      -- t ≤ 1.002 μ
      have tμ : t * E ≤ (1002 / 1000) * (μ * E) := by
        have h4 : t ≤ (1002 / 1000) * μ := by grind
        have := Rat.mul_le_mul_of_nonneg_right h4 (Rat.le_of_lt ep)
        grind
      have τμ : 22 * (μ * E) ≤ τ * μ := by
        have := Rat.mul_le_mul_of_nonneg_right T2 μ0
        grind
      have τμ0 : 0 ≤ τ * μ := Rat.mul_nonneg (Rat.le_of_lt τ0) μ0
      have τμE : τ * μ * E * 1000000 ≤ τ * μ := by
        have := Rat.mul_le_mul_of_nonneg_left es τμ0
        grind
      grind
  rcases A2' with hs | hs
  · subst hs
    rcases M2' with hs2 | hs2
    · subst hs2; simpa using key
    · have y00 : y = 0 := by
        have : τ * μ = 0 := by rw [hs2, Rat.mul_zero]
        rw [this] at Y3
        exact Y3.2.2 rfl
      have d00 : δ = 0 := by have := D2.nonneg; rw [y00] at key; grind
      rw [y00, d00]; cases sM <;> simp
  · have y0 := Y2.nonneg
    rw [hs]
    rcases M2' with hs2 | hs2
    · subst hs2; cases sA <;> simpa using y0
    · have y00 : y = 0 := by
        have : τ * μ = 0 := by rw [hs2, Rat.mul_zero]
        rw [this] at Y3
        exact Y3.2.2 rfl
      rw [y00]; cases sA <;> cases sM <;> simp

end Go.Proofs.Qxb6613073a
