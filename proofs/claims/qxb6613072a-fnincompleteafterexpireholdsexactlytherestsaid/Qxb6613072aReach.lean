import Derived.Test.Qxb6613072aPreB
namespace Go.Proofs.Qxb6613072a
open Go.RowKit Go.Maps
set_option linter.unusedVariables false

/-- Messages i and j bear one key. -/
def Ms.Same (M : Ms) (i j : Nat) : Prop := M.O i = M.O j ∧ M.Ty i = M.Ty j ∧ M.Rf i = M.Rf j ∧ M.To i = M.To j ∧ M.El i = M.El j
/-- What is known of the first n messages. -/
def Ms.R (M : Ms) (n : Nat) : Prop := (∀ i, i < n → 0 < M.SL i ∧ M.SL i ≤ 255) ∧ ∀ i j, i < j → j < n → ¬ M.Same i j
theorem Ms.R.zero (M : Ms) : M.R 0 := ⟨fun i h => absurd h (Nat.not_lt_zero _), fun i j _ h => absurd h (Nat.not_lt_zero _)⟩
theorem Ms.R.step {M : Ms} {n : Nat} (h : M.R n) (hs : 0 < M.SL n ∧ M.SL n ≤ 255) (hk : ∀ j, j < n → ¬ M.Same j n) : M.R (n + 1) := by
  refine ⟨fun i hi => ?_, fun i j hij hj => ?_⟩
  · by_cases e : i = n
    · subst e; exact hs
    · exact h.1 i (by omega)
  · by_cases e : j = n
    · subst e; exact hk i hij
    · exact h.2 i j hij (by omega)

set_option maxRecDepth 20000 in
set_option maxHeartbeats 4000000 in
theorem heldReachable_call (M : Ms) (m : Mem) (w : World) (hl : M.N ≤ 4096) (hm : MsgsAt M m w) :
    Calls Try.prog 14 #[.slice m.a M.N m.cap] w (PB w (M.R M.N)) := by
  have HM := hid hm
  rcases Nat.eq_zero_or_pos M.N with h0 | hpos
  · rw [h0]
    clear hm h0 hl HM
    have R0 := hid (Ms.R.zero M)
    go_enter Try.func14, Try.ntmps14
    go_wp2_with fail
    refine wp_loop_rounds 1 ?_
    rw [rounds_succ]
    go_wp2
    go_ret
    exact PB.yes (Below.refl _ _) R0.out
  · rw [hm.addr hpos]
    clear hm
    generalize hN : M.N = N at *
    go_enter Try.func14, Try.ntmps14
    go_wp2_with fail
    go_loopw [10] (fun t wr => ∃ (k : Nat), k ≤ N ∧ t = .int .i64 k ∧ Hid (M.R k) ∧ Hid (Below w.heap.size w wr)) (fun t _ => N - (intOf t).toNat)
    case atStart => exact ⟨0, Nat.zero_le _, rfl, hid (Ms.R.zero M), hid (Below.refl _ _)⟩
    case round =>
      obtain ⟨k, hk, rfl, HR, BR⟩ := hrel
      by_cases hlt : k < N
      · have hkz : (k : Int) < (N : Int) := by omega
        have hkz0 : (0 : Int) ≤ (k : Int) := by omega
        have g2 := keepCell BR.out (HM.out.c2 k (by omega))
        have g3 := keepCell BR.out (HM.out.c3 k (by omega))
        have g4 := keepCell BR.out (HM.out.c4 k (by omega))
        have g5 := keepCell BR.out (HM.out.c5 k (by omega))
        have SA := hid (HM.out.sa k (by omega))
        have SQ := hid (HM.out.sq k (by omega))
        generalize hr : M.Rf k = r at g2
        generalize ht : M.To k = t at g3
        generalize he : M.El k = e at g4
        generalize hL : M.SL k = L at g5 SA SQ
        have HL := hid hL
        have HT := hid ht
        clear hr ht he hL
        by_cases h1 : t < 2
        · go_wp2
          go_ret
          exact PB.no BR.out
        · by_cases h2 : t > 255
          · go_wp2
            go_ret
            exact PB.no BR.out
          · by_cases h3 : e ≠ 0 ∧ e ≠ 8
            · have h30 := h3.1
              have h38 := h3.2
              have h30' : (e != 0) = true := by simp [h30]
              have h38' : (e != 8) = true := by simp [h38]
              clear h3
              go_wp2
              go_ret
              exact PB.no BR.out
            · by_cases h4 : r < 0
              · have h3' : e = 0 ∨ e = 8 := by omega
                clear h3
                rcases h3' with rfl | rfl
                all_goals go_wp2
                all_goals go_ret
                all_goals exact PB.no BR.out
              · by_cases h5 : r > 65535
                · have h3' : e = 0 ∨ e = 8 := by omega
                  clear h3
                  rcases h3' with rfl | rfl
                  all_goals go_wp2
                  all_goals go_ret
                  all_goals exact PB.no BR.out
                · by_cases h6 : e = 0 ∧ r > 255
                  · obtain ⟨rfl, h6⟩ := h6
                    clear h3
                    go_wp2
                    go_ret
                    exact PB.no BR.out
                  · have h3' : (e = 0 ∧ r ≤ 255) ∨ (e = 8) := by omega
                    clear h3 h6
                    by_cases h7 : (L : Int) < 1
                    · rcases h3' with ⟨rfl, h6⟩ | rfl
                      all_goals go_wp2_with fail
                      all_goals go_quiet (fail)
                      all_goals go_wp2
                      all_goals go_ret
                      all_goals exact PB.no (below_drew BR.out _)
                    · have h7' : decide ((L : Int) < 1) = false := by simp; omega
                      have h7h := hid h7
                      clear h7
                      by_cases h8 : (L : Int) ≥ t
                      · have h8' : decide (t ≤ (L : Int)) = true := by simp; omega
                        clear h8
                        rcases h3' with ⟨rfl, h6⟩ | rfl
                        all_goals go_wp2_with fail
                        all_goals go_quiet (fail)
                        all_goals go_wp2
                        all_goals go_ret
                        all_goals exact PB.no (below_drew BR.out _)
                      · have sa := SA.out (by have := h7h.out; omega)
                        have h8' : decide (t ≤ (L : Int)) = false := by simp; omega
                        have h8h := hid h8
                        clear h8
                        rw [sa] at g5
                        clear sa
                        rcases h3' with ⟨rfl, h6⟩ | rfl
                        · go_wp2_with fail
                          go_quiet (fail)
                          go_wp2_with fail
                          have BN := hid (below_drew BR.out nq)
                          clear BR g2 g3 g4 g5
                          generalize wr.drewN nq = wq at *
                          go_loopw [5, 89] (fun p t2 wi => ∃ (q : Nat) (x : Int), q ≤ L ∧ t2 = .int .i64 q ∧ p = .int .i64 x ∧ Hid (Below w.heap.size w wi)) (fun _ t2 _ => L - (intOf t2).toNat)
                          case atStart => exact ⟨0, 0, Nat.zero_le _, rfl, rfl, BN⟩
                          case round =>
                            rename World => wi
                            obtain ⟨q, x, hq, rfl, rfl, BI⟩ := hrel
                            clear BN
                            by_cases hqL : q < L
                            · have hqz : (q : Int) < (L : Int) := by omega
                              have hqz0 : (0 : Int) ≤ (q : Int) := by omega
                              have g3 := keepCell BI.out (HM.out.c3 k (by omega))
                              have g5 := keepCell BI.out (HM.out.c5 k (by omega))
                              rw [HT.out] at g3
                              rw [HL.out, SA.out (by have := h7h.out; omega)] at g5
                              have gq := keepCell BI.out (SQ.out q hqL)
                              have hq255 : q ≤ 255 := by have := h8h.out; omega
                              generalize M.SQ k q = y at gq
                              by_cases d1 : y ≤ x
                              · have d1' : decide (y ≤ x) = true := by simp [d1]
                                clear d1
                                go_wp2_with fail
                                go_quiet (fail)
                                go_wp2
                                go_ret
                                exact PB.no (below_drew BI.out _)
                              · have d1' : decide (y ≤ x) = false := by simp; omega
                                clear d1
                                by_cases d2 : t < y
                                · have d2' : decide (t < y) = true := by simp [d2]
                                  clear d2
                                  go_wp2_with fail
                                  go_quiet (fail)
                                  go_wp2
                                  go_ret
                                  exact PB.no (below_drew BI.out _)
                                · have d2' : decide (t < y) = false := by simp; omega
                                  clear d2
                                  go_wp2_with fail
                                  go_quiet (fail)
                                  go_wp2
                                  go_roundw
                                  case rel => exact ⟨q + 1, _, by omega, by go_num, rfl, hid (below_drew BI.out _)⟩
                                  case measure => simp [intOf]; omega
                            · have HE : L = q := by omega
                              subst HE
                              go_wp2_with fail
                              go_loopw [7] (fun t3 wj => ∃ (q : Nat), q ≤ k ∧ t3 = .int .i64 q ∧ Hid (∀ j, j < q → ¬ M.Same j k) ∧ Hid (Below w.heap.size w wj)) (fun t3 _ => k - (intOf t3).toNat)
                              case atStart => exact ⟨0, Nat.zero_le _, rfl, hid (fun j hj => absurd hj (Nat.not_lt_zero _)), BI⟩
                              case round =>
                                rename World => wj
                                obtain ⟨q, hq, rfl, HD, BJ⟩ := hrel
                                clear BI
                                by_cases hqk : q < k
                                · have hqz : (q : Int) < (k : Int) := by omega
                                  have hqz0 : (0 : Int) ≤ (q : Int) := by omega
                                  have hqN : (q : Int) < (N : Int) := by omega
                                  have C := hid (sameKey_call m.B (m.F + q * 7) (m.F + k * 7) _ _ _ _ _ _ _ _ _ _ wj (keepCell BJ.out (HM.out.c0 q (by omega))) (keepCell BJ.out (HM.out.c1 q (by omega))) (keepCell BJ.out (HM.out.c2 q (by omega))) (keepCell BJ.out (HM.out.c3 q (by omega))) (keepCell BJ.out (HM.out.c4 q (by omega)))
                                    (keepCell BJ.out (HM.out.c0 k (by omega))) (keepCell BJ.out (HM.out.c1 k (by omega))) (keepCell BJ.out (HM.out.c2 k (by omega))) (keepCell BJ.out (HM.out.c3 k (by omega))) (keepCell BJ.out (HM.out.c4 k (by omega))))
                                  go_wp2_with fail
                                  refine C.out.mono ?_
                                  rintro e W ⟨v, rfl, hv, gW⟩
                                  have BW := hid (BJ.out.trans (gW.mono BJ.out.size))
                                  have HV := hid hv
                                  clear gW hv C
                                  cases v
                                  · go_wp2
                                    go_roundw
                                    case rel => exact ⟨q + 1, by omega, by go_num, hid (fun j hj => by by_cases e : j = q; (subst e; exact HV.out (by first | exact rfl | trivial)); exact HD.out j (by omega)), BW⟩
                                    case measure => simp [intOf]; omega
                                  · go_wp2
                                    go_ret
                                    exact PB.no BW.out
                                · have HE2 : k = q := by omega
                                  subst HE2
                                  clear hq hqk h7' h8'
                                  go_wp2
                                  go_roundw
                                  case rel => exact ⟨k + 1, by omega, by go_num, hid (HR.out.step (by rw [HL.out]; have a1 := h7h.out; have a2 := h8h.out; omega) HD.out), BJ⟩
                                  case measure => simp [intOf]; omega
                        · go_wp2_with fail
                          go_quiet (fail)
                          go_wp2_with fail
                          have BN := hid (below_drew BR.out nq)
                          clear BR g2 g3 g4 g5
                          generalize wr.drewN nq = wq at *
                          go_loopw [5, 89] (fun p t2 wi => ∃ (q : Nat) (x : Int), q ≤ L ∧ t2 = .int .i64 q ∧ p = .int .i64 x ∧ Hid (Below w.heap.size w wi)) (fun _ t2 _ => L - (intOf t2).toNat)
                          case atStart => exact ⟨0, 0, Nat.zero_le _, rfl, rfl, BN⟩
                          case round =>
                            rename World => wi
                            obtain ⟨q, x, hq, rfl, rfl, BI⟩ := hrel
                            clear BN
                            by_cases hqL : q < L
                            · have hqz : (q : Int) < (L : Int) := by omega
                              have hqz0 : (0 : Int) ≤ (q : Int) := by omega
                              have g3 := keepCell BI.out (HM.out.c3 k (by omega))
                              have g5 := keepCell BI.out (HM.out.c5 k (by omega))
                              rw [HT.out] at g3
                              rw [HL.out, SA.out (by have := h7h.out; omega)] at g5
                              have gq := keepCell BI.out (SQ.out q hqL)
                              have hq255 : q ≤ 255 := by have := h8h.out; omega
                              generalize M.SQ k q = y at gq
                              by_cases d1 : y ≤ x
                              · have d1' : decide (y ≤ x) = true := by simp [d1]
                                clear d1
                                go_wp2_with fail
                                go_quiet (fail)
                                go_wp2
                                go_ret
                                exact PB.no (below_drew BI.out _)
                              · have d1' : decide (y ≤ x) = false := by simp; omega
                                clear d1
                                by_cases d2 : t < y
                                · have d2' : decide (t < y) = true := by simp [d2]
                                  clear d2
                                  go_wp2_with fail
                                  go_quiet (fail)
                                  go_wp2
                                  go_ret
                                  exact PB.no (below_drew BI.out _)
                                · have d2' : decide (t < y) = false := by simp; omega
                                  clear d2
                                  go_wp2_with fail
                                  go_quiet (fail)
                                  go_wp2
                                  go_roundw
                                  case rel => exact ⟨q + 1, _, by omega, by go_num, rfl, hid (below_drew BI.out _)⟩
                                  case measure => simp [intOf]; omega
                            · have HE : L = q := by omega
                              subst HE
                              go_wp2_with fail
                              go_loopw [7] (fun t3 wj => ∃ (q : Nat), q ≤ k ∧ t3 = .int .i64 q ∧ Hid (∀ j, j < q → ¬ M.Same j k) ∧ Hid (Below w.heap.size w wj)) (fun t3 _ => k - (intOf t3).toNat)
                              case atStart => exact ⟨0, Nat.zero_le _, rfl, hid (fun j hj => absurd hj (Nat.not_lt_zero _)), BI⟩
                              case round =>
                                rename World => wj
                                obtain ⟨q, hq, rfl, HD, BJ⟩ := hrel
                                clear BI
                                by_cases hqk : q < k
                                · have hqz : (q : Int) < (k : Int) := by omega
                                  have hqz0 : (0 : Int) ≤ (q : Int) := by omega
                                  have hqN : (q : Int) < (N : Int) := by omega
                                  have C := hid (sameKey_call m.B (m.F + q * 7) (m.F + k * 7) _ _ _ _ _ _ _ _ _ _ wj (keepCell BJ.out (HM.out.c0 q (by omega))) (keepCell BJ.out (HM.out.c1 q (by omega))) (keepCell BJ.out (HM.out.c2 q (by omega))) (keepCell BJ.out (HM.out.c3 q (by omega))) (keepCell BJ.out (HM.out.c4 q (by omega)))
                                    (keepCell BJ.out (HM.out.c0 k (by omega))) (keepCell BJ.out (HM.out.c1 k (by omega))) (keepCell BJ.out (HM.out.c2 k (by omega))) (keepCell BJ.out (HM.out.c3 k (by omega))) (keepCell BJ.out (HM.out.c4 k (by omega))))
                                  go_wp2_with fail
                                  refine C.out.mono ?_
                                  rintro e W ⟨v, rfl, hv, gW⟩
                                  have BW := hid (BJ.out.trans (gW.mono BJ.out.size))
                                  have HV := hid hv
                                  clear gW hv C
                                  cases v
                                  · go_wp2
                                    go_roundw
                                    case rel => exact ⟨q + 1, by omega, by go_num, hid (fun j hj => by by_cases e : j = q; (subst e; exact HV.out (by first | exact rfl | trivial)); exact HD.out j (by omega)), BW⟩
                                    case measure => simp [intOf]; omega
                                  · go_wp2
                                    go_ret
                                    exact PB.no BW.out
                                · have HE2 : k = q := by omega
                                  subst HE2
                                  clear hq hqk h7' h8'
                                  go_wp2
                                  go_roundw
                                  case rel => exact ⟨k + 1, by omega, by go_num, hid (HR.out.step (by rw [HL.out]; have a1 := h7h.out; have a2 := h8h.out; omega) HD.out), BJ⟩
                                  case measure => simp [intOf]; omega
      · obtain rfl : k = N := by omega
        go_wp2
        go_ret
        exact PB.yes BR.out HR.out
end Go.Proofs.Qxb6613072a
