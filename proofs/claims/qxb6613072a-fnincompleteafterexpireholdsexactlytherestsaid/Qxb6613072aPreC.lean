import Derived.Test.Qxb6613072aPreB
namespace Go.Proofs.Qxb6613072a
open Go.RowKit Go.Maps
set_option linter.unusedVariables false

set_option maxHeartbeats 2000000 in
theorem zzBytes_call (M : Ms) (m : Mem) (w : World) (hl : M.N ≤ maxLen) (hm : MsgsAt M m w) :
    Calls Try.prog 20 #[.slice m.a M.N m.cap] w (PB w True) := by
  have HM := hid hm
  unfold maxLen at hl
  rcases Nat.eq_zero_or_pos M.N with h0 | hpos
  · rw [h0]
    clear hm h0 hl HM
    go_enter Try.func20, Try.ntmps20
    go_wp2_with fail
    refine wp_loop_rounds 1 ?_
    rw [rounds_succ]
    go_wp2
    go_ret
    exact PB.yes (Below.refl _ _) trivial
  · rw [hm.addr hpos]
    clear hm
    generalize hN : M.N = N at *
    by_cases h4 : (N : Int) > 1048576
    · go_enter Try.func20, Try.ntmps20
      go_wp2
      go_ret
      exact PB.no (Below.refl _ _)
    · go_enter Try.func20, Try.ntmps20
      go_wp2_with fail
      go_loopw [3, 4] (fun tt t wr => ∃ (k : Nat) (T : Int), k ≤ N ∧ t = .int .i64 k ∧ tt = .int .i64 T ∧ Hid (0 ≤ T ∧ T ≤ 1048576) ∧ Hid (Below w.heap.size w wr)) (fun _ t _ => N - (intOf t).toNat)
      case atStart => exact ⟨0, N, Nat.zero_le _, rfl, rfl, hid (by omega), hid (Below.refl _ _)⟩
      case round =>
        obtain ⟨k, T, hk, rfl, rfl, HT, BR⟩ := hrel
        by_cases hlt : k < N
        · have hkz : (k : Int) < (N : Int) := by omega
          have hkz0 : (0 : Int) ≤ (k : Int) := by omega
          have g0 := keepCell BR.out (HM.out.c0 k (by omega))
          have g5 := keepCell BR.out (HM.out.c5 k (by omega))
          generalize hs : M.O k = s at g0
          generalize hL : M.SL k = L at g5
          clear hs hL
          have hTT := HT.out
          by_cases h1 : (s.size : Int) > 1048576
          · go_wp2
            go_ret
            exact PB.no BR.out
          · by_cases h2 : T + (s.size : Int) > 1048576
            · go_wp2
              go_ret
              exact PB.no BR.out
            · by_cases h3 : (L : Int) > 1048576
              · go_wp2
                go_ret
                exact PB.no BR.out
              · by_cases h5 : T + (s.size : Int) + L > 1048576
                · go_wp2
                  go_ret
                  exact PB.no BR.out
                · go_wp2
                  go_roundw
                  case rel => exact ⟨k + 1, _, by omega, by go_num, rfl, hid (by omega), hid BR.out⟩
                  case measure => simp [intOf]; omega
        · obtain rfl : k = N := by omega
          go_wp2
          go_ret
          exact PB.yes BR.out trivial

set_option maxHeartbeats 2000000 in
theorem zzBytes2_call (M : Ms) (m : Mem) (bf : Int) (w : World) (hl : M.N ≤ maxLen) (hm : MsgsAt M m w) :
    Calls Try.prog 22 #[.slice m.a M.N m.cap, .int .i64 bf] w (PB w True) := by
  have HM := hid hm
  unfold maxLen at hl
  rcases Nat.eq_zero_or_pos M.N with h0 | hpos
  · rw [h0]
    clear hm h0 hl HM
    go_enter Try.func22, Try.ntmps22
    go_wp2_with fail
    refine wp_loop_rounds 1 ?_
    rw [rounds_succ]
    go_wp2
    go_ret
    exact PB.yes (Below.refl _ _) trivial
  · rw [hm.addr hpos]
    clear hm
    generalize hN : M.N = N at *
    by_cases h4 : (N : Int) > 1048576
    · go_enter Try.func22, Try.ntmps22
      go_wp2
      go_ret
      exact PB.no (Below.refl _ _)
    · go_enter Try.func22, Try.ntmps22
      go_wp2_with fail
      go_loopw [5, 6] (fun tt t wr => ∃ (k : Nat) (T : Int), k ≤ N ∧ t = .int .i64 k ∧ tt = .int .i64 T ∧ Hid (0 ≤ T ∧ T ≤ 1048576) ∧ Hid (Below w.heap.size w wr)) (fun _ t _ => N - (intOf t).toNat)
      case atStart => exact ⟨0, N, Nat.zero_le _, rfl, rfl, hid (by omega), hid (Below.refl _ _)⟩
      case round =>
        obtain ⟨k, T, hk, rfl, rfl, HT, BR⟩ := hrel
        by_cases hlt : k < N
        · have hkz : (k : Int) < (N : Int) := by omega
          have hkz0 : (0 : Int) ≤ (k : Int) := by omega
          have g0 := keepCell BR.out (HM.out.c0 k (by omega))
          have g5 := keepCell BR.out (HM.out.c5 k (by omega))
          generalize hs : M.O k = s at g0
          generalize hL : M.SL k = L at g5
          clear hs hL
          have hTT := HT.out
          by_cases h1 : (s.size : Int) > 1048576
          · go_wp2
            go_ret
            exact PB.no BR.out
          · by_cases h2 : T + (s.size : Int) > 1048576
            · go_wp2
              go_ret
              exact PB.no BR.out
            · by_cases h3 : (L : Int) > 1048576
              · go_wp2
                go_ret
                exact PB.no BR.out
              · by_cases h5 : T + (s.size : Int) + L > 1048576
                · go_wp2
                  go_ret
                  exact PB.no BR.out
                · go_wp2
                  go_roundw
                  case rel => exact ⟨k + 1, _, by omega, by go_num, rfl, hid (by omega), hid BR.out⟩
                  case measure => simp [intOf]; omega
        · obtain rfl : k = N := by omega
          go_wp2
          go_ret
          exact PB.yes BR.out trivial
end Go.Proofs.Qxb6613072a
