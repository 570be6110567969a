import Derived.Test.Qxb6613072aPre
namespace Go.Proofs.Qxb6613072a
open Go.RowKit Go.Maps
set_option linter.unusedVariables false

/-- It answers a bool; where that is true, C holds; nothing that was there is written. -/
def PB (w : World) (C : Prop) (x : Ending) (w' : World) : Prop := ∃ v, x = .returned (.bool v) ∧ (v = true → C) ∧ Below w.heap.size w w'
theorem PB.no {w : World} {C : Prop} {w' : World} (h : Below w.heap.size w w') : PB w C (.returned (.bool false)) w' := ⟨false, rfl, fun e => (by cases e), h⟩
theorem PB.yes {w : World} {C : Prop} {w' : World} (h : Below w.heap.size w w') (c : C) : PB w C (.returned (.bool true)) w' := ⟨true, rfl, fun _ => c, h⟩

set_option maxHeartbeats 2000000 in
theorem heldFits_call (M : Ms) (m : Mem) (w : World) (hl : M.N ≤ maxLen) (hm : MsgsAt M m w) :
    Calls Try.prog 13 #[.slice m.a M.N m.cap] w (PB w (M.N ≤ 4096)) := by
  have HM := hid hm
  unfold maxLen at hl
  rcases Nat.eq_zero_or_pos M.N with h0 | hpos
  · rw [h0]
    clear hm h0 hl HM
    go_enter Try.func13, Try.ntmps13
    go_wp2_with fail
    refine wp_loop_rounds 1 ?_
    rw [rounds_succ]
    go_wp2
    go_ret
    exact PB.yes (Below.refl _ _) (by omega)
  · rw [hm.addr hpos]
    clear hm
    generalize hN : M.N = N at *
    by_cases h4 : (N : Int) > 4096
    · go_enter Try.func13, Try.ntmps13
      go_wp2
      go_ret
      exact PB.no (Below.refl _ _)
    · go_enter Try.func13, Try.ntmps13
      go_wp2_with fail
      go_loopw [3, 10] (fun tt t wr => ∃ (k : Nat) (T : Int), k ≤ N ∧ t = .int .i64 k ∧ tt = .int .i64 T ∧ Hid (0 ≤ T ∧ T ≤ 1048576) ∧ Hid (Below w.heap.size w wr)) (fun _ t _ => N - (intOf t).toNat)
      case atStart => exact ⟨0, 0, Nat.zero_le _, rfl, rfl, hid (by decide), hid (Below.refl _ _)⟩
      case round =>
        obtain ⟨k, T, hk, rfl, rfl, HT, BR⟩ := hrel
        by_cases hlt : k < N
        · have hkz : (k : Int) < (N : Int) := by omega
          have hkz0 : (0 : Int) ≤ (k : Int) := by omega
          have g0 := keepCell BR.out (HM.out.c0 k (by omega))
          have g5 := keepCell BR.out (HM.out.c5 k (by omega))
          generalize hs : M.O k = s at g0
          generalize hL : M.SL k = L at g5
          clear hs hL
          have hTT := HT.out
          by_cases h1 : (s.size : Int) > 1048576
          · go_wp2
            go_ret
            exact PB.no BR.out
          · by_cases h2 : (L : Int) > 131072
            · go_wp2
              go_ret
              exact PB.no BR.out
            · by_cases h3 : 1048576 < T + (64 + ↑s.size + 8 * ↑L)
              · go_wp2_with fail
                go_quiet (fail)
                go_wp2
                go_ret
                exact PB.no (below_drew BR.out _)
              · go_wp2_with fail
                go_quiet (fail)
                go_wp2
                go_roundw
                case rel => exact ⟨k + 1, _, by omega, by go_num, rfl, hid (by omega), hid (below_drew BR.out _)⟩
                case measure => simp [intOf]; omega
        · obtain rfl : k = N := by omega
          go_wp2
          go_ret
          exact PB.yes BR.out (by omega)
end Go.Proofs.Qxb6613072a
