import Derived.Test.Qxb6613072aJoin
namespace Go.Proofs.Qxb6613072a
open Go.RowKit Go.Maps
set_option linter.unusedVariables false

def JAt (M : Ms) (w : World) (jb k : Nat) : Prop := ∃ mv HB QB, J M w jb mv (fun q => decide (q < k)) HB QB k k

theorem JAt.of {M : Ms} {w : World} {jb k : Nat} {mv : Value} {HB QB : Nat → Nat} (j : J M w jb mv (fun q => decide (q < k)) HB QB k k) : JAt M w jb k := ⟨mv, HB, QB, j⟩

def BPost (M : Ms) (w : World) (e : Ending) (w' : World) : Prop :=
  e = .returned (.pointer (some ⟨w.heap.size, 0, none⟩)) ∧ JAt M w' w.heap.size M.N ∧ Below w.heap.size w w'

theorem JAt.start (M : Ms) (w : World) : JAt M (w.alloc (.cells #[.map none, .int .u64 0, .slice none 0 0, .slice none 0 0, .slice none 0 0] 56)) w.heap.size 0 := by
  refine ⟨.map none, fun _ => 0, fun _ => 0, ⟨?_, ?_, ?_, ?_, Or.inl ⟨rfl, fun i _ => by simp⟩, fun b e => (by cases e), fun i hi h => (by simp at h)⟩⟩
  · exact World.cell?_alloc_at _ _ _ _ rfl
  · exact World.cell?_alloc_at _ _ _ _ rfl
  · exact World.frozen?_alloc_at _ _ _ _ rfl
  · exact World.frozen?_alloc_at _ _ _ _ rfl

set_option maxHeartbeats 2000000 in
theorem build_call (M : Ms) (G : M.Good) (m : Mem) (w : World) (hm : MsgsAt M m w) (hs : ∀ i, i < M.N → 0 < M.SL i) :
    Calls Try.prog 15 #[.slice m.a M.N m.cap] w (BPost M w) := by
  have HM := hid hm
  have HS := hid hs
  have hN := G.N
  have J0 := hid (JAt.start M w)
  have B0 := hid ((Below.refl _ w).alloc (Nat.le_refl _) (.cells #[.map none, .int .u64 0, .slice none 0 0, .slice none 0 0, .slice none 0 0] 56))
  clear hs
  rcases Nat.eq_zero_or_pos M.N with h0 | hpos
  · rw [h0]
    have HN := hid h0
    clear hm h0 hN HM HS
    go_enter Try.func15, Try.ntmps15
    go_wp2_with fail
    refine wp_loop_rounds 1 ?_
    rw [rounds_succ]
    go_wp2
    go_ret
    exact ⟨rfl, by rw [HN.out]; exact J0.out, B0.out⟩
  · rw [hm.addr hpos]
    clear hm
    generalize hNN : M.N = N at *
    have HNN := hid hNN
    clear hNN
    go_enter Try.func15, Try.ntmps15
    go_wp2_with fail
    go_loopw [10] (fun t wr => ∃ (k : Nat), k ≤ N ∧ t = .int .i64 k ∧ Hid (JAt M wr w.heap.size k) ∧ Hid (Below w.heap.size w wr)) (fun t _ => N - (intOf t).toNat)
    case atStart => exact ⟨0, Nat.zero_le _, rfl, J0, B0⟩
    case round =>
      obtain ⟨k, hk, rfl, JR, BR⟩ := hrel
      clear J0 B0
      by_cases hlt : k < N
      · have hkz : (k : Int) < (N : Int) := by omega
        have hkz0 : (0 : Int) ≤ (k : Int) := by omega
        have hkN : k < M.N := by have := HNN.out; omega
        have HM2 := HM.out
        have g0 := keepCell BR.out (HM2.c0 k hkN)
        have g1 := keepCell BR.out (HM2.c1 k hkN)
        have g2 := keepCell BR.out (HM2.c2 k hkN)
        have g3 := keepCell BR.out (HM2.c3 k hkN)
        have g4 := keepCell BR.out (HM2.c4 k hkN)
        have g5 := keepCell BR.out (HM2.c5 k hkN)
        have g6 := keepCell BR.out (HM2.c6 k hkN)
        rw [HM2.sa k hkN (HS.out k (by omega))] at g5
        have bB : m.B < w.heap.size := World.block_lt_of_cell? w _ (HM2.c0 k hkN)
        have bS : m.SB k < w.heap.size := World.block_lt_of_cell? w _ (HM2.sq k hkN 0 (HS.out k (by omega)))
        have C : Hid (∀ W, Below wr.heap.size wr W → Calls Try.prog 25 #[.pointer (some ⟨w.heap.size, 0, none⟩), .string (M.O k), .int .u8 (M.Ty k), .int .i64 (M.Rf k), .int .i64 (M.To k), .int .u8 (M.El k), .slice (some ⟨m.SB k, m.SF k, none⟩) (M.SL k) (m.SC k), .int .i64 (M.La k)] W (HPost M W w.heap.size k)) := by
          refine hid (fun W hW => ?_)
          obtain ⟨mv, HB, QB, j⟩ := JR.out
          exact hold_call M G k hkN W w.heap.size mv HB QB (j.below hW) (m.SB k) (m.SF k) (m.SC k) (HS.out k (by omega)) bS (fun q hq => keepCell hW (keepCell BR.out (HM2.sq k hkN q hq)))
        have BB := hid bB
        clear HM2 bS
        generalize M.O k = o at *
        generalize M.Ty k = ty at *
        generalize M.Rf k = rf at *
        generalize M.To k = tot at *
        generalize M.El k = el at *
        generalize M.La k = la at *
        generalize M.SL k = L at *
        go_wp2_with fail
        go_region_held3 (fun w' => w'.cell? ⟨m.B, m.F + k * 7, none⟩ = some (.string o) ∧ w'.cell? ⟨m.B, m.F + k * 7 + 1, none⟩ = some (.int .u8 ty) ∧ w'.cell? ⟨m.B, m.F + k * 7 + 2, none⟩ = some (.int .i64 rf) ∧ w'.cell? ⟨m.B, m.F + k * 7 + 3, none⟩ = some (.int .i64 tot) ∧ w'.cell? ⟨m.B, m.F + k * 7 + 4, none⟩ = some (.int .u8 el) ∧ w'.cell? ⟨m.B, m.F + k * 7 + 5, none⟩ = some (.slice (some ⟨m.SB k, m.SF k, none⟩) L (m.SC k)) ∧ w'.cell? ⟨m.B, m.F + k * 7 + 6, none⟩ = some (.int .i64 la)) (go_keep)
          (first | (go_at_call 25; refine (C.out _ (by first | exact Below.refl _ _ | exact (Below.refl _ _).drew)).mono ?_; rintro e W1 ⟨rfl, mv', HB', QB', hj, hW1⟩; have q0 := (hW1.cell (p := ⟨m.B, m.F + k * 7, none⟩) BB.out).trans g0; have q1 := (hW1.cell (p := ⟨m.B, m.F + k * 7 + 1, none⟩) BB.out).trans g1; have q2 := (hW1.cell (p := ⟨m.B, m.F + k * 7 + 2, none⟩) BB.out).trans g2; have q3 := (hW1.cell (p := ⟨m.B, m.F + k * 7 + 3, none⟩) BB.out).trans g3; have q4 := (hW1.cell (p := ⟨m.B, m.F + k * 7 + 4, none⟩) BB.out).trans g4; have q5 := (hW1.cell (p := ⟨m.B, m.F + k * 7 + 5, none⟩) BB.out).trans g5; have q6 := (hW1.cell (p := ⟨m.B, m.F + k * 7 + 6, none⟩) BB.out).trans g6; have BN : Hid (Below w.heap.size w W1) := hid (by first | exact BR.out.trans hW1 | exact BR.out.trans ((Below.refl _ _).drew.trans hW1)); have JN := hid (JAt.of hj)))
        all_goals go_wp2
        all_goals go_roundw
        case rel => exact ⟨k + 1, by omega, by go_num, hid (by first | exact JN.out | (obtain ⟨mv, HB, QB, j⟩ := JN.out; exact ⟨mv, HB, QB, j.below (Below.refl _ _).drew⟩)), hid (by first | exact BN.out | exact BN.out.drew)⟩
        case measure => simp [intOf]; omega
      · obtain rfl : k = N := by omega
        go_wp2
        go_ret
        exact ⟨rfl, by rw [HNN.out]; exact JR.out, BR.out⟩
end Go.Proofs.Qxb6613072a
