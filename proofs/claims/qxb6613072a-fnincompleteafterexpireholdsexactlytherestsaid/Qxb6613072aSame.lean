import Derived.Test.Qxb6613072aInc
namespace Go.Proofs.Qxb6613072a
open Go.RowKit Go.Maps
set_option linter.unusedVariables false

theorem true_call (p : Value) (w : World) : Calls Try.prog 30 #[p] w fun e w' => e = .returned (.bool true) ∧ Below w.heap.size w w' := by
  go_enter Try.func30, Try.ntmps30
  go_wp2
  go_ret
  exact ⟨rfl, Below.refl _ _⟩

theorem which_all (M : Ms) (w : World) (S : Nat → Bool) (HB : Nat → Nat) : Which M w S (fun _ => true) HB 30 #[] := fun W i _ _ _ => true_call _ W

theorem all_call (M : Ms) (G : M.Good) (w : World) (jb cc nn : Nat) (mv : Value) (S : Nat → Bool) (HB QB : Nat → Nat) (hJ : J M w jb mv S HB QB cc nn) :
    Calls Try.prog 21 #[.pointer (some ⟨jb, 0, none⟩)] w (IPost M w (M.sel S)) := by
  have hc := incomplete_call M G w jb cc nn mv S (fun _ => true) HB QB 30 #[] hJ (which_all M w S HB) (enters_of Try.func30 (by kernel_rfl) rfl)
  have e : (fun i => S i && true) = S := by funext i; simp
  rw [e] at hc
  have C := hid hc
  clear hc e hJ
  go_enter Try.func21, Try.ntmps21
  go_wp2_with fail
  refine C.out.mono ?_
  rintro e W1 ⟨lb, rfl, h⟩
  have H := hid h
  clear h
  go_wp2
  go_ret
  exact ⟨lb, rfl, H.out⟩

set_option maxRecDepth 20000 in
set_option maxHeartbeats 4000000 in
theorem sameMessage_call (M : Ms) (G : M.Good) (m : Mem) (w : World) (lb a i hb : Nat) (hi : i < M.N) (hs : 0 < M.SL i) (hm : MsgsAt M m w) (hc : Inc M w lb a i hb) :
    Calls Try.prog 17 #[.pointer (some ⟨lb, a * 9, none⟩), .pointer (some ⟨m.B, m.F + i * 7, none⟩)] w fun e w' => e = .returned (.bool true) ∧ Below w.heap.size w w' := by
  have g0 := hm.c0 i hi
  have g1 := hm.c1 i hi
  have g2 := hm.c2 i hi
  have g3 := hm.c3 i hi
  have g4 := hm.c4 i hi
  have g5 := hm.c5 i hi
  have g6 := hm.c6 i hi
  rw [hm.sa i hi hs] at g5
  obtain ⟨r0, r1, r2, r3, r4, r5, r6, r7, r8, rq⟩ := hc
  have SQ := hid (hm.sq i hi)
  have RQ := hid rq
  have hL := G.sl i hi
  have LN := hid (latestNs_call (M.La i) (G.la i hi).1 (G.la i hi).2)
  have L1 : lb < w.heap.size := World.block_lt_of_cell? w _ r0
  have L2 : m.B < w.heap.size := World.block_lt_of_cell? w _ g0
  clear rq hm
  generalize M.O i = o at *
  generalize M.Ty i = ty at *
  generalize M.Rf i = rf at *
  generalize M.To i = tot at *
  generalize M.El i = el at *
  generalize M.SL i = L at *
  generalize M.SQ i = sq at *
  generalize ns (M.La i) = la0 at *
  generalize es (M.La i) = la1 at *
  generalize M.La i = la at *
  go_enter Try.func17, Try.ntmps17
  go_wp2_with fail
  go_quiet (fail)
  go_wp2_with fail
  go_quiet (fail)
  go_wp2_with fail
  go_loopw [77] (fun t wr => ∃ q : Nat, q ≤ L ∧ t = .int .i64 q ∧ Hid (Below w.heap.size w wr)) (fun t _ => L - (intOf t).toNat)
  case atStart => exact ⟨0, Nat.zero_le _, rfl, hid (below_drew (Below.refl _ _) _)⟩
  case round =>
    obtain ⟨q, hq, rfl, BR⟩ := hrel
    have g5' := keepCell BR.out g5
    have r5' := keepCell BR.out r5
    by_cases hql : q < L
    · have hqz : (q : Int) < (L : Int) := by omega
      have hqz0 : (0 : Int) ≤ (q : Int) := by omega
      have s1 := keepCell BR.out (SQ.out q hql)
      have s2 := keepCell BR.out (RQ.out q hql)
      generalize sq q = x at s1 s2
      clear g0 g1 g2 g3 g4 g5 g6 r0 r1 r2 r3 r4 r5 r6 r7 r8
      go_wp2_with fail
      go_quiet (fail)
      go_wp2
      go_roundw
      case rel => exact ⟨q + 1, by omega, by go_num, hid (below_drew BR.out _)⟩
      case measure => simp [intOf]; omega
    · have HEQ : L = q := by omega
      subst HEQ
      have k0 := keepCell BR.out r0
      have k1 := keepCell BR.out r1
      have k2 := keepCell BR.out r2
      have k3 := keepCell BR.out r3
      have k4 := keepCell BR.out r4
      have k6 := keepCell BR.out r6
      have k7 := keepCell BR.out r7
      have k8 := keepCell BR.out r8
      have k9 := keepCell BR.out g6
      have z1 : lb < wr.heap.size := Nat.lt_of_lt_of_le L1 BR.out.size
      have z2 : m.B < wr.heap.size := Nat.lt_of_lt_of_le L2 BR.out.size
      clear g0 g1 g2 g3 g4 g5 g6 r0 r1 r2 r3 r4 r5 r6 r7 r8 g5' L1 L2
      go_wp2_with fail
      go_region_held3 (fun w' => w'.cell? ⟨lb, a * 9, none⟩ = some (.int .u8 ty) ∧ w'.cell? ⟨lb, a * 9 + 1, none⟩ = some (.string o) ∧ w'.cell? ⟨lb, a * 9 + 2, none⟩ = some (.int .u8 el) ∧ w'.cell? ⟨lb, a * 9 + 3, none⟩ = some (.int .i64 rf) ∧ w'.cell? ⟨lb, a * 9 + 4, none⟩ = some (.int .i64 tot) ∧ w'.cell? ⟨lb, a * 9 + 5, none⟩ = some (.slice (some ⟨hb, 0, none⟩) L L) ∧ w'.cell? ⟨lb, a * 9 + 6, none⟩ = some (.int .u64 la0) ∧ w'.cell? ⟨lb, a * 9 + 7, none⟩ = some (.int .i64 la1) ∧ w'.cell? ⟨lb, a * 9 + 8, none⟩ = some (.pointer none) ∧ w'.cell? ⟨m.B, m.F + i * 7 + 6, none⟩ = some (.int .i64 la)) (go_keep)
        (first | (go_at_call 28; refine (LN.out _ _ _ _ _ _ _).mono ?_; rintro e W1 ⟨rfl, hW1⟩; have q0 := keepCell hW1 k0; have q1 := keepCell hW1 k1; have q2 := keepCell hW1 k2; have q3 := keepCell hW1 k3; have q4 := keepCell hW1 k4; have q5 := keepCell hW1 r5'; have q6 := keepCell hW1 k6; have q7 := keepCell hW1 k7; have q8 := keepCell hW1 k8; have q9 := keepCell hW1 k9; have BN : Hid (Below w.heap.size w W1) := hid (by first | exact BR.out.trans (hW1.mono BR.out.size) | exact BR.out.drew.trans (hW1.mono BR.out.size)); clear hW1))
      all_goals go_wp2
      all_goals go_ret
      all_goals exact ⟨rfl, by first | exact BN.out | exact BN.out.drew⟩

theorem Inc.below {M : Ms} {w w' : World} {lb a i hb : Nat} (h : Inc M w lb a i hb) (b : Below w.heap.size w w') : Inc M w' lb a i hb :=
  ⟨keepCell b h.r0, keepCell b h.r1, keepCell b h.r2, keepCell b h.r3, keepCell b h.r4, keepCell b h.r5, keepCell b h.r6, keepCell b h.r7, keepCell b h.r8, fun q hq => keepCell b (h.sq q hq)⟩

end Go.Proofs.Qxb6613072a
