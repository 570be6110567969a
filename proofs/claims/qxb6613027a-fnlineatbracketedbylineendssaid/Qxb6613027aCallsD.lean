import Derived.Test.Qxb6613027aCallsC
import Derived.OwnWalk
namespace Go.Proofs.Qxb6613027a
open Go.RowKit
set_option linter.unusedVariables false

/-- The first k lines lie in the row, five cells each. -/
def Fill (xs : List Value) (S F T P A : Nat → Int) (k : Nat) : Prop :=
  ∀ i, i < k → xs[i * 5]? = some (.int .i64 (S i)) ∧ xs[i * 5 + 1]? = some (.int .i64 (F i)) ∧ xs[i * 5 + 2]? = some (.int .i64 (T i)) ∧ xs[i * 5 + 3]? = some (.int .i64 (P i)) ∧ xs[i * 5 + 4]? = some (.int .i64 (A i))

theorem Fill.step {xs : List Value} {S F T P A : Nat → Int} {k n : Nat} (h : Fill xs S F T P A k) (hl : xs.length = n * 5) (hk : k < n) :
    Fill (((((xs.set (k * 5) (.int .i64 (S k))).set (k * 5 + 1) (.int .i64 (F k))).set (k * 5 + 2) (.int .i64 (T k))).set (k * 5 + 3) (.int .i64 (P k))).set (k * 5 + 4) (.int .i64 (A k))) S F T P A (k + 1) := by
  intro i hi
  by_cases e : i = k
  · subst e
    have h0 : i * 5 < xs.length := by omega
    have h1 : i * 5 + 1 < xs.length := by omega
    have h2 : i * 5 + 2 < xs.length := by omega
    have h3 : i * 5 + 3 < xs.length := by omega
    have h4 : i * 5 + 4 < xs.length := by omega
    simp [h0, h1, h2, h3, h4]
  · have hh := h i (by omega)
    refine ⟨?_, ?_, ?_, ?_, ?_⟩
    · simp only [List.getElem?_set]; rw [if_neg (by omega), if_neg (by omega), if_neg (by omega), if_neg (by omega), if_neg (by omega)]; exact hh.1
    · simp only [List.getElem?_set]; rw [if_neg (by omega), if_neg (by omega), if_neg (by omega), if_neg (by omega), if_neg (by omega)]; exact hh.2.1
    · simp only [List.getElem?_set]; rw [if_neg (by omega), if_neg (by omega), if_neg (by omega), if_neg (by omega), if_neg (by omega)]; exact hh.2.2.1
    · simp only [List.getElem?_set]; rw [if_neg (by omega), if_neg (by omega), if_neg (by omega), if_neg (by omega), if_neg (by omega)]; exact hh.2.2.2.1
    · simp only [List.getElem?_set]; rw [if_neg (by omega), if_neg (by omega), if_neg (by omega), if_neg (by omega), if_neg (by omega)]; exact hh.2.2.2.2

theorem Try.info32 : (Try.prog.info? 32).map (fun i => (i.zero, i.size, i.bytes)) = some (some (.agg #[.int .i64 0, .int .i64 0, .int .i64 0, .int .i64 0, .int .i64 0]), 5, 40) := by kernel_rfl

set_option maxHeartbeats 1000000 in
theorem newDef_call (n : Nat) (hn : n ≤ 16384) (S F T P A : Nat → Int) (b0 b1 b2 b3 b4 c0 c1 c2 c3 c4 : Nat) (w : World)
    (k0 : b0 < w.heap.size) (k1 : b1 < w.heap.size) (k2 : b2 < w.heap.size) (k3 : b3 < w.heap.size) (k4 : b4 < w.heap.size)
    (h0 : ∀ i, i < n → w.cell? ⟨b0, i, none⟩ = some (.int .i64 (S i)))
    (h1 : ∀ i, i < n → w.cell? ⟨b1, i, none⟩ = some (.int .i64 (F i)))
    (h2 : ∀ i, i < n → w.cell? ⟨b2, i, none⟩ = some (.int .i64 (T i)))
    (h3 : ∀ i, i < n → w.cell? ⟨b3, i, none⟩ = some (.int .i64 (P i)))
    (h4 : ∀ i, i < n → w.cell? ⟨b4, i, none⟩ = some (.int .i64 (A i))) :
    Calls Try.prog 8 #[.slice (some ⟨b0, 0, none⟩) n c0, .slice (some ⟨b1, 0, none⟩) n c1, .slice (some ⟨b2, 0, none⟩) n c2, .slice (some ⟨b3, 0, none⟩) n c3, .slice (some ⟨b4, 0, none⟩) n c4] w
      fun e w' => ∃ d xs, e = .returned (.pointer (some ⟨d, 0, none⟩)) ∧ Below w.heap.size w w' ∧ w.heap.size < d ∧ d < w'.heap.size ∧
        w'.cell? ⟨d, 1, none⟩ = some (.slice (some ⟨w.heap.size, 0, none⟩) n n) ∧
        Hid (Fill xs S F T P A n) ∧ ∀ j, j < n * 5 → w'.cell? ⟨w.heap.size, j, none⟩ = xs[j]? := by
  obtain ⟨i0, hi, hz0, hz1, hz2⟩ := info_parts Try.info32
  have H0 := hid h0
  have H1 := hid h1
  have H2 := hid h2
  have H3 := hid h3
  have H4 := hid h4
  clear h0 h1 h2 h3 h4
  go_enter Try.func8, Try.ntmps8
  go_wp2_with (refine wpList_make_full _ rfl _ _ 30 rfl w.heap.size 32 i0 _ 5 Try.underlying30 hi hz0 hz1 .i64 .i64 _ _ n rfl rfl rfl rfl (by rw [hz2]; omega) (by unfold maxLen; omega) (Nat.le_refl _) ?_; intro w1 hown hgrow)
  generalize (madeCells (Value.agg #[.int .i64 0, .int .i64 0, .int .i64 0, .int .i64 0, .int .i64 0]).cells (n * 5)).toList = xs0 at hown
  have hb1 : Below w.heap.size w w1 := (Below.refl _ _).grown hgrow (Nat.le_refl _) (by intro k hk; cases hk)
  have hs1 := (hown.lt w.heap.size rfl).2
  have OW := hid hown
  have HB := hid hb1
  have HS := hid hs1
  clear hown hgrow hb1 hs1
  go_loopw [18] (fun t wr => ∃ (k : Nat) (xs : List Value), k ≤ n ∧ t = .int .i64 k ∧ Hid (wr.ownsRow w.heap.size 32 5 (.slice (some ⟨w.heap.size, 0, none⟩) n n) n xs) ∧ Hid (Below w.heap.size w wr) ∧ Hid (w.heap.size < wr.heap.size) ∧ Hid (Fill xs S F T P A k)) (fun t _ => n - (intOf t).toNat)
  case atStart => exact ⟨0, xs0, Nat.zero_le _, rfl, OW, HB, HS, hid (fun i hi => absurd hi (Nat.not_lt_zero _))⟩
  case round =>
    obtain ⟨k, xs, hk, rfl, OR, BR, SR, FR⟩ := hrel
    clear OW HB HS
    by_cases hlt : k < n
    · have hkz : (k : Int) < (n : Int) := by omega
      have hkz0 : (0 : Int) ≤ (k : Int) := by omega
      have hlen : xs.length = n * 5 := OR.out.1
      have g0 := (BR.out.cell (p := ⟨b0, k, none⟩) k0).trans (H0.out k hlt)
      have g1 := (BR.out.cell (p := ⟨b1, k, none⟩) k1).trans (H1.out k hlt)
      have g2 := (BR.out.cell (p := ⟨b2, k, none⟩) k2).trans (H2.out k hlt)
      have g3 := (BR.out.cell (p := ⟨b3, k, none⟩) k3).trans (H3.out k hlt)
      have g4 := (BR.out.cell (p := ⟨b4, k, none⟩) k4).trans (H4.out k hlt)
      have st := FR.out.step hlen hlt
      have n0 := OR.out.cellAt (k * 5) (by omega)
      have n1 := OR.out.cellAt (k * 5 + 1) (by omega)
      have n2 := OR.out.cellAt (k * 5 + 2) (by omega)
      have n3 := OR.out.cellAt (k * 5 + 3) (by omega)
      have n4 := OR.out.cellAt (k * 5 + 4) (by omega)
      rw [List.getElem?_eq_getElem (by omega)] at n0 n1 n2 n3 n4
      have f0 := OR.out.frozenAt (k * 5)
      have f1 := OR.out.frozenAt (k * 5 + 1)
      have f2 := OR.out.frozenAt (k * 5 + 2)
      have f3 := OR.out.frozenAt (k * 5 + 3)
      have f4 := OR.out.frozenAt (k * 5 + 4)
      generalize xs[k * 5] = y0 at n0
      generalize xs[k * 5 + 1] = y1 at n1
      generalize xs[k * 5 + 2] = y2 at n2
      generalize xs[k * 5 + 3] = y3 at n3
      generalize xs[k * 5 + 4] = y4 at n4
      generalize S k = s at g0 st
      generalize F k = f at g1 st
      generalize T k = t at g2 st
      generalize P k = p at g3 st
      generalize A k = a at g4 st
      have ST := hid st
      clear st
      have s0 := SR.out
      have ne0 : w.heap.size ≠ b0 := by omega
      have ne1 : w.heap.size ≠ b1 := by omega
      have ne2 : w.heap.size ≠ b2 := by omega
      have ne3 : w.heap.size ≠ b3 := by omega
      have ne4 : w.heap.size ≠ b4 := by omega
      have OR5 := ((((OR.out.stored (k * 5) (.int .i64 s)).1.stored (k * 5 + 1) (.int .i64 f)).1.stored (k * 5 + 2) (.int .i64 t)).1.stored (k * 5 + 3) (.int .i64 p)).1.stored (k * 5 + 4) (.int .i64 a)
      have O5 := hid OR5.1
      have B5 := hid (((((BR.out.setCell (p := ⟨w.heap.size, k * 5, none⟩) (Nat.le_refl _) (.int .i64 s)).setCell (p := ⟨w.heap.size, k * 5 + 1, none⟩) (Nat.le_refl _) (.int .i64 f)).setCell (p := ⟨w.heap.size, k * 5 + 2, none⟩) (Nat.le_refl _) (.int .i64 t)).setCell (p := ⟨w.heap.size, k * 5 + 3, none⟩) (Nat.le_refl _) (.int .i64 p)).setCell (p := ⟨w.heap.size, k * 5 + 4, none⟩) (Nat.le_refl _) (.int .i64 a))
      clear OR5
      go_wp2_with fail
      go_region_held3 (fun w' => w'.cell? ⟨b0, k, none⟩ = some (.int .i64 s) ∧ w'.cell? ⟨b1, k, none⟩ = some (.int .i64 f) ∧ w'.cell? ⟨b2, k, none⟩ = some (.int .i64 t) ∧ w'.cell? ⟨b3, k, none⟩ = some (.int .i64 p) ∧ w'.cell? ⟨b4, k, none⟩ = some (.int .i64 a)) (go_keep) (fail)
      all_goals go_wp2
      all_goals go_roundw
      case rel => exact ⟨k + 1, _, by omega, by go_num, hid O5.out.drew, hid B5.out.drew, hid (by simpa [World.setCell] using s0), ST⟩
      case measure => simp [intOf]; omega
    · obtain rfl : k = n := by omega
      go_wp2
      go_ret
      refine ⟨wr.heap.size, xs, rfl, BR.out.alloc (Nat.le_of_lt SR.out) _, SR.out, by simp, ?_, FR, fun j hj => ?_⟩
      · rw [World.cell?_alloc_at _ _ _ _ (by simp)]; rfl
      · rw [← OR.out.cellAt j hj]
        exact Below.cell (B := wr.heap.size) ((Below.refl _ _).alloc (Nat.le_refl _) _) (p := ⟨w.heap.size, j, none⟩) SR.out

end Go.Proofs.Qxb6613027a
