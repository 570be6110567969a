import Derived.Test.Qxb6613027aCallsB
import Derived.Deep.RegionHeld3
import Derived.Deep.DrawnRows
namespace Go.Proofs.Qxb6613027a
open Go.RowKit
set_option linter.unusedVariables false

theorem end_call (s f t p a : Int) (w : World) (hf : -268435456 ≤ f ∧ f ≤ 268435456) (ht : -268435456 ≤ t ∧ t ≤ 268435456) (ha : -268435456 ≤ a ∧ a ≤ 268435456) :
    Calls Try.prog 14 #[.agg #[.int .i64 s, .int .i64 f, .int .i64 t, .int .i64 p, .int .i64 a]] w fun e w' => e = .returned (.int .i64 (a + t - f)) ∧ w' = w.alloc (.cells #[.int .i64 s, .int .i64 f, .int .i64 t, .int .i64 p, .int .i64 a] 32) := by
  go_enter Try.func14, Try.ntmps14
  go_wp2
  go_ret
  exact ⟨rfl, rfl⟩

theorem lineEnd_call (i n c : Nat) (hi : i < n) (hn : n ≤ 16384) (d g : Nat) (s f t p a : Int) (w : World) (hf : -268435456 ≤ f ∧ f ≤ 268435456) (ht : -268435456 ≤ t ∧ t ≤ 268435456) (ha : -268435456 ≤ a ∧ a ≤ 268435456)
    (hd : w.cell? ⟨d, 1, none⟩ = some (.slice (some ⟨g, 0, none⟩) n c))
    (q0 : w.cell? ⟨g, i * 5, none⟩ = some (.int .i64 s))
    (q1 : w.cell? ⟨g, i * 5 + 1, none⟩ = some (.int .i64 f))
    (q2 : w.cell? ⟨g, i * 5 + 2, none⟩ = some (.int .i64 t))
    (q3 : w.cell? ⟨g, i * 5 + 3, none⟩ = some (.int .i64 p))
    (q4 : w.cell? ⟨g, i * 5 + 4, none⟩ = some (.int .i64 a)) :
    Calls Try.prog 10 #[.pointer (some ⟨d, 0, none⟩), .int .i64 i] w fun e w' => e = .returned (.int .i64 (a + t - f)) ∧ w' = w.alloc (.cells #[.int .i64 s, .int .i64 f, .int .i64 t, .int .i64 p, .int .i64 a] 32) := by
  have hiz : (i : Int) < (n : Int) := by omega
  go_enter Try.func10, Try.ntmps10
  go_wp2_with fail
  refine (end_call s f t p a _ hf ht ha).mono ?_
  rintro e w' ⟨rfl, rfl⟩
  go_wp2
  go_ret
  exact ⟨rfl, rfl⟩

set_option maxHeartbeats 1000000 in
theorem closure_call (i n c : Nat) (hi : i < n) (hn : n ≤ 16384) (bd bx d g : Nat) (x s f t p a : Int) (w : World) (hf : -268435456 ≤ f ∧ f ≤ 268435456) (ht : -268435456 ≤ t ∧ t ≤ 268435456) (ha : -268435456 ≤ a ∧ a ≤ 268435456)
    (kd : w.cell? ⟨bd, 0, none⟩ = some (.pointer (some ⟨d, 0, none⟩)))
    (kx : w.cell? ⟨bx, 0, none⟩ = some (.int .i64 x))
    (hd : w.cell? ⟨d, 1, none⟩ = some (.slice (some ⟨g, 0, none⟩) n c))
    (q0 : w.cell? ⟨g, i * 5, none⟩ = some (.int .i64 s))
    (q1 : w.cell? ⟨g, i * 5 + 1, none⟩ = some (.int .i64 f))
    (q2 : w.cell? ⟨g, i * 5 + 2, none⟩ = some (.int .i64 t))
    (q3 : w.cell? ⟨g, i * 5 + 3, none⟩ = some (.int .i64 p))
    (q4 : w.cell? ⟨g, i * 5 + 4, none⟩ = some (.int .i64 a)) :
    Calls Try.prog 16 #[.int .i64 i, .pointer (some ⟨bd, 0, none⟩), .pointer (some ⟨bx, 0, none⟩)] w fun e w' => e = .returned (.bool (decide (x < a + t - f))) ∧ w' = (w.alloc (.cells #[.int .i64 s, .int .i64 f, .int .i64 t, .int .i64 p, .int .i64 a] 32)).drew := by
  have hiz : (i : Int) < (n : Int) := by omega
  have hiz0 : (0 : Int) ≤ (i : Int) := by omega
  go_enter Try.func16, Try.ntmps16
  go_wp2_with fail
  go_region_held3 (fun w' => w'.cell? ⟨bd, 0, none⟩ = some (.pointer (some ⟨d, 0, none⟩)) ∧ w'.cell? ⟨bx, 0, none⟩ = some (.int .i64 x) ∧ w'.cell? ⟨d, 1, none⟩ = some (.slice (some ⟨g, 0, none⟩) n c) ∧ w'.cell? ⟨g, i * 5, none⟩ = some (.int .i64 s) ∧ w'.cell? ⟨g, i * 5 + 1, none⟩ = some (.int .i64 f) ∧ w'.cell? ⟨g, i * 5 + 2, none⟩ = some (.int .i64 t) ∧ w'.cell? ⟨g, i * 5 + 3, none⟩ = some (.int .i64 p) ∧ w'.cell? ⟨g, i * 5 + 4, none⟩ = some (.int .i64 a)) (go_keep)
    (first | (go_at_call 14; refine (end_call s f t p a _ hf ht ha).mono ?_; rintro e w' ⟨rfl, rfl⟩))
  all_goals go_wp2
  all_goals go_ret
  all_goals exact ⟨rfl, rfl⟩

end Go.Proofs.Qxb6613027a
