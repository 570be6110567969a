import Derived.Test.Qxb6613066aProg
import Derived.WalkKit
import Derived.ProofKit
import Derived.Below
import Derived.Deep.QuietTactic
import Derived.BigQuiet
import Derived.Deep.RegionHeld3
namespace Go.Proofs.Qxb6613066a
open Go.RowKit
set_option linter.unusedVariables false

theorem hid {p : Prop} (h : p) : Hid p := h
theorem retI {k : IntKind} {a b : Int} (h : a = b) : Ending.returned (.int k a) = .returned (.int k b) := by rw [h]

/-! ### THE PLAIN FUNCTIONS -/
def cmpI (x y : Int) : Int := if x < y then -1 else if y < x then 1 else 0
def or3 (a b c : Int) : Int := if a = 0 then (if b = 0 then c else b) else a
/-- What compareIDs answers: by sender, then era, then sequence number. -/
def ids (s1 q1 e1 s2 q2 e2 : Int) : Int := or3 (cmpI s1 s2) (cmpI e1 e2) (cmpI q1 q2)

theorem cmpI_lt {x y : Int} (h : x < y) : cmpI x y = -1 := by unfold cmpI; rw [if_pos h]
theorem cmpI_gt {x y : Int} (h : y < x) : cmpI x y = 1 := by unfold cmpI; rw [if_neg (by omega), if_pos h]
theorem cmpI_eq {x y : Int} (h : x = y) : cmpI x y = 0 := by unfold cmpI; rw [if_neg (by omega), if_neg (by omega)]

/-! ### THE CALLEES -/
theorem compare_int (x y : Int) (w : World) :
    Calls Try.prog 24 #[.int .i64 x, .int .i64 y] w fun e w' => e = .returned (.int .i64 (cmpI x y)) ∧ w = w' := by
  rcases Int.lt_trichotomy x y with h | h | h
  · rw [cmpI_lt h]
    go_enter Try.func24, Try.ntmps24
    go_wp2
    go_ret
    exact ⟨rfl, rfl⟩
  · rw [cmpI_eq h]
    subst h
    go_enter Try.func24, Try.ntmps24
    go_wp2
    go_ret
    exact ⟨rfl, rfl⟩
  · rw [cmpI_gt h]
    go_enter Try.func24, Try.ntmps24
    go_wp2
    go_ret
    exact ⟨rfl, rfl⟩

theorem compare_u64 (x y : Int) (w : World) :
    Calls Try.prog 25 #[.int .u64 x, .int .u64 y] w fun e w' => e = .returned (.int .i64 (cmpI x y)) ∧ w = w' := by
  rcases Int.lt_trichotomy x y with h | h | h
  · rw [cmpI_lt h]
    go_enter Try.func25, Try.ntmps25
    go_wp2
    go_ret
    exact ⟨rfl, rfl⟩
  · rw [cmpI_eq h]
    subst h
    go_enter Try.func25, Try.ntmps25
    go_wp2
    go_ret
    exact ⟨rfl, rfl⟩
  · rw [cmpI_gt h]
    go_enter Try.func25, Try.ntmps25
    go_wp2
    go_ret
    exact ⟨rfl, rfl⟩

set_option maxHeartbeats 1000000 in
theorem or_call (b : Nat) (x y z : Int) (w : World) (h0 : w.cell? ⟨b, 0, none⟩ = some (.int .i64 x)) (h1 : w.cell? ⟨b, 1, none⟩ = some (.int .i64 y)) (h2 : w.cell? ⟨b, 2, none⟩ = some (.int .i64 z)) :
    Calls Try.prog 23 #[.slice (some ⟨b, 0, none⟩) 3 3] w fun e w' => e = .returned (.int .i64 (or3 x y z)) ∧ w = w' := by
  by_cases hx : x = 0
  · by_cases hy : y = 0
    · by_cases hz : z = 0
      · subst hx; subst hy; subst hz
        rw [show or3 0 0 0 = 0 from rfl]
        go_enter Try.func23, Try.ntmps23
        go_wp2
        refine wp_loop_rounds 4 ?_
        iterate 4 (try rw [rounds_succ]; try go_wp2)
        go_ret
        exact ⟨rfl, rfl⟩
      · subst hx; subst hy
        rw [show or3 0 0 z = z from rfl]
        go_enter Try.func23, Try.ntmps23
        go_wp2
        refine wp_loop_rounds 3 ?_
        iterate 3 (try rw [rounds_succ]; try go_wp2)
        go_ret
        exact ⟨rfl, rfl⟩
    · subst hx
      rw [show or3 0 y z = y from by simp [or3, hy]]
      go_enter Try.func23, Try.ntmps23
      go_wp2
      refine wp_loop_rounds 2 ?_
      iterate 2 (try rw [rounds_succ]; try go_wp2)
      go_ret
      exact ⟨rfl, rfl⟩
  · rw [show or3 x y z = x from by simp [or3, hx]]
    go_enter Try.func23, Try.ntmps23
    go_wp2
    refine wp_loop_rounds 1 ?_
    iterate 1 (try rw [rounds_succ]; try go_wp2)
    go_ret
    exact ⟨rfl, rfl⟩

/-- A cell of the block that was laid last. -/
theorem new_cell {W : World} {cs : Array Value} {t : TypeId} {b j : Nat} {v : Value} (hb : b = W.heap.size) (hv : cs[j]? = some v) : (W.alloc (.cells cs t)).drew.cell? ⟨b, j, none⟩ = some v := by
  subst hb
  show (W.alloc (.cells cs t)).cell? ⟨W.heap.size, j, none⟩ = some v
  rw [← hv]
  exact cell_of_row _ _ _ _ _ _ (heap_alloc_new W _)

set_option maxHeartbeats 2000000 in
theorem compareIDs_call (s1 q1 e1 s2 q2 e2 : Int) (w : World) :
    Calls Try.prog 20 #[.agg #[.int .i64 s1, .int .u64 q1, .int .u64 e1], .agg #[.int .i64 s2, .int .u64 q2, .int .u64 e2]] w fun e w' => e = .returned (.int .i64 (ids s1 q1 e1 s2 q2 e2)) ∧ ∀ W, Grown W w → Grown W w' := by
  unfold ids
  go_enter Try.func20, Try.ntmps20
  go_wp2_with fail
  go_region_held3 (fun w' => w'.cell? ⟨w.heap.size, 0, none⟩ = some (.int .i64 s1) ∧ w'.cell? ⟨w.heap.size + 1, 0, none⟩ = some (.int .i64 s2) ∧ w'.cell? ⟨w.heap.size, 2, none⟩ = some (.int .u64 e1) ∧ w'.cell? ⟨w.heap.size + 1, 2, none⟩ = some (.int .u64 e2) ∧ w'.cell? ⟨w.heap.size, 1, none⟩ = some (.int .u64 q1) ∧ w'.cell? ⟨w.heap.size + 1, 1, none⟩ = some (.int .u64 q2)) (go_keep)
    (first | (go_at_call 24; refine (compare_int _ _ _).mono ?_; rintro e w' ⟨rfl, rfl⟩) | (go_at_call 25; refine (compare_u64 _ _ _).mono ?_; rintro e w' ⟨rfl, rfl⟩) | (go_at_call 23; refine (or_call _ (cmpI s1 s2) (cmpI e1 e2) (cmpI q1 q2) _ (new_cell (by simp) rfl) (new_cell (by simp) rfl) (new_cell (by simp) rfl)).mono ?_; rintro e w' ⟨rfl, rfl⟩))
  all_goals go_wp2
  all_goals go_ret
  all_goals exact ⟨rfl, fun W h => (((h.alloc _ _).alloc _ _).alloc _ _).drew⟩

theorem zzcompare_call (s1 q1 e1 s2 q2 e2 : Int) (w : World) :
    Calls Try.prog 10 #[.int .i64 s1, .int .u64 q1, .int .u64 e1, .int .i64 s2, .int .u64 q2, .int .u64 e2] w fun e w' => e = .returned (.int .i64 (ids s1 q1 e1 s2 q2 e2)) ∧ ∀ W, Grown W w → Grown W w' := by
  have C := hid (compareIDs_call s1 q1 e1 s2 q2 e2 w)
  generalize ids s1 q1 e1 s2 q2 e2 = r at C ⊢
  go_enter Try.func10, Try.ntmps10
  go_wp2_with fail
  refine C.out.mono ?_
  rintro e w' ⟨rfl, hg⟩
  have G := hid hg
  clear hg
  go_wp2
  go_ret
  exact ⟨rfl, G.out⟩

end Go.Proofs.Qxb6613066a
