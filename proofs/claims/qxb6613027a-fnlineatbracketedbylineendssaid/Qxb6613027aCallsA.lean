import Derived.Test.Qxb6613027aProg
import Derived.WalkKit
import Derived.Below
namespace Go.Proofs.Qxb6613027a
open Go.RowKit
set_option linter.unusedVariables false

/-- The bound's test, as a Bool of its own. -/
def inB (v : Int) : Bool := decide (-268435456 ≤ v ∧ v ≤ 268435456)
theorem inB_iff (v : Int) : inB v = true ↔ -268435456 ≤ v ∧ v ≤ 268435456 := by unfold inB; exact decide_eq_true_iff

theorem inB_call (v : Int) (w : World) :
    Calls Try.prog 12 #[.int .i64 v] w fun e w' => e = .returned (.bool (inB v)) ∧ w' = w := by
  by_cases h1 : -268435456 ≤ v
  · by_cases h2 : v ≤ 268435456
    · have e : inB v = true := (inB_iff v).2 ⟨h1, h2⟩
      rw [e]; clear e
      go_enter Try.func12, Try.ntmps12
      go_wp2
      go_ret
      exact ⟨rfl, rfl⟩
    · have e : inB v = false := by unfold inB; simp; omega
      rw [e]; clear e
      go_enter Try.func12, Try.ntmps12
      go_wp2
      go_ret
      exact ⟨rfl, rfl⟩
  · have e : inB v = false := by unfold inB; simp; omega
    rw [e]; clear e
    go_enter Try.func12, Try.ntmps12
    go_wp2
    go_ret
    exact ⟨rfl, rfl⟩

/-- The size guard: it answers one of the two, and turns nothing. -/
theorem bytes_call (a0 a1 a2 a3 a4 : Option Addr) (l0 l1 l2 l3 l4 c0 c1 c2 c3 c4 : Nat) (x : Int) (w : World) :
    Calls Try.prog 5 #[.slice a0 l0 c0, .slice a1 l1 c1, .slice a2 l2 c2, .slice a3 l3 c3, .slice a4 l4 c4, .int .i64 x] w
      fun e w' => (e = .returned (.bool true) ∨ e = .returned (.bool false)) ∧ w' = w := by
  go_enter Try.func5, Try.ntmps5
  go_wp2
  all_goals go_ret
  all_goals first | exact ⟨.inl rfl, rfl⟩ | exact ⟨.inr rfl, rfl⟩

end Go.Proofs.Qxb6613027a
