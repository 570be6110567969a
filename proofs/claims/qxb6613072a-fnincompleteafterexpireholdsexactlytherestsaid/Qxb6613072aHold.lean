import Derived.Test.Qxb6613072aTimeC
import Derived.Laws.Tables
import Derived.KernelRfl
import Derived.Maps.Own
import Derived.Maps.OwnOps
import Derived.Maps.OwnSet
import Derived.Maps.Views
import Derived.Maps.RangeWalk
namespace Go.Proofs.Qxb6613072a
open Go.RowKit Go.Maps
set_option linter.unusedVariables false

/-! The 453 cells of a heldMessage that ZZhold builds: its count and its time, all else zero. -/
theorem HM_0 (c a b : Int) : ((((Try.zeroCells76.setIfInBounds 0 (.int .u64 c)).setIfInBounds 4 (.int .u64 b)).setIfInBounds 5 (.int .i64 a)).setIfInBounds 6 (.pointer none))[0]? = some (.int .u64 c) := by kernel_rfl
theorem HM_4 (c a b : Int) : ((((Try.zeroCells76.setIfInBounds 0 (.int .u64 c)).setIfInBounds 4 (.int .u64 b)).setIfInBounds 5 (.int .i64 a)).setIfInBounds 6 (.pointer none))[4]? = some (.int .u64 b) := by kernel_rfl
theorem HM_5 (c a b : Int) : ((((Try.zeroCells76.setIfInBounds 0 (.int .u64 c)).setIfInBounds 4 (.int .u64 b)).setIfInBounds 5 (.int .i64 a)).setIfInBounds 6 (.pointer none))[5]? = some (.int .i64 a) := by kernel_rfl
theorem HM_6 (c a b : Int) : ((((Try.zeroCells76.setIfInBounds 0 (.int .u64 c)).setIfInBounds 4 (.int .u64 b)).setIfInBounds 5 (.int .i64 a)).setIfInBounds 6 (.pointer none))[6]? = some (.pointer none) := by kernel_rfl
theorem HM_7 (c a b : Int) : ((((Try.zeroCells76.setIfInBounds 0 (.int .u64 c)).setIfInBounds 4 (.int .u64 b)).setIfInBounds 5 (.int .i64 a)).setIfInBounds 6 (.pointer none))[7]? = some (.slice none 0 0) := by kernel_rfl

/-- keyOf -/
theorem keyOf_call (s : ByteArray) (ty el ref tot seq : Int) (w : World) :
    Calls Try.prog 31 #[.agg #[.int .u8 ty, .string s], .agg #[.int .u8 el, .int .i64 ref, .int .i64 tot, .int .i64 seq]] w fun e w' =>
      e = .returned (.agg #[.string s, .int .i64 ref, .int .i64 tot, .int .u8 el, .int .u8 ty]) ∧
      ((w.alloc (.cells #[.int .u8 ty, .string s] 25)).alloc (.cells #[.int .u8 el, .int .i64 ref, .int .i64 tot, .int .i64 seq] 81)).alloc (.cells #[.string s, .int .i64 ref, .int .i64 tot, .int .u8 el, .int .u8 ty] 78) = w' := by
  go_enter Try.func31, Try.ntmps31
  go_wp2
  refine bodyPost_ret (by simp [results, Try.results31, go_sem]; try rfl) rfl ?_
  exact ⟨rfl, rfl⟩
end Go.Proofs.Qxb6613072a
