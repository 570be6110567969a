import Derived.Test.Qxb6613073aProg
import Derived.Test.Qxb6613073aFloatH
import Derived.WalkKit
import Derived.ProofKit
import Derived.WalkLawsBesides
import Derived.Laws.FloatArith
import Derived.Deep.QuietTactic
import Derived.BigQuiet
import Derived.Deep.RegionHeld3
namespace Go.Proofs.Qxb6613073a
open Go.RowKit
set_option linter.unusedVariables false

theorem hid {p : Prop} (h : p) : Hid p := h
theorem Fi_eq (n : Int) : Fi n = floatOfInt .f64 n := rfl

theorem seconds_call (unit : Int) (d S : Nat) (w : World) (hu : -9223372036854775808 ≤ unit ∧ unit ≤ 9223372036854775807)
    (hd : Ieee.double.div (Fi (unit.tmod 1000000000)) 4741671816366391296 = some d) (hs : Ieee.double.add (Fi (unit.tdiv 1000000000)) d = some S) :
    Calls Try.prog 14 #[.int .i64 unit] w fun e w' => e = .returned (.float .f64 S) ∧ w = w' := by
  rw [Fi_eq] at hd hs
  have f1 := fun W => run_float_arith (P := Try.prog) W .quo 24 .f64 _ _ _ hd
  have f2 := fun W => run_float_arith (P := Try.prog) W .add 24 .f64 _ _ _ hs
  clear hd hs
  go_enter Try.func14, Try.ntmps14
  go_wp2
  go_ret
  exact ⟨rfl, rfl⟩

set_option maxHeartbeats 1000000 in
theorem secondsFor_call (rate : Nat) (unit n : Int) (d S P one : Nat) (w : World) (hu : -9223372036854775808 ≤ unit ∧ unit ≤ 9223372036854775807)
    (hd : Ieee.double.div (Fi (unit.tmod 1000000000)) 4741671816366391296 = some d) (hs : Ieee.double.add (Fi (unit.tdiv 1000000000)) d = some S)
    (hp : Ieee.double.mul (Fi n) S = some P) (ho : Ieee.double.div P rate = some one) :
    Calls Try.prog 12 #[.agg #[.float .f64 rate, .int .i64 unit], .int .i64 n] w fun e w' => e = .returned (.float .f64 one) ∧ ∀ W, Grown W w → Grown W w' := by
  have C := hid (fun W => seconds_call unit d S W hu hd hs)
  rw [Fi_eq] at hp
  have f1 := fun W => run_float_arith (P := Try.prog) W .mul 24 .f64 _ _ _ hp
  have f2 := fun W => run_float_arith (P := Try.prog) W .quo 24 .f64 _ _ _ ho
  clear hd hs hp ho
  go_enter Try.func12, Try.ntmps12
  go_wp2_with fail
  go_region_held3 (fun w' => w'.cell? ⟨w.heap.size, 0, none⟩ = some (.float .f64 rate) ∧ w'.cell? ⟨w.heap.size, 1, none⟩ = some (.int .i64 unit)) (go_keep)
    (first | (go_at_call 14; refine (C.out _).mono ?_; rintro e w' ⟨rfl, rfl⟩))
  all_goals go_wp2
  all_goals go_ret
  all_goals exact ⟨rfl, fun W h => (h.alloc _ _).drew⟩

theorem zzsecondsFor_call (rate : Nat) (unit n : Int) (d S P one : Nat) (w : World) (hu : -9223372036854775808 ≤ unit ∧ unit ≤ 9223372036854775807)
    (hd : Ieee.double.div (Fi (unit.tmod 1000000000)) 4741671816366391296 = some d) (hs : Ieee.double.add (Fi (unit.tdiv 1000000000)) d = some S)
    (hp : Ieee.double.mul (Fi n) S = some P) (ho : Ieee.double.div P rate = some one) :
    Calls Try.prog 9 #[.float .f64 rate, .int .i64 unit, .int .i64 n] w fun e w' => e = .returned (.float .f64 one) ∧ ∀ W, Grown W w → Grown W w' := by
  have C := hid (secondsFor_call rate unit n d S P one w hu hd hs hp ho)
  clear hd hs hp ho
  go_enter Try.func9, Try.ntmps9
  go_wp2_with fail
  refine C.out.mono ?_
  rintro e w' ⟨rfl, g⟩
  have G := hid g
  clear g
  go_wp2
  go_ret
  exact ⟨rfl, G.out⟩

theorem zzAbs_call (x : Nat) (w : World) : Calls Try.prog 10 #[.float .f64 x] w fun e w' => e = .returned (.float .f64 (absF x)) ∧ w = w' := by
  by_cases h : (Ieee.double.order x 0 == some .lt) = true
  · have e : absF x = x ^^^ 2 ^ 63 := by unfold absF; rw [if_pos h]
    rw [e]
    have h' : (FloatKind.f64.format.order x 0 == some .lt) = true := h
    have rn : ∀ W, (Op.unary .neg (.float .f64 x)).run Try.prog W = .ok (.float .f64 (x ^^^ 2 ^ 63)) W := fun W => rfl
    generalize x ^^^ 2 ^ 63 = y at rn ⊢
    clear h e
    go_enter Try.func10, Try.ntmps10
    go_wp2
    go_ret
    exact ⟨rfl, rfl⟩
  · have e : absF x = x := by unfold absF; rw [if_neg h]
    rw [e]
    have h' : (FloatKind.f64.format.order x 0 == some .lt) = false := by
      have h2 : (Ieee.double.order x 0 == some .lt) = false := by simpa using h
      exact h2
    clear h e
    go_enter Try.func10, Try.ntmps10
    go_wp2
    go_ret
    exact ⟨rfl, rfl⟩

end Go.Proofs.Qxb6613073a
