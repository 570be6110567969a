import Derived.Test.Qxb6613072aProg
import Derived.WalkKit
import Derived.ProofKit
import Derived.WalkLawsBesides
import Derived.Below
import Derived.Deep.QuietTactic
import Derived.BigQuiet
import Derived.Deep.RegionHeld3
import Derived.Deep.DeepCutAuto
namespace Go.Proofs.Qxb6613072a
open Go.RowKit
set_option linter.unusedVariables false

theorem hid {p : Prop} (h : p) : Hid p := h

/-! ### The plain parts of a time: whole seconds (floor) and the nanoseconds within -/
def es (d : Int) : Int := d / 1000000000
def ns (d : Int) : Int := d % 1000000000
theorem ns_lo (d : Int) : 0 ≤ ns d := Int.emod_nonneg _ (by decide)
theorem ns_hi (d : Int) : ns d < 1000000000 := Int.emod_lt_of_pos _ (by decide)

theorem bits_and_mask (x : Int) (h0 : 0 ≤ x) (h1 : x < 1073741824) : bits BinOp.and IntKind.u64 x 1073741823 = x := by
  show IntKind.u64.wrap (((BitVec.ofInt 64 x) &&& (BitVec.ofInt 64 1073741823)).toNat : Int) = x
  have e1 : (BitVec.ofInt 64 1073741823).toNat = 2 ^ 30 - 1 := by decide
  have e2 : (BitVec.ofInt 64 x).toNat = x.toNat := by rw [BitVec.toNat_ofInt]; omega
  rw [BitVec.toNat_and, e1, e2, Nat.and_two_pow_sub_one_eq_mod]
  show ((x.toNat % 2 ^ 30 : Nat) : Int) % 18446744073709551616 = x
  omega
theorem bits_and_top (x : Int) (h0 : 0 ≤ x) (h1 : x < 1073741824) : bits BinOp.and IntKind.u64 x 9223372036854775808 = 0 := by
  show IntKind.u64.wrap (((BitVec.ofInt 64 x) &&& (BitVec.ofInt 64 9223372036854775808)).toNat : Int) = 0
  have e1 : (BitVec.ofInt 64 9223372036854775808).toNat = 2 ^ 63 := by decide
  have e2 : (BitVec.ofInt 64 x).toNat = x.toNat := by rw [BitVec.toNat_ofInt]; omega
  have e3 : x.toNat &&& 2 ^ 63 = 0 := by
    apply Nat.eq_of_testBit_eq
    intro i
    rw [Nat.testBit_and, Nat.testBit_two_pow, Nat.zero_testBit]
    by_cases h : 63 = i
    · subst h; rw [Nat.testBit_lt_two_pow (by omega)]; rfl
    · simp [h]
  rw [BitVec.toNat_and, e1, e2, e3]; rfl
theorem bits_or_zero (x : Int) (h0 : 0 ≤ x) (h1 : x < 1073741824) : bits BinOp.or IntKind.u64 0 x = x := by
  show IntKind.u64.wrap (((BitVec.ofInt 64 0) ||| (BitVec.ofInt 64 x)).toNat : Int) = x
  have e1 : (BitVec.ofInt 64 0).toNat = 0 := by decide
  have e2 : (BitVec.ofInt 64 x).toNat = x.toNat := by rw [BitVec.toNat_ofInt]; omega
  rw [BitVec.toNat_or, e1, e2, Nat.zero_or]
  show (x.toNat : Int) % 18446744073709551616 = x
  omega
theorem bits_and_zero (x : Int) : bits BinOp.and IntKind.u64 x 0 = 0 := by
  show IntKind.u64.wrap (((BitVec.ofInt 64 x) &&& (BitVec.ofInt 64 0)).toNat : Int) = 0
  rw [BitVec.toNat_and]
  have e1 : (BitVec.ofInt 64 0).toNat = 0 := by decide
  rw [e1, Nat.and_zero]; rfl
theorem bits_andNot_zero : bits BinOp.andNot IntKind.u64 0 1073741823 = 0 := by decide

/-! ### nsec, sec, addSec -/
theorem nsec_call (b : Nat) (x : Int) (w : World) (h0 : 0 ≤ x) (h1 : x < 1000000000) (hc : w.cell? ⟨b, 0, none⟩ = some (.int .u64 x)) :
    Calls Try.prog 35 #[.pointer (some ⟨b, 0, none⟩)] w fun e w' => e = .returned (.int .i32 x) ∧ w = w' := by
  have hb := bits_and_mask x h0 (by omega)
  go_enter Try.func35, Try.ntmps35
  go_wp2
  go_ret
  exact ⟨rfl, rfl⟩

theorem sec_call (b : Nat) (x y : Int) (w : World) (h0 : 0 ≤ x) (h1 : x < 1000000000) (hc : w.cell? ⟨b, 0, none⟩ = some (.int .u64 x)) (hd : w.cell? ⟨b, 1, none⟩ = some (.int .i64 y)) :
    Calls Try.prog 41 #[.pointer (some ⟨b, 0, none⟩)] w fun e w' => e = .returned (.int .i64 y) ∧ w = w' := by
  have hb := bits_and_top x h0 (by omega)
  go_enter Try.func41, Try.ntmps41
  go_wp2
  go_ret
  exact ⟨rfl, rfl⟩

theorem addSec_call (b : Nat) (x d : Int) (w : World) (h0 : 0 ≤ x) (h1 : x < 1000000000) (hd0 : -9223372037 ≤ d ∧ d ≤ 9223372037) (hc : w.cell? ⟨b, 0, none⟩ = some (.int .u64 x)) (hd : w.cell? ⟨b, 1, none⟩ = some (.int .i64 0)) (hf : w.frozen? ⟨b, 1, none⟩ = false) :
    Calls Try.prog 36 #[.pointer (some ⟨b, 0, none⟩), .int .i64 d] w fun e w' => e = .returned (.tuple #[]) ∧ w.setCell ⟨b, 1, none⟩ (.int .i64 d) = w' := by
  have hb := bits_and_top x h0 (by omega)
  by_cases h : 0 < d
  · go_enter Try.func36, Try.ntmps36
    go_wp2
    go_end0
    exact ⟨rfl, rfl⟩
  · go_enter Try.func36, Try.ntmps36
    go_wp2
    go_end0
    exact ⟨rfl, rfl⟩

end Go.Proofs.Qxb6613072a
