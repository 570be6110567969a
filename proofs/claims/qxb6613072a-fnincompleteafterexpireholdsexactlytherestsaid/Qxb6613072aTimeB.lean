import Derived.Test.Qxb6613072aTime
namespace Go.Proofs.Qxb6613072a
open Go.RowKit
set_option linter.unusedVariables false

theorem tdiv_pos {d : Int} (h : 0 ≤ d) : d.tdiv 1000000000 = es d ∧ d.tmod 1000000000 = ns d := by
  constructor
  · rw [Int.tdiv_eq_ediv_of_nonneg h]; rfl
  · rw [Int.tmod_eq_emod_of_nonneg h]; rfl
theorem tdiv_even {d : Int} (h : d < 0) (hn : ns d = 0) : d.tdiv 1000000000 = es d ∧ d.tmod 1000000000 = 0 := by
  have e := Int.mul_tdiv_add_tmod d 1000000000
  have hm : d.tmod 1000000000 = 0 := by
    rw [Int.tmod_eq_emod, if_pos (Or.inr (Int.dvd_of_emod_eq_zero hn))]
    exact (show d % 1000000000 - (0:Nat) = 0 by unfold ns at hn; omega)
  refine ⟨?_, hm⟩
  unfold es
  omega
theorem tdiv_odd {d : Int} (h : d < 0) (hn : ns d ≠ 0) : d.tdiv 1000000000 = es d + 1 ∧ d.tmod 1000000000 = ns d - 1000000000 := by
  have e := Int.mul_tdiv_add_tmod d 1000000000
  have hm : d.tmod 1000000000 = ns d - 1000000000 := by
    rw [Int.tmod_eq_emod, if_neg (by
      intro hc; rcases hc with hc | hc
      · omega
      · exact hn (Int.emod_eq_zero_of_dvd hc))]
    rfl
  refine ⟨?_, hm⟩
  unfold es
  unfold ns at hm
  omega

theorem add_pos (d : Int) (h0 : 0 ≤ d) (h1 : d < 9223372036854775808) (w : World) :
    Calls Try.prog 27 #[.agg #[.int .u64 0, .int .i64 0, .pointer none], .int .i64 d] w fun e w' =>
      e = .returned (.agg #[.int .u64 (ns d), .int .i64 (es d), .pointer none]) ∧ (w.alloc (.cells #[.int .u64 (ns d), .int .i64 (es d), .pointer none] 43)).alloc (.cells #[.int .u64 (ns d), .int .i64 (es d), .pointer none] 43) = w' := by
  obtain ⟨q1, q2⟩ := tdiv_pos h0
  have n0 := ns_lo d
  have n1 := ns_hi d
  have s0 : -9223372037 ≤ es d ∧ es d ≤ 9223372037 := by unfold es; omega
  have t1 := bits_or_zero (ns d) n0 (by omega)
  have t2 := bits_and_top (ns d) n0 (by omega)
  have t3 := bits_andNot_zero
  skip
  go_enter Try.func27, Try.ntmps27
  go_wp2_with fail
  refine (nsec_call w.heap.size 0 _ (by decide) (by decide) (by simp)).mono ?_
  rintro e W ⟨rfl, rfl⟩
  go_wp2_with fail
  refine (addSec_call w.heap.size (ns d) (es d) _ n0 n1 s0 (by simp) (by simp) (by simp)).mono ?_
  rintro e W ⟨rfl, rfl⟩
  go_wp2
  refine bodyPost_ret (by simp [results, Try.results27, go_sem]; try rfl) rfl ?_
  refine ⟨rfl, ?_⟩
  rfl

theorem add_odd (d : Int) (h0 : d < 0) (h1 : -9223372036854775808 ≤ d) (hn : ns d ≠ 0) (w : World) :
    Calls Try.prog 27 #[.agg #[.int .u64 0, .int .i64 0, .pointer none], .int .i64 d] w fun e w' =>
      e = .returned (.agg #[.int .u64 (ns d), .int .i64 (es d), .pointer none]) ∧ (w.alloc (.cells #[.int .u64 (ns d), .int .i64 (es d), .pointer none] 43)).alloc (.cells #[.int .u64 (ns d), .int .i64 (es d), .pointer none] 43) = w' := by
  obtain ⟨q1, q2⟩ := tdiv_odd h0 hn
  have n0 := ns_lo d
  have n1 := ns_hi d
  have s0 : -9223372037 ≤ es d ∧ es d ≤ 9223372037 := by unfold es; omega
  have t1 := bits_or_zero (ns d) n0 (by omega)
  have t2 := bits_and_top (ns d) n0 (by omega)
  have t3 := bits_andNot_zero
  have n2 : 0 < ns d := by omega
  go_enter Try.func27, Try.ntmps27
  go_wp2_with fail
  refine (nsec_call w.heap.size 0 _ (by decide) (by decide) (by simp)).mono ?_
  rintro e W ⟨rfl, rfl⟩
  go_wp2_with fail
  refine (addSec_call w.heap.size (ns d) (es d) _ n0 n1 s0 (by simp) (by simp) (by simp)).mono ?_
  rintro e W ⟨rfl, rfl⟩
  go_wp2
  refine bodyPost_ret (by simp [results, Try.results27, go_sem]; try rfl) rfl ?_
  refine ⟨rfl, ?_⟩
  rfl

theorem add_even (d : Int) (h0 : d < 0) (h1 : -9223372036854775808 ≤ d) (hn : ns d = 0) (w : World) :
    Calls Try.prog 27 #[.agg #[.int .u64 0, .int .i64 0, .pointer none], .int .i64 d] w fun e w' =>
      e = .returned (.agg #[.int .u64 (ns d), .int .i64 (es d), .pointer none]) ∧ (w.alloc (.cells #[.int .u64 (ns d), .int .i64 (es d), .pointer none] 43)).alloc (.cells #[.int .u64 (ns d), .int .i64 (es d), .pointer none] 43) = w' := by
  obtain ⟨q1, q2⟩ := tdiv_even h0 hn
  have n0 := ns_lo d
  have n1 := ns_hi d
  have s0 : -9223372037 ≤ es d ∧ es d ≤ 9223372037 := by unfold es; omega
  have t1 := bits_or_zero (ns d) n0 (by omega)
  have t2 := bits_and_top (ns d) n0 (by omega)
  have t3 := bits_andNot_zero
  rw [hn] at t1 t2 n0 n1 ⊢
  go_enter Try.func27, Try.ntmps27
  go_wp2_with fail
  refine (nsec_call w.heap.size 0 _ (by decide) (by decide) (by simp)).mono ?_
  rintro e W ⟨rfl, rfl⟩
  go_wp2_with fail
  refine (addSec_call w.heap.size 0 (es d) _ n0 n1 s0 (by simp) (by simp) (by simp)).mono ?_
  rintro e W ⟨rfl, rfl⟩
  go_wp2
  refine bodyPost_ret (by simp [results, Try.results27, go_sem]; try rfl) rfl ?_
  refine ⟨rfl, ?_⟩
  rfl

theorem add_call (d : Int) (h0 : -9223372036854775808 ≤ d) (h1 : d < 9223372036854775808) (w : World) :
    Calls Try.prog 27 #[.agg #[.int .u64 0, .int .i64 0, .pointer none], .int .i64 d] w fun e w' =>
      e = .returned (.agg #[.int .u64 (ns d), .int .i64 (es d), .pointer none]) ∧ (w.alloc (.cells #[.int .u64 (ns d), .int .i64 (es d), .pointer none] 43)).alloc (.cells #[.int .u64 (ns d), .int .i64 (es d), .pointer none] 43) = w' := by
  by_cases h : 0 ≤ d
  · exact add_pos d h h1 w
  · by_cases hn : ns d = 0
    · exact add_even d (by omega) h0 hn w
    · exact add_odd d (by omega) h0 hn w

end Go.Proofs.Qxb6613072a
