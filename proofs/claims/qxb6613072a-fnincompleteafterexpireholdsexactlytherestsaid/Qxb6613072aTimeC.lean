import Derived.Test.Qxb6613072aTimeB
namespace Go.Proofs.Qxb6613072a
open Go.RowKit
set_option linter.unusedVariables false

theorem bits_and_small (x y : Int) (h0 : 0 ≤ x) (h1 : x < 1073741824) : bits BinOp.and IntKind.u64 (bits BinOp.and IntKind.u64 x y) 9223372036854775808 = 0 := by
  have key : 0 ≤ bits BinOp.and IntKind.u64 x y ∧ bits BinOp.and IntKind.u64 x y < 1073741824 := by
    have e : bits BinOp.and IntKind.u64 x y = IntKind.u64.wrap (((BitVec.ofInt 64 x) &&& (BitVec.ofInt 64 y)).toNat : Int) := rfl
    have e2 : (BitVec.ofInt 64 x).toNat = x.toNat := by rw [BitVec.toNat_ofInt]; omega
    rw [e, BitVec.toNat_and, e2]
    have hle : x.toNat &&& (BitVec.ofInt 64 y).toNat ≤ x.toNat := Nat.and_le_left
    have e3 : IntKind.u64.wrap ((x.toNat &&& (BitVec.ofInt 64 y).toNat : Nat) : Int) = ((x.toNat &&& (BitVec.ofInt 64 y).toNat : Nat) : Int) % 18446744073709551616 := rfl
    rw [e3]
    omega
  exact bits_and_top _ key.1 key.2

theorem equal_call (d : Int) (w : World) :
    Calls Try.prog 43 #[.agg #[.int .u64 (ns d), .int .i64 (es d), .pointer none], .agg #[.int .u64 (ns d), .int .i64 (es d), .pointer none]] w fun e w' =>
      e = .returned (.bool true) ∧ (w.alloc (.cells #[.int .u64 (ns d), .int .i64 (es d), .pointer none] 43)).alloc (.cells #[.int .u64 (ns d), .int .i64 (es d), .pointer none] 43) = w' := by
  have n0 := ns_lo d
  have n1 := ns_hi d
  have t2 := bits_and_small (ns d) (ns d) n0 (by omega)
  go_enter Try.func43, Try.ntmps43
  go_wp2_with fail
  refine (sec_call w.heap.size (ns d) (es d) _ n0 n1 (by simp) (by simp)).mono ?_
  rintro e W ⟨rfl, rfl⟩
  go_wp2_with fail
  refine (sec_call (w.heap.size + 1) (ns d) (es d) _ n0 n1 (by simp) (by simp)).mono ?_
  rintro e W ⟨rfl, rfl⟩
  go_wp2_with fail
  refine (nsec_call w.heap.size (ns d) _ n0 n1 (by simp)).mono ?_
  rintro e W ⟨rfl, rfl⟩
  go_wp2_with fail
  refine (nsec_call (w.heap.size + 1) (ns d) _ n0 n1 (by simp)).mono ?_
  rintro e W ⟨rfl, rfl⟩
  go_wp2
  go_ret
  exact ⟨rfl, rfl⟩

theorem before_call (d d' : Int) (w : World) :
    Calls Try.prog 33 #[.agg #[.int .u64 (ns d), .int .i64 (es d), .pointer none], .agg #[.int .u64 (ns d'), .int .i64 (es d'), .pointer none]] w fun e w' =>
      e = .returned (.bool (decide (d < d'))) ∧ (w.alloc (.cells #[.int .u64 (ns d), .int .i64 (es d), .pointer none] 43)).alloc (.cells #[.int .u64 (ns d'), .int .i64 (es d'), .pointer none] 43) = w' := by
  have n0 := ns_lo d
  have n1 := ns_hi d
  have m0 := ns_lo d'
  have m1 := ns_hi d'
  have t2 := bits_and_small (ns d) (ns d') n0 (by omega)
  have dd : d = es d * 1000000000 + ns d := by unfold es ns; omega
  have dd' : d' = es d' * 1000000000 + ns d' := by unfold es ns; omega
  have hlt : decide (d < d') = (decide (es d < es d') || (decide (es d = es d') && decide (ns d < ns d'))) := by
    generalize es d = a at *; generalize es d' = a' at *; generalize ns d = b at *; generalize ns d' = b' at *
    by_cases h1 : a < a'
    · simp [h1]; omega
    · by_cases h2 : a = a'
      · subst h2; simp; omega
      · simp [h1, h2]; omega
  rw [hlt]
  clear hlt dd dd'
  generalize ha : es d = a; generalize ha' : es d' = a'; generalize hb : ns d = b at *; generalize hb' : ns d' = b' at *
  clear ha ha' hb hb'
  by_cases h1 : a < a'
  · go_enter Try.func33, Try.ntmps33
    go_wp2_with fail
    refine (sec_call w.heap.size b a _ n0 n1 (by simp) (by simp)).mono ?_
    rintro e W ⟨rfl, rfl⟩
    go_wp2_with fail
    refine (sec_call (w.heap.size + 1) b' a' _ m0 m1 (by simp) (by simp)).mono ?_
    rintro e W ⟨rfl, rfl⟩
    go_wp2
    go_ret
    exact ⟨by simp [h1], rfl⟩
  · by_cases h2 : a = a'
    · subst h2
      go_enter Try.func33, Try.ntmps33
      go_wp2_with fail
      refine (sec_call w.heap.size b a _ n0 n1 (by simp) (by simp)).mono ?_
      rintro e W ⟨rfl, rfl⟩
      go_wp2_with fail
      refine (sec_call (w.heap.size + 1) b' a _ m0 m1 (by simp) (by simp)).mono ?_
      rintro e W ⟨rfl, rfl⟩
      go_wp2_with fail
      refine (nsec_call w.heap.size b _ n0 n1 (by simp)).mono ?_
      rintro e W ⟨rfl, rfl⟩
      go_wp2_with fail
      refine (nsec_call (w.heap.size + 1) b' _ m0 m1 (by simp)).mono ?_
      rintro e W ⟨rfl, rfl⟩
      go_wp2
      go_ret
      exact ⟨by simp, rfl⟩
    · go_enter Try.func33, Try.ntmps33
      go_wp2_with fail
      refine (sec_call w.heap.size b a _ n0 n1 (by simp) (by simp)).mono ?_
      rintro e W ⟨rfl, rfl⟩
      go_wp2_with fail
      refine (sec_call (w.heap.size + 1) b' a' _ m0 m1 (by simp) (by simp)).mono ?_
      rintro e W ⟨rfl, rfl⟩
      go_wp2
      go_ret
      exact ⟨by simp [h2], rfl⟩

theorem wrap_back (d : Int) (h0 : -9223372036854775808 ≤ d) (h1 : d < 9223372036854775808) : wrap64 (wrap64 (es d * 1000000000) + ns d) = d := by
  have dd : d = es d * 1000000000 + ns d := by unfold es ns; omega
  have n0 := ns_lo d
  have n1 := ns_hi d
  generalize es d = a at *
  generalize ns d = b at *
  unfold wrap64
  omega

theorem sub_call (d : Int) (h0 : -9223372036854775808 ≤ d) (h1 : d < 9223372036854775808) (w : World) :
    Calls Try.prog 38 #[.agg #[.int .u64 (ns d), .int .i64 (es d), .pointer none], .agg #[.int .u64 0, .int .i64 0, .pointer none]] w fun e w' =>
      e = .returned (.int .i64 d) ∧ Below w.heap.size w w' := by
  have n0 := ns_lo d
  have n1 := ns_hi d
  have s0 : -9223372037 ≤ es d ∧ es d ≤ 9223372037 := by unfold es; omega
  have t2 := bits_and_small (ns d) 0 n0 (by omega)
  have wb := wrap_back d h0 h1
  have A := hid (add_call d h0 h1)
  have E := hid (equal_call d)
  generalize ha : es d = a at *; generalize hb : ns d = b at *
  clear ha hb
  go_enter Try.func38, Try.ntmps38
  go_wp2_with fail
  refine (sec_call w.heap.size b a _ n0 n1 (by simp) (by simp)).mono ?_
  rintro e W ⟨rfl, rfl⟩
  go_wp2_with fail
  refine (sec_call (w.heap.size + 1) 0 0 _ (by decide) (by decide) (by simp) (by simp)).mono ?_
  rintro e W ⟨rfl, rfl⟩
  go_wp2_with fail
  refine (nsec_call w.heap.size b _ n0 n1 (by simp)).mono ?_
  rintro e W ⟨rfl, rfl⟩
  go_wp2_with fail
  refine (nsec_call (w.heap.size + 1) 0 _ (by decide) (by decide) (by simp)).mono ?_
  rintro e W ⟨rfl, rfl⟩
  have wa : wrap64 a = a := by unfold wrap64; omega
  go_wp2_with fail
  have BW := hid (((Below.refl w.heap.size w).alloc (Nat.le_refl _) (Obj.cells #[Value.int IntKind.u64 b, Value.int IntKind.i64 a, Value.pointer none] 43)).alloc (by simp) (Obj.cells #[Value.int IntKind.u64 0, Value.int IntKind.i64 0, Value.pointer none] 43))
  have c0 : ((w.alloc (Obj.cells #[Value.int IntKind.u64 b, Value.int IntKind.i64 a, Value.pointer none] 43)).alloc (Obj.cells #[Value.int IntKind.u64 0, Value.int IntKind.i64 0, Value.pointer none] 43)).cell? ⟨w.heap.size, 0, none⟩ = some (.int .u64 b) := by simp
  have c1 : ((w.alloc (Obj.cells #[Value.int IntKind.u64 b, Value.int IntKind.i64 a, Value.pointer none] 43)).alloc (Obj.cells #[Value.int IntKind.u64 0, Value.int IntKind.i64 0, Value.pointer none] 43)).cell? ⟨w.heap.size, 1, none⟩ = some (.int .i64 a) := by simp
  have c2 : ((w.alloc (Obj.cells #[Value.int IntKind.u64 b, Value.int IntKind.i64 a, Value.pointer none] 43)).alloc (Obj.cells #[Value.int IntKind.u64 0, Value.int IntKind.i64 0, Value.pointer none] 43)).cell? ⟨w.heap.size, 2, none⟩ = some (.pointer none) := by simp
  have c3 : ((w.alloc (Obj.cells #[Value.int IntKind.u64 b, Value.int IntKind.i64 a, Value.pointer none] 43)).alloc (Obj.cells #[Value.int IntKind.u64 0, Value.int IntKind.i64 0, Value.pointer none] 43)).cell? ⟨w.heap.size + 1, 0, none⟩ = some (.int .u64 0) := by simp
  have c4 : ((w.alloc (Obj.cells #[Value.int IntKind.u64 b, Value.int IntKind.i64 a, Value.pointer none] 43)).alloc (Obj.cells #[Value.int IntKind.u64 0, Value.int IntKind.i64 0, Value.pointer none] 43)).cell? ⟨w.heap.size + 1, 1, none⟩ = some (.int .i64 0) := by simp
  have c5 : ((w.alloc (Obj.cells #[Value.int IntKind.u64 b, Value.int IntKind.i64 a, Value.pointer none] 43)).alloc (Obj.cells #[Value.int IntKind.u64 0, Value.int IntKind.i64 0, Value.pointer none] 43)).cell? ⟨w.heap.size + 1, 2, none⟩ = some (.pointer none) := by simp
  have zz : w.heap.size ≤ ((w.alloc (Obj.cells #[Value.int IntKind.u64 b, Value.int IntKind.i64 a, Value.pointer none] 43)).alloc (Obj.cells #[Value.int IntKind.u64 0, Value.int IntKind.i64 0, Value.pointer none] 43)).heap.size := by simp; omega
  generalize hW : (w.alloc (Obj.cells #[Value.int IntKind.u64 b, Value.int IntKind.i64 a, Value.pointer none] 43)).alloc (Obj.cells #[Value.int IntKind.u64 0, Value.int IntKind.i64 0, Value.pointer none] 43) = W at *
  clear hW
  go_region_held3 (fun w' => w'.cell? ⟨w.heap.size, 0, none⟩ = some (.int .u64 b) ∧ w'.cell? ⟨w.heap.size, 1, none⟩ = some (.int .i64 a) ∧ w'.cell? ⟨w.heap.size, 2, none⟩ = some (.pointer none) ∧ w'.cell? ⟨w.heap.size + 1, 0, none⟩ = some (.int .u64 0) ∧ w'.cell? ⟨w.heap.size + 1, 1, none⟩ = some (.int .i64 0) ∧ w'.cell? ⟨w.heap.size + 1, 2, none⟩ = some (.pointer none)) (simp (maxDischargeDepth := 12) [*, World.cell?_alloc_some])
    (first | (go_at_call 27; refine (A.out _).mono ?_; rintro e w' ⟨rfl, rfl⟩) | (go_at_call 43; refine (E.out _).mono ?_; rintro e w' ⟨rfl, rfl⟩))
  all_goals go_wp2
  all_goals go_ret
  all_goals exact ⟨rfl, (((((BW.out.alloc zz _).alloc (by simp; omega) _).alloc (by simp; omega) _).alloc (by simp; omega) _).drew)⟩
theorem latestNs_call (d : Int) (h0 : -9223372036854775808 ≤ d) (h1 : d < 9223372036854775808) (a0 a1 a2 a3 a4 a5 : Value) (w : World) :
    Calls Try.prog 28 #[.agg #[a0, a1, a2, a3, a4, a5, .int .u64 (ns d), .int .i64 (es d), .pointer none]] w fun e w' =>
      e = .returned (.int .i64 d) ∧ Below w.heap.size w w' := by
  have S := hid (sub_call d h0 h1)
  generalize ha : es d = a at *; generalize hb : ns d = b at *
  go_enter Try.func28, Try.ntmps28
  go_wp2_with fail
  refine (S.out _).mono ?_
  rintro e W ⟨rfl, g⟩
  go_wp2
  go_ret
  exact ⟨rfl, (((Below.refl w.heap.size w).alloc (Nat.le_refl _) _).trans (g.mono (by simp)))⟩
end Go.Proofs.Qxb6613072a
