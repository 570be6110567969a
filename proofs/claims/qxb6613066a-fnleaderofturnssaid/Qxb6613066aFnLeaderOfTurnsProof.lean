/-
  THE SHELL OF A PROOF OF 'Rows.FnLeaderOfTurnsSaid' ('example.com/spontane/spontane/zzlaws_root_b1.FnLeaderOfTurns'), WRITTEN BY PROGRAM (proof-skeleton.mjs) off the guide's own print for that function. Not trusted: Lean checks it.
  THE WALK AND WHAT STANDS AHEAD OF IT ARE THE PROVER's. ALL ELSE IS THE GUIDE's TEMPLATE (howto/template/XProofs.lean) at this function's number and types: leave it.
-/
import Derived.Test.Qxb6613066aRows
import Derived.WalkKit
import Derived.ProofKit
import Derived.OpenShut
import Derived.ShutString
namespace Go.Proofs.Qxb6613066a.fnLeaderOfTurns
open Go.ChangeShapes Go.WideShapes Go.ChangeAt Go.RowKit
open Go.ChangeMaps (open_string shut_string)
set_option linter.unusedVariables false      -- a walk need not use every 'w<i>' (that an integer argument fits its kind)

theorem own : ownKnob Try.prog.godebug = none := by kernel_rfl

/-! ### THE PLAIN LAW: no Go in sight -/
/-- The leader of term t among m members. -/
def ldr (t m : Int) : Int := t % m
theorem ldr_lo (t m : Int) (h : 1 ≤ m) : 0 ≤ ldr t m := Int.emod_nonneg _ (by omega)
theorem ldr_hi (t m : Int) (h : 1 ≤ m) : ldr t m < m := Int.emod_lt_of_pos _ (by omega)
theorem ldr_small (t m : Int) (h0 : 0 ≤ t) (h : t < m) : ldr t m = t := Int.emod_eq_of_lt h0 h
theorem ldr_last (t m : Int) (h : 1 ≤ m) (e : ldr t m = m - 1) : ldr (t + 1) m = 0 := by
  unfold ldr at *
  have hd := Int.mul_ediv_add_emod t m
  have : t + 1 = m * (t / m + 1) := by rw [Int.mul_add, Int.mul_one]; omega
  rw [this]; exact Int.mul_emod_right _ _
theorem ldr_step (t m : Int) (h : 1 ≤ m) (e : ¬ ldr t m = m - 1) : ldr (t + 1) m = ldr t m + 1 := by
  have lo := ldr_lo t m h
  have hi := ldr_hi t m h
  unfold ldr at *
  have hd := Int.mul_ediv_add_emod t m
  have : t + 1 = (t % m + 1) + m * (t / m) := by omega
  rw [this, Int.add_mul_emod_self_left]
  exact Int.emod_eq_of_lt (by omega) (by omega)

/-! ### THE CALLEE -/
theorem hid {p : Prop} (h : p) : Hid p := h
theorem ret_int {k : IntKind} {a b : Int} (h : a = b) : Ending.returned (.int k a) = .returned (.int k b) := by rw [h]
theorem leader_call (t m : Int) (w : World) (h0 : 0 ≤ t) (h0' : t ≤ 18446744073709551615) (h1 : 1 ≤ m) (h2 : m ≤ 9223372036854775807) :
    Calls Try.prog 7 #[.int .u64 t, .int .i64 m] w fun e w' => e = .returned (.int .i64 (ldr t m)) ∧ w' = w := by
  have lo := ldr_lo t m h1
  have hi := ldr_hi t m h1
  have e : wrap64 (t % m) = ldr t m := by unfold ldr at *; unfold wrap64; omega
  have H : Hid (wrap64 (t % m) = ldr t m) := e
  clear e lo hi
  go_enter Try.func7, Try.ntmps7
  go_wp2
  go_ret
  exact ⟨ret_int H.out, rfl⟩

/-! ### STEP 1: THE WALK: the Go text returns true. 'Grown w w'': the world has at most new blocks (Derived/RowKit3.lean). Part the cases AHEAD of 'go_enter' where a test parts the walk; take each callee by a contract of your own. -/
theorem walk (a0 : Int) (a1 : Int) (w0 : (Lit.int .u64 a0).wf = true) (w1 : (Lit.int .i64 a1).wf = true) (w : World) :
    Calls Try.prog 3 #[.int .u64 a0, .int .i64 a1] w fun e w' => e = .returned (.bool true) ∧ Grown w w' := by
  have b0 := bounds_u64 w0
  have b1 := bounds_i64 w1
  by_cases h1 : a1 < 1
  · go_enter Try.func3, Try.ntmps3
    go_wp2
    go_ret
    exact ⟨rfl, by repeat (first | exact Grown.refl _ | apply Grown.drew | apply Grown.alloc)⟩
  · by_cases h2 : a0 = 18446744073709551615
    · subst h2
      go_enter Try.func3, Try.ntmps3
      go_wp2
      go_ret
      exact ⟨rfl, by repeat (first | exact Grown.refl _ | apply Grown.drew | apply Grown.alloc)⟩
    · have h3 : 1 ≤ a1 := by omega
      have h4 : a0 < 18446744073709551615 := by omega
      have c1 := leader_call a0 a1 w (by omega) (by omega) h3 (by omega)
      have c2 := leader_call (a0 + 1) a1 w (by omega) (by omega) h3 (by omega)
      have lo := ldr_lo a0 a1 h3
      have hi := ldr_hi a0 a1 h3
      have sm := ldr_small a0 a1 b0.1
      have la := ldr_last a0 a1 h3
      have st := ldr_step a0 a1 h3
      generalize ldr a0 a1 = l at c1 lo hi sm la st
      generalize ldr (a0 + 1) a1 = n at c2 la st
      have C1 := hid c1
      have C2 := hid c2
      clear c1 c2 h2 h1
      by_cases h5 : a0 < a1
      · have e5 := sm h5
        subst e5
        by_cases h6 : l = a1 - 1
        · have e6 := la h6
          subst e6
          have h6a : l ≤ a1 - 1 := by omega
          have h6b : a1 - 1 ≤ l := by omega
          clear sm la st h6
          go_enter Try.func3, Try.ntmps3
          go_wp2_with fail
          refine C1.out.mono ?_
          rintro e w' ⟨rfl, rfl⟩
          go_wp2_with fail
          refine C2.out.mono ?_
          rintro e w' ⟨rfl, rfl⟩
          go_wp2
          go_ret
          exact ⟨rfl, by repeat (first | exact Grown.refl _ | apply Grown.drew | apply Grown.alloc)⟩
        · have e6 := st h6
          subst e6
          clear sm la st
          go_enter Try.func3, Try.ntmps3
          go_wp2_with fail
          refine C1.out.mono ?_
          rintro e w' ⟨rfl, rfl⟩
          go_wp2_with fail
          refine C2.out.mono ?_
          rintro e w' ⟨rfl, rfl⟩
          go_wp2
          go_ret
          exact ⟨rfl, by repeat (first | exact Grown.refl _ | apply Grown.drew | apply Grown.alloc)⟩
      · by_cases h6 : l = a1 - 1
        · have e6 := la h6
          subst e6
          have h6a : l ≤ a1 - 1 := by omega
          have h6b : a1 - 1 ≤ l := by omega
          clear sm la st h6
          go_enter Try.func3, Try.ntmps3
          go_wp2_with fail
          refine C1.out.mono ?_
          rintro e w' ⟨rfl, rfl⟩
          go_wp2_with fail
          refine C2.out.mono ?_
          rintro e w' ⟨rfl, rfl⟩
          go_wp2
          go_ret
          exact ⟨rfl, by repeat (first | exact Grown.refl _ | apply Grown.drew | apply Grown.alloc)⟩
        · have e6 := st h6
          subst e6
          clear sm la st
          go_enter Try.func3, Try.ntmps3
          go_wp2_with fail
          refine C1.out.mono ?_
          rintro e w' ⟨rfl, rfl⟩
          go_wp2_with fail
          refine C2.out.mono ?_
          rintro e w' ⟨rfl, rfl⟩
          go_wp2
          go_ret
          exact ⟨rfl, by repeat (first | exact Grown.refl _ | apply Grown.drew | apply Grown.alloc)⟩

/-! ### THE ROW's STEP: WRITTEN OUT: LEAVE IT -/
set_option maxRecDepth 100000 in
theorem lifted (os : Os) (started : os.Started) (H : Type) (enc : TypeId × Value → H) :
    ReturnsInHanded {} Try.checked os 3 .any (Rows.fnLeaderOfTurnsSpec.pre6 enc Try.prog Try.f3 Rows.fnLeaderOfTurnsRow.domain false) (Rows.fnLeaderOfTurnsSpec.post enc Try.prog Try.f3 false true false false) := by
  refine returnsInHanded_of_change (C := Try.checked) own started (by kernel_rfl) Try.func3
    (ChangeSpec.witness6 (enc := enc) (C := Try.checked) false ⟨#[], #[.int .u64 0, .int .i64 0], []⟩ 8 (by kernel_rfl) (by kernel_rfl) (by kernel_rfl) (by kernel_rfl)) ?_
  intro W base args ds gs before hval0 hW hcnd _
  have hval : ∀ (j : Nat) t v, Try.f3.params[j]? = some t → args[j]? = some v → Value.okWide Try.prog W .any base t v := hval0
  have hW' := hW
  obtain ⟨p, q, hA0, hV, rfl, hfz, hnd⟩ := hW
  have hA : DataW.TrodAll enc Try.prog W 0 (fun _ => true) true Try.f3.params.toList args.toList ds p := hA0
  rw [Try.params3] at hA hval
  obtain ⟨v0, vs0, d0, ds0, p0, q0, hargs, rfl, rfl, h0, r0⟩ := trodAll_cons hA
  obtain ⟨v1, vs1, d1, ds1, p1, q1, rfl, rfl, rfl, h1, r1⟩ := trodAll_cons r0
  obtain ⟨rfl, rfl, rfl⟩ := trodAll_nil r1
  obtain rfl : args = #[v0, v1] := by cases args; simp_all
  obtain ⟨rfl, rfl⟩ := trodVars_none hV
  obtain ⟨a0, rfl, rfl, rfl, w0⟩ := open_int Try.underlying22 (hval 0 22 v0 rfl rfl) h0
  obtain ⟨a1, rfl, rfl, rfl, w1⟩ := open_int Try.underlying3 (hval 1 3 v1 rfl rfl) h1
  clear hA0 hval0
  simp only [List.append_nil] at hW'
  refine (walk a0 a1 w0 w1 W).mono fun e W' ⟨he, hg⟩ => ?_
  subst he
  exact ⟨_, rfl, post_of_same (pa := []) (pv := []) hW' (fun _ _ _ => (trodAll_cons_mk (shut_bool Try.underlying4 _) trodAll_mk0)) (fun sp _ => (trodAll_cons_mk (shut_int Try.underlying22 w0) (trodAll_cons_mk (shut_int Try.underlying3 w1) trodAll_mk0))) (fun _ _ => rfl) rfl
    (hg.frame _) hg.2.1 (ok_one (by kernel_rfl) rfl (okWide_bool_mk Try.underlying4 _))⟩

theorem over : Rows.fnLeaderOfTurnsRow.holds Try.pinned (OpenSpec.ofChange Rows.fnLeaderOfTurnsSpec) :=
  OpenClaim.holds_of_wide 3 Try.f3 rfl rfl rfl rfl rfl rfl rfl ⟨rfl, rfl, rfl, rfl, rfl⟩ rfl rfl rfl rfl rfl (by kernel_rfl) Try.func3 (by kernel_rfl)
    (of_decide_eq_true (by kernel_rfl)) (by unfold Func.isWrapper; first | (rw [if_pos (by decide +kernel)]; kernel_rfl) | (rw [if_neg (by decide +kernel)]; exact ⟨rfl, rfl⟩))
    (fun os started H enc _ => lifted os started H enc)

/-- ████ THE STATEMENT ████ -/
theorem proved : Rows.FnLeaderOfTurnsSaid :=
  over
#print axioms proved
end Go.Proofs.Qxb6613066a.fnLeaderOfTurns
