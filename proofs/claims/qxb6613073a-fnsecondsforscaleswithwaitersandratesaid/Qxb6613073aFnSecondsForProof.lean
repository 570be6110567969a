/-
  THE PROOF OF 'Rows.FnSecondsForScalesWithWaitersAndRateSaid'. The walk is the prover's; the row's step is the guide's frame at three parameters: a float, two integers.
-/
import Derived.Test.Qxb6613073aRows
import Derived.WalkKit
import Derived.ProofKit
import Derived.OpenShut
import Derived.Laws.Cover2
import Derived.Test.Qxb6613073aCalls
namespace Go.Proofs.Qxb6613073a.fnSecondsForScalesWithWaitersAndRate
open Go.ChangeShapes Go.WideShapes Go.ChangeAt Go.RowKit
set_option linter.unusedVariables false

theorem own : ownKnob Try.prog.godebug = none := by kernel_rfl

/-! ### THE WALK -/
set_option maxHeartbeats 2000000 in
theorem walk_in (rate : Nat) (unit n : Int) (w : World) (hu : -9223372036854775808 ≤ unit ∧ unit ≤ 9223372036854775807) (hn1 : n ≤ 4611686018427387903) (hn2 : -4611686018427387903 ≤ n)
    (h1 : (FloatKind.f64.format.order rate 866636436678541900 == some .gt || FloatKind.f64.format.order rate 866636436678541900 == some .eq) = true)
    (h2 : (FloatKind.f64.format.order rate 8346956694235468292 == some .lt || FloatKind.f64.format.order rate 8346956694235468292 == some .eq) = true) :
    Calls Try.prog 5 #[.float .f64 rate, .int .i64 unit, .int .i64 n] w fun e w' => e = .returned (.bool true) ∧ Grown w w' := by
  obtain ⟨d, S, P1, one, P2, two, R2, A, B, model, Z, D, Y, e1, e2, e3, e4, e5, e6, e7, e8, e9, e10, e11, e12, e13, e14, e15, e16, e17⟩ := seconds_law rate unit n (by omega) (by omega) h1 h2
  have C1 := hid (fun W => zzsecondsFor_call rate unit n d S P1 one W hu e1 e2 e3 e4)
  have C2 := hid (fun W => zzsecondsFor_call rate unit (2 * n) d S P2 two W hu e1 e2 e5 e6)
  have C3 := hid (fun W => zzsecondsFor_call R2 unit (2 * n) d S P2 one W hu e1 e2 e5 e8)
  have C4 := hid (fun W => zzAbs_call D W)
  have C5 := hid (fun W => zzAbs_call model W)
  rw [Fi_eq, Fi_eq] at e9
  have f1 := fun W => run_float_arith (P := Try.prog) W .mul 24 .f64 _ _ _ e7
  have f2 := fun W => run_float_arith (P := Try.prog) W .mul 24 .f64 _ _ _ e9
  have f3 := fun W => run_float_arith (P := Try.prog) W .quo 24 .f64 _ _ _ e10
  have f4 := fun W => run_float_arith (P := Try.prog) W .quo 24 .f64 _ _ _ e11
  have f5 := fun W => run_float_arith (P := Try.prog) W .mul 24 .f64 _ _ _ e12
  have f6 := fun W => run_float_arith (P := Try.prog) W .sub 24 .f64 _ _ _ e15
  have f7 := fun W => run_float_arith (P := Try.prog) W .mul 24 .f64 _ _ _ e16
  have g13 : (FloatKind.f64.format.order two Z == some .eq) = true := e13
  have g14 : (FloatKind.f64.format.order one one == some .eq) = true := e14
  have g17 : (FloatKind.f64.format.order (absF D) Y == some .lt || FloatKind.f64.format.order (absF D) Y == some .eq) = true := e17
  generalize absF D = AD at C4 g17
  generalize absF model = AM at C5 f7
  clear e1 e2 e3 e4 e5 e6 e7 e8 e9 e10 e11 e12 e13 e14 e15 e16 e17
  go_enter Try.func5, Try.ntmps5
  go_wp2_with fail
  refine (C1.out _).mono ?_
  rintro e W1 ⟨rfl, g1⟩
  have G1 := hid g1
  clear g1
  go_wp2_with fail
  refine (C2.out _).mono ?_
  rintro e W2 ⟨rfl, g2⟩
  have G2 := hid g2
  clear g2
  go_wp2_with fail
  refine (C3.out _).mono ?_
  rintro e W3 ⟨rfl, g3⟩
  have G3 := hid g3
  clear g3
  go_wp2_with fail
  refine (C4.out _).mono ?_
  rintro e W4 ⟨rfl, rfl⟩
  go_wp2_with fail
  refine (C5.out _).mono ?_
  rintro e W5 ⟨rfl, rfl⟩
  go_wp2
  go_ret
  exact ⟨rfl, G3.out _ (G2.out _ (G1.out _ (Grown.refl _)))⟩

set_option maxHeartbeats 1000000 in
theorem walk (a0 : Nat) (a1 : Int) (a2 : Int) (w0 : (Lit.float .f64 a0).wf = true) (w1 : (Lit.int .i64 a1).wf = true) (w2 : (Lit.int .i64 a2).wf = true) (w : World) :
    Calls Try.prog 5 #[.float .f64 a0, .int .i64 a1, .int .i64 a2] w fun e w' => e = .returned (.bool true) ∧ Grown w w' := by
  have b1 := bounds_i64 w1
  have b2 := bounds_i64 w2
  cases h1 : (FloatKind.f64.format.order a0 866636436678541900 == some .gt || FloatKind.f64.format.order a0 866636436678541900 == some .eq) with
  | false =>
    go_enter Try.func5, Try.ntmps5
    go_wp2
    go_ret
    exact ⟨rfl, Grown.refl _⟩
  | true =>
    cases h2 : (FloatKind.f64.format.order a0 8346956694235468292 == some .lt || FloatKind.f64.format.order a0 8346956694235468292 == some .eq) with
    | false =>
      go_enter Try.func5, Try.ntmps5
      go_wp2
      go_ret
      exact ⟨rfl, Grown.refl _⟩
    | true =>
      by_cases h3 : a2 ≤ 4611686018427387903
      · by_cases h4 : -4611686018427387903 ≤ a2
        · exact walk_in a0 a1 a2 w b1 h3 h4 h1 h2
        · go_enter Try.func5, Try.ntmps5
          go_wp2
          go_ret
          exact ⟨rfl, Grown.refl _⟩
      · go_enter Try.func5, Try.ntmps5
        go_wp2
        go_ret
        exact ⟨rfl, Grown.refl _⟩

/-! ### THE ROW's STEP -/
set_option maxRecDepth 100000 in
theorem lifted (os : Os) (started : os.Started) (H : Type) (enc : TypeId × Value → H) :
    ReturnsInHanded {} Try.checked os 5 .any (Rows.fnSecondsForScalesWithWaitersAndRateSpec.pre6 enc Try.prog Try.f5 Rows.fnSecondsForScalesWithWaitersAndRateRow.domain false) (Rows.fnSecondsForScalesWithWaitersAndRateSpec.post enc Try.prog Try.f5 false true false false) := by
  refine returnsInHanded_of_change (C := Try.checked) own started (by kernel_rfl) Try.func5
    (ChangeSpec.witness6 (enc := enc) (C := Try.checked) false ⟨#[], #[.float .f64 0, .int .i64 0, .int .i64 0], []⟩ 8 (by kernel_rfl) (by kernel_rfl) (by kernel_rfl) (by kernel_rfl)) ?_
  intro W base args ds gs before hval0 hW hcnd _
  have hval : ∀ (j : Nat) t v, Try.f5.params[j]? = some t → args[j]? = some v → Value.okWide Try.prog W .any base t v := hval0
  have hW' := hW
  obtain ⟨p, q, hA0, hV, rfl, hfz, hnd⟩ := hW
  have hA : DataW.TrodAll enc Try.prog W 0 (fun _ => true) true Try.f5.params.toList args.toList ds p := hA0
  rw [Try.params5] at hA hval
  obtain ⟨v0, vs0, d0, ds0, p0, q0, hargs, rfl, rfl, h0, r0⟩ := trodAll_cons hA
  obtain ⟨v1, vs1, d1, ds1, p1, q1, rfl, rfl, rfl, h1, r1⟩ := trodAll_cons r0
  obtain ⟨v2, vs2, d2, ds2, p2, q2, rfl, rfl, rfl, h2, r2⟩ := trodAll_cons r1
  obtain ⟨rfl, rfl, rfl⟩ := trodAll_nil r2
  obtain rfl : args = #[v0, v1, v2] := by cases args; simp_all
  obtain ⟨rfl, rfl⟩ := trodVars_none hV
  obtain ⟨a0, rfl, rfl, rfl, w0⟩ := open_float Try.underlying24 (hval 0 24 v0 rfl rfl) h0
  obtain ⟨a1, rfl, rfl, rfl, w1⟩ := open_int Try.underlying2 (hval 1 2 v1 rfl rfl) h1
  obtain ⟨a2, rfl, rfl, rfl, w2⟩ := open_int Try.underlying3 (hval 2 3 v2 rfl rfl) h2
  clear hA0 hval0
  simp only [List.append_nil] at hW'
  refine (walk a0 a1 a2 w0 w1 w2 W).mono fun e W' ⟨he, hg⟩ => ?_
  subst he
  exact ⟨_, rfl, post_of_same (pa := []) (pv := []) hW' (fun _ _ _ => (trodAll_cons_mk (shut_bool Try.underlying4 _) trodAll_mk0)) (fun sp _ => (trodAll_cons_mk (shut_float Try.underlying24 w0) (trodAll_cons_mk (shut_int Try.underlying2 w1) (trodAll_cons_mk (shut_int Try.underlying3 w2) trodAll_mk0)))) (fun _ _ => rfl) rfl
    (hg.frame _) hg.2.1 (ok_one (by kernel_rfl) rfl (okWide_bool_mk Try.underlying4 _))⟩

theorem over : Rows.fnSecondsForScalesWithWaitersAndRateRow.holds Try.pinned (OpenSpec.ofChange Rows.fnSecondsForScalesWithWaitersAndRateSpec) :=
  OpenClaim.holds_of_wide 5 Try.f5 rfl rfl rfl rfl rfl rfl rfl ⟨rfl, rfl, rfl, rfl, rfl⟩ rfl rfl rfl rfl rfl (by kernel_rfl) Try.func5 (by kernel_rfl)
    (of_decide_eq_true (by kernel_rfl)) (by unfold Func.isWrapper; first | (rw [if_pos (by decide +kernel)]; kernel_rfl) | (rw [if_neg (by decide +kernel)]; exact ⟨rfl, rfl⟩))
    (fun os started H enc _ => lifted os started H enc)

/-- ████ THE STATEMENT ████ -/
theorem proved : Rows.FnSecondsForScalesWithWaitersAndRateSaid :=
  over
#print axioms proved
end Go.Proofs.Qxb6613073a.fnSecondsForScalesWithWaitersAndRate
