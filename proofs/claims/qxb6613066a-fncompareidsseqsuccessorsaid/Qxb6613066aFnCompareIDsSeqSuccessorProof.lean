/-
  THE SHELL OF A PROOF OF 'Rows.FnCompareIDsSeqSuccessorSaid' ('example.com/spontane/spontane/zzlaws_root_b1.FnCompareIDsSeqSuccessor'), WRITTEN BY PROGRAM (proof-skeleton.mjs) off the guide's own print for that function. Not trusted: Lean checks it.
  THE WALK AND WHAT STANDS AHEAD OF IT ARE THE PROVER's. ALL ELSE IS THE GUIDE's TEMPLATE (howto/template/XProofs.lean) at this function's number and types: leave it.
-/
import Derived.Test.Qxb6613066aRows
import Derived.WalkKit
import Derived.ProofKit
import Derived.OpenShut
import Derived.ShutString
import Derived.Test.Qxb6613066aIds
namespace Go.Proofs.Qxb6613066a.fnCompareIDsSeqSuccessor
open Go.ChangeShapes Go.WideShapes Go.ChangeAt Go.RowKit
open Go.ChangeMaps (open_string shut_string)
set_option linter.unusedVariables false      -- a walk need not use every 'w<i>' (that an integer argument fits its kind)

theorem own : ownKnob Try.prog.godebug = none := by kernel_rfl

/-! ### THE PLAIN LAW: no Go in sight -/
theorem ids_self (s q e : Int) : ids s q e s q e = 0 := by simp [ids, or3, cmpI]
theorem ids_next (s q e : Int) : ids s q e s (q + 1) e = -1 := by
  unfold ids; rw [cmpI_eq rfl, cmpI_eq rfl, cmpI_lt (by omega)]; rfl
theorem ids_prev (s q e : Int) : ids s (q + 1) e s q e = 1 := by
  unfold ids; rw [cmpI_eq rfl, cmpI_eq rfl, cmpI_gt (by omega)]; rfl
theorem ids_none_between (s q e s2 q2 e2 : Int) (h : ¬ (s2 = s ∧ e2 = e ∧ (q2 = q ∨ q2 = q + 1))) : ids s2 q2 e2 s q e = ids s2 q2 e2 s (q + 1) e := by
  unfold ids or3 cmpI
  repeat' split
  all_goals omega

/-! ### STEP 1: THE WALK: the Go text returns true. 'Grown w w'': the world has at most new blocks (Derived/RowKit3.lean). Part the cases AHEAD of 'go_enter' where a test parts the walk; take each callee by a contract of your own. -/
set_option maxHeartbeats 2000000 in
theorem walk (a0 : Int) (a1 : Int) (a2 : Int) (a3 : Int) (a4 : Int) (a5 : Int) (w0 : (Lit.int .i64 a0).wf = true) (w1 : (Lit.int .u64 a1).wf = true) (w2 : (Lit.int .u64 a2).wf = true) (w3 : (Lit.int .i64 a3).wf = true) (w4 : (Lit.int .u64 a4).wf = true) (w5 : (Lit.int .u64 a5).wf = true) (w : World) :
    Calls Try.prog 5 #[.int .i64 a0, .int .u64 a1, .int .u64 a2, .int .i64 a3, .int .u64 a4, .int .u64 a5] w fun e w' => e = .returned (.bool true) ∧ Grown w w' := by
  have b1 := bounds_u64 w1
  by_cases hmax : a1 = 18446744073709551615
  · subst hmax
    go_enter Try.func5, Try.ntmps5
    go_wp2
    go_ret
    exact ⟨rfl, by repeat (first | exact Grown.refl _ | apply Grown.drew | apply Grown.alloc)⟩
  · have h1 : a1 < 18446744073709551615 := by omega
    have c1 := fun W => zzcompare_call a0 a1 a2 a0 a1 a2 W
    have c2 := fun W => zzcompare_call a0 a1 a2 a0 (a1 + 1) a2 W
    have c3 := fun W => zzcompare_call a0 (a1 + 1) a2 a0 a1 a2 W
    rw [ids_self] at c1
    rw [ids_next] at c2
    rw [ids_prev] at c3
    have C1 := hid c1
    have C2 := hid c2
    have C3 := hid c3
    clear c1 c2 c3
    by_cases hs : a3 = a0
    · by_cases he : a5 = a2
      · by_cases hq : a4 = a1
        · subst hs
          subst he
          subst hq
          go_enter Try.func5, Try.ntmps5
          go_wp2_with fail
          refine (C1.out _).mono ?_
          rintro e w' ⟨rfl, g1⟩
          have G1 := hid g1
          clear g1
          go_wp2_with fail
          refine (C2.out _).mono ?_
          rintro e w'' ⟨rfl, g2⟩
          have G2 := hid g2
          clear g2
          go_wp2_with fail
          refine (C3.out _).mono ?_
          rintro e w3 ⟨rfl, g3⟩
          have G3 := hid g3
          clear g3
          go_wp2
          go_ret
          exact ⟨rfl, G3.out _ (G2.out _ (G1.out _ (Grown.refl _)))⟩
        · by_cases hq2 : a4 = a1 + 1
          · subst hs
            subst he
            subst hq2
            go_enter Try.func5, Try.ntmps5
            go_wp2_with fail
            refine (C1.out _).mono ?_
            rintro e w' ⟨rfl, g1⟩
            have G1 := hid g1
            clear g1
            go_wp2_with fail
            refine (C2.out _).mono ?_
            rintro e w'' ⟨rfl, g2⟩
            have G2 := hid g2
            clear g2
            go_wp2_with fail
            refine (C3.out _).mono ?_
            rintro e w3 ⟨rfl, g3⟩
            have G3 := hid g3
            clear g3
            go_wp2
            go_ret
            exact ⟨rfl, G3.out _ (G2.out _ (G1.out _ (Grown.refl _)))⟩
          · have k1 : (a4 == a1) = false := by simpa using hq
            have k2 : (a4 == a1 + 1) = false := by simpa using hq2
            subst hs
            subst he
            clear hq hq2
            have hne := ids_none_between a3 a1 a5 a3 a4 a5 (by simp at k1 k2; omega)
            have c4 := fun W => zzcompare_call a3 a4 a5 a3 a1 a5 W
            have c5 := fun W => zzcompare_call a3 a4 a5 a3 (a1 + 1) a5 W
            rw [hne] at c4
            generalize ids a3 a4 a5 a3 (a1 + 1) a5 = r at c4 c5
            have C4 := hid c4
            have C5 := hid c5
            clear c4 c5 hne
            go_enter Try.func5, Try.ntmps5
            go_wp2_with fail
            refine (C1.out _).mono ?_
            rintro e w' ⟨rfl, g1⟩
            have G1 := hid g1
            clear g1
            go_wp2_with fail
            refine (C2.out _).mono ?_
            rintro e w'' ⟨rfl, g2⟩
            have G2 := hid g2
            clear g2
            go_wp2_with fail
            refine (C3.out _).mono ?_
            rintro e w3 ⟨rfl, g3⟩
            have G3 := hid g3
            clear g3
            go_wp2_with fail
            refine (C4.out _).mono ?_
            rintro e w4 ⟨rfl, g4⟩
            have G4 := hid g4
            clear g4
            go_wp2_with fail
            refine (C5.out _).mono ?_
            rintro e w5 ⟨rfl, g5⟩
            have G5 := hid g5
            clear g5
            go_wp2
            go_ret
            exact ⟨rfl, G5.out _ (G4.out _ (G3.out _ (G2.out _ (G1.out _ (Grown.refl _)))))⟩
      · have k1 : (a5 == a2) = false := by simpa using he
        subst hs
        have hne := ids_none_between a3 a1 a2 a3 a4 a5 (by omega)
        have c4 := fun W => zzcompare_call a3 a4 a5 a3 a1 a2 W
        have c5 := fun W => zzcompare_call a3 a4 a5 a3 (a1 + 1) a2 W
        rw [hne] at c4
        generalize ids a3 a4 a5 a3 (a1 + 1) a2 = r at c4 c5
        have C4 := hid c4
        have C5 := hid c5
        clear c4 c5 hne
        go_enter Try.func5, Try.ntmps5
        go_wp2_with fail
        refine (C1.out _).mono ?_
        rintro e w' ⟨rfl, g1⟩
        have G1 := hid g1
        clear g1
        go_wp2_with fail
        refine (C2.out _).mono ?_
        rintro e w'' ⟨rfl, g2⟩
        have G2 := hid g2
        clear g2
        go_wp2_with fail
        refine (C3.out _).mono ?_
        rintro e w3 ⟨rfl, g3⟩
        have G3 := hid g3
        clear g3
        go_wp2_with fail
        refine (C4.out _).mono ?_
        rintro e w4 ⟨rfl, g4⟩
        have G4 := hid g4
        clear g4
        go_wp2_with fail
        refine (C5.out _).mono ?_
        rintro e w5 ⟨rfl, g5⟩
        have G5 := hid g5
        clear g5
        go_wp2
        go_ret
        exact ⟨rfl, G5.out _ (G4.out _ (G3.out _ (G2.out _ (G1.out _ (Grown.refl _)))))⟩
    · have k1 : (a3 == a0) = false := by simpa using hs
      have hne := ids_none_between a0 a1 a2 a3 a4 a5 (by omega)
      have c4 := fun W => zzcompare_call a3 a4 a5 a0 a1 a2 W
      have c5 := fun W => zzcompare_call a3 a4 a5 a0 (a1 + 1) a2 W
      rw [hne] at c4
      generalize ids a3 a4 a5 a0 (a1 + 1) a2 = r at c4 c5
      have C4 := hid c4
      have C5 := hid c5
      clear c4 c5 hne
      go_enter Try.func5, Try.ntmps5
      go_wp2_with fail
      refine (C1.out _).mono ?_
      rintro e w' ⟨rfl, g1⟩
      have G1 := hid g1
      clear g1
      go_wp2_with fail
      refine (C2.out _).mono ?_
      rintro e w'' ⟨rfl, g2⟩
      have G2 := hid g2
      clear g2
      go_wp2_with fail
      refine (C3.out _).mono ?_
      rintro e w3 ⟨rfl, g3⟩
      have G3 := hid g3
      clear g3
      go_wp2_with fail
      refine (C4.out _).mono ?_
      rintro e w4 ⟨rfl, g4⟩
      have G4 := hid g4
      clear g4
      go_wp2_with fail
      refine (C5.out _).mono ?_
      rintro e w5 ⟨rfl, g5⟩
      have G5 := hid g5
      clear g5
      go_wp2
      go_ret
      exact ⟨rfl, G5.out _ (G4.out _ (G3.out _ (G2.out _ (G1.out _ (Grown.refl _)))))⟩

/-! ### THE ROW's STEP: WRITTEN OUT: LEAVE IT -/
set_option maxRecDepth 100000 in
theorem lifted (os : Os) (started : os.Started) (H : Type) (enc : TypeId × Value → H) :
    ReturnsInHanded {} Try.checked os 5 .any (Rows.fnCompareIDsSeqSuccessorSpec.pre6 enc Try.prog Try.f5 Rows.fnCompareIDsSeqSuccessorRow.domain false) (Rows.fnCompareIDsSeqSuccessorSpec.post enc Try.prog Try.f5 false true false false) := by
  refine returnsInHanded_of_change (C := Try.checked) own started (by kernel_rfl) Try.func5
    (ChangeSpec.witness6 (enc := enc) (C := Try.checked) false ⟨#[], #[.int .i64 0, .int .u64 0, .int .u64 0, .int .i64 0, .int .u64 0, .int .u64 0], []⟩ 8 (by kernel_rfl) (by kernel_rfl) (by kernel_rfl) (by kernel_rfl)) ?_
  intro W base args ds gs before hval0 hW hcnd _
  have hval : ∀ (j : Nat) t v, Try.f5.params[j]? = some t → args[j]? = some v → Value.okWide Try.prog W .any base t v := hval0
  have hW' := hW
  obtain ⟨p, q, hA0, hV, rfl, hfz, hnd⟩ := hW
  have hA : DataW.TrodAll enc Try.prog W 0 (fun _ => true) true Try.f5.params.toList args.toList ds p := hA0
  rw [Try.params5] at hA hval
  obtain ⟨v0, vs0, d0, ds0, p0, q0, hargs, rfl, rfl, h0, r0⟩ := trodAll_cons hA
  obtain ⟨v1, vs1, d1, ds1, p1, q1, rfl, rfl, rfl, h1, r1⟩ := trodAll_cons r0
  obtain ⟨v2, vs2, d2, ds2, p2, q2, rfl, rfl, rfl, h2, r2⟩ := trodAll_cons r1
  obtain ⟨v3, vs3, d3, ds3, p3, q3, rfl, rfl, rfl, h3, r3⟩ := trodAll_cons r2
  obtain ⟨v4, vs4, d4, ds4, p4, q4, rfl, rfl, rfl, h4, r4⟩ := trodAll_cons r3
  obtain ⟨v5, vs5, d5, ds5, p5, q5, rfl, rfl, rfl, h5, r5⟩ := trodAll_cons r4
  obtain ⟨rfl, rfl, rfl⟩ := trodAll_nil r5
  obtain rfl : args = #[v0, v1, v2, v3, v4, v5] := by cases args; simp_all
  obtain ⟨rfl, rfl⟩ := trodVars_none hV
  obtain ⟨a0, rfl, rfl, rfl, w0⟩ := open_int Try.underlying3 (hval 0 3 v0 rfl rfl) h0
  obtain ⟨a1, rfl, rfl, rfl, w1⟩ := open_int Try.underlying22 (hval 1 22 v1 rfl rfl) h1
  obtain ⟨a2, rfl, rfl, rfl, w2⟩ := open_int Try.underlying22 (hval 2 22 v2 rfl rfl) h2
  obtain ⟨a3, rfl, rfl, rfl, w3⟩ := open_int Try.underlying3 (hval 3 3 v3 rfl rfl) h3
  obtain ⟨a4, rfl, rfl, rfl, w4⟩ := open_int Try.underlying22 (hval 4 22 v4 rfl rfl) h4
  obtain ⟨a5, rfl, rfl, rfl, w5⟩ := open_int Try.underlying22 (hval 5 22 v5 rfl rfl) h5
  clear hA0 hval0
  simp only [List.append_nil] at hW'
  refine (walk a0 a1 a2 a3 a4 a5 w0 w1 w2 w3 w4 w5 W).mono fun e W' ⟨he, hg⟩ => ?_
  subst he
  exact ⟨_, rfl, post_of_same (pa := []) (pv := []) hW' (fun _ _ _ => (trodAll_cons_mk (shut_bool Try.underlying4 _) trodAll_mk0)) (fun sp _ => (trodAll_cons_mk (shut_int Try.underlying3 w0) (trodAll_cons_mk (shut_int Try.underlying22 w1) (trodAll_cons_mk (shut_int Try.underlying22 w2) (trodAll_cons_mk (shut_int Try.underlying3 w3) (trodAll_cons_mk (shut_int Try.underlying22 w4) (trodAll_cons_mk (shut_int Try.underlying22 w5) trodAll_mk0))))))) (fun _ _ => rfl) rfl
    (hg.frame _) hg.2.1 (ok_one (by kernel_rfl) rfl (okWide_bool_mk Try.underlying4 _))⟩

theorem over : Rows.fnCompareIDsSeqSuccessorRow.holds Try.pinned (OpenSpec.ofChange Rows.fnCompareIDsSeqSuccessorSpec) :=
  OpenClaim.holds_of_wide 5 Try.f5 rfl rfl rfl rfl rfl rfl rfl ⟨rfl, rfl, rfl, rfl, rfl⟩ rfl rfl rfl rfl rfl (by kernel_rfl) Try.func5 (by kernel_rfl)
    (of_decide_eq_true (by kernel_rfl)) (by unfold Func.isWrapper; first | (rw [if_pos (by decide +kernel)]; kernel_rfl) | (rw [if_neg (by decide +kernel)]; exact ⟨rfl, rfl⟩))
    (fun os started H enc _ => lifted os started H enc)

/-- ████ THE STATEMENT ████ -/
theorem proved : Rows.FnCompareIDsSeqSuccessorSaid :=
  over
#print axioms proved
end Go.Proofs.Qxb6613066a.fnCompareIDsSeqSuccessor
