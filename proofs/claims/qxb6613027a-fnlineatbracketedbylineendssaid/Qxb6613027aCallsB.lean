import Derived.Test.Qxb6613027aCallsA
import Derived.Deep.QuietTactic
import Derived.BigQuiet
namespace Go.Proofs.Qxb6613027a
open Go.RowKit
set_option linter.unusedVariables false

theorem hid {p : Prop} (h : p) : Hid p := h

/-- All three fields of the first k lines lie within the bound. -/
def AllIn (F T A : Nat → Int) (k : Nat) : Prop := ∀ i, i < k → inB (F i) = true ∧ inB (T i) = true ∧ inB (A i) = true
theorem AllIn.step {F T A : Nat → Int} {k : Nat} (h : AllIn F T A k) (hf : inB (F k) = true) (ht : inB (T k) = true) (ha : inB (A k) = true) : AllIn F T A (k + 1) := by
  intro i hi
  by_cases e : i = k
  · subst e; exact ⟨hf, ht, ha⟩
  · exact h i (by omega)

set_option maxHeartbeats 1000000 in
theorem fields_call (n : Nat) (hn : n ≤ 16384) (F T A : Nat → Int) (b0 b1 b2 c0 c1 c2 : Nat) (w : World)
    (h0 : ∀ i, i < n → w.cell? ⟨b0, i, none⟩ = some (.int .i64 (F i)))
    (h1 : ∀ i, i < n → w.cell? ⟨b1, i, none⟩ = some (.int .i64 (T i)))
    (h2 : ∀ i, i < n → w.cell? ⟨b2, i, none⟩ = some (.int .i64 (A i))) :
    Calls Try.prog 6 #[.slice (some ⟨b0, 0, none⟩) n c0, .slice (some ⟨b1, 0, none⟩) n c1, .slice (some ⟨b2, 0, none⟩) n c2] w
      fun e w' => ((e = .returned (.bool true) ∧ Hid (AllIn F T A n)) ∨ e = .returned (.bool false)) ∧ w' = w := by
  go_enter Try.func6, Try.ntmps6
  go_wp2
  go_loop [7] (fun t => ∃ k : Nat, k ≤ n ∧ t = .int .i64 k ∧ Hid (AllIn F T A k)) (fun t => n - (intOf t).toNat)
  case atStart => exact ⟨0, Nat.zero_le _, rfl, hid (fun i hi => absurd hi (Nat.not_lt_zero _))⟩
  case round =>
    obtain ⟨k, hk, rfl, HI⟩ := hrel
    by_cases hlt : k < n
    · have g0 := h0 k hlt
      have g1 := h1 k hlt
      have g2 := h2 k hlt
      have cF := inB_call (F k) w
      have cT := inB_call (T k) w
      have cA := inB_call (A k) w
      have st := HI.out.step
      generalize F k = f at g0 cF st
      generalize T k = t at g1 cT st
      generalize A k = a at g2 cA st
      have ST := hid st
      clear st h0 h1 h2
      cases hF : inB f <;> rw [hF] at cF
      · have HF := hid hF
        clear hF cT cA
        have CF := hid cF
        clear cF
        go_wp2_with (go_at_call 12; refine CF.out.mono ?_; rintro e w' ⟨rfl, rfl⟩)
        go_ret
        exact ⟨.inr rfl, rfl⟩
      · have HF := hid hF
        clear hF
        cases hT : inB t <;> rw [hT] at cT
        · have HT := hid hT
          clear hT cA
          have CF := hid cF
          have CT := hid cT
          clear cF cT
          go_wp2_with fail
          refine CF.out.mono ?_
          rintro e w' ⟨rfl, rfl⟩
          go_wp2_with fail
          refine CT.out.mono ?_
          rintro e w' ⟨rfl, rfl⟩
          go_wp2
          go_ret
          exact ⟨.inr rfl, rfl⟩
        · have HT := hid hT
          clear hT
          cases hA : inB a <;> rw [hA] at cA
          · have HA := hid hA
            clear hA
            have CF := hid cF
            have CT := hid cT
            have CA := hid cA
            clear cF cT cA
            go_wp2_with fail
            refine CF.out.mono ?_
            rintro e w' ⟨rfl, rfl⟩
            go_wp2_with fail
            refine CT.out.mono ?_
            rintro e w' ⟨rfl, rfl⟩
            go_wp2_with fail
            refine CA.out.mono ?_
            rintro e w' ⟨rfl, rfl⟩
            go_wp2
            go_ret
            exact ⟨.inr rfl, rfl⟩
          · have HA := hid hA
            clear hA
            have CF := hid cF
            have CT := hid cT
            have CA := hid cA
            clear cF cT cA
            go_wp2_with fail
            refine CF.out.mono ?_
            rintro e w' ⟨rfl, rfl⟩
            go_wp2_with fail
            refine CT.out.mono ?_
            rintro e w' ⟨rfl, rfl⟩
            go_wp2_with fail
            refine CA.out.mono ?_
            rintro e w' ⟨rfl, rfl⟩
            go_wp2
            go_round
            case rel => exact ⟨k + 1, by omega, by go_num, hid (ST.out HF.out HT.out HA.out)⟩
            case measure => simp [intOf]; omega
    · obtain rfl : k = n := by omega
      go_wp2
      go_ret
      first | exact ⟨.inl ⟨rfl, HI⟩, rfl⟩ | exact ⟨.inl rfl, rfl⟩

set_option maxHeartbeats 1000000 in
theorem fields_none (a0 a1 a2 : Option Addr) (l0 l1 c0 c1 c2 : Nat) (w : World) :
    Calls Try.prog 6 #[.slice a0 l0 c0, .slice a1 l1 c1, .slice a2 0 c2] w
      fun e w' => e = .returned (.bool true) ∧ w' = w := by
  go_enter Try.func6, Try.ntmps6
  go_wp2
  refine wp_loop_rounds 1 ?_
  rw [rounds_succ]
  go_wp2
  go_ret
  exact ⟨rfl, rfl⟩

/-- Where line i's share ends. -/
def En (F T A : Nat → Int) (i : Nat) : Int := A i + T i - F i
/-- The first k ends do not go down. -/
def Up (F T A : Nat → Int) (k : Nat) : Prop := ∀ i, 1 ≤ i → i < k → En F T A (i - 1) ≤ En F T A i
theorem Up.step {F T A : Nat → Int} {k : Nat} (h : Up F T A k) (hs : En F T A (k - 1) ≤ En F T A k) : Up F T A (k + 1) := by
  intro i hi hk
  by_cases e : i = k
  · subst e; exact hs
  · exact h i hi (by omega)

set_option maxHeartbeats 1000000 in
theorem ends_call (n : Nat) (hn : n ≤ 16384) (h1n : 1 ≤ n) (F T A : Nat → Int) (hin : Hid (AllIn F T A n)) (b0 b1 b2 c0 c1 c2 : Nat) (w : World)
    (h0 : ∀ i, i < n → w.cell? ⟨b0, i, none⟩ = some (.int .i64 (F i)))
    (h1 : ∀ i, i < n → w.cell? ⟨b1, i, none⟩ = some (.int .i64 (T i)))
    (h2 : ∀ i, i < n → w.cell? ⟨b2, i, none⟩ = some (.int .i64 (A i))) :
    Calls Try.prog 7 #[.slice (some ⟨b0, 0, none⟩) n c0, .slice (some ⟨b1, 0, none⟩) n c1, .slice (some ⟨b2, 0, none⟩) n c2] w
      fun e w' => ((e = .returned (.bool true) ∧ Hid (Up F T A n)) ∨ e = .returned (.bool false)) ∧ ∃ q, w' = w.drewN q := by
  go_enter Try.func7, Try.ntmps7
  go_wp2
  go_loopw [7] (fun t wr => ∃ k : Nat, 1 ≤ k ∧ k ≤ n ∧ t = .int .i64 k ∧ Hid (Up F T A k) ∧ ∃ q, wr = w.drewN q) (fun t _ => n - (intOf t).toNat)
  case atStart => exact ⟨1, Nat.le_refl _, h1n, rfl, hid (fun i hi hk => absurd hk (by omega)), 0, rfl⟩
  case round =>
    obtain ⟨k, hk1, hk, rfl, HI, q, rfl⟩ := hrel
    by_cases hlt : k < n
    · have hkz : (k : Int) < (n : Int) := by omega
      have hk1z : (1 : Int) ≤ (k : Int) := by omega
      have ek : ((k : Int) - 1).toNat = k - 1 := by omega
      have g0 := h0 k hlt
      have g1 := h1 k hlt
      have g2 := h2 k hlt
      have p0 := h0 (k - 1) (by omega)
      have p1 := h1 (k - 1) (by omega)
      have p2 := h2 (k - 1) (by omega)
      obtain ⟨if1, it1, ia1⟩ := hin.out k hlt
      obtain ⟨if0, it0, ia0⟩ := hin.out (k - 1) (by omega)
      rw [inB_iff] at if1 it1 ia1 if0 it0 ia0
      have st := HI.out.step
      unfold En at st
      generalize F k = f at g0 if1 st
      generalize T k = t at g1 it1 st
      generalize A k = a at g2 ia1 st
      generalize F (k - 1) = f' at p0 if0 st
      generalize T (k - 1) = t' at p1 it0 st
      generalize A (k - 1) = a' at p2 ia0 st
      have ST := hid st
      clear st h0 h1 h2 hin
      by_cases hle : a' + t' - f' ≤ a + t - f
      · go_wp2_with fail
        go_quiet (fail)
        go_wp2
        go_roundw
        case rel => exact ⟨k + 1, by omega, by omega, by go_num, hid (ST.out hle), _, rfl⟩
        case measure => simp [intOf]; omega
      · go_wp2_with fail
        go_quiet (fail)
        go_wp2
        go_ret
        exact ⟨.inr rfl, _, World.drewN_drewN ..⟩
    · obtain rfl : k = n := by omega
      go_wp2
      go_ret
      first | exact ⟨.inl ⟨rfl, HI⟩, q, rfl⟩ | exact ⟨.inl rfl, q, rfl⟩

set_option maxHeartbeats 1000000 in
theorem ends_none (a0 a1 a2 : Option Addr) (l0 l1 c0 c1 c2 : Nat) (w : World) :
    Calls Try.prog 7 #[.slice a0 l0 c0, .slice a1 l1 c1, .slice a2 0 c2] w
      fun e w' => e = .returned (.bool true) ∧ w' = w := by
  go_enter Try.func7, Try.ntmps7
  go_wp2
  refine wp_loop_rounds 1 ?_
  rw [rounds_succ]
  go_wp2
  go_ret
  exact ⟨rfl, rfl⟩

end Go.Proofs.Qxb6613027a
