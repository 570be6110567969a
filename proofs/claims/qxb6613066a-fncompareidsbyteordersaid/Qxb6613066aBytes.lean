import Derived.Test.Qxb6613066aKeys
namespace Go.Proofs.Qxb6613066a
open Go.RowKit
set_option linter.unusedVariables false

/-- How two rows of 24 bytes stand to each other, and why. -/
def Lex (va vb : Nat → Int) (r : Int) : Prop :=
  (r = -1 ∧ ∃ k, k < 24 ∧ (∀ j, j < k → va j = vb j) ∧ va k < vb k) ∨ (r = 1 ∧ ∃ k, k < 24 ∧ (∀ j, j < k → va j = vb j) ∧ vb k < va k) ∨ (r = 0 ∧ ∀ j, j < 24 → va j = vb j)

set_option maxHeartbeats 1000000 in
theorem bytesCompare_call (A B : Array Value) (va vb : Nat → Int) (w : World) (hA : ∀ k, k < 24 → A[k]? = some (.int .u8 (va k))) (hB : ∀ k, k < 24 → B[k]? = some (.int .u8 (vb k))) :
    Calls Try.prog 8 #[.agg A, .agg B] w fun e w' => ∃ r, e = .returned (.int .i64 r) ∧ Hid (Lex va vb r) ∧ Hid (∀ W, Grown W w → Grown W w') := by
  obtain ⟨V, hV⟩ : ∃ V, V = (w.alloc (.cells A 26)).alloc (.cells B 26) := ⟨_, rfl⟩
  have kA : ∀ k, k < 24 → V.cell? ⟨w.heap.size, k, none⟩ = some (.int .u8 (va k)) := fun k hk => by
    rw [← hA k hk, hV]; exact cell_of_row _ _ _ _ 26 (0, 0) (heap_alloc2_old w _ _)
  have kB : ∀ k, k < 24 → V.cell? ⟨w.heap.size + 1, k, none⟩ = some (.int .u8 (vb k)) := fun k hk => by
    rw [← hB k hk, hV]; exact cell_of_row _ _ _ _ 26 (0, 0) (heap_alloc2_new w _ _)
  have gv : ∀ q W, Grown W w → Grown W (V.drewN q) := fun q W h => by rw [hV]; exact (h.alloc _ _).alloc _ _
  have KA := hid kA
  have KB := hid kB
  have GV := hid gv
  have HV := hid hV
  clear kA kB gv hV hA hB
  go_enter Try.func8, Try.ntmps8
  go_wp2
  rw [← HV.out]
  go_loopw [5] (fun i wr => ∃ (k q : Nat), k ≤ 24 ∧ i = .int .i64 k ∧ wr = V.drewN q ∧ Hid (∀ j, j < k → va j = vb j)) (fun i _ => 24 - (intOf i).toNat)
  case atStart => exact ⟨0, 0, by omega, rfl, rfl, hid (fun j hj => absurd hj (Nat.not_lt_zero _))⟩
  case round =>
    obtain ⟨k, q, hk, rfl, rfl, EQ⟩ := hrel
    clear HV
    by_cases hlt : k < 24
    · have hkz0 : (0 : Int) ≤ (k : Int) := by omega
      have hkz : (k : Int) < 24 := by omega
      have n0 := KA.out k hlt
      have n1 := KB.out k hlt
      have fl := fun (h : va k < vb k) => (show Lex va vb (-1) from .inl ⟨rfl, k, hlt, EQ.out, h⟩)
      have fg := fun (h : vb k < va k) => (show Lex va vb 1 from .inr (.inl ⟨rfl, k, hlt, EQ.out, h⟩))
      have fe := fun (h : va k = vb k) => (show ∀ j, j < k + 1 → va j = vb j from fun j hj => by
        by_cases e : j = k
        · subst e; exact h
        · exact EQ.out j (by omega))
      have FL := hid fl
      have FG := hid fg
      have FE := hid fe
      clear fl fg fe EQ KA KB
      generalize va k = x at n0 FL FG FE
      generalize vb k = y at n1 FL FG FE
      rcases Int.lt_trichotomy x y with h | h | h
      · go_wp2_with fail
        go_quiet (fail)
        go_wp2
        go_ret
        exact ⟨_, rfl, hid (FL.out h), fun W h => GV.out 0 W h⟩
      · have FE2 := hid (FE.out h)
        subst h
        go_wp2_with fail
        go_quiet (fail)
        go_wp2_with fail
        go_quiet (fail)
        go_wp2
        go_roundw
        case rel => exact ⟨k + 1, _, by omega, by go_num, rfl, FE2⟩
        case measure => simp [intOf]; omega
      · go_wp2_with fail
        go_quiet (fail)
        go_wp2_with fail
        go_quiet (fail)
        go_wp2
        go_ret
        exact ⟨_, rfl, hid (FG.out h), fun W h => GV.out 0 W h⟩
    · obtain rfl : k = 24 := by omega
      go_wp2
      go_ret
      exact ⟨_, rfl, hid (.inr (.inr ⟨rfl, EQ.out⟩)), hid (GV.out q)⟩

end Go.Proofs.Qxb6613066a
