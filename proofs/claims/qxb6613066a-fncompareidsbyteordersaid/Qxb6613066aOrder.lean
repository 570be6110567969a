import Derived.Test.Qxb6613066aBytes
namespace Go.Proofs.Qxb6613066a
open Go.RowKit

/-- The number that the first k bytes make. -/
def hib (x : Int) (k : Nat) : Int := x / 2 ^ (64 - 8 * k)

theorem hib_step (x : Int) (k : Nat) (hk : k < 8) : hib x (k + 1) = hib x k * 256 + byt x k := by
  unfold hib byt
  have e1 : 64 - 8 * (k + 1) = 56 - 8 * k := by omega
  have e2 : 64 - 8 * k = (56 - 8 * k) + 8 := by omega
  rw [e1, e2, Int.pow_add, ← Int.ediv_ediv_of_nonneg (Int.pow_nonneg (by decide))]
  have : (2 : Int) ^ 8 = 256 := by decide
  rw [this]
  omega

theorem hib_eq {x y : Int} (hx0 : 0 ≤ x) (hx : x ≤ 18446744073709551615) (hy0 : 0 ≤ y) (hy : y ≤ 18446744073709551615) : ∀ k : Nat, k ≤ 8 → (∀ j, j < k → byt x j = byt y j) → hib x k = hib y k
  | 0, _, _ => by
    have h64 : (2 : Int) ^ (64 - 8 * 0) = 18446744073709551616 := by decide
    unfold hib; rw [h64]; omega
  | k + 1, hk, h => by
    rw [hib_step x k (by omega), hib_step y k (by omega), hib_eq hx0 hx hy0 hy k (by omega) (fun j hj => h j (by omega)), h k (by omega)]

theorem byt_lt {x y : Int} (hx0 : 0 ≤ x) (hx : x ≤ 18446744073709551615) (hy0 : 0 ≤ y) (hy : y ≤ 18446744073709551615) (k : Nat) (hk : k < 8) (h : ∀ j, j < k → byt x j = byt y j) (hl : byt x k < byt y k) : x < y := by
  have h1 := hib_eq hx0 hx hy0 hy k (by omega) h
  have h2 := hib_step x k hk
  have h3 := hib_step y k hk
  by_cases hc : x < y
  · exact hc
  · have h4 : hib y (k + 1) ≤ hib x (k + 1) := Int.ediv_le_ediv (Int.pow_pos (by decide)) (by omega)
    omega

theorem byt_all {x y : Int} (hx0 : 0 ≤ x) (hx : x ≤ 18446744073709551615) (hy0 : 0 ≤ y) (hy : y ≤ 18446744073709551615) (h : ∀ j, j < 8 → byt x j = byt y j) : x = y := by
  have h1 := hib_eq hx0 hx hy0 hy 8 (by omega) h
  unfold hib at h1
  simpa using h1

/-- Byte j of the key. -/
def vk (t e q : Int) (j : Nat) : Int := if j < 8 then byt t j else if j < 16 then byt e (j - 8) else byt q (j - 16)

theorem vk_of {cur : Array Value} {t e q : Int} (h : KeyTo cur t e q 8) : ∀ k, k < 24 → cur[k]? = some (.int .u8 (vk t e q k)) := by
  intro k hk
  unfold vk
  by_cases h1 : k < 8
  · rw [if_pos h1]; exact (h.2 k h1).1
  · rw [if_neg h1]
    by_cases h2 : k < 16
    · rw [if_pos h2]
      have := (h.2 (k - 8) (by omega)).2.1
      rwa [show 8 + (k - 8) = k by omega] at this
    · rw [if_neg h2]
      have := (h.2 (k - 16) (by omega)).2.2
      rwa [show 16 + (k - 16) = k by omega] at this

theorem vk_t {t e q : Int} {j : Nat} (h : j < 8) : vk t e q j = byt t j := by unfold vk; rw [if_pos h]
theorem vk_e {t e q : Int} {j : Nat} (h : j < 8) : vk t e q (8 + j) = byt e j := by unfold vk; rw [if_neg (by omega), if_pos (by omega), Nat.add_sub_cancel_left]
theorem vk_q {t e q : Int} {j : Nat} (h : j < 8) : vk t e q (16 + j) = byt q j := by unfold vk; rw [if_neg (by omega), if_neg (by omega), Nat.add_sub_cancel_left]

/-- Three numbers, greatest first: the first byte that parts the keys tells which is less. -/
theorem key_lt {t1 e1 q1 t2 e2 q2 : Int} (a1 : 0 ≤ t1 ∧ t1 ≤ 18446744073709551615) (a2 : 0 ≤ t2 ∧ t2 ≤ 18446744073709551615) (b1 : 0 ≤ e1 ∧ e1 ≤ 18446744073709551615) (b2 : 0 ≤ e2 ∧ e2 ≤ 18446744073709551615) (c1 : 0 ≤ q1 ∧ q1 ≤ 18446744073709551615) (c2 : 0 ≤ q2 ∧ q2 ≤ 18446744073709551615)
    (k : Nat) (hk : k < 24) (h : ∀ j, j < k → vk t1 e1 q1 j = vk t2 e2 q2 j) (hl : vk t1 e1 q1 k < vk t2 e2 q2 k) : t1 < t2 ∨ (t1 = t2 ∧ (e1 < e2 ∨ (e1 = e2 ∧ q1 < q2))) := by
  by_cases h1 : k < 8
  · refine .inl (byt_lt a1.1 a1.2 a2.1 a2.2 k h1 (fun j hj => ?_) ?_)
    · have := h j hj; rwa [vk_t (by omega), vk_t (by omega)] at this
    · rwa [vk_t h1, vk_t h1] at hl
  · have ht : t1 = t2 := byt_all a1.1 a1.2 a2.1 a2.2 (fun j hj => by have := h j (by omega); rwa [vk_t hj, vk_t hj] at this)
    refine .inr ⟨ht, ?_⟩
    by_cases h2 : k < 16
    · obtain ⟨m, rfl⟩ : ∃ m, k = 8 + m := ⟨k - 8, by omega⟩
      refine .inl (byt_lt b1.1 b1.2 b2.1 b2.2 m (by omega) (fun j hj => ?_) ?_)
      · have := h (8 + j) (by omega); rwa [vk_e (by omega), vk_e (by omega)] at this
      · rwa [vk_e (by omega), vk_e (by omega)] at hl
    · have he : e1 = e2 := byt_all b1.1 b1.2 b2.1 b2.2 (fun j hj => by have := h (8 + j) (by omega); rwa [vk_e hj, vk_e hj] at this)
      obtain ⟨m, rfl⟩ : ∃ m, k = 16 + m := ⟨k - 16, by omega⟩
      refine .inr ⟨he, byt_lt c1.1 c1.2 c2.1 c2.2 m (by omega) (fun j hj => ?_) ?_⟩
      · have := h (16 + j) (by omega); rwa [vk_q (by omega), vk_q (by omega)] at this
      · rwa [vk_q (by omega), vk_q (by omega)] at hl

theorem ids_lt {s1 q1 e1 s2 q2 e2 : Int} (h : s1 < s2 ∨ (s1 = s2 ∧ (e1 < e2 ∨ (e1 = e2 ∧ q1 < q2)))) : ids s1 q1 e1 s2 q2 e2 = -1 ∧ ids s2 q2 e2 s1 q1 e1 = 1 := by
  unfold ids
  rcases h with h | ⟨h, h2 | ⟨h2, h3⟩⟩
  · rw [cmpI_lt h, cmpI_gt h]; exact ⟨rfl, rfl⟩
  · rw [cmpI_eq h, cmpI_lt h2, cmpI_eq h.symm, cmpI_gt h2]; exact ⟨rfl, rfl⟩
  · rw [cmpI_eq h, cmpI_eq h2, cmpI_lt h3, cmpI_eq h.symm, cmpI_eq h2.symm, cmpI_gt h3]; exact ⟨rfl, rfl⟩

/-- THE PLAIN LAW: the order of the byte keys is compareIDs' order, and the other way round its negation. -/
theorem order_law {s1 q1 e1 s2 q2 e2 r : Int} (a1 : -9223372036854775808 ≤ s1 ∧ s1 ≤ 9223372036854775807) (a2 : -9223372036854775808 ≤ s2 ∧ s2 ≤ 9223372036854775807) (b1 : 0 ≤ e1 ∧ e1 ≤ 18446744073709551615) (b2 : 0 ≤ e2 ∧ e2 ≤ 18446744073709551615) (c1 : 0 ≤ q1 ∧ q1 ≤ 18446744073709551615) (c2 : 0 ≤ q2 ∧ q2 ≤ 18446744073709551615)
    (h : Lex (vk (s1 + 9223372036854775808) e1 q1) (vk (s2 + 9223372036854775808) e2 q2) r) : ids s1 q1 e1 s2 q2 e2 = r ∧ ids s2 q2 e2 s1 q1 e1 = -r ∧ -1 ≤ r ∧ r ≤ 1 := by
  have A1 : 0 ≤ s1 + 9223372036854775808 ∧ s1 + 9223372036854775808 ≤ 18446744073709551615 := by omega
  have A2 : 0 ≤ s2 + 9223372036854775808 ∧ s2 + 9223372036854775808 ≤ 18446744073709551615 := by omega
  rcases h with ⟨rfl, k, hk, heq, hl⟩ | ⟨rfl, k, hk, heq, hl⟩ | ⟨rfl, heq⟩
  · have := key_lt A1 A2 b1 b2 c1 c2 k hk heq hl
    have := ids_lt (s1 := s1) (q1 := q1) (e1 := e1) (s2 := s2) (q2 := q2) (e2 := e2) (by omega)
    exact ⟨this.1, this.2, by omega, by omega⟩
  · have := key_lt A2 A1 b2 b1 c2 c1 k hk (fun j hj => (heq j hj).symm) hl
    have := ids_lt (s1 := s2) (q1 := q2) (e1 := e2) (s2 := s1) (q2 := q1) (e2 := e1) (by omega)
    exact ⟨this.2, this.1, by omega, by omega⟩
  · have h1 : s1 + 9223372036854775808 = s2 + 9223372036854775808 := byt_all A1.1 A1.2 A2.1 A2.2 (fun j hj => by have := heq j (by omega); rwa [vk_t hj, vk_t hj] at this)
    have h2 : e1 = e2 := byt_all b1.1 b1.2 b2.1 b2.2 (fun j hj => by have := heq (8 + j) (by omega); rwa [vk_e hj, vk_e hj] at this)
    have h3 : q1 = q2 := byt_all c1.1 c1.2 c2.1 c2.2 (fun j hj => by have := heq (16 + j) (by omega); rwa [vk_q hj, vk_q hj] at this)
    obtain rfl : s1 = s2 := by omega
    subst h2
    subst h3
    unfold ids
    rw [cmpI_eq rfl, cmpI_eq rfl, cmpI_eq rfl]
    exact ⟨rfl, rfl, by omega, by omega⟩

end Go.Proofs.Qxb6613066a
