import Derived.Test.Qxb6613066aIds
namespace Go.Proofs.Qxb6613066a
open Go.RowKit
set_option linter.unusedVariables false

theorem xor_low (a : Nat) (h : a < 2 ^ 63) : a ^^^ 2 ^ 63 = 2 ^ 63 + a := by
  apply Nat.eq_of_testBit_eq
  intro i
  rw [Nat.testBit_xor, Nat.testBit_two_pow]
  by_cases e : i = 63
  · subst e
    rw [Nat.testBit_two_pow_add_eq, Nat.testBit_lt_two_pow h]; rfl
  · by_cases hl : i < 63
    · rw [Nat.testBit_two_pow_add_gt hl]
      have : decide (63 = i) = false := decide_eq_false (fun h => e h.symm)
      rw [this, Bool.xor_false]
    · have h1 : a.testBit i = false := Nat.testBit_lt_two_pow (Nat.lt_of_lt_of_le h (Nat.pow_le_pow_right (by omega) (by omega)))
      have h2 : (2 ^ 63 + a).testBit i = false := Nat.testBit_lt_two_pow (Nat.lt_of_lt_of_le (by omega : 2 ^ 63 + a < 2 ^ 64) (Nat.pow_le_pow_right (by omega) (by omega)))
      have : decide (63 = i) = false := decide_eq_false (fun h => e h.symm)
      rw [h1, h2, this]; rfl

theorem xor_top (s : Int) (h0 : -9223372036854775808 ≤ s) (h1 : s ≤ 9223372036854775807) : bits BinOp.xor IntKind.u64 (IntKind.u64.wrap s) 9223372036854775808 = s + 9223372036854775808 := by
  have hw : IntKind.u64.wrap s = s % 18446744073709551616 := rfl
  rw [hw]
  show (IntKind.u64.wrap ((BitVec.ofInt 64 (s % 18446744073709551616) ^^^ BitVec.ofInt 64 9223372036854775808).toNat : Int)) = _
  have e1 : (BitVec.ofInt 64 9223372036854775808).toNat = 2 ^ 63 := by decide
  have e2 : (BitVec.ofInt 64 (s % 18446744073709551616)).toNat = (s % 18446744073709551616).toNat := by
    rw [BitVec.toNat_ofInt]; omega
  rw [BitVec.toNat_xor, e1, e2]
  have e3 : (s % 18446744073709551616).toNat ^^^ 2 ^ 63 = (s + 9223372036854775808).toNat := by
    by_cases h : 0 ≤ s
    · have a1 : (s % 18446744073709551616).toNat = s.toNat := by omega
      have a2 : (s + 9223372036854775808).toNat = 2 ^ 63 + s.toNat := by omega
      rw [a1, a2]
      exact xor_low _ (by omega)
    · have a1 : (s % 18446744073709551616).toNat = 2 ^ 63 + (s + 9223372036854775808).toNat := by omega
      have a3 : (s + 9223372036854775808).toNat < 2 ^ 63 := by omega
      rw [a1]
      generalize (s + 9223372036854775808).toNat = n at a3
      rw [← xor_low n a3, Nat.xor_assoc, Nat.xor_self, Nat.xor_zero]
  rw [e3]
  show ((s + 9223372036854775808).toNat : Int) % 18446744073709551616 = _
  omega

/-- Byte j of a 64-bit number, the greatest first. -/
def byt (x : Int) (j : Nat) : Int := x / 2 ^ (56 - 8 * j) % 256

/-- The first k bytes of each of the three numbers lie in the row. -/
def KeyTo (cur : Array Value) (t e q : Int) (k : Nat) : Prop :=
  cur.size = 24 ∧ ∀ j, j < k → cur[j]? = some (.int .u8 (byt t j)) ∧ cur[8 + j]? = some (.int .u8 (byt e j)) ∧ cur[16 + j]? = some (.int .u8 (byt q j))

theorem KeyTo.step {cur : Array Value} {t e q : Int} {k : Nat} (h : KeyTo cur t e q k) (hk : k < 8) :
    KeyTo (((cur.setIfInBounds k (.int .u8 (byt t k))).setIfInBounds (8 + k) (.int .u8 (byt e k))).setIfInBounds (16 + k) (.int .u8 (byt q k))) t e q (k + 1) := by
  obtain ⟨hs, h⟩ := h
  refine ⟨by simpa using hs, fun j hj => ?_⟩
  simp only [Array.getElem?_setIfInBounds, Array.size_setIfInBounds, hs]
  by_cases e : j = k
  · subst e
    refine ⟨?_, ?_, ?_⟩
    · rw [if_neg (by omega), if_neg (by omega), if_pos rfl, if_pos (by omega)]
    · rw [if_neg (by omega), if_pos rfl, if_pos (by omega)]
    · rw [if_pos rfl, if_pos (by omega)]
  · obtain ⟨h1, h2, h3⟩ := h j (by omega)
    refine ⟨?_, ?_, ?_⟩
    · rw [if_neg (by omega), if_neg (by omega), if_neg (by omega)]; exact h1
    · rw [if_neg (by omega), if_neg (by omega), if_neg (by omega)]; exact h2
    · rw [if_neg (by omega), if_neg (by omega), if_neg (by omega)]; exact h3

theorem KeyTo.one {cur : Array Value} {t e q : Int} (h : KeyTo cur t e q 8) : cur.all (·.oneCell') = true := by
  obtain ⟨hs, h⟩ := h
  refine Array.all_eq_true.2 fun i hi => ?_
  have key : ∀ v, cur[i]? = some v → v.oneCell' = true → cur[i].oneCell' = true := fun v h1 h2 => by
    rw [Array.getElem?_eq_getElem hi] at h1
    cases h1; exact h2
  by_cases h1 : i < 8
  · exact key _ (h i h1).1 rfl
  · by_cases h2 : i < 16
    · have := (h (i - 8) (by omega)).2.1
      rw [show 8 + (i - 8) = i by omega] at this
      exact key _ this rfl
    · have := (h (i - 16) (by omega)).2.2
      rw [show 16 + (i - 16) = i by omega] at this
      exact key _ this rfl

theorem results_mid {b : Nat} {cur : Array Value} (tmps : Array Value) (w : World) (hp : tmps.getD 6 undef = .pointer (some ⟨b, 0, none⟩)) (hr : (loadVar 26 ⟨b, 0, none⟩).run Try.prog w = .ok (.agg cur) w) :
    (results Try.f9 tmps).run Try.prog w = .ok (.agg cur) w := by
  have hp' : tmps[6]?.getD undef = .pointer (some ⟨b, 0, none⟩) := by simpa using hp
  simp [results, Try.results9, hp', asAddr, hr]

theorem size26 : (Try.prog.info? 26).map (·.size) = some 24 := by kernel_rfl

theorem grown_setCells {W : World} {b : Nat} (hb : W.heap.size ≤ b) : ∀ (vs : List Value) (o : Nat) (w : World), Grown W w → Grown W (w.setCells b o vs)
  | [], _, _, h => h
  | v :: vs, o, w, h => grown_setCells hb vs (o + 1) _ (h.setCell (a := ⟨b, o, none⟩) hb v)

def zero24 : Array Value := #[.int .u8 0, .int .u8 0, .int .u8 0, .int .u8 0, .int .u8 0, .int .u8 0, .int .u8 0, .int .u8 0, .int .u8 0, .int .u8 0, .int .u8 0, .int .u8 0, .int .u8 0, .int .u8 0, .int .u8 0, .int .u8 0, .int .u8 0, .int .u8 0, .int .u8 0, .int .u8 0, .int .u8 0, .int .u8 0, .int .u8 0, .int .u8 0]

set_option maxHeartbeats 1000000 in
theorem key_call (s q e : Int) (w : World) (hs : -9223372036854775808 ≤ s ∧ s ≤ 9223372036854775807) (hq : 0 ≤ q ∧ q ≤ 18446744073709551615) (he : 0 ≤ e ∧ e ≤ 18446744073709551615) :
    Calls Try.prog 9 #[.int .i64 s, .int .u64 q, .int .u64 e] w fun en w' => ∃ cur, en = .returned (.agg cur) ∧ KeyTo cur (s + 9223372036854775808) e q 8 ∧ ∀ W, Grown W w → Grown W w' := by
  have hx := xor_top s hs.1 hs.2
  have HX := hid hx
  clear hx
  obtain ⟨t, ht⟩ : ∃ t, t = s + 9223372036854775808 := ⟨_, rfl⟩
  have ht0 : 0 ≤ t := by omega
  have ht1 : t ≤ 18446744073709551615 := by omega
  rw [← ht]
  rw [← ht] at HX
  clear ht
  obtain ⟨V, hV⟩ : ∃ V, V = (w.alloc (.cells zero24 26)).alloc (.cells zero24 26) := ⟨_, rfl⟩
  have s0 : V.heap.size = w.heap.size + 2 := by rw [hV]; simp
  have r0 : V.heap[w.heap.size + 1]? = some (.cells zero24 26 (0, 0)) := by
    rw [hV]; have := heap_alloc_new (w.alloc (.cells zero24 26)) (.cells zero24 26); simpa using this
  have r1 : V.heap[w.heap.size]? = some (.cells zero24 26 (0, 0)) := by
    rw [hV, Below.heap_alloc _ _ _ (by simp)]; exact heap_alloc_new w _
  have gv : ∀ W, Grown W w → Grown W V := fun W h => by rw [hV]; exact (h.alloc _ _).alloc _ _
  have R0 := hid r0
  have R1 := hid r1
  have GV := hid gv
  have HV := hid hV
  have S0 := hid s0
  clear r0 r1 gv hV s0
  go_enter Try.func9, Try.ntmps9
  go_wp2
  rw [HX.out]
  have fin := HV.out
  unfold zero24 at fin
  rw [← fin]
  clear fin
  go_loopw [9] (fun i wr => ∃ (k : Nat) (cur : Array Value), k ≤ 8 ∧ i = .int .i64 k ∧ Hid (wr.heap[w.heap.size + 1]? = some (.cells cur 26 (0, 0))) ∧ Hid (wr.heap[w.heap.size]? = some (.cells zero24 26 (0, 0))) ∧ Hid (KeyTo cur t e q k) ∧ Hid (∀ W, Grown W w → Grown W wr)) (fun i _ => 8 - (intOf i).toNat)
  case atStart => exact ⟨0, zero24, by omega, rfl, R0, R1, hid ⟨rfl, fun j hj => absurd hj (Nat.not_lt_zero _)⟩, GV⟩
  case round =>
    obtain ⟨k, cur, hk, rfl, RC, RZ, KT, GR⟩ := hrel
    clear R0 R1 GV HV S0
    by_cases hlt : k < 8
    · have hsz := KT.out.1
      have n0 := cell_of_row wr (w.heap.size + 1) k cur 26 (0, 0) RC.out
      have n1 := cell_of_row wr (w.heap.size + 1) (8 + k) cur 26 (0, 0) RC.out
      have n2 := cell_of_row wr (w.heap.size + 1) (16 + k) cur 26 (0, 0) RC.out
      rw [Array.getElem?_eq_getElem (by omega)] at n0 n1 n2
      have f0 := frozen_of_row wr (w.heap.size + 1) k cur 26 RC.out
      have f1 := frozen_of_row wr (w.heap.size + 1) (8 + k) cur 26 RC.out
      have f2 := frozen_of_row wr (w.heap.size + 1) (16 + k) cur 26 RC.out
      generalize cur[k] = y0 at n0
      generalize cur[8 + k] = y1 at n1
      generalize cur[16 + k] = y2 at n2
      have hkz0 : (0 : Int) ≤ (k : Int) := by omega
      have hkz : (k : Int) < 8 := by omega
      clear hsz
      have ST := hid (KT.out.step hlt)
      have h1 := heap_setCell_same wr (w.heap.size + 1) k cur 26 (.int .u8 (byt t k)) RC.out
      have h2 := heap_setCell_same _ (w.heap.size + 1) (8 + k) _ 26 (.int .u8 (byt e k)) h1
      have h3 := hid (heap_setCell_same _ (w.heap.size + 1) (16 + k) _ 26 (.int .u8 (byt q k)) h2)
      have z3 : Hid (_ = _) := ((heap_setCell_other _ ⟨w.heap.size + 1, 16 + k, none⟩ w.heap.size (.int .u8 (byt q k)) (by simp)).trans ((heap_setCell_other _ ⟨w.heap.size + 1, 8 + k, none⟩ w.heap.size (.int .u8 (byt e k)) (by simp)).trans ((heap_setCell_other wr ⟨w.heap.size + 1, k, none⟩ w.heap.size (.int .u8 (byt t k)) (by simp)).trans RZ.out)))
      clear h1 h2
      go_wp2
      go_roundw
      case rel =>
        refine ⟨k + 1, _, by omega, by go_num, h3, z3, ST, fun W h => ?_⟩
        have hb : W.heap.size ≤ w.heap.size := h.2.2
        exact (((GR.out W h).setCell (by show _ ≤ w.heap.size + 1; omega) _).setCell (by show _ ≤ w.heap.size + 1; omega) _).setCell (by show _ ≤ w.heap.size + 1; omega) _
      case measure => simp [intOf]; omega
    · obtain rfl : k = 8 := by omega
      have TH : Hid (wr.there w.heap.size 0 cur.size) := fun j hj => by
        have hj' : j < zero24.size := by rw [KT.out.1] at hj; exact hj
        refine ⟨?_, frozen_of_row wr w.heap.size _ zero24 26 RZ.out⟩
        rw [cell_of_row wr w.heap.size _ zero24 26 (0, 0) RZ.out, Nat.zero_add, Array.getElem?_eq_getElem hj']; rfl
      have IN : Hid ((Try.prog.info? 26).map (·.size) = some cur.size) := by rw [KT.out.1]; exact size26
      have ON : Hid (cur.all (·.oneCell') = true) := KT.out.one
      go_wp2_with (first
        | (refine wpList_load_row rfl 26 _ rfl (w.heap.size + 1) rfl 26 cur (0, 0) _ RC.out Try.underlying26 rfl IN.out ?_)
        | (refine wpList_store_mid rfl 26 _ _ rfl w.heap.size 0 cur rfl rfl TH.out IN.out ON.out ?_))
      refine bodyPost_ret (v := .agg cur) ?_ rfl ⟨cur, rfl, KT.out, fun W h => grown_setCells (by exact h.2.2) _ _ _ (GR.out W h)⟩
      have hr := run_loadVar_mid (P := Try.prog) (wr.setCells w.heap.size 0 cur.toList) w.heap.size 0 26 cur.toList _ (World.rangeAt_setCells_same wr w.heap.size 0 cur.toList (by simpa using TH.out)) Try.underlying26 rfl (by simpa using IN.out)
      exact results_mid _ _ rfl (by simpa using hr)
end Go.Proofs.Qxb6613066a
