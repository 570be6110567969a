import Derived.Test.Qxb6613027aCallsE
import Derived.Laws.CopyOwn
import Derived.Deep.OwnRows
namespace Go.Proofs.Qxb6613027a
open Go.RowKit
set_option linter.unusedVariables false

/-- A slice value of this length that reads the first numbers of Z: it is empty, or its row lies from the head of a block. -/
def Cp (W : World) (v : Value) (len : Nat) (Z : List Int) : Prop :=
  ∃ a cap, v = .slice a len cap ∧ (len = 0 ∨ ∃ g, a = some ⟨g, 0, none⟩ ∧ g < W.heap.size ∧ ∀ i, i < len → W.cell? ⟨g, i, none⟩ = some (.int .i64 (Z.getD i 0)))

theorem Cp.later {W W' : World} {v : Value} {len : Nat} {Z : List Int} (h : Cp W v len Z) (hb : Below W.heap.size W W') : Cp W' v len Z := by
  obtain ⟨a, cap, hv, h0 | ⟨g, ha, hg, hc⟩⟩ := h
  · exact ⟨a, cap, hv, .inl h0⟩
  · exact ⟨a, cap, hv, .inr ⟨g, ha, Nat.lt_of_lt_of_le hg hb.size, fun i hi => (hb.cell (p := ⟨g, i, none⟩) hg).trans (hc i hi)⟩⟩

theorem Cp.nil (W : World) (Z : List Int) : Cp W (.slice none 0 0) 0 Z := ⟨none, 0, rfl, .inl rfl⟩

/-- What a copy has laid. -/
theorem Cp.made {W : World} {g len : Nat} {Z : List Int} {cur : List Value} (hl : cur.length = len) (hz : len ≤ Z.length) (hg : g < W.heap.size)
    (hh : W.heap[g]? = some (.cells (splice cur 0 ((Z.take len).map (Value.int .i64))).toArray 3 (0, 0))) : Cp W (.slice (some ⟨g, 0, none⟩) len len) len Z := by
  refine ⟨_, _, rfl, .inr ⟨g, rfl, hg, fun i hi => ?_⟩⟩
  rw [cell_of_row W g i _ 3 (0, 0) hh]
  have h1 : i < ((Z.take len).map (Value.int .i64)).length := by simp; omega
  simp only [splice, List.take_zero, List.nil_append, List.getElem?_toArray]
  rw [List.getElem?_append_left h1]
  have h2 : i < Z.length := by omega
  simp [hi, h2]

theorem Cp.open {W : World} {v : Value} {n : Nat} {Z : List Int} (h : Cp W v n Z) (hn : 0 < n) : ∃ g cap, v = .slice (some ⟨g, 0, none⟩) n cap ∧ g < W.heap.size ∧ ∀ i, i < n → W.cell? ⟨g, i, none⟩ = some (.int .i64 (Z.getD i 0)) := by
  obtain ⟨a, cap, hv, h0 | ⟨g, rfl, hg, hc⟩⟩ := h
  · omega
  · exact ⟨g, cap, hv, hg, hc⟩

theorem Try.info3 : (Try.prog.info? 3).map (fun i => (i.zero, i.size, i.bytes)) = some (some (.int .i64 0), 1, 8) := by kernel_rfl

/-- The cells to be copied. -/
theorem src_cells {W : World} {x : Addr} {Z : List Int} {len : Nat} (hc : ∀ i, i < Z.length → W.cell? (x.add i) = some (.int .i64 (Z.getD i 0))) :
    ∀ j v, ((Z.take len).map (Value.int .i64))[j]? = some v → W.cell? (x.add j) = some v := by
  intro j v hv
  rw [List.getElem?_map] at hv
  obtain ⟨z, hz, rfl⟩ := Option.map_eq_some_iff.1 hv
  rw [List.getElem?_take] at hz
  split at hz
  · obtain ⟨hlt, he⟩ := List.getElem?_eq_some_iff.1 hz
    rw [hc j hlt, List.getD_eq_getElem?_getD, List.getElem?_eq_getElem hlt, he]; rfl
  · cases hz

/-- 'zzc := make([]int, len(s)); copy(zzc, s)': the copy's run. -/
theorem copy_run (W : World) (x : Addr) (Z : List Int) (len cap : Nat) (hz : len ≤ Z.length)
    (hsrc : ∀ j v, ((Z.take len).map (Value.int .i64))[j]? = some v → W.cell? (x.add j) = some v) :
    ∃ W2, (Builtin.copy_ #[22, 22] 3 #[.slice (some ⟨W.heap.size, 0, none⟩) len len, .slice (some x) len cap]).run Try.prog (W.alloc (.cells (madeCells #[.int .i64 0] len) 3)) = .ok (.int .i64 len) W2 ∧
      Cp W2 (.slice (some ⟨W.heap.size, 0, none⟩) len len) len Z ∧ Below W.heap.size W W2 := by
  obtain ⟨i3, hi3, hz30, hz31, hz32⟩ := info_parts Try.info3
  have hlen : ((Z.take len).map (Value.int .i64)).length = len := by simp; omega
  have hg : (W.alloc (.cells (madeCells #[.int .i64 0] len) 3)).heap[W.heap.size]? = some (.cells (madeCells #[.int .i64 0] len) 3 (0, 0)) := heap_alloc_new _ _
  have hr := run_copy_row (P := Try.prog) (W.alloc (.cells (madeCells #[.int .i64 0] len) 3)) 22 22 3 3 W.heap.size 0 len len x len cap (madeCells #[.int .i64 0] len) 3 ((Z.take len).map (Value.int .i64)) Try.underlying22 (by rw [hi3]; simp [hz31]) hg
    (by rw [hlen]; exact (Nat.min_self len).symm) (fun j v hv => cell_alloc_sl _ (hsrc j v hv)) (by rw [hlen, size_madeCells]; omega) (by intro v hv; obtain ⟨z, _, rfl⟩ := List.mem_map.1 hv; rfl)
  rw [hlen] at hr
  refine ⟨_, hr, ?_, below_setRow ((Below.refl _ _).alloc (Nat.le_refl _) _) (Nat.le_refl _) _⟩
  refine Cp.made (cur := (madeCells #[.int .i64 0] len).toList) (by simp [size_madeCells]) hz (by simp [World.setRow]) ?_
  have := setRow_heap (W.alloc (.cells (madeCells #[.int .i64 0] len) 3)) W.heap.size _ (((madeCells #[.int .i64 0] len).toList.take 0 ++ ((Z.take len).map (Value.int .i64) ++ (madeCells #[.int .i64 0] len).toList.drop (0 + len))).toArray) 3 _ hg
  have hm : min len Z.length = len := Nat.min_eq_left hz
  simpa [splice, hm] using this

theorem below_drew {B : Nat} {w W : World} (h : Below B w W) (q : Nat) : Below B w (W.drewN q) := h.trans ⟨rfl, rfl, rfl, Nat.le_refl _, fun _ _ => rfl⟩

/-- A line's end, read in any later world. -/
theorem lineEnd_at (n : Nat) (hn : n ≤ 16384) (d g : Nat) (S F T P A : Nat → Int) (xs : List Value) (W : World) (hin : Hid (AllIn F T A n)) (hF : Hid (Fill xs S F T P A n))
    (hd : W.cell? ⟨d, 1, none⟩ = some (.slice (some ⟨g, 0, none⟩) n n)) (hc : ∀ j, j < n * 5 → W.cell? ⟨g, j, none⟩ = xs[j]?) (i : Nat) (hi : i < n) (iz : Int) (hiz : iz = (i : Int)) :
    Calls Try.prog 10 #[.pointer (some ⟨d, 0, none⟩), .int .i64 iz] W fun e w' => e = .returned (.int .i64 (En F T A i)) ∧ Below W.heap.size W w' := by
  subst hiz
  obtain ⟨e0, e1, e2, e3, e4⟩ := hF.out i hi
  obtain ⟨i1, i2, i3⟩ := hin.out i hi
  rw [inB_iff] at i1 i2 i3
  refine (lineEnd_call i n n hi hn d g (S i) (F i) (T i) (P i) (A i) W i1 i2 i3 hd ((hc _ (by omega)).trans e0) ((hc _ (by omega)).trans e1) ((hc _ (by omega)).trans e2) ((hc _ (by omega)).trans e3) ((hc _ (by omega)).trans e4)).mono ?_
  rintro e w' ⟨he, hw⟩
  exact ⟨he, by rw [hw]; exact (Below.refl _ _).alloc (Nat.le_refl _) _⟩

end Go.Proofs.Qxb6613027a
