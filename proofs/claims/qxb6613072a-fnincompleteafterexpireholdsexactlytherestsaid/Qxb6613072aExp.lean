import Derived.Test.Qxb6613072aSame
namespace Go.Proofs.Qxb6613072a
open Go.RowKit Go.Maps
set_option linter.unusedVariables false

/-! ### Plain: the places of the selected among all -/
def cntK (Q : Nat → Bool) (i : Nat) : Nat := ((List.range i).filter Q).length
theorem cntK_zero (Q : Nat → Bool) : cntK Q 0 = 0 := rfl
theorem cntK_yes {Q : Nat → Bool} {i : Nat} (h : Q i = true) : cntK Q (i + 1) = cntK Q i + 1 := by
  unfold cntK; rw [List.range_succ, List.filter_append]; simp [h]
theorem cntK_no {Q : Nat → Bool} {i : Nat} (h : Q i = false) : cntK Q (i + 1) = cntK Q i := by
  unfold cntK; rw [List.range_succ, List.filter_append]; simp [h]
theorem cntK_le (Q : Nat → Bool) (i : Nat) : cntK Q i ≤ i := by
  have := List.length_filter_le Q (List.range i)
  simpa [cntK] using this
theorem sel_len (M : Ms) (Q : Nat → Bool) : (M.sel Q).length = cntK Q M.N := rfl
theorem range_cut {i N : Nat} (h : i < N) : ∃ t, List.range N = List.range i ++ i :: t := by
  refine ⟨(List.range (N - i - 1)).map (i + 1 + ·), ?_⟩
  have e1 := @List.range_add (i + 1) (N - i - 1)
  rw [show i + 1 + (N - i - 1) = N by omega, List.range_succ] at e1
  simpa using e1
theorem sel_at (M : Ms) (Q : Nat → Bool) {i : Nat} (hi : i < M.N) (h : Q i = true) : ∃ hl : cntK Q i < (M.sel Q).length, (M.sel Q)[cntK Q i] = i := by
  obtain ⟨t, ht⟩ := range_cut hi
  have e : M.sel Q = (List.range i).filter Q ++ i :: t.filter Q := by
    unfold Ms.sel
    rw [ht, List.filter_append, List.filter_cons_of_pos h]
  have hq : (M.sel Q)[cntK Q i]? = some i := by
    rw [e]
    unfold cntK
    rw [List.getElem?_append_right (Nat.le_refl _)]
    simp
  obtain ⟨hl, hv⟩ := List.getElem?_eq_some_iff.1 hq
  exact ⟨hl, hv⟩

/-! ### What a deletion keeps -/
theorem turned_cell {w w' : World} {bm : Nat} (h : w.mapTurned w' bm) {p : Addr} {v : Value} (hc : w.cell? p = some v) : w'.cell? p = some v := by
  obtain ⟨es, clock, es', clock', hb, rfl⟩ := h
  have hne : p.block ≠ bm := fun e => by simp [World.cell?, e, hb] at hc
  refine (World.cell?_of_block (w := w) (w' := ChangeMaps.setBlock w bm (.map es' clock')) (a := p) ?_).trans hc
  simp [ChangeMaps.setBlock, Array.getElem?_setIfInBounds_ne (Ne.symm hne)]

theorem turned_block {w w' : World} {bm : Nat} (h : w.mapTurned w' bm) {k : Nat} (hk : k ≠ bm) : w'.heap[k]? = w.heap[k]? := by
  obtain ⟨es, clock, es', clock', hb, rfl⟩ := h
  simp [ChangeMaps.setBlock, Array.getElem?_setIfInBounds_ne (Ne.symm hk)]

theorem turned_below {w w' : World} {bm B : Nat} (h : w.mapTurned w' bm) (hB : B ≤ bm) : Below B w w' := by
  have hk : ∀ k, k < B → w'.heap[k]? = w.heap[k]? := fun k hk => turned_block h (by omega)
  obtain ⟨es, clock, es', clock', hb, rfl⟩ := h
  exact ⟨rfl, rfl, rfl, by simp [ChangeMaps.setBlock], hk⟩

theorem J.cong {M : Ms} {w : World} {jb c n : Nat} {mv : Value} {S S' : Nat → Bool} {HB QB : Nat → Nat} (j : J M w jb mv S HB QB c n) (hs : ∀ i, i < M.N → S i = S' i) : J M w jb mv S' HB QB c n :=
  ⟨j.c0, j.c1, j.f0, j.f1, j.mp.cong hs (fun _ _ _ => rfl), j.gt, fun i hi h => j.held i hi (by rw [hs i hi]; exact h)⟩

theorem J.turned {M : Ms} {w w' : World} {jb c n bm : Nat} {mv : Value} {S S' : Nat → Bool} {HB QB : Nat → Nat} (j : J M w jb mv S HB QB c n) (e : mv = .map (some bm)) (h : w.mapTurned w' bm) (mp : MapSt M w' mv n S' HB) (hs : ∀ i, i < M.N → S' i = true → S i = true) : J M w' jb mv S' HB QB c n := by
  have hlt := j.gt bm e
  refine ⟨turned_cell h j.c0, turned_cell h j.c1, ?_, ?_, mp, j.gt, fun i hi hS => ?_⟩
  · exact (World.frozen?_of_block (w := w) (turned_block h (k := jb) (by omega))).trans j.f0
  · exact (World.frozen?_of_block (w := w) (turned_block h (k := jb) (by omega))).trans j.f1
  · exact (j.held i hi (hs i hi hS)).keep (fun k hk _ hb => turned_block h (hb bm e)) j.mp

theorem Inc.turned {M : Ms} {w w' : World} {lb a i hb bm : Nat} (h : Inc M w lb a i hb) (b : w.mapTurned w' bm) : Inc M w' lb a i hb :=
  ⟨turned_cell b h.r0, turned_cell b h.r1, turned_cell b h.r2, turned_cell b h.r3, turned_cell b h.r4, turned_cell b h.r5, turned_cell b h.r6, turned_cell b h.r7, turned_cell b h.r8, fun q hq => turned_cell b (h.sq q hq)⟩

/-- While the expired are let go of: a of them are gone. -/
structure EI (M : Ms) (w wr : World) (jb : Nat) (mv : Value) (S : Nat → Bool) (HB QB : Nat → Nat) (cc nn lb : Nat) (ks : List Nat) (a : Nat) : Prop where
  j : J M wr jb mv (fun i => S i && !decide (i ∈ ks.take a)) HB QB cc nn
  inc : ∀ x (h : x < ks.length), ∃ hb, Inc M wr lb x ks[x] hb
  bel : Below jb w wr

theorem EI.step {M : Ms} (G : M.Good) {w wr X : World} {jb cc nn lb a : Nat} {mv : Value} {S : Nat → Bool} {HB QB : Nat → Nat} {ks : List Nat} (h : EI M w wr jb mv S HB QB cc nn lb ks a) (ha : a < ks.length) (hk : ∀ x ∈ ks, x < M.N ∧ S x = true) (hn : ks.Nodup)
    (hX : Below wr.heap.size wr X) (ty : TypeId) : ∃ w', (Builtin.delete_ #[52, 78] ty #[mv, M.KV ks[a]]).run Try.prog X = .ok (.tuple #[]) w' ∧ EI M w w' jb mv S HB QB cc nn lb ks (a + 1) ∧ ∀ p v, X.cell? p = some v → w'.cell? p = some v := by
  have jX := h.j.below hX
  have hin := hk _ (List.getElem_mem ha)
  have hnot : ks[a] ∉ ks.take a := by
    intro hm
    obtain ⟨b, hb, e⟩ := List.getElem_of_mem hm
    rw [List.getElem_take] at e
    have hb' : b < a := by simp at hb; omega
    exact (List.pairwise_iff_getElem.1 hn b a (by omega) ha hb') e
  obtain ⟨w', bm, e, hrun, mp, ht⟩ := jX.mp.drop G hin.1 (by simp [hin.2, hnot]) ty
  have jlt : jb < wr.heap.size := World.block_lt_of_cell? wr _ h.j.c0
  refine ⟨w', hrun, ⟨?_, fun x hx => ?_, (h.bel.trans (hX.mono (Nat.le_of_lt jlt))).trans (turned_below ht (Nat.le_of_lt (jX.gt bm e)))⟩, fun p v hc => turned_cell ht hc⟩
  · refine (jX.turned e ht mp (fun i _ hS => by simp only [Bool.and_eq_true] at hS ⊢; exact hS.1)).cong (fun i hi => ?_)
    have et : ks.take (a + 1) = ks.take a ++ [ks[a]] := (List.take_append_getElem ha).symm
    simp only [et, List.mem_append, List.mem_singleton]
    by_cases h1 : i ∈ ks.take a <;> by_cases h2 : i = ks[a] <;> simp [h1, h2]
  · obtain ⟨hb, ic⟩ := h.inc x hx
    exact ⟨hb, (ic.below hX).turned ht⟩
end Go.Proofs.Qxb6613072a
