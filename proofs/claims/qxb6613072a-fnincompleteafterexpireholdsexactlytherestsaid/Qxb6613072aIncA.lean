import Derived.Test.Qxb6613072aList
namespace Go.Proofs.Qxb6613072a
open Go.RowKit Go.Maps
set_option linter.unusedVariables false

theorem sort_any (M : Ms) (G : M.Good) (w0 w : World) (b2 b5 jb g c cc nn base : Nat) (mv : Value) (S : Nat → Bool) (HB QB : Nat → Nat) (ks : List Nat) (xs : List Value)
    (hJ : J M w0 jb mv S HB QB cc nn) (hB : Below w0.heap.size w0 w) (hg0 : w0.heap.size ≤ g) (hg : g < w.heap.size) (n2 : b2 ≠ g) (n5 : b5 ≠ g)
    (h2 : w.cell? ⟨b2, 0, none⟩ = some (.pointer (some ⟨jb, 0, none⟩))) (h5 : w.cell? ⟨b5, 0, none⟩ = some (.slice (some ⟨g, 0, none⟩) ks.length c))
    (hks : ∀ x ∈ ks, x < M.N ∧ S x = true) (hl : ks.length ≤ 4096) (own : w.ownsRow base 78 5 (.slice (some ⟨g, 0, none⟩) ks.length c) ks.length xs) (rows : Rows5 M xs ks) :
    Calls Try.prog 39 #[.iface 86 (.slice (some ⟨g, 0, none⟩) ks.length c), .func (.func 40) #[] #[.pointer (some ⟨b2, 0, none⟩), .pointer (some ⟨b5, 0, none⟩)]] w (SPost M w g ks) := by
  by_cases h : 2 ≤ ks.length
  · exact sort_big M G w0 w b2 b5 jb g c cc nn mv S HB QB ks hJ hB hg0 hg n2 n5 h2 h5 hks h hl (fun a ha => rows.key5 own a ha) (fun j _ => own.frozenAt j)
  · refine (sort_tiny w (some ⟨g, 0, none⟩) ks.length c (by omega) _).mono ?_
    rintro e w' ⟨rfl, hb⟩
    refine ⟨rfl, ks, List.Perm.refl _, ?_, fun a ha => ?_, hb.mono (Nat.le_of_lt hg)⟩
    · match ks, h with
      | [], _ => exact List.Pairwise.nil
      | [x], _ => simp
      | x :: y :: t, h => simp at h
    · have k := rows.key5 own a ha
      exact ⟨keepCell hb k.k0, keepCell hb k.k1, keepCell hb k.k2, keepCell hb k.k3, keepCell hb k.k4⟩

/-- The nine cells of an Incomplete, in a row laid flat; its numbers lie in block hb. -/
structure Row9 (M : Ms) (xs : List Value) (a i hb : Nat) : Prop where
  r0 : xs[a * 9]? = some (.int .u8 (M.Ty i))
  r1 : xs[a * 9 + 1]? = some (.string (M.O i))
  r2 : xs[a * 9 + 2]? = some (.int .u8 (M.El i))
  r3 : xs[a * 9 + 3]? = some (.int .i64 (M.Rf i))
  r4 : xs[a * 9 + 4]? = some (.int .i64 (M.To i))
  r5 : xs[a * 9 + 5]? = some (.slice (some ⟨hb, 0, none⟩) (M.SL i) (M.SL i))
  r6 : xs[a * 9 + 6]? = some (.int .u64 (ns (M.La i)))
  r7 : xs[a * 9 + 7]? = some (.int .i64 (es (M.La i)))
  r8 : xs[a * 9 + 8]? = some (.pointer none)

def Fill9 (M : Ms) (w : World) (lb : Nat) (xs : List Value) (ks : List Nat) (k : Nat) : Prop :=
  ∀ a, a < k → ∀ (h : a < ks.length), ∃ hb, lb < hb ∧ hb < w.heap.size ∧ Row9 M xs a ks[a] hb ∧ ∀ q, q < M.SL ks[a] → w.cell? ⟨hb, q, none⟩ = some (.int .i64 (M.SQ ks[a] q))

theorem Fill9.start (M : Ms) (w : World) (lb : Nat) (xs : List Value) (ks : List Nat) : Fill9 M w lb xs ks 0 := fun a ha => absurd ha (Nat.not_lt_zero _)

/-- One element more is laid. -/
theorem Fill9.step {M : Ms} {w w' : World} {lb : Nat} {xs : List Value} {ks : List Nat} {k : Nat} (h : Fill9 M w lb xs ks k) (hk : k < ks.length) (hl : xs.length = ks.length * 9)
    (keep : ∀ j, j < w.heap.size → j ≠ lb → w'.heap[j]? = w.heap[j]?) (hs : w.heap.size ≤ w'.heap.size) (hb : Nat) (h1 : lb < hb) (h2 : hb < w'.heap.size) (i : Nat) (hi : ks[k] = i)
    (hq : ∀ q, q < M.SL i → w'.cell? ⟨hb, q, none⟩ = some (.int .i64 (M.SQ i q))) (v0 v1 v2 v3 v4 v5 v6 v7 v8 : Value)
    (e0 : v0 = .int .u8 (M.Ty i)) (e1 : v1 = .string (M.O i)) (e2 : v2 = .int .u8 (M.El i)) (e3 : v3 = .int .i64 (M.Rf i)) (e4 : v4 = .int .i64 (M.To i)) (e5 : v5 = .slice (some ⟨hb, 0, none⟩) (M.SL i) (M.SL i))
    (e6 : v6 = .int .u64 (ns (M.La i))) (e7 : v7 = .int .i64 (es (M.La i))) (e8 : v8 = .pointer none) :
    Fill9 M w' lb (((((((((xs.set (k * 9) v0).set (k * 9 + 1) v1).set (k * 9 + 2) v2).set (k * 9 + 3) v3).set (k * 9 + 4) v4).set (k * 9 + 5) v5).set (k * 9 + 6) v6).set (k * 9 + 7) v7).set (k * 9 + 8) v8) ks (k + 1) := by
  subst e0 e1 e2 e3 e4 e5 e6 e7 e8
  intro a ha hal
  by_cases e : a = k
  · subst e
    rw [hi]
    refine ⟨hb, h1, h2, ?_, hq⟩
    constructor
    all_goals simp (disch := first | omega | (simp only [List.length_set]; omega)) only [List.getElem?_set_ne, List.getElem?_set_self]
  · obtain ⟨hb', b1, b2, r, bq⟩ := h a (by omega) hal
    refine ⟨hb', b1, Nat.lt_of_lt_of_le b2 hs, ?_, fun q hq' => (World.cell?_of_block (w := w) (keep hb' b2 (by omega))).trans (bq q hq')⟩
    constructor
    · simp (disch := omega) only [List.getElem?_set_ne]; exact r.r0
    · simp (disch := omega) only [List.getElem?_set_ne]; exact r.r1
    · simp (disch := omega) only [List.getElem?_set_ne]; exact r.r2
    · simp (disch := omega) only [List.getElem?_set_ne]; exact r.r3
    · simp (disch := omega) only [List.getElem?_set_ne]; exact r.r4
    · simp (disch := omega) only [List.getElem?_set_ne]; exact r.r5
    · simp (disch := omega) only [List.getElem?_set_ne]; exact r.r6
    · simp (disch := omega) only [List.getElem?_set_ne]; exact r.r7
    · simp (disch := omega) only [List.getElem?_set_ne]; exact r.r8

/-- What element a of the list is, in world w. -/
structure Inc (M : Ms) (w : World) (lb a i hb : Nat) : Prop where
  r0 : w.cell? ⟨lb, a * 9, none⟩ = some (.int .u8 (M.Ty i))
  r1 : w.cell? ⟨lb, a * 9 + 1, none⟩ = some (.string (M.O i))
  r2 : w.cell? ⟨lb, a * 9 + 2, none⟩ = some (.int .u8 (M.El i))
  r3 : w.cell? ⟨lb, a * 9 + 3, none⟩ = some (.int .i64 (M.Rf i))
  r4 : w.cell? ⟨lb, a * 9 + 4, none⟩ = some (.int .i64 (M.To i))
  r5 : w.cell? ⟨lb, a * 9 + 5, none⟩ = some (.slice (some ⟨hb, 0, none⟩) (M.SL i) (M.SL i))
  r6 : w.cell? ⟨lb, a * 9 + 6, none⟩ = some (.int .u64 (ns (M.La i)))
  r7 : w.cell? ⟨lb, a * 9 + 7, none⟩ = some (.int .i64 (es (M.La i)))
  r8 : w.cell? ⟨lb, a * 9 + 8, none⟩ = some (.pointer none)
  sq : ∀ q, q < M.SL i → w.cell? ⟨hb, q, none⟩ = some (.int .i64 (M.SQ i q))

theorem Fill9.inc {M : Ms} {w : World} {lb base : Nat} {xs : List Value} {ks : List Nat} {k n c : Nat} (h : Fill9 M w lb xs ks k) (ho : w.ownsRow base 45 9 (.slice (some ⟨lb, 0, none⟩) n c) n xs) (hn : ks.length = n) (a : Nat) (ha : a < k) (hal : a < ks.length) : ∃ hb, Inc M w lb a ks[a] hb := by
  obtain ⟨hb, _, _, r, hq⟩ := h a ha hal
  exact ⟨hb, (ho.cellAt _ (by omega)).trans r.r0, (ho.cellAt _ (by omega)).trans r.r1, (ho.cellAt _ (by omega)).trans r.r2, (ho.cellAt _ (by omega)).trans r.r3, (ho.cellAt _ (by omega)).trans r.r4, (ho.cellAt _ (by omega)).trans r.r5, (ho.cellAt _ (by omega)).trans r.r6, (ho.cellAt _ (by omega)).trans r.r7, (ho.cellAt _ (by omega)).trans r.r8, hq⟩

/-- What 'incomplete' gives: the messages of ks, in that order. -/
def IPost (M : Ms) (w : World) (ks : List Nat) (e : Ending) (w' : World) : Prop :=
  ∃ lb, e = .returned (.slice (some ⟨lb, 0, none⟩) ks.length ks.length) ∧ w.heap.size ≤ lb ∧ Below w.heap.size w w' ∧ ∀ a (h : a < ks.length), ∃ hb, Inc M w' lb a ks[a] hb

/-- Nine cells are laid in a row. -/
theorem nine (w : World) (lb o : Nat) (v0 v1 v2 v3 v4 v5 v6 v7 v8 : Value) :
    (∀ j, j ≠ lb → (((((((((w.setCell ⟨lb, o, none⟩ v0).setCell ⟨lb, o + 1, none⟩ v1).setCell ⟨lb, o + 2, none⟩ v2).setCell ⟨lb, o + 3, none⟩ v3).setCell ⟨lb, o + 4, none⟩ v4).setCell ⟨lb, o + 5, none⟩ v5).setCell ⟨lb, o + 6, none⟩ v6).setCell ⟨lb, o + 7, none⟩ v7).setCell ⟨lb, o + 8, none⟩ v8).heap[j]? = w.heap[j]?) ∧ (((((((((w.setCell ⟨lb, o, none⟩ v0).setCell ⟨lb, o + 1, none⟩ v1).setCell ⟨lb, o + 2, none⟩ v2).setCell ⟨lb, o + 3, none⟩ v3).setCell ⟨lb, o + 4, none⟩ v4).setCell ⟨lb, o + 5, none⟩ v5).setCell ⟨lb, o + 6, none⟩ v6).setCell ⟨lb, o + 7, none⟩ v7).setCell ⟨lb, o + 8, none⟩ v8).heap.size = w.heap.size ∧
    (∀ base n c xs, w.ownsRow base 45 9 (.slice (some ⟨lb, 0, none⟩) n c) n xs → (((((((((w.setCell ⟨lb, o, none⟩ v0).setCell ⟨lb, o + 1, none⟩ v1).setCell ⟨lb, o + 2, none⟩ v2).setCell ⟨lb, o + 3, none⟩ v3).setCell ⟨lb, o + 4, none⟩ v4).setCell ⟨lb, o + 5, none⟩ v5).setCell ⟨lb, o + 6, none⟩ v6).setCell ⟨lb, o + 7, none⟩ v7).setCell ⟨lb, o + 8, none⟩ v8).ownsRow base 45 9 (.slice (some ⟨lb, 0, none⟩) n c) n (((((((((xs.set (o) v0).set (o + 1) v1).set (o + 2) v2).set (o + 3) v3).set (o + 4) v4).set (o + 5) v5).set (o + 6) v6).set (o + 7) v7).set (o + 8) v8)) ∧
    (∀ B w0, B ≤ lb → Below B w0 w → Below B w0 (((((((((w.setCell ⟨lb, o, none⟩ v0).setCell ⟨lb, o + 1, none⟩ v1).setCell ⟨lb, o + 2, none⟩ v2).setCell ⟨lb, o + 3, none⟩ v3).setCell ⟨lb, o + 4, none⟩ v4).setCell ⟨lb, o + 5, none⟩ v5).setCell ⟨lb, o + 6, none⟩ v6).setCell ⟨lb, o + 7, none⟩ v7).setCell ⟨lb, o + 8, none⟩ v8)) := by
  refine ⟨fun j hj => ?_, by simp [World.setCell], fun base n c xs h => ?_, fun B w0 hB h => ?_⟩
  · rw [Below.heap_setCell _ _ _ _ hj, Below.heap_setCell _ _ _ _ hj, Below.heap_setCell _ _ _ _ hj, Below.heap_setCell _ _ _ _ hj, Below.heap_setCell _ _ _ _ hj, Below.heap_setCell _ _ _ _ hj, Below.heap_setCell _ _ _ _ hj, Below.heap_setCell _ _ _ _ hj, Below.heap_setCell _ _ _ _ hj]
  · exact ((((((((((h.stored o v0).1.stored (o + 1) v1).1.stored (o + 2) v2).1.stored (o + 3) v3).1.stored (o + 4) v4).1.stored (o + 5) v5).1.stored (o + 6) v6).1.stored (o + 7) v7).1.stored (o + 8) v8).1)
  · exact (((((((((h.setCell (p := ⟨lb, o, none⟩) hB v0).setCell (p := ⟨lb, o + 1, none⟩) hB v1).setCell (p := ⟨lb, o + 2, none⟩) hB v2).setCell (p := ⟨lb, o + 3, none⟩) hB v3).setCell (p := ⟨lb, o + 4, none⟩) hB v4).setCell (p := ⟨lb, o + 5, none⟩) hB v5).setCell (p := ⟨lb, o + 6, none⟩) hB v6).setCell (p := ⟨lb, o + 7, none⟩) hB v7).setCell (p := ⟨lb, o + 8, none⟩) hB v8)
end Go.Proofs.Qxb6613072a
