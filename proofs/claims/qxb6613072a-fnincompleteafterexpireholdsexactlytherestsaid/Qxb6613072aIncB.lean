import Derived.Test.Qxb6613072aIncA
namespace Go.Proofs.Qxb6613072a
open Go.RowKit Go.Maps
set_option linter.unusedVariables false

/-- The numbers, as far as they are copied. -/
def FillI (zs : List Value) (Q : Nat → Int) (q : Nat) : Prop := ∀ j, j < q → zs[j]? = some (.int .i64 (Q j))
theorem FillI.start (zs : List Value) (Q : Nat → Int) : FillI zs Q 0 := fun j hj => absurd hj (Nat.not_lt_zero _)
theorem FillI.step {zs : List Value} {Q : Nat → Int} {q : Nat} (h : FillI zs Q q) (hq : q < zs.length) : FillI (zs.set q (.int .i64 (Q q))) Q (q + 1) := by
  intro j hj
  by_cases e : j = q
  · subst e; rw [List.getElem?_set_self hq]
  · rw [List.getElem?_set_ne (by omega)]; exact h j (by omega)

/-- The element is laid: what was there, and what stands behind it. -/
theorem lay9 {M : Ms} {wq wi W5 : World} {lb n k i hk7 L b : Nat} {xs zs : List Value} {ks : List Nat} (OR : wq.ownsRow lb 45 9 (.slice (some ⟨lb, 0, none⟩) n n) n xs) (bQ : Below wq.heap.size wq wi) (BR : Below lb W5 wq) (hlb : lb < wq.heap.size)
    (FR : Fill9 M wq lb xs ks k) (hkn : k < ks.length) (hkl : ks.length = n) (hki : ks[k] = i) (lbhk : lb < hk7) (SI : hk7 < wi.heap.size) (hsl : M.SL i = L)
    (OI : wi.ownsRow b 3 1 (.slice (some ⟨hk7, 0, none⟩) L L) L zs) (FI : FillI zs (M.SQ i) L) :
    ((∃ t, wi.cell? ⟨lb, k * 9, none⟩ = some t) ∧ (∃ t, wi.cell? ⟨lb, k * 9 + 1, none⟩ = some t) ∧ (∃ t, wi.cell? ⟨lb, k * 9 + 2, none⟩ = some t) ∧ (∃ t, wi.cell? ⟨lb, k * 9 + 3, none⟩ = some t) ∧ (∃ t, wi.cell? ⟨lb, k * 9 + 4, none⟩ = some t) ∧ (∃ t, wi.cell? ⟨lb, k * 9 + 5, none⟩ = some t) ∧ (∃ t, wi.cell? ⟨lb, k * 9 + 6, none⟩ = some t) ∧ (∃ t, wi.cell? ⟨lb, k * 9 + 7, none⟩ = some t) ∧ (∃ t, wi.cell? ⟨lb, k * 9 + 8, none⟩ = some t)) ∧ (∀ j, wi.frozen? ⟨lb, j, none⟩ = false) ∧
    ∃ xs', (((((((((wi.setCell ⟨lb, k * 9, none⟩ (.int .u8 (M.Ty i))).setCell ⟨lb, k * 9 + 1, none⟩ (.string (M.O i))).setCell ⟨lb, k * 9 + 2, none⟩ (.int .u8 (M.El i))).setCell ⟨lb, k * 9 + 3, none⟩ (.int .i64 (M.Rf i))).setCell ⟨lb, k * 9 + 4, none⟩ (.int .i64 (M.To i))).setCell ⟨lb, k * 9 + 5, none⟩ (.slice (some ⟨hk7, 0, none⟩) L L)).setCell ⟨lb, k * 9 + 6, none⟩ (.int .u64 (ns (M.La i)))).setCell ⟨lb, k * 9 + 7, none⟩ (.int .i64 (es (M.La i)))).setCell ⟨lb, k * 9 + 8, none⟩ (.pointer none)).ownsRow lb 45 9 (.slice (some ⟨lb, 0, none⟩) n n) n xs' ∧ Below lb W5 (((((((((wi.setCell ⟨lb, k * 9, none⟩ (.int .u8 (M.Ty i))).setCell ⟨lb, k * 9 + 1, none⟩ (.string (M.O i))).setCell ⟨lb, k * 9 + 2, none⟩ (.int .u8 (M.El i))).setCell ⟨lb, k * 9 + 3, none⟩ (.int .i64 (M.Rf i))).setCell ⟨lb, k * 9 + 4, none⟩ (.int .i64 (M.To i))).setCell ⟨lb, k * 9 + 5, none⟩ (.slice (some ⟨hk7, 0, none⟩) L L)).setCell ⟨lb, k * 9 + 6, none⟩ (.int .u64 (ns (M.La i)))).setCell ⟨lb, k * 9 + 7, none⟩ (.int .i64 (es (M.La i)))).setCell ⟨lb, k * 9 + 8, none⟩ (.pointer none)) ∧ lb < (((((((((wi.setCell ⟨lb, k * 9, none⟩ (.int .u8 (M.Ty i))).setCell ⟨lb, k * 9 + 1, none⟩ (.string (M.O i))).setCell ⟨lb, k * 9 + 2, none⟩ (.int .u8 (M.El i))).setCell ⟨lb, k * 9 + 3, none⟩ (.int .i64 (M.Rf i))).setCell ⟨lb, k * 9 + 4, none⟩ (.int .i64 (M.To i))).setCell ⟨lb, k * 9 + 5, none⟩ (.slice (some ⟨hk7, 0, none⟩) L L)).setCell ⟨lb, k * 9 + 6, none⟩ (.int .u64 (ns (M.La i)))).setCell ⟨lb, k * 9 + 7, none⟩ (.int .i64 (es (M.La i)))).setCell ⟨lb, k * 9 + 8, none⟩ (.pointer none)).heap.size ∧ Fill9 M (((((((((wi.setCell ⟨lb, k * 9, none⟩ (.int .u8 (M.Ty i))).setCell ⟨lb, k * 9 + 1, none⟩ (.string (M.O i))).setCell ⟨lb, k * 9 + 2, none⟩ (.int .u8 (M.El i))).setCell ⟨lb, k * 9 + 3, none⟩ (.int .i64 (M.Rf i))).setCell ⟨lb, k * 9 + 4, none⟩ (.int .i64 (M.To i))).setCell ⟨lb, k * 9 + 5, none⟩ (.slice (some ⟨hk7, 0, none⟩) L L)).setCell ⟨lb, k * 9 + 6, none⟩ (.int .u64 (ns (M.La i)))).setCell ⟨lb, k * 9 + 7, none⟩ (.int .i64 (es (M.La i)))).setCell ⟨lb, k * 9 + 8, none⟩ (.pointer none)) lb xs' ks (k + 1) := by
  have ORI := OR.kept (w' := wi) (row := none) ⟨bQ.os, bQ.tape, bQ.output, bQ.size, fun j hj _ => bQ.block j hj⟩ (Or.inr (by simp [Value.ownBlock]))
  have hxl : xs.length = n * 9 := OR.1
  have cell : ∀ j, j < n * 9 → ∃ t, wi.cell? ⟨lb, j, none⟩ = some t := fun j hj => ⟨xs[j]'(by omega), (ORI.cellAt j hj).trans (List.getElem?_eq_getElem (by omega))⟩
  obtain ⟨N1, N2, N3, N4⟩ := nine wi lb (k * 9) (.int .u8 (M.Ty i)) (.string (M.O i)) (.int .u8 (M.El i)) (.int .i64 (M.Rf i)) (.int .i64 (M.To i)) (.slice (some ⟨hk7, 0, none⟩) L L) (.int .u64 (ns (M.La i))) (.int .i64 (es (M.La i))) (.pointer none)
  generalize (((((((((wi.setCell ⟨lb, k * 9, none⟩ (.int .u8 (M.Ty i))).setCell ⟨lb, k * 9 + 1, none⟩ (.string (M.O i))).setCell ⟨lb, k * 9 + 2, none⟩ (.int .u8 (M.El i))).setCell ⟨lb, k * 9 + 3, none⟩ (.int .i64 (M.Rf i))).setCell ⟨lb, k * 9 + 4, none⟩ (.int .i64 (M.To i))).setCell ⟨lb, k * 9 + 5, none⟩ (.slice (some ⟨hk7, 0, none⟩) L L)).setCell ⟨lb, k * 9 + 6, none⟩ (.int .u64 (ns (M.La i)))).setCell ⟨lb, k * 9 + 7, none⟩ (.int .i64 (es (M.La i)))).setCell ⟨lb, k * 9 + 8, none⟩ (.pointer none)) = W9 at *
  refine ⟨⟨cell _ (by omega), cell _ (by omega), cell _ (by omega), cell _ (by omega), cell _ (by omega), cell _ (by omega), cell _ (by omega), cell _ (by omega), cell _ (by omega)⟩, fun j => ORI.frozenAt j, _, N3 _ _ _ _ ORI, N4 lb W5 (Nat.le_refl _) (BR.trans (bQ.mono (Nat.le_of_lt hlb))), ?_, ?_⟩
  · rw [N2]; exact Nat.lt_of_lt_of_le hlb bQ.size
  · refine FR.step hkn (by omega) (fun j hj hne => (N1 j hne).trans (bQ.block j hj)) (by rw [N2]; exact bQ.size) hk7 lbhk (by rw [N2]; exact SI) i hki ?_ _ _ _ _ _ _ _ _ _ rfl rfl rfl rfl rfl (by rw [hsl]) rfl rfl rfl
    intro q hq
    rw [hsl] at hq
    exact (World.cell?_of_block (w := wi) (w' := W9) (a := ⟨hk7, q, none⟩) (N1 hk7 (by omega))).trans ((OI.cellAt q (by omega)).trans (FI q hq))
end Go.Proofs.Qxb6613072a
