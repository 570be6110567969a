import Derived.Test.Qxb6613072aSortB
namespace Go.Proofs.Qxb6613072a
open Go.Shelf Go.RowKit Go.Lib Go.Sort
set_option linter.unusedVariables false

theorem nodup_len : ∀ (N : Nat) (l : List Nat), l.Nodup → (∀ x ∈ l, x < N) → l.length ≤ N
  | 0, l, _, h => by
    cases l with
    | nil => simp
    | cons a t => exact absurd (h a (by simp)) (Nat.not_lt_zero _)
  | N + 1, l, hn, h => by
    by_cases hm : N ∈ l
    · have h1 := nodup_len N (l.erase N) (hn.erase N) (fun x hx => by
        have := (hn.mem_erase_iff).1 hx
        have := h x this.2
        omega)
      rw [List.length_erase_of_mem hm] at h1
      omega
    · have h1 := nodup_len N l hn (fun x hx => by
        have := h x hx
        have : x ≠ N := fun e => hm (e ▸ hx)
        omega)
      omega

theorem asc_ext : ∀ (a b : List Nat), a.Pairwise (· < ·) → b.Pairwise (· < ·) → (∀ x, x ∈ a ↔ x ∈ b) → a = b
  | [], [], _, _, _ => rfl
  | [], y :: t, _, _, h => by have := (h y).2 (by simp); simp at this
  | x :: s, [], _, _, h => by have := (h x).1 (by simp); simp at this
  | x :: s, y :: t, ha, hb, h => by
    obtain ⟨a1, a2⟩ := List.pairwise_cons.1 ha
    obtain ⟨b1, b2⟩ := List.pairwise_cons.1 hb
    have e : x = y := by
      have h1 := (h x).1 (by simp)
      have h2 := (h y).2 (by simp)
      rcases List.mem_cons.1 h1 with e | e
      · exact e
      · rcases List.mem_cons.1 h2 with e2 | e2
        · exact e2.symm
        · have := a1 y e2
          have := b1 x e
          omega
    subst e
    rw [asc_ext s t a2 b2 (fun z => by
      constructor
      · intro hz
        have := (h z).1 (by simp [hz])
        rcases List.mem_cons.1 this with e | e
        · have := a1 z hz; omega
        · exact e
      · intro hz
        have := (h z).2 (by simp [hz])
        rcases List.mem_cons.1 this with e | e
        · have := b1 z hz; omega
        · exact e)]

/-- The messages that are listed, in the order they began. -/
def Ms.sel (M : Ms) (Q : Nat → Bool) : List Nat := (List.range M.N).filter Q
theorem sel_mem (M : Ms) (Q : Nat → Bool) (x : Nat) : x ∈ M.sel Q ↔ x < M.N ∧ Q x = true := by simp [Ms.sel]
theorem sel_asc (M : Ms) (Q : Nat → Bool) : (M.sel Q).Pairwise (· < ·) := (List.pairwise_lt_range).filter _

theorem sorted_sel {M : Ms} {Q : Nat → Bool} {ks ks' : List Nat} (hp : ks'.Perm ks) (hs : ks'.Pairwise (· ≤ ·)) (hn : ks.Nodup) (hm : ∀ x, x ∈ ks ↔ x < M.N ∧ Q x = true) : ks' = M.sel Q := by
  have hn' : ks'.Nodup := hp.nodup_iff.2 hn
  refine asc_ext _ _ ?_ (sel_asc M Q) (fun x => ?_)
  · refine List.pairwise_iff_getElem.2 (fun a b ha hb hab => ?_)
    have h1 := List.pairwise_iff_getElem.1 hs a b ha hb hab
    have h2 := List.pairwise_iff_getElem.1 hn' a b ha hb hab
    omega
  · rw [sel_mem, ← hm]; exact hp.mem_iff

/-- The keys' row, flat. -/
structure Row5 (M : Ms) (xs : List Value) (a i : Nat) : Prop where
  k0 : xs[a * 5]? = some (.string (M.O i))
  k1 : xs[a * 5 + 1]? = some (.int .i64 (M.Rf i))
  k2 : xs[a * 5 + 2]? = some (.int .i64 (M.To i))
  k3 : xs[a * 5 + 3]? = some (.int .u8 (M.El i))
  k4 : xs[a * 5 + 4]? = some (.int .u8 (M.Ty i))
def Rows5 (M : Ms) (xs : List Value) (ks : List Nat) : Prop := xs.length = ks.length * 5 ∧ ∀ a (h : a < ks.length), Row5 M xs a ks[a]
theorem Rows5.nil (M : Ms) : Rows5 M [] [] := ⟨rfl, fun a h => absurd h (Nat.not_lt_zero _)⟩
theorem Rows5.snoc {M : Ms} {xs : List Value} {ks : List Nat} (h : Rows5 M xs ks) (i : Nat) : Rows5 M (xs ++ M.enc i) (ks ++ [i]) := by
  have hl := h.1
  refine ⟨by simp [h.1, Ms.enc]; omega, fun a ha => ?_⟩
  simp at ha
  by_cases e : a < ks.length
  · have r := h.2 a e
    rw [List.getElem_append_left e]
    refine ⟨?_, ?_, ?_, ?_, ?_⟩
    · rw [List.getElem?_append_left (by omega)]; exact r.k0
    · rw [List.getElem?_append_left (by omega)]; exact r.k1
    · rw [List.getElem?_append_left (by omega)]; exact r.k2
    · rw [List.getElem?_append_left (by omega)]; exact r.k3
    · rw [List.getElem?_append_left (by omega)]; exact r.k4
  · have e2 : a = ks.length := by omega
    subst e2
    have e3 : (ks ++ [i])[ks.length]'(by simp) = i := by simp
    rw [e3]
    refine ⟨?_, ?_, ?_, ?_, ?_⟩
    · rw [List.getElem?_append_right (by omega), show ks.length * 5 - xs.length = 0 by omega]; rfl
    · rw [List.getElem?_append_right (by omega), show ks.length * 5 + 1 - xs.length = 1 by omega]; rfl
    · rw [List.getElem?_append_right (by omega), show ks.length * 5 + 2 - xs.length = 2 by omega]; rfl
    · rw [List.getElem?_append_right (by omega), show ks.length * 5 + 3 - xs.length = 3 by omega]; rfl
    · rw [List.getElem?_append_right (by omega), show ks.length * 5 + 4 - xs.length = 4 by omega]; rfl

theorem Rows5.key5 {M : Ms} {xs : List Value} {ks : List Nat} (h : Rows5 M xs ks) {w : World} {base g cap : Nat} (ho : w.ownsRow base 78 5 (.slice (some ⟨g, 0, none⟩) ks.length cap) ks.length xs) (a : Nat) (ha : a < ks.length) : Key5 M w g a ks[a] := by
  have r := h.2 a ha
  exact ⟨(ho.cellAt _ (by omega)).trans r.k0, (ho.cellAt _ (by omega)).trans r.k1, (ho.cellAt _ (by omega)).trans r.k2, (ho.cellAt _ (by omega)).trans r.k3, (ho.cellAt _ (by omega)).trans r.k4⟩

theorem five_new (w : World) (x0 x1 x2 x3 x4 : Value) (t : TypeId) : ∀ j u, [x0, x1, x2, x3, x4][j]? = some u → (w.alloc (.cells #[x0, x1, x2, x3, x4] t)).cell? ((⟨w.heap.size, 0, none⟩ : Addr).add j) = some u := by
  intro j u hj
  have h5 : j < 5 := by
    rcases Nat.lt_or_ge j 5 with h | h
    · exact h
    · rw [List.getElem?_eq_none (by simpa using h)] at hj; cases hj
  have e : (⟨w.heap.size, 0, none⟩ : Addr).add j = ⟨w.heap.size, j, none⟩ := by
    unfold Addr.add
    by_cases h0 : j = 0
    · simp [h0]
    · simp [h0]
  rw [e, World.cell?_alloc_at _ _ _ _ rfl, ← hj]
  simp

/-! ### sort.Slice at no key or one -/
theorem svK0 : Lib.swapperK 0 ((Try.prog.info? 78).get tell78) 25 = 1 := by kernel_rfl
theorem svK1 : Lib.swapperK 1 ((Try.prog.info? 78).get tell78) 25 = 2 := by kernel_rfl
theorem sort_tiny (w : World) (p : Option Addr) (n c : Nat) (hn : n ≤ 1) (lb : Array Value) :
    Calls Try.prog 39 #[.iface 86 (.slice p n c), .func (.func 40) #[] lb] w fun e w' => e = .returned (.tuple #[]) ∧ Go.RowKit.Below w.heap.size w w' := by
  have h : n = 0 ∨ n = 1 := by omega
  rcases h with rfl | rfl
  · refine (Any.sort_Slice_tiny sort_lay 86 78 ((Try.prog.info? 86).get tell86) ((Try.prog.info? 78).get tell78) (by kernel_rfl) (by kernel_rfl) (by kernel_rfl) (by kernel_rfl) 25 (fun _ => by kernel_rfl) p 0 c hn 49 (by rw [svK0]; kernel_rfl) (.func 40) #[] lb w).mono ?_
    rintro e w' ⟨rfl, os, rfl⟩
    refine ⟨rfl, rfl, rfl, rfl, by simp [grow], fun k hk => ?_⟩
    unfold grow
    exact Array.getElem?_append_left hk
  · refine (Any.sort_Slice_tiny sort_lay 86 78 ((Try.prog.info? 86).get tell86) ((Try.prog.info? 78).get tell78) (by kernel_rfl) (by kernel_rfl) (by kernel_rfl) (by kernel_rfl) 25 (fun _ => by kernel_rfl) p 1 c hn 50 (by rw [svK1]; kernel_rfl) (.func 40) #[] lb w).mono ?_
    rintro e w' ⟨rfl, os, rfl⟩
    refine ⟨rfl, rfl, rfl, rfl, by simp [grow], fun k hk => ?_⟩
    unfold grow
    exact Array.getElem?_append_left hk
end Go.Proofs.Qxb6613072a
