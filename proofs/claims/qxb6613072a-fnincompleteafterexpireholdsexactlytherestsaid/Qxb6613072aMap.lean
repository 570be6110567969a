import Derived.Test.Qxb6613072aHoldB
namespace Go.Proofs.Qxb6613072a
open Go.RowKit Go.Maps
set_option linter.unusedVariables false

/-- How an element (a pointer to a held message) reads: as its block's number. -/
def RP : Value → Option (DataW Unit × List MemPlace)
  | .pointer (some ⟨b, 0, none⟩) => some (.lit (.int .i64 b), [])
  | .pointer none => some (.nil, [])
  | _ => none

theorem RP_ptr (b : Nat) : RP (.pointer (some ⟨b, 0, none⟩)) = some (.lit (.int .i64 b), []) := rfl
theorem RP_nil : RP (.pointer none) = some (.nil, []) := rfl
theorem RP_inv {v : Value} {b : Nat} {ps : List MemPlace} (h : RP v = some (.lit (.int .i64 (b : Int)), ps)) : v = .pointer (some ⟨b, 0, none⟩) := by
  unfold RP at h
  split at h
  · rename_i c
    injection h with h1
    injection h1 with h2 h3
    injection h2 with h4
    injection h4 with h5 h6
    have : c = b := by omega
    rw [this]
  · injection h with h1
    injection h1 with h2 h3
    cases h2
  · cases h

structure Ms.Good (M : Ms) : Prop where
  N : M.N ≤ 4096
  key : ∀ i, i < M.N → keyOf Try.prog 78 (M.KV i) = some (M.κ i)
  dist : ∀ i j, i < M.N → j < M.N → M.KV i = M.KV j → i = j
  la : ∀ i, i < M.N → -9223372036854775808 ≤ M.La i ∧ M.La i < 9223372036854775808
  sl : ∀ i, i < M.N → M.SL i ≤ 255

theorem Ms.Good.κ_eq {M : Ms} (G : M.Good) {i : Nat} (hi : i < M.N) : keyOf Try.prog 78 (M.KV i) = some (M.κ i) := G.key i hi
theorem Ms.Good.κ_inj {M : Ms} (G : M.Good) {i j : Nat} (hi : i < M.N) (hj : j < M.N) (h : M.κ i = M.κ j) : i = j :=
  G.dist i j hi hj (key_keyed.inj (G.κ_eq hi) ((G.κ_eq hj).trans (congrArg some h.symm)))
theorem Ms.Good.κ_key {M : Ms} (G : M.Good) {i : Nat} (hi : i < M.N) : WideAt.IsKeyLit (M.κ i) := by
  have h := G.κ_eq hi
  generalize M.κ i = k at h ⊢
  exact key_keyed.key h

/-- What the datum of the map says, by the messages' numbers. -/
structure Tells (M : Ms) (D : DataW Unit) (S : Nat → Bool) (HB : Nat → Nat) : Prop where
  isMap : IsMap D
  has : ∀ i, i < M.N → Maps.has D (M.κ i) = S i
  at_ : ∀ i, i < M.N → S i = true → ∀ z, D.atKey (M.κ i) z = .lit (.int .i64 (HB i))
  only : ∀ kl, Maps.has D kl = true → ∃ i, i < M.N ∧ S i = true ∧ kl = M.κ i

def MapSt (M : Ms) (w : World) (mv : Value) (n : Nat) (S : Nat → Bool) (HB : Nat → Nat) : Prop :=
  (mv = .map none ∧ ∀ i, i < M.N → S i = false) ∨ ∃ bm, mv = .map (some bm) ∧ ∃ D, w.ownsMap Try.prog 78 RP bm n D ∧ Tells M D S HB

theorem Tells.empty (M : Ms) (HB : Nat → Nat) : Tells M (.map []) (fun _ => false) HB :=
  ⟨isMap_empty, fun _ _ => rfl, fun i _ h => (by cases h), fun kl h => (by cases h)⟩

theorem Tells.put {M : Ms} (G : M.Good) {D : DataW Unit} {S : Nat → Bool} {HB : Nat → Nat} (h : Tells M D S HB) {i : Nat} (hi : i < M.N) (hb : Nat) :
    Tells M (D.put (M.κ i) (.lit (.int .i64 hb))) (fun j => S j || decide (j = i)) (fun j => if j = i then hb else HB j) := by
  refine ⟨h.isMap.put _ _, fun j hj => ?_, fun j hj hs z => ?_, fun kl hk => ?_⟩
  · by_cases e : j = i
    · subst e; rw [has_put_same h.isMap (G.κ_key hi)]; simp
    · rw [has_put_other (fun e' => e (G.κ_inj hj hi e')), h.has j hj]; simp [e]
  · by_cases e : j = i
    · subst e; rw [atKey_put_same h.isMap (G.κ_key hi)]; simp
    · rw [atKey_put_other (fun e' => e (G.κ_inj hj hi e')), h.at_ j hj (by simpa [e] using hs)]; simp [e]
  · by_cases e : kl = M.κ i
    · exact ⟨i, hi, by simp, e⟩
    · rw [has_put_other e] at hk
      obtain ⟨j, hj, hs, e2⟩ := h.only kl hk
      exact ⟨j, hj, by simp [hs], e2⟩

theorem Tells.del {M : Ms} (G : M.Good) {D : DataW Unit} {S : Nat → Bool} {HB : Nat → Nat} (h : Tells M D S HB) {i : Nat} (hi : i < M.N) :
    Tells M (D.del (M.κ i)) (fun j => S j && !decide (j = i)) HB := by
  refine ⟨h.isMap.del _, fun j hj => ?_, fun j hj hs z => ?_, fun kl hk => ?_⟩
  · by_cases e : j = i
    · subst e; rw [has_del_same]; simp
    · rw [has_del_other (fun e' => e (G.κ_inj hj hi e')), h.has j hj]; simp [e]
  · by_cases e : j = i
    · subst e; simp at hs
    · rw [atKey_del_other (fun e' => e (G.κ_inj hj hi e')), h.at_ j hj (by simpa [e] using hs)]
  · by_cases e : kl = M.κ i
    · rw [e, has_del_same] at hk; cases hk
    · rw [has_del_other e] at hk
      obtain ⟨j, hj, hs, e2⟩ := h.only kl hk
      refine ⟨j, hj, ?_, e2⟩
      have : j ≠ i := fun e3 => e (by rw [e2, e3])
      simp [hs, this]

theorem MapSt.kept {M : Ms} {w w' : World} {mv : Value} {n : Nat} {S : Nat → Bool} {HB : Nat → Nat} (h : MapSt M w mv n S HB) (hk : ∀ b, mv = .map (some b) → w'.heap[b]? = w.heap[b]?) : MapSt M w' mv n S HB := by
  rcases h with h | ⟨bm, e, D, ⟨es, clock, hb, rest⟩, T⟩
  · exact Or.inl h
  · exact Or.inr ⟨bm, e, D, ⟨es, clock, (hk bm e).trans hb, rest⟩, T⟩
theorem MapSt.lt {M : Ms} {w : World} {bm n : Nat} {S : Nat → Bool} {HB : Nat → Nat} (h : MapSt M w (.map (some bm)) n S HB) : bm < w.heap.size := by
  rcases h with ⟨e, _⟩ | ⟨b, e, D, ho, T⟩
  · cases e
  · cases e; exact ho.lt
theorem MapSt.below {M : Ms} {w w' : World} {mv : Value} {n : Nat} {S : Nat → Bool} {HB : Nat → Nat} (h : MapSt M w mv n S HB) (hk : Below w.heap.size w w') : MapSt M w' mv n S HB :=
  h.kept (fun b e => by subst e; exact hk.block b h.lt)

/-- A map just made. -/
theorem MapSt.made (M : Ms) (w : World) (HB : Nat → Nat) : MapSt M (w.alloc (.map #[] 0)) (.map (some w.heap.size)) 0 (fun _ => false) HB :=
  Or.inr ⟨_, rfl, _, World.ownsMap_made w _ _ _, Tells.empty M HB⟩

theorem MapSt.cong {M : Ms} {w : World} {mv : Value} {n : Nat} {S S' : Nat → Bool} {HB HB' : Nat → Nat} (h : MapSt M w mv n S HB) (hs : ∀ i, i < M.N → S i = S' i) (hb : ∀ i, i < M.N → S i = true → HB i = HB' i) : MapSt M w mv n S' HB' := by
  rcases h with ⟨e, h0⟩ | ⟨bm, e, D, ho, T⟩
  · exact Or.inl ⟨e, fun i hi => by rw [← hs i hi]; exact h0 i hi⟩
  · refine Or.inr ⟨bm, e, D, ho, T.isMap, fun i hi => by rw [← hs i hi]; exact T.has i hi, fun i hi hS z => ?_, fun kl hk => ?_⟩
    · rw [← hs i hi] at hS; rw [← hb i hi hS]; exact T.at_ i hi hS z
    · obtain ⟨i, hi, h1, h2⟩ := T.only kl hk
      exact ⟨i, hi, by rw [← hs i hi]; exact h1, h2⟩

theorem zero63 (w : World) : (zeroValue 63).run Try.prog w = .ok (.pointer none) w := by kernel_rfl

theorem MapSt.look {M : Ms} (G : M.Good) {w : World} {mv : Value} {n : Nat} {S : Nat → Bool} {HB : Nat → Nat} (h : MapSt M w mv n S HB) {i : Nat} (hi : i < M.N) (hs : S i = true) :
    (Instr.lookup 52 mv (M.KV i) false).run Try.prog w = .ok (.pointer (some ⟨HB i, 0, none⟩)) w := by
  rcases h with ⟨e, h0⟩ | ⟨bm, rfl, D, ho, T⟩
  · rw [h0 i hi] at hs; cases hs
  · obtain ⟨v, ps, hrun, hv⟩ := ho.lookup key_keyed Try.underlying52 (zero63 w) RP_nil (G.κ_eq hi)
    rw [T.at_ i hi hs] at hv
    rw [RP_inv hv] at hrun
    exact hrun

theorem MapSt.update {M : Ms} (G : M.Good) {w : World} {bm n : Nat} {S : Nat → Bool} {HB : Nat → Nat} (h : MapSt M w (.map (some bm)) n S HB) (hn : n ≤ 4096) {i : Nat} (hi : i < M.N) (hb : Nat) :
    ∃ w', (Instr.mapUpdate 52 (.map (some bm)) (M.KV i) (.pointer (some ⟨hb, 0, none⟩))).run Try.prog w = .ok () w' ∧
      MapSt M w' (.map (some bm)) (n + 1) (fun j => S j || decide (j = i)) (fun j => if j = i then hb else HB j) ∧ w.grownBy w' (some bm) := by
  rcases h with ⟨e, _⟩ | ⟨b, e, D, ho, T⟩
  · cases e
  · cases e
    obtain ⟨w', hrun, ho', hg⟩ := ho.update key_keyed Try.underlying52 (by unfold maxLen; omega) (G.κ_eq hi) (RP_ptr hb)
    exact ⟨w', hrun, Or.inr ⟨bm, rfl, _, ho', T.put G hi hb⟩, hg⟩

theorem MapSt.drop {M : Ms} (G : M.Good) {w : World} {mv : Value} {n : Nat} {S : Nat → Bool} {HB : Nat → Nat} (h : MapSt M w mv n S HB) {i : Nat} (hi : i < M.N) (hs : S i = true) (ty : TypeId) :
    ∃ w' bm, mv = .map (some bm) ∧ (Builtin.delete_ #[52, 78] ty #[mv, M.KV i]).run Try.prog w = .ok (.tuple #[]) w' ∧ MapSt M w' mv n (fun j => S j && !decide (j = i)) HB ∧ w.mapTurned w' bm := by
  rcases h with ⟨e, h0⟩ | ⟨bm, rfl, D, ho, T⟩
  · rw [h0 i hi] at hs; cases hs
  · obtain ⟨w', hrun, ho', ht⟩ := ho.drop key_keyed Try.underlying52 (G.κ_eq hi) ty
    exact ⟨w', bm, rfl, hrun, Or.inr ⟨bm, rfl, _, ho', T.del G hi⟩, ht⟩

/-! ### ranging -/
def RangeSt (M : Ms) (w : World) (mv : Value) (r n : Nat) (S : Nat → Bool) (HB : Nat → Nat) (todo : Nat → Bool) (cnt : Nat) : Prop :=
  (mv = .map none ∧ w.heap[r]? = some (.mapIter none 0 #[] 0) ∧ cnt = 0 ∧ (∀ i, i < M.N → S i = false) ∧ ∀ i, i < M.N → todo i = false) ∨
  ∃ bm, mv = .map (some bm) ∧ ∃ D left, w.ranges Try.prog 78 RP bm r n D left cnt ∧ Tells M D S HB ∧ (∀ i, i < M.N → left (M.κ i) = todo i) ∧ ∀ kl, left kl = true → ∃ i, i < M.N ∧ S i = true ∧ kl = M.κ i

def rleft (w : World) (r : Nat) : Nat :=
  match w.heap[r]? with
  | some (.mapIter (some b) _ _ _) => w.rangeLeft b r
  | _ => 0

theorem RangeSt.left_eq {M : Ms} {w : World} {mv : Value} {r n : Nat} {S : Nat → Bool} {HB : Nat → Nat} {todo : Nat → Bool} {cnt : Nat} (h : RangeSt M w mv r n S HB todo cnt) : rleft w r = cnt := by
  rcases h with ⟨_, hr, h0, _⟩ | ⟨bm, _, D, left, hrg, _⟩
  · simp only [rleft, hr, h0]
  · have e := hrg.left_eq
    obtain ⟨es, clock, since, seen, c0, hb, _, _, _, hr, _⟩ := hrg
    simp only [rleft, hr, e]

theorem RangeSt.st {M : Ms} {w : World} {mv : Value} {r n : Nat} {S : Nat → Bool} {HB : Nat → Nat} {todo : Nat → Bool} {cnt : Nat} (h : RangeSt M w mv r n S HB todo cnt) : MapSt M w mv n S HB := by
  rcases h with ⟨e, _, _, h0, _⟩ | ⟨bm, e, D, left, hrg, T, _⟩
  · exact Or.inl ⟨e, h0⟩
  · exact Or.inr ⟨bm, e, D, hrg.owns, T⟩

theorem RangeSt.lt {M : Ms} {w : World} {mv : Value} {r n : Nat} {S : Nat → Bool} {HB : Nat → Nat} {todo : Nat → Bool} {cnt : Nat} (h : RangeSt M w mv r n S HB todo cnt) : r < w.heap.size := by
  rcases h with ⟨_, hr, _⟩ | ⟨bm, e, D, left, hrg, T, _⟩
  · exact (Array.getElem?_eq_some_iff.1 hr).1
  · exact hrg.lt

theorem RangeSt.kept {M : Ms} {w w' : World} {mv : Value} {r n : Nat} {S : Nat → Bool} {HB : Nat → Nat} {todo : Nat → Bool} {cnt : Nat} (h : RangeSt M w mv r n S HB todo cnt)
    (hm : ∀ b, mv = .map (some b) → w'.heap[b]? = w.heap[b]?) (hr' : w'.heap[r]? = w.heap[r]?) : RangeSt M w' mv r n S HB todo cnt := by
  rcases h with ⟨e, hr, rest⟩ | ⟨bm, e, D, left, ⟨es, clock, since, seen, c0, hb, F, hs, hD, hr, rest⟩, T⟩
  · exact Or.inl ⟨e, hr'.trans hr, rest⟩
  · exact Or.inr ⟨bm, e, D, left, ⟨es, clock, since, seen, c0, (hm bm e).trans hb, F, hs, hD, hr'.trans hr, rest⟩, T⟩

theorem MapSt.range {M : Ms} (G : M.Good) {w : World} {mv : Value} {n : Nat} {S : Nat → Bool} {HB : Nat → Nat} (h : MapSt M w mv n S HB) :
    ∃ w' cnt, (Instr.range 52 mv).run Try.prog w = .ok (.pointer (some ⟨w.heap.size, 0, none⟩)) w' ∧ RangeSt M w' mv w.heap.size n S HB S cnt ∧ w.grownBy w' none ∧ w'.heap.size = w.heap.size + 1 := by
  rcases h with ⟨rfl, h0⟩ | ⟨bm, rfl, D, ho, T⟩
  · exact ⟨_, 0, run_range_nilMap w 52 78 63 Try.underlying52, Or.inl ⟨rfl, (MapKept.heap_alloc w _).1, rfl, h0, h0⟩, World.grownBy_alloc w _ none, by simp⟩
  · obtain ⟨w', hrun, hrg, hg, hs⟩ := ho.range key_keyed Try.underlying52
    exact ⟨w', _, hrun, Or.inr ⟨bm, rfl, D, _, hrg, T, T.has, T.only⟩, hg, hs⟩

theorem RangeSt.next {M : Ms} (G : M.Good) {w : World} {mv : Value} {r n : Nat} {S : Nat → Bool} {HB : Nat → Nat} {todo : Nat → Bool} {cnt : Nat} (h : RangeSt M w mv r n S HB todo cnt) (ty : TypeId) :
    ((∀ i, i < M.N → todo i = false) ∧ (Instr.next (.pointer (some ⟨r, 0, none⟩)) false ty).run Try.prog w = .ok (.tuple #[.bool false]) w) ∨
    ∃ i w' cnt', i < M.N ∧ todo i = true ∧ S i = true ∧ (Instr.next (.pointer (some ⟨r, 0, none⟩)) false ty).run Try.prog w = .ok (.tuple #[.bool true, M.KV i, .pointer (some ⟨HB i, 0, none⟩)]) w' ∧
      RangeSt M w' mv r n S HB (fun j => todo j && !decide (j = i)) cnt' ∧ cnt' < cnt ∧ w.grownBy w' (some r) ∧ w'.heap.size = w.heap.size ∧
      (Instr.entry (.pointer (some ⟨r, 0, none⟩))).run Try.prog w' = .ok (.tuple #[M.KV i, .pointer (some ⟨HB i, 0, none⟩)]) w' := by
  rcases h with ⟨e, hr, h0, hS, ht⟩ | ⟨bm, e, D, left, hrg, T, hl, ho⟩
  · refine Or.inl ⟨ht, ?_⟩
    simp [Instr.next, getObj, Sem.run_bind, Sem.run, hr, Result.andThen]
  · rcases hrg.next key_keyed ty with ⟨h0, hl0, hrun⟩ | ⟨key, v, kl, y, w', cnt', hkey, hlk, hv, hat, hrun, hrg', hlt, hgr, hsz, hen⟩
    · exact Or.inl ⟨fun i hi => (hl i hi).symm.trans (hl0 _), hrun⟩
    · obtain ⟨i, hi, hSi, rfl⟩ := ho kl hlk
      obtain rfl : key = M.KV i := key_keyed.inj hkey (G.κ_eq hi)
      have hy := hat .nil
      rw [T.at_ i hi hSi] at hy
      obtain ⟨y1, y2⟩ := y
      simp only at hy
      rw [← hy] at hv
      obtain rfl := RP_inv hv
      refine Or.inr ⟨i, w', cnt', hi, (hl i hi).symm.trans hlk, hSi, hrun, Or.inr ⟨bm, e, D, _, hrg', T, fun j hj => ?_, fun kl hkl => ?_⟩, hlt, hgr, hsz, hen⟩
      · show (left (M.κ j) && !(M.κ j).sameKey (M.κ i)) = _
        rw [hl j hj]
        by_cases e1 : j = i
        · subst e1; rw [WideAt.sameKey_self (G.κ_key hi)]; simp
        · rw [sameKey_ne (fun e2 => e1 (G.κ_inj hj hi e2))]; simp [e1]
      · simp only [Bool.and_eq_true] at hkl
        exact ho kl hkl.1

section
variable (w : World) {ops : Array Oper} {rest : List Oper} {o : Oper} {a : Act} {Q : Exit → Act → World → Prop}
theorem wpList_next_mine {M : Ms} (G : M.Good) (hg : o.guard = none) (it : Operand) (hop : o.op = Op.next it false) (mv : Value) (r n : Nat) (S : Nat → Bool) (HB : Nat → Nat) (todo : Nat → Bool) (cnt : Nat)
    (hit : a.eval it = .pointer (some ⟨r, 0, none⟩)) (h : RangeSt M w mv r n S HB todo cnt)
    (hDone : (∀ i, i < M.N → todo i = false) → wpList Try.prog ops Q rest (a.put o.dst (.tuple #[.bool false])) w)
    (hMore : ∀ (i : Nat) (w' : World) (cnt' : Nat), i < M.N → todo i = true → S i = true → RangeSt M w' mv r n S HB (fun j => todo j && !decide (j = i)) cnt' → cnt' < cnt →
      w.grownBy w' (some r) → w'.heap.size = w.heap.size → (Instr.entry (.pointer (some ⟨r, 0, none⟩))).run Try.prog w' = .ok (.tuple #[M.KV i, .pointer (some ⟨HB i, 0, none⟩)]) w' →
      wpList Try.prog ops Q rest (a.put o.dst (.tuple #[.bool true, M.KV i, .pointer (some ⟨HB i, 0, none⟩)])) w') :
    wpList Try.prog ops Q (o :: rest) a w := by
  refine wpList_plain hg fun K' hK' => ?_
  unfold Oper.wp
  rcases h.next G o.type with ⟨h0, hrun⟩ | ⟨i, w', cnt', hi, ht, hS, hrun, hrg, hlt, hgr, hsz, hen⟩
  · simp [execOp, hop, hit, hrun, Result.andThen]
    exact hK' _ _ (hDone h0)
  · simp [execOp, hop, hit, hrun, Result.andThen]
    exact hK' _ _ (hMore i w' cnt' hi ht hS hrg hlt hgr hsz hen)

theorem wpList_range_mine {M : Ms} (G : M.Good) (hg : o.guard = none) (m : Operand) (hop : o.op = Op.range 52 m) (mv : Value) (n : Nat) (S : Nat → Bool) (HB : Nat → Nat)
    (hm : a.eval m = mv) (h : MapSt M w mv n S HB)
    (hK : ∀ w' cnt, RangeSt M w' mv w.heap.size n S HB S cnt → w.grownBy w' none → w'.heap.size = w.heap.size + 1 → wpList Try.prog ops Q rest (a.put o.dst (.pointer (some ⟨w.heap.size, 0, none⟩))) w') :
    wpList Try.prog ops Q (o :: rest) a w := by
  refine wpList_plain hg fun K' hK' => ?_
  obtain ⟨w', cnt, hrun, r1, r2, r3⟩ := h.range G
  unfold Oper.wp
  simp [execOp, hop, hm, hrun, Result.andThen]
  exact hK' _ _ (hK w' cnt r1 r2 r3)
end
end Go.Proofs.Qxb6613072a
