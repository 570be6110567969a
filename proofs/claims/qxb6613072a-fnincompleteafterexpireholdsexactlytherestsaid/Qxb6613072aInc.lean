import Derived.Test.Qxb6613072aIncB
import Derived.Maps.AppendAt
namespace Go.Proofs.Qxb6613072a
open Go.RowKit Go.Maps
set_option linter.unusedVariables false

/-- While the keys are collected: what stands in world wr. -/
structure Col (M : Ms) (w wr : World) (jb : Nat) (mv : Value) (n : Nat) (S P : Nat → Bool) (HB : Nat → Nat) (v : Value) (ks : List Nat) (xs : List Value) (todo : Nat → Bool) (cnt : Nat) : Prop where
  rg : RangeSt M wr mv (w.heap.size + 1 + 1) n S HB todo cnt
  c2 : wr.cell? ⟨w.heap.size, 0, none⟩ = some (.pointer (some ⟨jb, 0, none⟩))
  c5 : wr.cell? ⟨w.heap.size + 1, 0, none⟩ = some v
  f5 : wr.frozen? ⟨w.heap.size + 1, 0, none⟩ = false
  own : wr.ownsRow (w.heap.size + 1 + 1 + 1) 78 5 v ks.length xs
  rows : Rows5 M xs ks
  bel : Below w.heap.size w wr
  size : w.heap.size + 1 + 1 + 1 ≤ wr.heap.size
  mem : ∀ i, i ∈ ks ↔ i < M.N ∧ S i = true ∧ todo i = false ∧ P i = true
  nd : ks.Nodup
  bml : ∀ b, mv = .map (some b) → b < w.heap.size


theorem own_shape {w : World} {base : Nat} {e : TypeId} {size : Nat} {v : Value} {n : Nat} {xs : List Value} (h : w.ownsRow base e size v n xs) (hv : v ≠ .slice none 0 0) : ∃ g cap, v = .slice (some ⟨g, 0, none⟩) n cap := by
  rcases h.2 with ⟨e, _⟩ | ⟨g, cap, cur, e, _⟩
  · exact absurd e hv
  · exact ⟨g, cap, e⟩

theorem own_cases {w : World} {base : Nat} {e : TypeId} {size : Nat} {v : Value} {n : Nat} {xs : List Value} (h : w.ownsRow base e size v n xs) : (v = .slice none 0 0 ∧ n = 0) ∨ ∃ g cap, v = .slice (some ⟨g, 0, none⟩) n cap ∧ base ≤ g ∧ g < w.heap.size := by
  have hlt := h.lt
  rcases h.2 with ⟨e, e2⟩ | ⟨g, cap, cur, e, hb, hg, _⟩
  · exact Or.inl ⟨e, e2⟩
  · exact Or.inr ⟨g, cap, e, hb, (Array.getElem?_eq_some_iff.1 hg).1⟩

theorem Fill9.drew {M : Ms} {w : World} {lb : Nat} {xs : List Value} {ks : List Nat} {k : Nat} (h : Fill9 M w lb xs ks k) : Fill9 M w.drew lb xs ks k := fun a ha hl => h a ha hl

theorem Try.info3 : (Try.prog.info? 3).map (fun i => (i.zero, i.size, i.bytes)) = some (some (.int .i64 0), 1, 8) := by kernel_rfl

theorem Col.start {M : Ms} {w w0 : World} {jb : Nat} {mv : Value} {n : Nat} {S P : Nat → Bool} {HB : Nat → Nat} {cnt : Nat}
    (hrg : RangeSt M w0 mv (w.heap.size + 1 + 1) n S HB S cnt) (hg : ((w.alloc (.cells #[.pointer (some ⟨jb, 0, none⟩)] 30)).alloc (.cells #[.slice none 0 0] 86)).grownBy w0 none)
    (hs : w0.heap.size = w.heap.size + 1 + 1 + 1) (hbm : ∀ b, mv = .map (some b) → b < w.heap.size) : Col M w w0 jb mv n S P HB (.slice none 0 0) [] [] S cnt := by
  have b1 : Below w.heap.size w ((w.alloc (.cells #[.pointer (some ⟨jb, 0, none⟩)] 30)).alloc (.cells #[.slice none 0 0] 86)) := ((Below.refl _ _).alloc (Nat.le_refl _) _).alloc (by simp) _
  have sz : ((w.alloc (.cells #[.pointer (some ⟨jb, 0, none⟩)] 30)).alloc (.cells #[.slice none 0 0] 86)).heap.size = w.heap.size + 1 + 1 := by simp
  have b2 : Below ((w.alloc (.cells #[.pointer (some ⟨jb, 0, none⟩)] 30)).alloc (.cells #[.slice none 0 0] 86)).heap.size ((w.alloc (.cells #[.pointer (some ⟨jb, 0, none⟩)] 30)).alloc (.cells #[.slice none 0 0] 86)) w0 := (Below.refl _ _).grown hg (Nat.le_refl _) (by intro k hk; cases hk)
  refine ⟨hrg, ?_, ?_, ?_, World.ownsRow_nil _ _ _ _, Rows5.nil M, b1.trans (b2.mono (by rw [sz]; omega)), by omega, fun i => ?_, List.nodup_nil, hbm⟩
  · exact keepCell b2 (by simp)
  · exact keepCell b2 (by simp)
  · exact (b2.frozen (p := ⟨w.heap.size + 1, 0, none⟩) (by rw [sz]; show w.heap.size + 1 < _; omega)).trans (by simp)
  · constructor
    · intro h; cases h
    · rintro ⟨_, h1, h2, _⟩; rw [h1] at h2; cases h2

/-- What still stands in W3, where only new blocks and the iterator have been written since wr. -/
theorem Col.later {M : Ms} {w wr w1 W3 : World} {jb : Nat} {mv : Value} {n : Nat} {S P : Nat → Bool} {HB : Nat → Nat} {v : Value} {ks : List Nat} {xs : List Value} {todo todo' : Nat → Bool} {cnt cnt' : Nat}
    (h : Col M w wr jb mv n S P HB v ks xs todo cnt) (hrg : RangeSt M w1 mv (w.heap.size + 1 + 1) n S HB todo' cnt') (hg : wr.grownBy w1 (some (w.heap.size + 1 + 1))) (hb : Below w1.heap.size w1 W3) :
    RangeSt M W3 mv (w.heap.size + 1 + 1) n S HB todo' cnt' ∧ W3.cell? ⟨w.heap.size, 0, none⟩ = some (.pointer (some ⟨jb, 0, none⟩)) ∧ W3.cell? ⟨w.heap.size + 1, 0, none⟩ = some v ∧ W3.frozen? ⟨w.heap.size + 1, 0, none⟩ = false ∧
    W3.ownsRow (w.heap.size + 1 + 1 + 1) 78 5 v ks.length xs ∧ Below w.heap.size w W3 ∧ w.heap.size + 1 + 1 + 1 ≤ W3.heap.size := by
  have s1 := h.size
  have s2 := hg.size
  have s3 := hb.size
  have g1 := hg.cell h.c2 (by intro e; injection e with e; simp only at e; omega)
  have g2 := hg.cell h.c5 (by intro e; injection e with e; simp only at e; omega)
  have g3 : w1.frozen? ⟨w.heap.size + 1, 0, none⟩ = false := (World.frozen?_of_block (w := wr) (hg.block (w.heap.size + 1) (by omega) (by intro e; injection e with e; omega))).trans h.f5
  have hne : v.ownBlock = none ∨ v.ownBlock ≠ some (w.heap.size + 1 + 1) := by
    cases hv : v.ownBlock with
    | none => exact Or.inl rfl
    | some k =>
      right
      intro e
      injection e with e
      have := (h.own.lt k hv).1
      omega
  have o1 := h.own.kept hg hne
  have gb : w1.grownBy W3 none := ⟨hb.os, hb.tape, hb.output, hb.size, fun k hk _ => hb.block k hk⟩
  have o2 := o1.kept gb (by cases hv : v.ownBlock with
    | none => exact Or.inl rfl
    | some k => right; simp)
  refine ⟨?_, keepCell hb g1, keepCell hb g2, ?_, o2, ?_, by omega⟩
  · exact hrg.kept (fun b e => hb.block b (by subst e; exact hrg.st.lt)) (hb.block _ hrg.lt)
  · exact (hb.frozen (p := ⟨w.heap.size + 1, 0, none⟩) (by show w.heap.size + 1 < _; omega)).trans g3
  · exact (h.bel.trans ((Below.refl _ _).grown hg (by omega) (by intro k e; injection e with e; omega))).trans (hb.mono (by omega))

theorem Col.skip {M : Ms} {w wr w1 W3 : World} {jb : Nat} {mv : Value} {n : Nat} {S P : Nat → Bool} {HB : Nat → Nat} {v : Value} {ks : List Nat} {xs : List Value} {todo : Nat → Bool} {cnt cnt' i : Nat}
    (h : Col M w wr jb mv n S P HB v ks xs todo cnt) (hrg : RangeSt M w1 mv (w.heap.size + 1 + 1) n S HB (fun j => todo j && !decide (j = i)) cnt') (hg : wr.grownBy w1 (some (w.heap.size + 1 + 1))) (hb : Below w1.heap.size w1 W3)
    (hP : P i = false) : Col M w W3 jb mv n S P HB v ks xs (fun j => todo j && !decide (j = i)) cnt' := by
  obtain ⟨a1, a2, a3, a4, a5, a6, a7⟩ := h.later hrg hg hb
  refine ⟨a1, a2, a3, a4, a5, h.rows, a6, a7, fun j => ?_, h.nd, h.bml⟩
  rw [h.mem j]
  by_cases e : j = i
  · subst e; simp [hP]
  · simp [e]

theorem Col.took {M : Ms} {w wr w1 W3 X F0 : World} {jb : Nat} {mv : Value} {n : Nat} {S P : Nat → Bool} {HB : Nat → Nat} {v v' : Value} {ks : List Nat} {xs : List Value} {todo : Nat → Bool} {cnt cnt' i : Nat}
    (h : Col M w wr jb mv n S P HB v ks xs todo cnt) (hrg : RangeSt M w1 mv (w.heap.size + 1 + 1) n S HB (fun j => todo j && !decide (j = i)) cnt') (hg : wr.grownBy w1 (some (w.heap.size + 1 + 1))) (hb : Below w1.heap.size w1 W3)
    (hi : i < M.N) (ht : todo i = true) (hS : S i = true) (hP : P i = true) (hX : Below W3.heap.size W3 X)
    (hown : F0.ownsRow (w.heap.size + 1 + 1 + 1) 78 5 v' (ks.length + 1) (xs ++ M.enc i)) (hgr : X.grownBy F0 v.ownBlock) :
    F0.cell? ⟨w.heap.size + 1, 0, none⟩ = some v ∧ F0.frozen? ⟨w.heap.size + 1, 0, none⟩ = false ∧
    Col M w (F0.setCell ⟨w.heap.size + 1, 0, none⟩ v') jb mv n S P HB v' (ks ++ [i]) (xs ++ M.enc i) (fun j => todo j && !decide (j = i)) cnt' := by
  obtain ⟨a1, a2, a3, a4, a5, a6, a7⟩ := h.later hrg hg (hb.trans (hX.mono hb.size))
  have s1 := hgr.size
  have low : ∀ k, k < w.heap.size + 1 + 1 + 1 → F0.heap[k]? = X.heap[k]? := fun k hk => hgr.block k (by omega) (by
    intro e
    have := (h.own.lt k e.symm).1
    omega)
  have f1 : F0.cell? ⟨w.heap.size + 1, 0, none⟩ = some v := (World.cell?_of_block (w := X) (low (w.heap.size + 1) (by omega))).trans a3
  have f2 : F0.frozen? ⟨w.heap.size + 1, 0, none⟩ = false := (World.frozen?_of_block (w := X) (low (w.heap.size + 1) (by omega))).trans a4
  have f3 : F0.cell? ⟨w.heap.size, 0, none⟩ = some (.pointer (some ⟨jb, 0, none⟩)) := (World.cell?_of_block (w := X) (low w.heap.size (by omega))).trans a2
  have bF : Below w.heap.size w F0 := a6.trans ⟨hgr.os, hgr.tape, hgr.output, hgr.size, fun k hk => low k (by omega)⟩
  refine ⟨f1, f2, ⟨?_, ?_, ?_, ?_, ?_, h.rows.snoc i, bF.setCell (p := ⟨w.heap.size + 1, 0, none⟩) (by show w.heap.size ≤ w.heap.size + 1; omega) _, ?_, fun j => ?_, ?_, h.bml⟩⟩
  · refine a1.kept (fun b e => ?_) ?_
    · subst e
      have l0 := h.bml b rfl
      rw [Below.heap_setCell _ _ _ _ (by show b ≠ w.heap.size + 1; omega)]
      exact low b (by omega)
    · rw [Below.heap_setCell _ _ _ _ (by show w.heap.size + 1 + 1 ≠ w.heap.size + 1; omega)]
      exact low _ (by omega)
  · exact (World.cell?_setCell_other _ _ _ _ (by simp)).trans f3
  · exact World.cell?_setCell_same' _ _ _ (by rw [f1]; rfl)
  · rw [World.frozen?_setCell]; exact f2
  · have := ownsRow_setCell_below hown (a := ⟨w.heap.size + 1, 0, none⟩) (by show w.heap.size + 1 < _; omega) v'
    simpa using this
  · have : (F0.setCell ⟨w.heap.size + 1, 0, none⟩ v').heap.size = F0.heap.size := by simp [World.setCell]
    omega
  · rw [List.mem_append, h.mem j]
    by_cases e : j = i
    · subst e; simp [hi, hS, hP]
    · simp [e]
  · rw [List.nodup_append]
    refine ⟨h.nd, by simp, fun a ha b hb' => ?_⟩
    simp at hb'
    subst hb'
    intro e
    subst e
    have := (h.mem a).1 ha
    rw [ht] at this
    simp at this

/-- What 'which' does at each held message. -/
def Which (M : Ms) (w : World) (S P : Nat → Bool) (HB : Nat → Nat) (f : Nat) (caps : Array Value) : Prop :=
  ∀ W i, i < M.N → S i = true → Below w.heap.size w W → Calls Try.prog f (#[.pointer (some ⟨HB i, 0, none⟩)] ++ caps) W fun e w' => e = .returned (.bool (P i)) ∧ Below W.heap.size W w'


set_option maxRecDepth 20000 in
set_option maxHeartbeats 4000000 in
theorem incomplete_call (M : Ms) (G : M.Good) (w : World) (jb cc nn : Nat) (mv : Value) (S P : Nat → Bool) (HB QB : Nat → Nat) (f : Nat) (caps : Array Value)
    (hJ : J M w jb mv S HB QB cc nn) (hW : Which M w S P HB f caps) (eg : ∀ args W, (callFunc f args).run Try.prog W = .ok (.enter f args) W) :
    Calls Try.prog 29 #[.pointer (some ⟨jb, 0, none⟩), .func (.func f) #[] caps] w (IPost M w (M.sel (fun i => S i && P i))) := by
  have JJ := hid hJ
  have WH := hid hW
  have c0 := hJ.c0
  clear hW
  have jlt : jb < w.heap.size := World.block_lt_of_cell? w _ hJ.c0
  have ne0 : w.heap.size ≠ jb := by omega
  clear hJ
  go_enter Try.func29, Try.ntmps29
  go_wp2_with (first
    | (at_range; refine wpList_range_mine _ G rfl _ rfl mv nn S HB rfl (JJ.out.mp.below (((Below.refl _ _).alloc (Nat.le_refl _) _).alloc (by simp) _)) ?_; intro w0 cnt0 hrg0 hg0 hs0)
    | go_in)
  have hsz : ((w.alloc (.cells #[.pointer (some ⟨jb, 0, none⟩)] 30)).alloc (.cells #[.slice none 0 0] 86)).heap.size = w.heap.size + 1 + 1 := by simp
  rw [hsz] at hrg0 hs0
  have CO : Hid (Col M w w0 jb mv nn S P HB (.slice none 0 0) [] [] S cnt0) := hid (Col.start hrg0 hg0 hs0 (fun b e => by subst e; exact JJ.out.mp.lt))
  have RL := hid hrg0.left_eq
  clear hrg0 hg0 hs0
  rw [hsz]
  go_frame
  obtain ⟨i0, hi78, hz0, hz1, hz2⟩ := info_parts Try.info78
  go_loopw [7] (fun _ wr => ∃ (v : Value) (ks : List Nat) (xs : List Value) (todo : Nat → Bool) (cnt : Nat), Hid (Col M w wr jb mv nn S P HB v ks xs todo cnt)) (fun _ wr => rleft wr (w.heap.size + 1 + 1))
  case atStart => exact ⟨_, _, _, _, _, CO⟩
  case round =>
    obtain ⟨v, ks, xs, todo, cnt, CR⟩ := hrel
    clear CO RL
    have hrg := CR.out.rg
    go_wp2_with (first
      | (at_next; refine wpList_next_mine _ G rfl _ rfl mv _ nn S HB todo cnt rfl hrg ?_ ?_)
      | go_in)
    · intro hdone
      have hmem : ∀ x, x ∈ ks ↔ x < M.N ∧ (S x && P x) = true := fun x => by
        rw [CR.out.mem x]
        constructor
        · rintro ⟨h1, h2, _, h3⟩; exact ⟨h1, by simp [h2, h3]⟩
        · rintro ⟨h1, h2⟩
          simp only [Bool.and_eq_true] at h2
          exact ⟨h1, h2.1, hdone x h1, h2.2⟩
      have hlen : ks.length ≤ M.N := nodup_len M.N ks CR.out.nd (fun x hx => ((hmem x).1 hx).1)
      have hN := G.N
      have MEM := hid hmem
      have k2 := CR.out.c2
      have k5 := CR.out.c5
      clear hmem hdone hrg
      obtain ⟨i45, hi45, hy0, hy1, hy2⟩ := info_parts Try.info45
      rcases own_cases CR.out.own with ⟨hv, hk0⟩ | ⟨g, cap, hv, hgb, hgs⟩
      · subst hv
        have ksn : ks = [] := List.length_eq_zero_iff.1 hk0
        have seln : M.sel (fun i => S i && P i) = [] := (sorted_sel (List.Perm.refl ks) (by rw [ksn]; exact List.Pairwise.nil) CR.out.nd MEM.out).symm.trans ksn
        have SEL := hid seln
        have C39 := hid (sort_tiny wr none 0 0 (by omega) #[.pointer (some ⟨w.heap.size, 0, none⟩), .pointer (some ⟨w.heap.size + 1, 0, none⟩)])
        clear ksn seln hk0
        go_wp2_with fail
        refine C39.out.mono ?_
        rintro e W5 ⟨rfl, h5⟩
        have q5 := keepCell h5 k5
        have B5 := hid (CR.out.bel.trans (h5.mono CR.out.bel.size))
        clear h5 k5 k2
        go_wp2_with (first
          | (at_make; refine wpList_make_full _ rfl _ _ 32 rfl W5.heap.size 45 i45 _ 9 Try.underlying32 hi45 hy0 hy1 .i64 .i64 _ _ 0 rfl rfl rfl rfl (by omega) (by unfold maxLen; omega) (Nat.le_refl _) ?_; intro w6 hown6 hgrow6; have q5 := keepCell ((Below.refl W5.heap.size W5).grown hgrow6 (Nat.le_refl _) (by intro k hk; cases hk)) q5)
          | go_in)
        have B6 := hid (B5.out.trans (((Below.refl W5.heap.size W5).grown hgrow6 (Nat.le_refl _) (by intro k hk; cases hk)).mono B5.out.size))
        clear hown6 hgrow6
        refine wp_loop_rounds 1 ?_
        rw [rounds_succ]
        go_wp2
        go_ret
        rw [SEL.out]
        exact ⟨W5.heap.size, rfl, B5.out.size, B6.out, fun a h => absurd h (Nat.not_lt_zero _)⟩
      · subst hv
        have C39 := hid (sort_any M G w wr w.heap.size (w.heap.size + 1) jb g cap cc nn (w.heap.size + 1 + 1 + 1) mv S HB QB ks xs JJ.out CR.out.bel (by omega) hgs (by omega) (by omega) k2 k5 (fun x hx => by have := (MEM.out x).1 hx; simp only [Bool.and_eq_true] at this; exact ⟨this.1, this.2.1⟩) (by omega) CR.out.own CR.out.rows)
        have hgw : w.heap.size + 1 + 1 + 1 ≤ g := hgb
        go_wp2_with fail
        refine C39.out.mono ?_
        rintro e W5 ⟨rfl, ks', hperm, hsort, hkey, h5⟩
        have SEL := hid (sorted_sel hperm hsort CR.out.nd MEM.out)
        have hkl := hperm.length_eq
        have KM : Hid (∀ x ∈ ks', x < M.N ∧ S x = true) := hid (fun x hx => by have := (MEM.out x).1 (hperm.mem_iff.1 hx); simp only [Bool.and_eq_true] at this; exact ⟨this.1, this.2.1⟩)
        have B5 := hid (CR.out.bel.trans (h5.mono (by omega)))
        have J5 := hid (JJ.out.below B5.out)
        have q2 := (h5.cell (p := ⟨w.heap.size, 0, none⟩) (by show w.heap.size < g; omega)).trans k2
        have q5 := (h5.cell (p := ⟨w.heap.size + 1, 0, none⟩) (by show w.heap.size + 1 < g; omega)).trans k5
        have KEY := hid hkey
        have Q2 := hid q2
        clear hperm hsort hkey h5 k2 k5 C39 CR MEM JJ q2 c0
        generalize hn : ks.length = n at *
        clear hn ks xs todo cnt
        have hnN : n ≤ 4096 := by omega
        go_wp2_with (first
          | (at_make; refine wpList_make_full _ rfl _ _ 32 rfl W5.heap.size 45 i45 _ 9 Try.underlying32 hi45 hy0 hy1 .i64 .i64 _ _ n rfl rfl rfl rfl (by rw [hy2]; omega) (by unfold maxLen; omega) (Nat.le_refl _) ?_; intro w6 hown6 hgrow6; have q5 := keepCell ((Below.refl W5.heap.size W5).grown hgrow6 (Nat.le_refl _) (by intro k hk; cases hk)) q5)
          | go_in)
        have hb6 : Below W5.heap.size W5 w6 := (Below.refl W5.heap.size W5).grown hgrow6 (Nat.le_refl _) (by intro k hk; cases hk)
        have hs6 := (hown6.lt W5.heap.size rfl).2
        generalize (madeCells (Value.agg #[.int .u8 0, .string ByteArray.empty, .int .u8 0, .int .i64 0, .int .i64 0, .slice none 0 0, .int .u64 0, .int .i64 0, .pointer none]).cells (n * 9)).toList = xs0 at hown6
        have OW := hid hown6
        have HB6 := hid hb6
        have HS6 := hid hs6
        clear hown6 hgrow6 hb6 hs6 q5
        obtain ⟨i3, hi3, hx0, hx1, hx2⟩ := info_parts Try.info3
        generalize hlb : W5.heap.size = lb at *
        have HLB := hid hlb
        clear hlb
        go_loopw [41] (fun t wq => ∃ (k : Nat) (xs : List Value), k ≤ n ∧ t = .int .i64 k ∧ Hid (wq.ownsRow lb 45 9 (.slice (some ⟨lb, 0, none⟩) n n) n xs) ∧ Hid (Below lb W5 wq) ∧ Hid (lb < wq.heap.size) ∧ Hid (Fill9 M wq lb xs ks' k)) (fun t _ => n - (intOf t).toNat)
        case atStart => exact ⟨0, xs0, Nat.zero_le _, rfl, OW, HB6, HS6, hid (Fill9.start _ _ _ _ _)⟩
        case round =>
          rename World => wq
          obtain ⟨k, xs, hk, rfl, OR, BR, SR, FR⟩ := hrel
          clear OW HB6 HS6
          by_cases hlt : k < n
          · have hkz : (k : Int) < (n : Int) := by omega
            have hkz0 : (0 : Int) ≤ (k : Int) := by omega
            have hkl' : k < ks'.length := by omega
            obtain ⟨hiN, hSi⟩ := KM.out ks'[k] (List.getElem_mem _)
            have BRW : Below W5.heap.size W5 wq := by rw [HLB.out]; exact BR.out
            have JR := hid (J5.out.below BRW)
            have ky := KEY.out k hkl'
            have y0 := keepCell BRW ky.k0
            have y1 := keepCell BRW ky.k1
            have y2 := keepCell BRW ky.k2
            have y3 := keepCell BRW ky.k3
            have y4 := keepCell BRW ky.k4
            generalize hki : ks'[k] = i at *
            have KI := hid hki
            clear hki ky BRW
            go_upto_region 12 with fail
            have bA : Below wq.heap.size wq (wq.alloc (.cells #[.string (M.O i), .int .i64 (M.Rf i), .int .i64 (M.To i), .int .u8 (M.El i), .int .u8 (M.Ty i)] 78)) := (Below.refl _ _).alloc (Nat.le_refl _) _
            have z0 : (wq.alloc (.cells #[.string (M.O i), .int .i64 (M.Rf i), .int .i64 (M.To i), .int .u8 (M.El i), .int .u8 (M.Ty i)] 78)).cell? ⟨wq.heap.size, 0, none⟩ = some (.string (M.O i)) := by simp
            have z1 : (wq.alloc (.cells #[.string (M.O i), .int .i64 (M.Rf i), .int .i64 (M.To i), .int .u8 (M.El i), .int .u8 (M.Ty i)] 78)).cell? ⟨wq.heap.size, 1, none⟩ = some (.int .i64 (M.Rf i)) := by simp
            have z2 : (wq.alloc (.cells #[.string (M.O i), .int .i64 (M.Rf i), .int .i64 (M.To i), .int .u8 (M.El i), .int .u8 (M.Ty i)] 78)).cell? ⟨wq.heap.size, 2, none⟩ = some (.int .i64 (M.To i)) := by simp
            have z3 : (wq.alloc (.cells #[.string (M.O i), .int .i64 (M.Rf i), .int .i64 (M.To i), .int .u8 (M.El i), .int .u8 (M.Ty i)] 78)).cell? ⟨wq.heap.size, 3, none⟩ = some (.int .u8 (M.El i)) := by simp
            have z4 : (wq.alloc (.cells #[.string (M.O i), .int .i64 (M.Rf i), .int .i64 (M.To i), .int .u8 (M.El i), .int .u8 (M.Ty i)] 78)).cell? ⟨wq.heap.size, 4, none⟩ = some (.int .u8 (M.Ty i)) := by simp
            have sA : (wq.alloc (.cells #[.string (M.O i), .int .i64 (M.Rf i), .int .i64 (M.To i), .int .u8 (M.El i), .int .u8 (M.Ty i)] 78)).heap.size = wq.heap.size + 1 := by simp
            have JA := hid (JR.out.below bA)
            have qa2 := keepCell bA ((BR.out.cell (p := ⟨w.heap.size, 0, none⟩) (by show w.heap.size < lb; have := World.block_lt_of_cell? W5 _ Q2.out; rw [HLB.out] at this; exact this)).trans Q2.out)
            clear y0 y1 y2 y3 y4
            generalize hA : wq.alloc (.cells #[.string (M.O i), .int .i64 (M.Rf i), .int .i64 (M.To i), .int .u8 (M.El i), .int .u8 (M.Ty i)] 78) = A1 at *
            clear hA
            have look := fun q => (JA.out.mp.drewN q).look G hiN hSi
            unfold Ms.KV at look
            have cj := JA.out.c0
            generalize hkb : wq.heap.size = kb at *
            have HKB := hid hkb
            have SA := hid sA
            have BA := hid bA
            clear hkb sA bA
            go_quiet (fail)
            go_upto_region 13 with fail
            have bD : Below A1.heap.size A1 (A1.drewN nq) := below_drew (Below.refl _ _) nq
            have JD := hid (JA.out.below bD)
            have Z0 := hid (keepCell bD z0)
            have Z1 := hid (keepCell bD z1)
            have Z2 := hid (keepCell bD z2)
            have Z3 := hid (keepCell bD z3)
            have Z4 := hid (keepCell bD z4)
            have SD : Hid ((A1.drewN nq).heap.size = kb + 1) := SA
            have BD := hid (BA.out.trans (bD.mono (by rw [← HKB.out]; exact BA.out.size)))
            clear bD z0 z1 z2 z3 z4 look cj qa2 JA SA BA
            generalize A1.drewN nq = A2 at *
            clear A1 nq
            have HE := hid (JD.out.held i hiN hSi)
            have c7 := HE.out.c7
            have hL := G.sl i hiN
            generalize hSL : M.SL i = L at *
            have HSL := hid hSL
            clear hSL
            go_wp2_with (first
              | (at_make; refine wpList_make_full _ rfl _ _ 34 rfl A2.heap.size 3 i3 _ 1 Try.underlying34 hi3 hx0 hx1 .i64 .i64 _ _ L rfl rfl rfl rfl (by rw [hx2]; omega) (by unfold maxLen; omega) (Nat.le_refl _) ?_; intro w7 hown7 hgrow7; have c7 := keepCell ((Below.refl A2.heap.size A2).grown hgrow7 (Nat.le_refl _) (by intro k hk; cases hk)) c7)
              | go_in)
            have bW7 : Below A2.heap.size A2 w7 := (Below.refl A2.heap.size A2).grown hgrow7 (Nat.le_refl _) (by intro k hk; cases hk)
            have hs7 := (hown7.lt A2.heap.size rfl).2
            generalize (madeCells (Value.int .i64 0).cells (L * 1)).toList = zs0 at hown7
            have O7 := hid hown7
            have B7 := hid bW7
            have S7 := hid hs7
            clear hown7 hgrow7 bW7 hs7 c7
            have LHB : Hid (HB i < A2.heap.size) := hid (World.block_lt_of_cell? A2 _ HE.out.c0)
            have AKB : Hid (kb < A2.heap.size) := hid (by rw [SD.out]; omega)
            generalize hhk : A2.heap.size = hk7 at *
            have HHK := hid hhk
            clear hhk
            go_loopw [63] (fun t2 wi => ∃ (q : Nat) (zs : List Value), q ≤ L ∧ t2 = .int .i64 q ∧ Hid (wi.ownsRow hk7 3 1 (.slice (some ⟨hk7, 0, none⟩) L L) L zs) ∧ Hid (Below hk7 A2 wi) ∧ Hid (hk7 < wi.heap.size) ∧ Hid (FillI zs (M.SQ i) q)) (fun t2 _ => L - (intOf t2).toNat)
            case atStart => exact ⟨0, zs0, Nat.zero_le _, rfl, O7, B7, S7, hid (FillI.start _ _)⟩
            case round =>
              rename World => wi
              obtain ⟨q, zs, hq, rfl, OI, BI, SI, FI⟩ := hrel
              clear O7 B7 S7
              by_cases hql : q < L
              · have hqz : (q : Int) < (L : Int) := by omega
                have hqz0 : (0 : Int) ≤ (q : Int) := by omega
                have hzl : zs.length = L * 1 := OI.out.1
                have pt := HE.out.part q (by rw [HSL.out]; exact hql)
                have bI : Below A2.heap.size A2 wi := by rw [HHK.out]; exact BI.out
                have p0 := keepCell bI pt.p0
                have p1 := keepCell bI pt.p1
                have p2 := keepCell bI pt.p2
                have p3 := keepCell bI pt.p3
                have p4 := keepCell bI pt.p4
                have p5 := keepCell bI pt.p5
                have p6 := keepCell bI pt.p6
                have p7 := keepCell bI pt.p7
                have n0 := OI.out.cellAt q (by omega)
                rw [List.getElem?_eq_getElem (by omega)] at n0
                generalize zs[q] = zq at n0
                have fz := OI.out.frozenAt q
                have st := FI.out.step (by omega : q < zs.length)
                generalize M.SQ i q = x at p0 st
                have ST := hid st
                have OS := hid (OI.out.stored q (.int .i64 x)).1
                have BS := hid (BI.out.setCell (p := ⟨hk7, q, none⟩) (Nat.le_refl _) (.int .i64 x))
                have s0 := SI.out
                clear st pt bI hzl
                go_wp2
                go_roundw
                case rel => exact ⟨q + 1, _, by omega, by go_num, hid (OS.out.alloc _), hid (BS.out.alloc (by simp [World.setCell]; omega) _), hid (by simp [World.setCell]; omega), ST⟩
                case measure => simp [intOf]; omega
              · have HEQ : L = q := by omega
                subst HEQ
                clear hq hql
                go_upto_region 19 with fail
                have bI : Below A2.heap.size A2 wi := by rw [HHK.out]; exact BI.out
                have bQ : Below wq.heap.size wq wi := by
                  have h1 := BD.out
                  rw [← HKB.out] at h1
                  exact h1.trans (BI.out.mono (by have a1 := AKB.out; rw [HKB.out]; omega))
                have e0 := keepCell bI Z0.out
                have e1 := keepCell bI Z1.out
                have e2 := keepCell bI Z2.out
                have e3 := keepCell bI Z3.out
                have e4 := keepCell bI Z4.out
                have e5 := keepCell bI HE.out.c4
                have e6 := keepCell bI HE.out.c5
                have e7 := keepCell bI HE.out.c6
                have hlk : lb < hk7 := by have a1 := SR.out; have a2 := AKB.out; omega
                obtain ⟨⟨⟨t0, m0⟩, ⟨t1, m1⟩, ⟨t2, m2⟩, ⟨t3, m3⟩, ⟨t4, m4⟩, ⟨t5, m5⟩, ⟨t6, m6⟩, ⟨t7, m7⟩, ⟨t8, m8⟩⟩, fz, xs', O9, B9, S9, F9⟩ := lay9 OR.out bQ BR.out (by rw [HKB.out]; exact SR.out) FR.out hkl' hkl KI.out hlk SI.out HSL.out OI.out FI.out
                have O9H := hid O9
                have B9H := hid B9
                have S9H := hid S9
                have F9H := hid F9
                have f0 := fz (k * 9)
                have f1 := fz (k * 9 + 1)
                have f2 := fz (k * 9 + 2)
                have f3 := fz (k * 9 + 3)
                have f4 := fz (k * 9 + 4)
                have f5 := fz (k * 9 + 5)
                have f6 := fz (k * 9 + 6)
                have f7 := fz (k * 9 + 7)
                have f8 := fz (k * 9 + 8)
                have nkb : lb ≠ kb := by have a1 := SR.out; omega
                have nhb : lb ≠ HB i := by have a1 := World.block_lt_of_cell? W5 _ (J5.out.held i hiN hSi).c0; rw [HLB.out] at a1; simp only at a1; omega
                clear bI bQ O9 B9 S9 F9 fz hz0 hz1 hz2 hi78 hy0 hy1 hy2 hi45 hx0 hx1 hx2 hi3 eg hsz hlk
                generalize M.O i = o at *
                generalize M.Rf i = rf at *
                generalize M.To i = tot at *
                generalize M.El i = el at *
                generalize M.Ty i = ty at *
                generalize ns (M.La i) = la0 at *
                generalize es (M.La i) = la1 at *
                go_region_held3 (fun w' => w'.cell? ⟨kb, 0, none⟩ = some (.string o) ∧ w'.cell? ⟨kb, 1, none⟩ = some (.int .i64 rf) ∧ w'.cell? ⟨kb, 2, none⟩ = some (.int .i64 tot) ∧ w'.cell? ⟨kb, 3, none⟩ = some (.int .u8 el) ∧ w'.cell? ⟨kb, 4, none⟩ = some (.int .u8 ty) ∧ w'.cell? ⟨HB i, 4, none⟩ = some (.int .u64 la0) ∧ w'.cell? ⟨HB i, 5, none⟩ = some (.int .i64 la1) ∧ w'.cell? ⟨HB i, 6, none⟩ = some (.pointer none)) (go_keep) (fail)
                generalize (((((((((wi.setCell ⟨lb, k * 9, none⟩ (.int .u8 ty)).setCell ⟨lb, k * 9 + 1, none⟩ (.string o)).setCell ⟨lb, k * 9 + 2, none⟩ (.int .u8 el)).setCell ⟨lb, k * 9 + 3, none⟩ (.int .i64 rf)).setCell ⟨lb, k * 9 + 4, none⟩ (.int .i64 tot)).setCell ⟨lb, k * 9 + 5, none⟩ (.slice (some ⟨hk7, 0, none⟩) L L)).setCell ⟨lb, k * 9 + 6, none⟩ (.int .u64 la0)).setCell ⟨lb, k * 9 + 7, none⟩ (.int .i64 la1)).setCell ⟨lb, k * 9 + 8, none⟩ (.pointer none)) = W9 at *
                all_goals go_wp2
                all_goals go_roundw
                case rel => exact ⟨k + 1, xs', by omega, by go_num, hid O9H.out.drew, hid B9H.out.drew, hid S9H.out, hid F9H.out.drew⟩
                case measure => simp [intOf]; omega
          · have HEK : n = k := by omega
            subst HEK
            go_wp2
            go_ret
            have hws : w.heap.size ≤ lb := by have a1 := B5.out.size; rw [HLB.out] at a1; exact a1
            rw [← SEL.out]
            exact ⟨lb, (by subst hkl; rfl), hws, B5.out.trans (BR.out.mono hws), fun a h => FR.out.inc OR.out hkl a (by omega) h⟩
    · intro i w1 cnt1 hi hto hSi hrg1 hlt hg1 hs1 hen
      have HRG := hid hrg1
      have HG := hid hg1
      have HLT := hid hlt
      clear hrg hrg1 hg1 hlt hs1
      unfold Ms.KV at hen
      have b1 : Below w.heap.size w w1 := CR.out.bel.trans ((Below.refl _ _).grown HG.out (by have := CR.out.size; omega) (by intro k e; injection e with e; omega))
      have KI : Hid (M.enc i = [.string (M.O i), .int .i64 (M.Rf i), .int .i64 (M.To i), .int .u8 (M.El i), .int .u8 (M.Ty i)]) := hid rfl
      have b2 : Below w1.heap.size w1 (w1.alloc (.cells #[.string (M.O i), .int .i64 (M.Rf i), .int .i64 (M.To i), .int .u8 (M.El i), .int .u8 (M.Ty i)] 78)) := (Below.refl _ _).alloc (Nat.le_refl _) _
      have C := hid (WH.out _ i hi hSi (b1.trans (b2.mono b1.size)))
      have d0 : (w1.alloc (.cells #[.string (M.O i), .int .i64 (M.Rf i), .int .i64 (M.To i), .int .u8 (M.El i), .int .u8 (M.Ty i)] 78)).cell? ⟨w1.heap.size, 0, none⟩ = some (.string (M.O i)) := by simp
      have d1 : (w1.alloc (.cells #[.string (M.O i), .int .i64 (M.Rf i), .int .i64 (M.To i), .int .u8 (M.El i), .int .u8 (M.Ty i)] 78)).cell? ⟨w1.heap.size, 1, none⟩ = some (.int .i64 (M.Rf i)) := by simp
      have d2 : (w1.alloc (.cells #[.string (M.O i), .int .i64 (M.Rf i), .int .i64 (M.To i), .int .u8 (M.El i), .int .u8 (M.Ty i)] 78)).cell? ⟨w1.heap.size, 2, none⟩ = some (.int .i64 (M.To i)) := by simp
      have d3 : (w1.alloc (.cells #[.string (M.O i), .int .i64 (M.Rf i), .int .i64 (M.To i), .int .u8 (M.El i), .int .u8 (M.Ty i)] 78)).cell? ⟨w1.heap.size, 3, none⟩ = some (.int .u8 (M.El i)) := by simp
      have d4 : (w1.alloc (.cells #[.string (M.O i), .int .i64 (M.Rf i), .int .i64 (M.To i), .int .u8 (M.El i), .int .u8 (M.Ty i)] 78)).cell? ⟨w1.heap.size, 4, none⟩ = some (.int .u8 (M.Ty i)) := by simp
      have DD := hid (And.intro d0 (And.intro d1 (And.intro d2 (And.intro d3 d4))))
      have B2 := hid b2
      clear b1 b2 d0 d1 d2 d3 d4
      go_wp2_with fail
      refine C.out.mono ?_
      rintro e W3 ⟨rfl, hW3⟩
      have BW := hid (B2.out.trans (hW3.mono B2.out.size))
      obtain ⟨d0, d1, d2, d3, d4⟩ := DD.out
      have e0 := keepCell hW3 d0
      have e1 := keepCell hW3 d1
      have e2 := keepCell hW3 d2
      have e3 := keepCell hW3 d3
      have e4 := keepCell hW3 d4
      clear d0 d1 d2 d3 d4 DD C hW3 B2 hen
      have hlen : ks.length ≤ M.N := nodup_len M.N ks CR.out.nd (fun x hx => ((CR.out.mem x).1 hx).1)
      have hN := G.N
      obtain ⟨_, _, a5, _, aow, _, asz⟩ := CR.out.later HRG.out HG.out BW.out
      have AO := hid aow
      have AZ := hid asz
      clear aow asz
      cases hP : P i
      · go_wp2
        go_roundw
        case rel => exact ⟨v, ks, xs, _, _, hid (CR.out.skip HRG.out HG.out BW.out hP)⟩
        case measure =>
          have m1 := (CR.out.skip HRG.out HG.out BW.out hP).rg.left_eq
          have m2 := CR.out.rg.left_eq
          rw [m1, m2]
          exact HLT.out
      · generalize M.O i = o at *
        generalize M.Rf i = rf at *
        generalize M.To i = tot at *
        generalize M.El i = el at *
        generalize M.Ty i = ty at *
        have FN := five_new W3 (.string o) (.int .i64 rf) (.int .i64 tot) (.int .u8 el) (.int .u8 ty) 78
        have FNH := hid FN
        clear FN
        have HX : Hid (Below W3.heap.size W3 (W3.alloc (.cells #[.string o, .int .i64 rf, .int .i64 tot, .int .u8 el, .int .u8 ty] 78))) := hid ((Below.refl _ _).alloc (Nat.le_refl _) _)
        go_wp2_with (first
          | (at_builtin; refine wpList_append_own_at _ rfl _ _ 86 rfl (w.heap.size + 1 + 1 + 1) 78 i0 _ 5 40 Try.underlying86 hi78 hz0 hz1 hz2 rfl (by decide) _ _ _ rfl (AO.out.alloc _) ⟨W3.heap.size, 0, none⟩ 1 1 [.string o, .int .i64 rf, .int .i64 tot, .int .u8 el, .int .u8 ty] rfl rfl FNH.out (by simp; exact ⟨rfl, rfl, rfl, rfl, rfl⟩) (by unfold maxLen; omega) (by omega) (by have := AZ.out; simp; omega) ?_; intro v' w4 hown' hgrow hnil hloc; obtain ⟨g', cap', rfl⟩ := own_shape hown' (fun e => by have := (hnil.1 e).2; omega); rw [← KI.out] at hown'; obtain ⟨t1, t2, t3⟩ := CR.out.took HRG.out HG.out BW.out hi hto hSi hP HX.out hown' hgrow; have T3 := hid t3; clear t3 hown' hgrow hnil hloc)
          | go_in)
        go_roundw
        case rel => exact ⟨_, _, _, _, _, T3⟩
        case measure =>
          have m1 := T3.out.rg.left_eq
          have m2 := CR.out.rg.left_eq
          rw [m1, m2]
          exact HLT.out
end Go.Proofs.Qxb6613072a
