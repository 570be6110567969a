import Derived.Test.Qxb6613072aPreB
import Derived.Laws.CopyOwn
namespace Go.Proofs.Qxb6613072a
open Go.RowKit Go.Maps
set_option linter.unusedVariables false

structure Part8 (w : World) (pb q : Nat) (x : Int) : Prop where
  p0 : w.cell? ⟨pb, q * 8, none⟩ = some (.int .i64 x)
  p1 : w.cell? ⟨pb, q * 8 + 1, none⟩ = some (.int .i64 0)
  p2 : w.cell? ⟨pb, q * 8 + 2, none⟩ = some (.int .i64 0)
  p3 : w.cell? ⟨pb, q * 8 + 3, none⟩ = some (.int .i64 0)
  p4 : w.cell? ⟨pb, q * 8 + 4, none⟩ = some (.int .i64 0)
  p5 : w.cell? ⟨pb, q * 8 + 5, none⟩ = some (.int .i64 0)
  p6 : w.cell? ⟨pb, q * 8 + 6, none⟩ = some (.int .u8 0)
  p7 : w.cell? ⟨pb, q * 8 + 7, none⟩ = some (.int .u8 0)

/-- Block hb holds message i. -/
structure Held (M : Ms) (w : World) (jb hb pb i : Nat) : Prop where
  gt : jb < hb
  gtp : jb < pb
  c0 : w.cell? ⟨hb, 0, none⟩ = some (.int .u64 i)
  c4 : w.cell? ⟨hb, 4, none⟩ = some (.int .u64 (ns (M.La i)))
  c5 : w.cell? ⟨hb, 5, none⟩ = some (.int .i64 (es (M.La i)))
  c6 : w.cell? ⟨hb, 6, none⟩ = some (.pointer none)
  c7 : w.cell? ⟨hb, 7, none⟩ = some (.slice (some ⟨pb, 0, none⟩) (M.SL i) (M.SL i))
  part : ∀ q, q < M.SL i → Part8 w pb q (M.SQ i q)

/-- A joiner in block jb that holds the messages of S. -/
structure J (M : Ms) (w : World) (jb : Nat) (mv : Value) (S : Nat → Bool) (HB QB : Nat → Nat) (c n : Nat) : Prop where
  c0 : w.cell? ⟨jb, 0, none⟩ = some mv
  c1 : w.cell? ⟨jb, 1, none⟩ = some (.int .u64 c)
  f0 : w.frozen? ⟨jb, 0, none⟩ = false
  f1 : w.frozen? ⟨jb, 1, none⟩ = false
  mp : MapSt M w mv n S HB
  gt : ∀ b, mv = .map (some b) → jb < b
  held : ∀ i, i < M.N → S i = true → Held M w jb (HB i) (QB i) i

/-- What is kept of a joiner's parts: all but the joiner's own block and its map. -/
def Keep (w w' : World) (jb : Nat) (mv : Value) : Prop := ∀ k, k < w.heap.size → k ≠ jb → (∀ b, mv = .map (some b) → k ≠ b) → w'.heap[k]? = w.heap[k]?

theorem Keep.cell {M : Ms} {w w' : World} {jb n : Nat} {mv : Value} {S : Nat → Bool} {HB : Nat → Nat} (h : Keep w w' jb mv) (hm : MapSt M w mv n S HB) {a : Addr} {v : Value} (hj : jb < a.block) (hc : w.cell? a = some v) : w'.cell? a = some v := by
  have hlt := World.block_lt_of_cell? w a hc
  rw [World.cell?_of_block (w := w) (h a.block hlt (by omega) (fun b e hb => ?_))]
  · exact hc
  · subst e
    rcases hm with ⟨e, _⟩ | ⟨bm, e, D, ⟨es, clock, hb', _⟩, _⟩
    · cases e
    · cases e
      simp [World.cell?, hb, hb'] at hc

theorem Part8.keep {M : Ms} {w w' : World} {jb n pb q : Nat} {x : Int} {mv : Value} {S : Nat → Bool} {HB : Nat → Nat} (p : Part8 w pb q x) (h : Keep w w' jb mv) (hm : MapSt M w mv n S HB) (hj : jb < pb) : Part8 w' pb q x :=
  ⟨h.cell hm hj p.p0, h.cell hm hj p.p1, h.cell hm hj p.p2, h.cell hm hj p.p3, h.cell hm hj p.p4, h.cell hm hj p.p5, h.cell hm hj p.p6, h.cell hm hj p.p7⟩

theorem Held.keep {M : Ms} {w w' : World} {jb n hb pb i : Nat} {mv : Value} {S : Nat → Bool} {HB : Nat → Nat} (p : Held M w jb hb pb i) (h : Keep w w' jb mv) (hm : MapSt M w mv n S HB) : Held M w' jb hb pb i :=
  ⟨p.gt, p.gtp, h.cell hm p.gt p.c0, h.cell hm p.gt p.c4, h.cell hm p.gt p.c5, h.cell hm p.gt p.c6, h.cell hm p.gt p.c7, fun q hq => (p.part q hq).keep h hm p.gtp⟩

theorem J.below {M : Ms} {w w' : World} {jb c n : Nat} {mv : Value} {S : Nat → Bool} {HB QB : Nat → Nat} (j : J M w jb mv S HB QB c n) (h : Below w.heap.size w w') : J M w' jb mv S HB QB c n := by
  have hb := World.block_lt_of_cell? w _ j.c0
  exact ⟨keepCell h j.c0, keepCell h j.c1, (h.frozen (p := ⟨jb, 0, none⟩) hb).trans j.f0, (h.frozen (p := ⟨jb, 1, none⟩) hb).trans j.f1, j.mp.below h, j.gt, fun i hi hs => (j.held i hi hs).keep (fun k hk _ _ => h.block k hk) j.mp⟩

theorem madeCells_get (z : Array Value) (n j : Nat) (hj : j < n) : (madeCells z n).toList[j]? = some (z[j % z.size]!) := by
  simp [madeCells, hj]

structure Row8 (xs : List Value) (q : Nat) (x : Int) : Prop where
  p0 : xs[q * 8]? = some (.int .i64 x)
  p1 : xs[q * 8 + 1]? = some (.int .i64 0)
  p2 : xs[q * 8 + 2]? = some (.int .i64 0)
  p3 : xs[q * 8 + 3]? = some (.int .i64 0)
  p4 : xs[q * 8 + 4]? = some (.int .i64 0)
  p5 : xs[q * 8 + 5]? = some (.int .i64 0)
  p6 : xs[q * 8 + 6]? = some (.int .u8 0)
  p7 : xs[q * 8 + 7]? = some (.int .u8 0)
def Fill8 (xs : List Value) (Q : Nat → Int) (L k : Nat) : Prop := ∀ q, q < L → Row8 xs q (if q < k then Q q else 0)
theorem Fill8.start (Q : Nat → Int) (L : Nat) : Fill8 (madeCells (Value.agg #[.int .i64 0, .int .i64 0, .int .i64 0, .int .i64 0, .int .i64 0, .int .i64 0, .int .u8 0, .int .u8 0]).cells (L * 8)).toList Q L 0 := by
  intro q hq
  have m0 : q * 8 % 8 = 0 := by omega
  have m1 : (q * 8 + 1) % 8 = 1 := by omega
  have m2 : (q * 8 + 2) % 8 = 2 := by omega
  have m3 : (q * 8 + 3) % 8 = 3 := by omega
  have m4 : (q * 8 + 4) % 8 = 4 := by omega
  have m5 : (q * 8 + 5) % 8 = 5 := by omega
  have m6 : (q * 8 + 6) % 8 = 6 := by omega
  have m7 : (q * 8 + 7) % 8 = 7 := by omega
  have g : ∀ j, j < L * 8 → (madeCells (Value.agg #[.int .i64 0, .int .i64 0, .int .i64 0, .int .i64 0, .int .i64 0, .int .i64 0, .int .u8 0, .int .u8 0]).cells (L * 8)).toList[j]? = some ((#[Value.int .i64 0, .int .i64 0, .int .i64 0, .int .i64 0, .int .i64 0, .int .i64 0, .int .u8 0, .int .u8 0] : Array Value)[j % 8]!) :=
    fun j hj => madeCells_get _ _ j hj
  rw [if_neg (Nat.not_lt_zero _)]
  refine ⟨?_, ?_, ?_, ?_, ?_, ?_, ?_, ?_⟩
  · rw [g _ (by omega), m0]; rfl
  · rw [g _ (by omega), m1]; rfl
  · rw [g _ (by omega), m2]; rfl
  · rw [g _ (by omega), m3]; rfl
  · rw [g _ (by omega), m4]; rfl
  · rw [g _ (by omega), m5]; rfl
  · rw [g _ (by omega), m6]; rfl
  · rw [g _ (by omega), m7]; rfl
theorem Fill8.step {xs : List Value} {Q : Nat → Int} {L k : Nat} (h : Fill8 xs Q L k) (hk : k < L) (hl : xs.length = L * 8) : Fill8 (xs.set (k * 8) (.int .i64 (Q k))) Q L (k + 1) := by
  intro q hq
  have r := h q hq
  by_cases e : q = k
  · subst e
    rw [if_pos (by omega)]
    refine ⟨by rw [List.getElem?_set_self (by omega)], ?_, ?_, ?_, ?_, ?_, ?_, ?_⟩
    · rw [List.getElem?_set_ne (by omega)]; exact r.p1
    · rw [List.getElem?_set_ne (by omega)]; exact r.p2
    · rw [List.getElem?_set_ne (by omega)]; exact r.p3
    · rw [List.getElem?_set_ne (by omega)]; exact r.p4
    · rw [List.getElem?_set_ne (by omega)]; exact r.p5
    · rw [List.getElem?_set_ne (by omega)]; exact r.p6
    · rw [List.getElem?_set_ne (by omega)]; exact r.p7
  · have e2 : (if q < k + 1 then Q q else 0) = (if q < k then Q q else 0) := by
      by_cases h1 : q < k
      · rw [if_pos h1, if_pos (by omega)]
      · rw [if_neg h1, if_neg (by omega)]
    rw [e2]
    refine ⟨?_, ?_, ?_, ?_, ?_, ?_, ?_, ?_⟩
    · rw [List.getElem?_set_ne (by omega)]; exact r.p0
    · rw [List.getElem?_set_ne (by omega)]; exact r.p1
    · rw [List.getElem?_set_ne (by omega)]; exact r.p2
    · rw [List.getElem?_set_ne (by omega)]; exact r.p3
    · rw [List.getElem?_set_ne (by omega)]; exact r.p4
    · rw [List.getElem?_set_ne (by omega)]; exact r.p5
    · rw [List.getElem?_set_ne (by omega)]; exact r.p6
    · rw [List.getElem?_set_ne (by omega)]; exact r.p7

theorem held_world (wc : World) (T H : Array Value) : Below wc.heap.size wc (((wc.alloc (.cells T 43)).alloc (.cells T 43)).alloc (.cells H 76)).drew ∧
    (((wc.alloc (.cells T 43)).alloc (.cells T 43)).alloc (.cells H 76)).drew.heap.size = wc.heap.size + 1 + 1 + 1 ∧
    (∀ j, (((wc.alloc (.cells T 43)).alloc (.cells T 43)).alloc (.cells H 76)).drew.cell? ⟨wc.heap.size + 1 + 1, j, none⟩ = H[j]?) ∧
    ∀ j, (((wc.alloc (.cells T 43)).alloc (.cells T 43)).alloc (.cells H 76)).drew.frozen? ⟨wc.heap.size + 1 + 1, j, none⟩ = false := by
  refine ⟨((((Below.refl _ _).alloc (Nat.le_refl _) _).alloc (by simp) _).alloc (by simp; omega) _).drew, by simp, fun j => ?_, fun j => World.frozen?_alloc_at _ _ _ _ (by simp)⟩
  rw [World.cell?_drew]
  exact World.cell?_alloc_at _ _ _ _ (by simp)

def HPost (M : Ms) (w : World) (jb i : Nat) (e : Ending) (w' : World) : Prop :=
  e = .returned (.tuple #[]) ∧ ∃ mv' HB' QB', J M w' jb mv' (fun k => decide (k < i + 1)) HB' QB' (i + 1) (i + 1) ∧ Below jb w w'

theorem mapNil (W : World) : (binOp BinOp.eql 52 (.map none) (.map none)).run Try.prog W = .ok (.bool true) W := by kernel_rfl
theorem mapSome (W : World) (b : Nat) : (binOp BinOp.eql 52 (.map (some b)) (.map none)).run Try.prog W = .ok (.bool false) W := by kernel_rfl
/-- One message more is held: the map has been written, the count raised. -/
theorem J.next {M : Ms} {X X' : World} {jb bm hb pb i : Nat} {HB QB : Nat → Nat} (j : J M X jb (.map (some bm)) (fun k => decide (k < i)) HB QB i i) (hi : i < M.N) (hx : Held M X jb hb pb i)
    (mp : MapSt M X' (.map (some bm)) (i + 1) (fun k => decide (k < i) || decide (k = i)) (fun k => if k = i then hb else HB k)) (hg : X.grownBy X' (some bm)) :
    X'.cell? ⟨jb, 1, none⟩ = some (.int .u64 i) ∧ X'.frozen? ⟨jb, 1, none⟩ = false ∧ X'.cell? ⟨jb, 0, none⟩ = some (.map (some bm)) ∧
    J M (X'.setCell ⟨jb, 1, none⟩ (.int .u64 ((i : Int) + 1))) jb (.map (some bm)) (fun k => decide (k < i + 1)) (fun k => if k = i then hb else HB k) (fun k => if k = i then pb else QB k) (i + 1) (i + 1) ∧
    Below jb X (X'.setCell ⟨jb, 1, none⟩ (.int .u64 ((i : Int) + 1))) := by
  have jbm : jb < bm := j.gt bm rfl
  have jl : jb < X.heap.size := World.block_lt_of_cell? X _ j.c0
  have same : X'.heap[jb]? = X.heap[jb]? := hg.block jb jl (by intro e; cases e; omega)
  have c1 : X'.cell? ⟨jb, 1, none⟩ = some (.int .u64 i) := (World.cell?_of_block (w := X) same).trans j.c1
  have c0 : X'.cell? ⟨jb, 0, none⟩ = some (.map (some bm)) := (World.cell?_of_block (w := X) same).trans j.c0
  have f0 : X'.frozen? ⟨jb, 0, none⟩ = false := (World.frozen?_of_block (w := X) same).trans j.f0
  have f1 : X'.frozen? ⟨jb, 1, none⟩ = false := (World.frozen?_of_block (w := X) same).trans j.f1
  have keep : Keep X (X'.setCell ⟨jb, 1, none⟩ (.int .u64 ((i : Int) + 1))) jb (.map (some bm)) := by
    intro k hk h1 h2
    rw [Below.heap_setCell _ _ _ _ h1]
    exact hg.block k hk (by intro e; cases e; exact h2 bm rfl rfl)
  refine ⟨c1, f1, c0, ⟨?_, ?_, ?_, ?_, ?_, j.gt, ?_⟩, ?_⟩
  · exact (World.cell?_setCell_other _ _ _ _ (by simp)).trans c0
  · exact World.cell?_setCell_same' _ _ _ (by rw [c1]; rfl)
  · rw [World.frozen?_setCell]; exact f0
  · rw [World.frozen?_setCell]; exact f1
  · have m2 := mp.kept (w' := X'.setCell ⟨jb, 1, none⟩ (.int .u64 ((i : Int) + 1))) (fun b e => by cases e; exact Below.heap_setCell _ _ _ _ (by show bm ≠ jb; omega))
    refine m2.cong (fun k hk => ?_) (fun k hk _ => rfl)
    by_cases e : k = i
    · subst e; simp
    · by_cases e2 : k < i
      · have e3 : k < i + 1 := by omega
        simp [e, e2, e3]
      · have e3 : ¬ k < i + 1 := by omega
        simp [e, e2, e3]
  · intro k hk hs
    by_cases e : k = i
    · subst e; simp only [if_true]; exact hx.keep keep j.mp
    · simp only [if_neg e]
      exact (j.held k hk (by simp at hs ⊢; omega)).keep keep j.mp
  · exact (((Below.refl jb X).grown hg (Nat.le_of_lt jl) (by intro k e; cases e; omega)).setCell (p := ⟨jb, 1, none⟩) (Nat.le_refl _) _)

/-- The map is made, and laid into the joiner's first cell. -/
theorem J.made {M : Ms} {w : World} {jb : Nat} {HB QB : Nat → Nat} {i : Nat} (j : J M w jb (.map none) (fun k => decide (k < i)) HB QB i i) (hi : i < M.N) :
    J M ((w.setCell ⟨jb, 0, none⟩ (.map (some w.heap.size))).alloc (.map #[] 0)) jb (.map (some w.heap.size)) (fun k => decide (k < i)) HB QB i i ∧
    Below jb w ((w.setCell ⟨jb, 0, none⟩ (.map (some w.heap.size))).alloc (.map #[] 0)) := by
  have i0 : i = 0 := by
    rcases j.mp with ⟨_, h⟩ | ⟨b, e, _⟩
    · have h1 := h 0 (by omega)
      simp at h1; exact h1
    · cases e
  subst i0
  have hb : jb < w.heap.size := World.block_lt_of_cell? w _ j.c0
  have b1 : Below jb w (w.setCell ⟨jb, 0, none⟩ (.map (some w.heap.size))) := (Below.refl _ _).setCell (p := ⟨jb, 0, none⟩) (Nat.le_refl _) _
  have k0 : (w.setCell ⟨jb, 0, none⟩ (.map (some w.heap.size))).cell? ⟨jb, 0, none⟩ = some (.map (some w.heap.size)) := World.cell?_setCell_same' _ _ _ (by rw [j.c0]; rfl)
  have k1 : (w.setCell ⟨jb, 0, none⟩ (.map (some w.heap.size))).cell? ⟨jb, 1, none⟩ = some (.int .u64 (0 : Nat)) := (World.cell?_setCell_other _ _ _ _ (by simp)).trans j.c1
  have l0 : (w.setCell ⟨jb, 0, none⟩ (.map (some w.heap.size))).frozen? ⟨jb, 0, none⟩ = false := by rw [World.frozen?_setCell]; exact j.f0
  have l1 : (w.setCell ⟨jb, 0, none⟩ (.map (some w.heap.size))).frozen? ⟨jb, 1, none⟩ = false := by rw [World.frozen?_setCell]; exact j.f1
  have hs : (w.setCell ⟨jb, 0, none⟩ (.map (some w.heap.size))).heap.size = w.heap.size := by simp [World.setCell]
  generalize w.setCell ⟨jb, 0, none⟩ (.map (some w.heap.size)) = w1 at *
  have a1 : Below w1.heap.size w1 (w1.alloc (.map #[] 0)) := (Below.refl _ _).alloc (Nat.le_refl _) _
  refine ⟨⟨keepCell a1 k0, keepCell a1 k1, (a1.frozen (p := ⟨jb, 0, none⟩) (by rw [hs]; exact hb)).trans l0, (a1.frozen (p := ⟨jb, 1, none⟩) (by rw [hs]; exact hb)).trans l1, ?_, ?_, ?_⟩, ?_⟩
  · have h0 := MapSt.made M w1 HB
    rw [hs] at h0
    exact h0.cong (fun k hk => by simp) (fun k hk h => by cases h)
  · intro b e; cases e; exact hb
  · intro k hk h; simp at h
  · exact b1.trans (a1.mono (by omega))

set_option maxRecDepth 20000 in
set_option maxHeartbeats 4000000 in
theorem hold_call (M : Ms) (G : M.Good) (i : Nat) (hi : i < M.N) (w : World) (jb : Nat) (mv : Value) (HB QB : Nat → Nat) (hJ : J M w jb mv (fun k => decide (k < i)) HB QB i i)
    (SB SF SC : Nat) (hsl : 0 < M.SL i) (hsb : SB < jb) (hsq : ∀ k, k < M.SL i → w.cell? ⟨SB, SF + k, none⟩ = some (.int .i64 (M.SQ i k))) :
    Calls Try.prog 25 #[.pointer (some ⟨jb, 0, none⟩), .string (M.O i), .int .u8 (M.Ty i), .int .i64 (M.Rf i), .int .i64 (M.To i), .int .u8 (M.El i), .slice (some ⟨SB, SF, none⟩) (M.SL i) SC, .int .i64 (M.La i)] w (HPost M w jb i) := by
  have SQ := hid hsq
  have hq0 := mapNil
  have hq1 := mapSome
  have hmm := @run_makeMap Try.prog
  obtain ⟨la0, la1⟩ := G.la i hi
  have hL255 := G.sl i hi
  have hN := G.N
  clear hsq
  have A := hid (add_call (M.La i) la0 la1)
  have HM0 := hid (HM_0 i (es (M.La i)) (ns (M.La i)))
  have HM4 := hid (HM_4 i (es (M.La i)) (ns (M.La i)))
  have HM5 := hid (HM_5 i (es (M.La i)) (ns (M.La i)))
  have HM6 := hid (HM_6 i (es (M.La i)) (ns (M.La i)))
  have HM7 := hid (HM_7 i (es (M.La i)) (ns (M.La i)))
  generalize hes : es (M.La i) = la1' at *
  generalize hns : ns (M.La i) = la0' at *
  have HES := hid hes
  have HNS := hid hns
  clear hes hns la0 la1
  obtain ⟨i0, hi72, hz0, hz1, hz2⟩ := info_parts Try.info72
  have KO := hid (keyOf_call (M.O i) (M.Ty i) (M.El i) (M.Rf i) (M.To i) 0)
  have KVI : Hid (M.KV i = .agg #[.string (M.O i), .int .i64 (M.Rf i), .int .i64 (M.To i), .int .u8 (M.El i), .int .u8 (M.Ty i)]) := hid rfl
  generalize M.O i = o at *
  generalize M.Ty i = ty at *
  generalize M.Rf i = rf at *
  generalize M.To i = tot at *
  generalize M.El i = el at *
  generalize hLa : M.La i = la at *
  have HLA := hid hLa
  clear hLa
  generalize hSL : M.SL i = L at *
  have HSL := hid hSL
  clear hSL
  rcases hJ.mp with ⟨rfl, _⟩ | ⟨bm, rfl, _⟩
  · obtain ⟨j1, b1⟩ := hJ.made hi
    have JC := hid j1
    have BC := hid b1
    have c0 := hJ.c0
    have f0 := hJ.f0
    have jlt : jb < w.heap.size := World.block_lt_of_cell? w _ hJ.c0
    clear j1 b1 hJ
    go_enter Try.func25, Try.ntmps25
    go_upto_region 2 with fail
    generalize hbm : w.heap.size = bm at *
    generalize hwc : (w.setCell ⟨jb, 0, none⟩ (.map (some bm))).alloc (.map #[] 0) = wc at *
    clear hwc c0 f0
    have jb0 := BC.out.size
    have c1 := JC.out.c1
    go_region_held3 (fun w' => w'.cell? ⟨jb, 1, none⟩ = some (.int .u64 i)) (simp (maxDischargeDepth := 12) [*, World.cell?_alloc_some])
      (first | (go_at_call 27; refine (A.out _).mono ?_; rintro e w' ⟨rfl, rfl⟩))
    go_upto_region 3 with fail
    generalize hHH : ((((Try.zeroCells76.setIfInBounds 0 (Value.int .u64 (i : Int))).setIfInBounds 4 (.int .u64 la0')).setIfInBounds 5 (.int .i64 la1')).setIfInBounds 6 (.pointer none)) = H at *
    clear hHH c1
    obtain ⟨b2, s2, cH, fH⟩ := held_world wc #[.int .u64 la0', .int .i64 la1', .pointer none] H
    generalize (((wc.alloc (.cells #[.int .u64 la0', .int .i64 la1', .pointer none] 43)).alloc (.cells #[.int .u64 la0', .int .i64 la1', .pointer none] 43)).alloc (.cells H 76)).drew = W2 at *
    have hhb0 : wc.heap.size < wc.heap.size + 1 + 1 := by omega
    generalize hhb : wc.heap.size + 1 + 1 = hb at *
    have S2 := hid s2
    have B2 := hid b2
    have h7 : W2.cell? ⟨hb, 7, none⟩ = some (.slice none 0 0) := (cH 7).trans HM7.out
    have f7 := fH 7
    have H0 := hid ((cH 0).trans HM0.out)
    have H4 := hid ((cH 4).trans HM4.out)
    have H5 := hid ((cH 5).trans HM5.out)
    have H6 := hid ((cH 6).trans HM6.out)
    have HLT : Hid (hb < W2.heap.size) := hid (by omega)
    have HHB := hid hhb0
    clear cH fH s2 b2 hhb hhb0 HM0 HM4 HM5 HM6 HM7
    go_wp2_with (refine wpList_make_full _ rfl _ _ 66 rfl W2.heap.size 72 i0 _ 8 Try.underlying66 hi72 hz0 hz1 .i64 .i64 _ _ L rfl rfl rfl rfl (by rw [hz2]; omega) (by unfold maxLen; omega) (Nat.le_refl _) ?_; intro w1 hown hgrow; have h7 := (keepCell ((Below.refl _ _).grown hgrow (Nat.le_refl _) (by intro k hk; cases hk)) h7); have f7 := (((Below.refl _ _).grown hgrow (Nat.le_refl _) (by intro k hk; cases hk) : Below W2.heap.size W2 w1).frozen (p := ⟨hb, 7, none⟩) HLT.out).trans f7)
    have hgb : Below W2.heap.size W2 w1 := (Below.refl _ _).grown hgrow (Nat.le_refl _) (by intro k hk; cases hk)
    have B3 := hid ((B2.out.trans (hgb.mono B2.out.size)).setCell (p := ⟨hb, 7, none⟩) (Nat.le_of_lt HHB.out) (.slice (some ⟨W2.heap.size, 0, none⟩) L L))
    have J3 := hid (JC.out.below B3.out)
    have k0 := hid ((World.cell?_setCell_other w1 ⟨hb, 7, none⟩ ⟨hb, 0, none⟩ (.slice (some ⟨W2.heap.size, 0, none⟩) L L) (by simp)).trans (keepCell hgb H0.out))
    have k4 := hid ((World.cell?_setCell_other w1 ⟨hb, 7, none⟩ ⟨hb, 4, none⟩ (.slice (some ⟨W2.heap.size, 0, none⟩) L L) (by simp)).trans (keepCell hgb H4.out))
    have k5 := hid ((World.cell?_setCell_other w1 ⟨hb, 7, none⟩ ⟨hb, 5, none⟩ (.slice (some ⟨W2.heap.size, 0, none⟩) L L) (by simp)).trans (keepCell hgb H5.out))
    have k6 := hid ((World.cell?_setCell_other w1 ⟨hb, 7, none⟩ ⟨hb, 6, none⟩ (.slice (some ⟨W2.heap.size, 0, none⟩) L L) (by simp)).trans (keepCell hgb H6.out))
    have k7 := World.cell?_setCell_same' w1 ⟨hb, 7, none⟩ (.slice (some ⟨W2.heap.size, 0, none⟩) L L) (by rw [h7]; rfl)
    have O3 := hid (ownsRow_setCell_below hown (a := ⟨hb, 7, none⟩) HLT.out (.slice (some ⟨W2.heap.size, 0, none⟩) L L))
    have Z3 : Hid (W2.heap.size < (w1.setCell ⟨hb, 7, none⟩ (.slice (some ⟨W2.heap.size, 0, none⟩) L L)).heap.size) := hid (by simpa [World.setCell] using (hown.lt W2.heap.size rfl).2)
    have JLT : Hid (jb < hb) := hid (by have a1 := World.block_lt_of_cell? wc _ JC.out.c0; have a2 := HHB.out; simp at a1; omega)
    have SQ3 : Hid (∀ k, k < L → (w1.setCell ⟨hb, 7, none⟩ (.slice (some ⟨W2.heap.size, 0, none⟩) L L)).cell? ⟨SB, SF + k, none⟩ = some (.int .i64 (M.SQ i k))) :=
      hid (fun k hk => keepCell B3.out ((BC.out.cell (p := ⟨SB, SF + k, none⟩) hsb).trans (SQ.out k hk)))
    have BT := hid (BC.out.trans (B3.out.mono (Nat.le_of_lt (World.block_lt_of_cell? wc _ JC.out.c0))))
    have F8 := hid (Fill8.start (M.SQ i) L)
    generalize (madeCells (Value.agg #[.int .i64 0, .int .i64 0, .int .i64 0, .int .i64 0, .int .i64 0, .int .i64 0, .int .u8 0, .int .u8 0]).cells (L * 8)).toList = xs0 at *
    have WL : Hid (wc.heap.size ≤ W2.heap.size) := hid B2.out.size
    clear hgb BC SQ hown hgrow h7 f7 H0 H4 H5 H6 S2 B2 jlt jb0
    generalize w1.setCell ⟨hb, 7, none⟩ (.slice (some ⟨W2.heap.size, 0, none⟩) L L) = w3 at *
    generalize W2.heap.size = pb at *
    have hpb := HLT.out
    have ne1 : pb ≠ hb := by omega
    have ne2 : pb ≠ SB := by have := JLT.out; omega
    have K7 := hid k7
    clear k7
    go_loopw [44] (fun t wr => ∃ (k : Nat) (xs : List Value), k ≤ L ∧ t = .int .i64 k ∧ Hid (wr.ownsRow pb 72 8 (.slice (some ⟨pb, 0, none⟩) L L) L xs) ∧ Hid (Below pb w3 wr) ∧ Hid (Fill8 xs (M.SQ i) L k)) (fun t _ => L - (intOf t).toNat)
    case atStart => exact ⟨0, xs0, Nat.zero_le _, rfl, O3, hid (Below.refl _ _), F8⟩
    case round =>
      obtain ⟨k, xs, hk, rfl, OR, BR, FR⟩ := hrel
      clear O3 F8
      by_cases hlt : k < L
      · have hkz : (k : Int) < (L : Int) := by omega
        have hkz0 : (0 : Int) ≤ (k : Int) := by omega
        have hlen : xs.length = L * 8 := OR.out.1
        have g7 := (BR.out.cell (p := ⟨hb, 7, none⟩) hpb).trans K7.out
        have gs := (BR.out.cell (p := ⟨SB, SF + k, none⟩) (by have := JLT.out; show SB < pb; omega)).trans (SQ3.out k hlt)
        have n0 := (OR.out.cellAt (k * 8) (by omega)).trans (FR.out k hlt).p0
        have fz := OR.out.frozenAt (k * 8)
        have st := FR.out.step hlt hlen
        generalize M.SQ i k = x at gs st
        have ST := hid st
        have OS := hid (OR.out.stored (k * 8) (.int .i64 x)).1
        have BS := hid (BR.out.setCell (p := ⟨pb, k * 8, none⟩) (Nat.le_refl _) (.int .i64 x))
        clear st hlen
        go_wp2_with fail
        go_region_held3 (fun w' => w'.cell? ⟨hb, 7, none⟩ = some (.slice (some ⟨pb, 0, none⟩) L L) ∧ w'.cell? ⟨SB, SF + k, none⟩ = some (.int .i64 x)) (go_keep) (fail)
        all_goals go_wp2
        all_goals go_roundw
        case rel => exact ⟨k + 1, _, by omega, by go_num, hid OS.out.drew, hid BS.out.drew, ST⟩
        case measure => simp [intOf]; omega
      · obtain rfl : k = L := by omega
        have BWR := B3.out.trans (BR.out.mono WL.out)
        have JR := JC.out.below BWR
        have hx : Held M wr jb hb pb i := by
          refine ⟨JLT.out, by have := JLT.out; omega, (BR.out.cell (p := ⟨hb, 0, none⟩) hpb).trans k0.out, ?_, ?_, (BR.out.cell (p := ⟨hb, 6, none⟩) hpb).trans k6.out, ?_, ?_⟩
          · rw [HLA.out, HNS.out]; exact (BR.out.cell (p := ⟨hb, 4, none⟩) hpb).trans k4.out
          · rw [HLA.out, HES.out]; exact (BR.out.cell (p := ⟨hb, 5, none⟩) hpb).trans k5.out
          · rw [HSL.out]; exact (BR.out.cell (p := ⟨hb, 7, none⟩) hpb).trans K7.out
          · rw [HSL.out]
            intro q hq
            have r := FR.out q hq
            rw [if_pos hq] at r
            exact ⟨(OR.out.cellAt _ (by omega)).trans r.p0, (OR.out.cellAt _ (by omega)).trans r.p1, (OR.out.cellAt _ (by omega)).trans r.p2, (OR.out.cellAt _ (by omega)).trans r.p3, (OR.out.cellAt _ (by omega)).trans r.p4, (OR.out.cellAt _ (by omega)).trans r.p5, (OR.out.cellAt _ (by omega)).trans r.p6, (OR.out.cellAt _ (by omega)).trans r.p7⟩
        have bx : Below wr.heap.size wr ((((wr.alloc (.cells #[.int .u8 ty, .string o] 25)).alloc (.cells #[.int .u8 el, .int .i64 rf, .int .i64 tot, .int .i64 0] 81)).alloc (.cells #[.string o, .int .i64 rf, .int .i64 tot, .int .u8 el, .int .u8 ty] 78)).drew) :=
          ((((Below.refl _ _).alloc (Nat.le_refl _) _).alloc (by simp) _).alloc (by simp; omega) _).drew
        have JX := JR.below bx
        have hx2 := hx.keep (w' := ((((wr.alloc (.cells #[.int .u8 ty, .string o] 25)).alloc (.cells #[.int .u8 el, .int .i64 rf, .int .i64 tot, .int .i64 0] 81)).alloc (.cells #[.string o, .int .i64 rf, .int .i64 tot, .int .u8 el, .int .u8 ty] 78)).drew)) (fun k hk _ _ => bx.block k hk) JR.mp
        have BX := BT.out.trans ((BR.out.mono (by have := JLT.out; omega)).trans (bx.mono (by have := World.block_lt_of_cell? wr _ JR.c0; simp at this; omega)))
        obtain ⟨X', hrun, mp', hg⟩ := JX.mp.update G (by omega) hi hb
        rw [KVI.out] at hrun
        obtain ⟨c1, f1, c0', JN, BN⟩ := JX.next hi hx2 mp' hg
        have JNH := hid JN
        have BNH := hid (BX.trans BN)
        have c0 := JR.c0
        clear JN BN BX hx2 JX bx hx JR BWR mp' hg OR BR FR J3 SQ3 BT
        go_wp2_with fail
        go_region_held3 (fun w' => w'.cell? ⟨jb, 0, none⟩ = some (.map (some bm))) (simp (maxDischargeDepth := 12) [*, World.cell?_alloc_some])
          (first | (go_at_call 31; refine (KO.out _).mono ?_; rintro e w' ⟨rfl, rfl⟩))
        go_wp2
        go_end0
        exact ⟨rfl, _, _, _, JNH.out, BNH.out⟩

  · have JC := hid hJ
    have BC := hid (Below.refl jb w)
    have c0 := hJ.c0
    have f0 := hJ.f0
    have jlt : jb < w.heap.size := World.block_lt_of_cell? w _ hJ.c0
    clear hJ
    go_enter Try.func25, Try.ntmps25
    go_upto_region 2 with fail
    generalize hwc : w = wc at *
    clear hwc c0 f0
    have jb0 := BC.out.size
    have c1 := JC.out.c1
    go_region_held3 (fun w' => w'.cell? ⟨jb, 1, none⟩ = some (.int .u64 i)) (simp (maxDischargeDepth := 12) [*, World.cell?_alloc_some])
      (first | (go_at_call 27; refine (A.out _).mono ?_; rintro e w' ⟨rfl, rfl⟩))
    go_upto_region 3 with fail
    generalize hHH : ((((Try.zeroCells76.setIfInBounds 0 (Value.int .u64 (i : Int))).setIfInBounds 4 (.int .u64 la0')).setIfInBounds 5 (.int .i64 la1')).setIfInBounds 6 (.pointer none)) = H at *
    clear hHH c1
    obtain ⟨b2, s2, cH, fH⟩ := held_world wc #[.int .u64 la0', .int .i64 la1', .pointer none] H
    generalize (((wc.alloc (.cells #[.int .u64 la0', .int .i64 la1', .pointer none] 43)).alloc (.cells #[.int .u64 la0', .int .i64 la1', .pointer none] 43)).alloc (.cells H 76)).drew = W2 at *
    have hhb0 : wc.heap.size < wc.heap.size + 1 + 1 := by omega
    generalize hhb : wc.heap.size + 1 + 1 = hb at *
    have S2 := hid s2
    have B2 := hid b2
    have h7 : W2.cell? ⟨hb, 7, none⟩ = some (.slice none 0 0) := (cH 7).trans HM7.out
    have f7 := fH 7
    have H0 := hid ((cH 0).trans HM0.out)
    have H4 := hid ((cH 4).trans HM4.out)
    have H5 := hid ((cH 5).trans HM5.out)
    have H6 := hid ((cH 6).trans HM6.out)
    have HLT : Hid (hb < W2.heap.size) := hid (by omega)
    have HHB := hid hhb0
    clear cH fH s2 b2 hhb hhb0 HM0 HM4 HM5 HM6 HM7
    go_wp2_with (refine wpList_make_full _ rfl _ _ 66 rfl W2.heap.size 72 i0 _ 8 Try.underlying66 hi72 hz0 hz1 .i64 .i64 _ _ L rfl rfl rfl rfl (by rw [hz2]; omega) (by unfold maxLen; omega) (Nat.le_refl _) ?_; intro w1 hown hgrow; have h7 := (keepCell ((Below.refl _ _).grown hgrow (Nat.le_refl _) (by intro k hk; cases hk)) h7); have f7 := (((Below.refl _ _).grown hgrow (Nat.le_refl _) (by intro k hk; cases hk) : Below W2.heap.size W2 w1).frozen (p := ⟨hb, 7, none⟩) HLT.out).trans f7)
    have hgb : Below W2.heap.size W2 w1 := (Below.refl _ _).grown hgrow (Nat.le_refl _) (by intro k hk; cases hk)
    have B3 := hid ((B2.out.trans (hgb.mono B2.out.size)).setCell (p := ⟨hb, 7, none⟩) (Nat.le_of_lt HHB.out) (.slice (some ⟨W2.heap.size, 0, none⟩) L L))
    have J3 := hid (JC.out.below B3.out)
    have k0 := hid ((World.cell?_setCell_other w1 ⟨hb, 7, none⟩ ⟨hb, 0, none⟩ (.slice (some ⟨W2.heap.size, 0, none⟩) L L) (by simp)).trans (keepCell hgb H0.out))
    have k4 := hid ((World.cell?_setCell_other w1 ⟨hb, 7, none⟩ ⟨hb, 4, none⟩ (.slice (some ⟨W2.heap.size, 0, none⟩) L L) (by simp)).trans (keepCell hgb H4.out))
    have k5 := hid ((World.cell?_setCell_other w1 ⟨hb, 7, none⟩ ⟨hb, 5, none⟩ (.slice (some ⟨W2.heap.size, 0, none⟩) L L) (by simp)).trans (keepCell hgb H5.out))
    have k6 := hid ((World.cell?_setCell_other w1 ⟨hb, 7, none⟩ ⟨hb, 6, none⟩ (.slice (some ⟨W2.heap.size, 0, none⟩) L L) (by simp)).trans (keepCell hgb H6.out))
    have k7 := World.cell?_setCell_same' w1 ⟨hb, 7, none⟩ (.slice (some ⟨W2.heap.size, 0, none⟩) L L) (by rw [h7]; rfl)
    have O3 := hid (ownsRow_setCell_below hown (a := ⟨hb, 7, none⟩) HLT.out (.slice (some ⟨W2.heap.size, 0, none⟩) L L))
    have Z3 : Hid (W2.heap.size < (w1.setCell ⟨hb, 7, none⟩ (.slice (some ⟨W2.heap.size, 0, none⟩) L L)).heap.size) := hid (by simpa [World.setCell] using (hown.lt W2.heap.size rfl).2)
    have JLT : Hid (jb < hb) := hid (by have a1 := World.block_lt_of_cell? wc _ JC.out.c0; have a2 := HHB.out; simp at a1; omega)
    have SQ3 : Hid (∀ k, k < L → (w1.setCell ⟨hb, 7, none⟩ (.slice (some ⟨W2.heap.size, 0, none⟩) L L)).cell? ⟨SB, SF + k, none⟩ = some (.int .i64 (M.SQ i k))) :=
      hid (fun k hk => keepCell B3.out ((BC.out.cell (p := ⟨SB, SF + k, none⟩) hsb).trans (SQ.out k hk)))
    have BT := hid (BC.out.trans (B3.out.mono (Nat.le_of_lt (World.block_lt_of_cell? wc _ JC.out.c0))))
    have F8 := hid (Fill8.start (M.SQ i) L)
    generalize (madeCells (Value.agg #[.int .i64 0, .int .i64 0, .int .i64 0, .int .i64 0, .int .i64 0, .int .i64 0, .int .u8 0, .int .u8 0]).cells (L * 8)).toList = xs0 at *
    have WL : Hid (wc.heap.size ≤ W2.heap.size) := hid B2.out.size
    clear hgb BC SQ hown hgrow h7 f7 H0 H4 H5 H6 S2 B2 jlt jb0
    generalize w1.setCell ⟨hb, 7, none⟩ (.slice (some ⟨W2.heap.size, 0, none⟩) L L) = w3 at *
    generalize W2.heap.size = pb at *
    have hpb := HLT.out
    have ne1 : pb ≠ hb := by omega
    have ne2 : pb ≠ SB := by have := JLT.out; omega
    have K7 := hid k7
    clear k7
    go_loopw [44] (fun t wr => ∃ (k : Nat) (xs : List Value), k ≤ L ∧ t = .int .i64 k ∧ Hid (wr.ownsRow pb 72 8 (.slice (some ⟨pb, 0, none⟩) L L) L xs) ∧ Hid (Below pb w3 wr) ∧ Hid (Fill8 xs (M.SQ i) L k)) (fun t _ => L - (intOf t).toNat)
    case atStart => exact ⟨0, xs0, Nat.zero_le _, rfl, O3, hid (Below.refl _ _), F8⟩
    case round =>
      obtain ⟨k, xs, hk, rfl, OR, BR, FR⟩ := hrel
      clear O3 F8
      by_cases hlt : k < L
      · have hkz : (k : Int) < (L : Int) := by omega
        have hkz0 : (0 : Int) ≤ (k : Int) := by omega
        have hlen : xs.length = L * 8 := OR.out.1
        have g7 := (BR.out.cell (p := ⟨hb, 7, none⟩) hpb).trans K7.out
        have gs := (BR.out.cell (p := ⟨SB, SF + k, none⟩) (by have := JLT.out; show SB < pb; omega)).trans (SQ3.out k hlt)
        have n0 := (OR.out.cellAt (k * 8) (by omega)).trans (FR.out k hlt).p0
        have fz := OR.out.frozenAt (k * 8)
        have st := FR.out.step hlt hlen
        generalize M.SQ i k = x at gs st
        have ST := hid st
        have OS := hid (OR.out.stored (k * 8) (.int .i64 x)).1
        have BS := hid (BR.out.setCell (p := ⟨pb, k * 8, none⟩) (Nat.le_refl _) (.int .i64 x))
        clear st hlen
        go_wp2_with fail
        go_region_held3 (fun w' => w'.cell? ⟨hb, 7, none⟩ = some (.slice (some ⟨pb, 0, none⟩) L L) ∧ w'.cell? ⟨SB, SF + k, none⟩ = some (.int .i64 x)) (go_keep) (fail)
        all_goals go_wp2
        all_goals go_roundw
        case rel => exact ⟨k + 1, _, by omega, by go_num, hid OS.out.drew, hid BS.out.drew, ST⟩
        case measure => simp [intOf]; omega
      · obtain rfl : k = L := by omega
        have BWR := B3.out.trans (BR.out.mono WL.out)
        have JR := JC.out.below BWR
        have hx : Held M wr jb hb pb i := by
          refine ⟨JLT.out, by have := JLT.out; omega, (BR.out.cell (p := ⟨hb, 0, none⟩) hpb).trans k0.out, ?_, ?_, (BR.out.cell (p := ⟨hb, 6, none⟩) hpb).trans k6.out, ?_, ?_⟩
          · rw [HLA.out, HNS.out]; exact (BR.out.cell (p := ⟨hb, 4, none⟩) hpb).trans k4.out
          · rw [HLA.out, HES.out]; exact (BR.out.cell (p := ⟨hb, 5, none⟩) hpb).trans k5.out
          · rw [HSL.out]; exact (BR.out.cell (p := ⟨hb, 7, none⟩) hpb).trans K7.out
          · rw [HSL.out]
            intro q hq
            have r := FR.out q hq
            rw [if_pos hq] at r
            exact ⟨(OR.out.cellAt _ (by omega)).trans r.p0, (OR.out.cellAt _ (by omega)).trans r.p1, (OR.out.cellAt _ (by omega)).trans r.p2, (OR.out.cellAt _ (by omega)).trans r.p3, (OR.out.cellAt _ (by omega)).trans r.p4, (OR.out.cellAt _ (by omega)).trans r.p5, (OR.out.cellAt _ (by omega)).trans r.p6, (OR.out.cellAt _ (by omega)).trans r.p7⟩
        have bx : Below wr.heap.size wr ((((wr.alloc (.cells #[.int .u8 ty, .string o] 25)).alloc (.cells #[.int .u8 el, .int .i64 rf, .int .i64 tot, .int .i64 0] 81)).alloc (.cells #[.string o, .int .i64 rf, .int .i64 tot, .int .u8 el, .int .u8 ty] 78)).drew) :=
          ((((Below.refl _ _).alloc (Nat.le_refl _) _).alloc (by simp) _).alloc (by simp; omega) _).drew
        have JX := JR.below bx
        have hx2 := hx.keep (w' := ((((wr.alloc (.cells #[.int .u8 ty, .string o] 25)).alloc (.cells #[.int .u8 el, .int .i64 rf, .int .i64 tot, .int .i64 0] 81)).alloc (.cells #[.string o, .int .i64 rf, .int .i64 tot, .int .u8 el, .int .u8 ty] 78)).drew)) (fun k hk _ _ => bx.block k hk) JR.mp
        have BX := BT.out.trans ((BR.out.mono (by have := JLT.out; omega)).trans (bx.mono (by have := World.block_lt_of_cell? wr _ JR.c0; simp at this; omega)))
        obtain ⟨X', hrun, mp', hg⟩ := JX.mp.update G (by omega) hi hb
        rw [KVI.out] at hrun
        obtain ⟨c1, f1, c0', JN, BN⟩ := JX.next hi hx2 mp' hg
        have JNH := hid JN
        have BNH := hid (BX.trans BN)
        have c0 := JR.c0
        clear JN BN BX hx2 JX bx hx JR BWR mp' hg OR BR FR J3 SQ3 BT
        go_wp2_with fail
        go_region_held3 (fun w' => w'.cell? ⟨jb, 0, none⟩ = some (.map (some bm))) (simp (maxDischargeDepth := 12) [*, World.cell?_alloc_some])
          (first | (go_at_call 31; refine (KO.out _).mono ?_; rintro e w' ⟨rfl, rfl⟩))
        go_wp2
        go_end0
        exact ⟨rfl, _, _, _, JNH.out, BNH.out⟩

end Go.Proofs.Qxb6613072a
