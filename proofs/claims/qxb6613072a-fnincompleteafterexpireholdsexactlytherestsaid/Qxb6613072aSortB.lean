import Derived.Test.Qxb6613072aSort
import Derived.Shelf.SlSortFuncK.ComposeK
namespace Go.Proofs.Qxb6613072a
open Go.Shelf Go.RowKit Go.Lib Go.Sort
set_option linter.unusedVariables false

abbrev Kx (M : Ms) (S : Nat → Bool) : Type := { i : Nat // i < M.N ∧ S i = true }
def ltK {M : Ms} {S : Nat → Bool} (x y : Kx M S) : Bool := decide (x.1 < y.1)
theorem swo_ltK {M : Ms} {S : Nat → Bool} : SWO (ltK (M := M) (S := S)) :=
  ⟨fun x => by simp [ltK], fun x y z h1 h2 => by simp [ltK] at h1 h2 ⊢; omega, fun x y z h1 h2 => by simp [ltK] at h1 h2 ⊢; omega⟩
def encK {M : Ms} {S : Nat → Bool} (x : Kx M S) : List Value := M.enc x.1

theorem sortWorld_heap {α : Type} [Inhabited α] (enc : α → List Value) (k : Nat) (w : World) (blk off m : Nat) (dk : Array α) (os : Array Obj) (j : Nat) (hj : j < w.heap.size) (hne : j ≠ blk) :
    (sortWorldK enc k w blk off m dk os).heap[j]? = w.heap[j]? := by
  unfold sortWorldK grow putRowK putRow mapBlock Sort.ahead
  simp only
  rw [Array.getElem?_append_left (by simpa using hj), Array.getElem?_modify, if_neg (fun e => hne e.symm)]

theorem sortWorld_below {α : Type} [Inhabited α] (enc : α → List Value) (k : Nat) (w : World) (blk off m : Nat) (dk : Array α) (os : Array Obj) (hb : blk < w.heap.size) :
    Go.RowKit.Below blk w (sortWorldK enc k w blk off m dk os) := by
  refine ⟨rfl, rfl, rfl, ?_, fun j hj => sortWorld_heap enc k w blk off m dk os j (by omega) (by omega)⟩
  unfold sortWorldK grow putRowK putRow mapBlock Sort.ahead
  simp

theorem svK (n : Nat) (h2 : 2 ≤ n) : Lib.swapperK n ((Try.prog.info? 78).get tell78) 25 = 9 := by
  have a : ((Try.prog.info? 78).get tell78).hasPointers = true := by kernel_rfl
  have b : ((Try.prog.info? 78).get tell78).bytes = 40 := by kernel_rfl
  have c : (n == 0) = false := by simp; omega
  have d : (n == 1) = false := by simp; omega
  simp [Lib.swapperK, a, b, c, d]

theorem Key5.of_holds {M : Ms} {S : Nat → Bool} [Inhabited (Kx M S)] {w : World} {blk : Nat} {d : Array (Kx M S)} (h : HoldsK encK 5 w blk 0 d) {a : Nat} (ha : a < d.size) : Key5 M w blk a d[a]!.1 := by
  have e0 := (h.cell (i := a) (c := 0) ha (by omega)).1
  have e1 := (h.cell (i := a) (c := 1) ha (by omega)).1
  have e2 := (h.cell (i := a) (c := 2) ha (by omega)).1
  have e3 := (h.cell (i := a) (c := 3) ha (by omega)).1
  have e4 := (h.cell (i := a) (c := 4) ha (by omega)).1
  rw [Nat.zero_add] at e0 e1 e2 e3 e4
  exact ⟨e0, e1, e2, e3, e4⟩

theorem holds_of_key5 {M : Ms} {S : Nat → Bool} [Inhabited (Kx M S)] {w : World} {blk : Nat} {d : Array (Kx M S)} (h : ∀ a, a < d.size → Key5 M w blk a d[a]!.1) (hf : ∀ j, j < d.size * 5 → w.frozen? ⟨blk, j, none⟩ = false) : HoldsK encK 5 w blk 0 d := by
  intro j hj
  have hj' : j < d.size * 5 := by simpa using hj
  rw [Nat.zero_add]
  refine ⟨?_, hf j hj'⟩
  rw [get_flatK _ _ _ _ hj']
  have hk := h (j / 5) (by omega)
  have hm : j % 5 = 0 ∨ j % 5 = 1 ∨ j % 5 = 2 ∨ j % 5 = 3 ∨ j % 5 = 4 := by omega
  have hd : j = j / 5 * 5 + j % 5 := by omega
  generalize j / 5 = a at *
  generalize j % 5 = c at *
  subst hd
  rcases hm with rfl | rfl | rfl | rfl | rfl
  · exact hk.k0
  · exact hk.k1
  · exact hk.k2
  · exact hk.k3
  · exact hk.k4

/-- What the keys' row is after the sort. -/
def SPost (M : Ms) (w : World) (blk : Nat) (ks : List Nat) (e : Ending) (w' : World) : Prop :=
  e = .returned (.tuple #[]) ∧ ∃ ks' : List Nat, ks'.Perm ks ∧ ks'.Pairwise (· ≤ ·) ∧ (∀ a (h : a < ks'.length), Key5 M w' blk a ks'[a]) ∧ Go.RowKit.Below blk w w'

theorem sort_big (M : Ms) (G : M.Good) (w0 w : World) (b2 b5 jb blk c cc nn : Nat) (mv : Value) (S : Nat → Bool) (HB QB : Nat → Nat) (ks : List Nat)
    (hJ : J M w0 jb mv S HB QB cc nn) (hB : Go.RowKit.Below w0.heap.size w0 w) (hblk0 : w0.heap.size ≤ blk) (hblk : blk < w.heap.size) (n2 : b2 ≠ blk) (n5 : b5 ≠ blk)
    (h2 : w.cell? ⟨b2, 0, none⟩ = some (.pointer (some ⟨jb, 0, none⟩))) (h5 : w.cell? ⟨b5, 0, none⟩ = some (.slice (some ⟨blk, 0, none⟩) ks.length c))
    (hks : ∀ x ∈ ks, x < M.N ∧ S x = true) (hl2 : 2 ≤ ks.length) (hl : ks.length ≤ 4096) (hk : ∀ a (h : a < ks.length), Key5 M w blk a ks[a]) (hf : ∀ j, j < ks.length * 5 → w.frozen? ⟨blk, j, none⟩ = false) :
    Calls Try.prog 39 #[.iface 86 (.slice (some ⟨blk, 0, none⟩) ks.length c), .func (.func 40) #[] #[.pointer (some ⟨b2, 0, none⟩), .pointer (some ⟨b5, 0, none⟩)]] w (SPost M w blk ks) := by
  haveI : Inhabited (Kx M S) := ⟨⟨ks[0], hks _ (List.getElem_mem _)⟩⟩
  obtain ⟨d, hd⟩ : ∃ d : Array (Kx M S), d = (ks.attach.map fun x => (⟨x.1, hks x.1 x.2⟩ : Kx M S)).toArray := ⟨_, rfl⟩
  have hds : d.size = ks.length := by rw [hd]; simp
  have hdl : d.toList.map (·.1) = ks := by rw [hd]; simp
  have hdg : ∀ a (h : a < ks.length), d[a]!.1 = ks[a] := by
    intro a h
    rw [getElem!_pos d a (by omega)]
    have e : (d.toList.map (·.1))[a]? = ks[a]? := by rw [hdl]
    rw [List.getElem?_map, List.getElem?_eq_getElem (by simpa using (by omega : a < d.size)), List.getElem?_eq_getElem h] at e
    simpa using e
  clear hd
  have hH : HoldsK encK 5 w blk 0 d := holds_of_key5 (fun a ha => by rw [hdg a (by omega)]; exact hk a (by omega)) (fun j hj => hf j (by omega))
  have jl : jb < w0.heap.size := World.block_lt_of_cell? w0 _ hJ.c0
  have hless : LessReadsK Try.prog 40 #[.pointer (some ⟨b2, 0, none⟩), .pointer (some ⟨b5, 0, none⟩)] (encK (M := M) (S := S)) 5 ltK blk 0 d.size w := by
    intro m os dk hs i j hi hj
    have hHg : HoldsK encK 5 (sortWorldK encK 5 w blk 0 m dk os) blk 0 dk := holdsK_sortWorldK _ _ _ _ _ _ d dk os hblk hH hs
    have hh := sortWorld_heap (encK (M := M) (S := S)) 5 w blk 0 m dk os
    have hc : ∀ (p : Addr) (v : Value), p.block ≠ blk → w.cell? p = some v → (sortWorldK encK 5 w blk 0 m dk os).cell? p = some v := fun p v hne h =>
      (World.cell?_of_block (w := w) (hh p.block (World.block_lt_of_cell? w _ h) hne)).trans h
    generalize sortWorldK encK 5 w blk 0 m dk os = W at *
    have px := dk[i]!.2
    have py := dk[j]!.2
    have hx := hJ.held _ px.1 px.2
    have hy := hJ.held _ py.1 py.2
    have lx := World.block_lt_of_cell? w0 _ hx.c0
    have ly := World.block_lt_of_cell? w0 _ hy.c0
    have hm : MapSt M W mv nn S HB := (hJ.mp.below hB).kept (fun b e => by
      subst e
      have l := hJ.mp.lt
      exact hh b (Nat.lt_of_lt_of_le l hB.size) (by omega))
    exact less_call M G W b2 b5 jb blk c ks.length nn i j dk[i]!.1 dk[j]!.1 mv S HB (hc _ _ n2 h2) (hc _ _ (by show jb ≠ blk; omega) (keepCell hB hJ.c0)) (hc _ _ n5 h5) hm (by omega) (by omega) hl px.1 py.1 px.2 py.2
      (Key5.of_holds hHg (by omega)) (Key5.of_holds hHg (by omega)) (hc _ _ (by simp only at lx ⊢; omega) (keepCell hB hx.c0)) (hc _ _ (by simp only at ly ⊢; omega) (keepCell hB hy.c0))
  have main := Any.sort_Slice_cells_sorted sort_lay 86 78 ((Try.prog.info? 86).get tell86) ((Try.prog.info? 78).get tell78) (by kernel_rfl) (by kernel_rfl) (by kernel_rfl) (by kernel_rfl) 25 (fun _ => by kernel_rfl) (encK (M := M) (S := S)) 5 (fun _ => rfl) (by kernel_rfl) (fun _ => by kernel_rfl)
    (fun x v hv => by simp [encK, Ms.enc] at hv; rcases hv with rfl | rfl | rfl | rfl | rfl <;> rfl) ltK swo_ltK 40 #[.pointer (some ⟨b2, 0, none⟩), .pointer (some ⟨b5, 0, none⟩)]
    (enters_of Try.func40 (by kernel_rfl) rfl) blk 0 c d (by omega) (by omega) 57 (by rw [svK _ (by omega)]; kernel_rfl) false
    (fun args W => run_callFunc_extern Try.func57 (by kernel_rfl) (by kernel_rfl) (by kernel_rfl) (e := Extern.ReflectliteSwapper.swap false) (by kernel_rfl) args W) w hless hH hblk
  rw [hds] at main
  refine main.mono ?_
  rintro e w' ⟨rfl, d', n, os, hp, hso, rfl⟩
  obtain ⟨hs', _, hperm⟩ := hp
  have hHg : HoldsK encK 5 (grow (putRowK encK 5 (Sort.ahead w n) blk 0 d') os) blk 0 d' := holdsK_sortWorldK _ _ _ _ _ _ d d' os hblk hH (by omega)
  have hbel := sortWorld_below (encK (M := M) (S := S)) 5 w blk 0 n d' os hblk
  have x1 : d'.extract 0 ks.length = d' := by rw [← hds, ← hs']; simp
  have x2 : d.extract 0 ks.length = d := by rw [← hds]; simp
  rw [x1, x2] at hperm
  refine ⟨rfl, d'.toList.map (·.1), ?_, ?_, ?_, hbel⟩
  · rw [← hdl]; exact hperm.map _
  · rw [List.pairwise_iff_getElem]
    intro i j hi hj hij
    have hi' : i < d'.size := by simpa using hi
    have hj' : j < d'.size := by simpa using hj
    have h := hso i j (Nat.zero_le _) hij (by omega)
    rw [getElem!_pos d' i hi', getElem!_pos d' j hj'] at h
    simp [ltK] at h
    simpa using h
  · intro a h
    have ha : a < d'.size := by simpa using h
    have := Key5.of_holds hHg ha
    rw [getElem!_pos d' a ha] at this
    simpa using this
end Go.Proofs.Qxb6613072a
