import Derived.Test.Qxb6613072aReach
import Derived.Deep.Slices
namespace Go.Proofs.Qxb6613072a
open Go.RowKit Go.Maps Go.Deep Go.ChangeShapes Go.WideShapes
set_option linter.unusedVariables false

/-- One message, as it reads. -/
structure One where
  o : ByteArray
  ty : Int
  rf : Int
  tot : Int
  el : Int
  la : Int
  sl : Nat
  sc : Nat
  sa : Option Addr
  sb : Nat
  sf : Nat
  sq : Nat → Int

structure OneAt (W : World) (B p : Nat) (x : One) : Prop where
  c0 : W.cell? ⟨B, p, none⟩ = some (.string x.o)
  c1 : W.cell? ⟨B, p + 1, none⟩ = some (.int .u8 x.ty)
  c2 : W.cell? ⟨B, p + 2, none⟩ = some (.int .i64 x.rf)
  c3 : W.cell? ⟨B, p + 3, none⟩ = some (.int .i64 x.tot)
  c4 : W.cell? ⟨B, p + 4, none⟩ = some (.int .u8 x.el)
  c5 : W.cell? ⟨B, p + 5, none⟩ = some (.slice x.sa x.sl x.sc)
  c6 : W.cell? ⟨B, p + 6, none⟩ = some (.int .i64 x.la)
  sa : 0 < x.sl → x.sa = some ⟨x.sb, x.sf, none⟩
  sq : ∀ k, k < x.sl → W.cell? ⟨x.sb, x.sf + k, none⟩ = some (.int .i64 (x.sq k))
  w0 : x.o.size ≤ maxLen
  w1 : (Lit.int .u8 x.ty).wf = true
  w2 : (Lit.int .i64 x.rf).wf = true
  w3 : (Lit.int .i64 x.tot).wf = true
  w4 : (Lit.int .u8 x.el).wf = true
  w6 : (Lit.int .i64 x.la).wf = true

/-- What the reading says of the messages' values. -/
structure Ms.Wf (M : Ms) : Prop where
  n : M.N ≤ maxLen
  key : ∀ i, i < M.N → keyOf Try.prog 78 (M.KV i) = some (M.κ i)
  w0 : ∀ i, i < M.N → (M.O i).size ≤ maxLen
  w1 : ∀ i, i < M.N → (Lit.int .u8 (M.Ty i)).wf = true
  w2 : ∀ i, i < M.N → (Lit.int .i64 (M.Rf i)).wf = true
  w3 : ∀ i, i < M.N → (Lit.int .i64 (M.To i)).wf = true
  w4 : ∀ i, i < M.N → (Lit.int .u8 (M.El i)).wf = true
  w6 : ∀ i, i < M.N → (Lit.int .i64 (M.La i)).wf = true

theorem i64_range {x : Int} (h : (Lit.int .i64 x).wf = true) : -9223372036854775808 ≤ x ∧ x < 9223372036854775808 := by
  simp only [Lit.wf, Bool.and_eq_true, decide_eq_true_eq] at h
  have h1 : IntKind.min .i64 = -9223372036854775808 := by decide
  have h2 : IntKind.max .i64 = 9223372036854775807 := by decide
  omega

theorem Ms.Wf.good {M : Ms} (h : M.Wf) (hN : M.N ≤ 4096) (hR : M.R M.N) : M.Good := by
  refine ⟨hN, h.key, fun i j hi hj e => ?_, fun i hi => i64_range (h.w6 i hi), fun i hi => (hR.1 i hi).2⟩
  have key : M.Same i j := by
    simp only [Ms.KV, Value.agg.injEq, Array.mk.injEq, List.cons.injEq, Value.string.injEq, Value.int.injEq, true_and, and_true] at e
    obtain ⟨e0, e1, e2, e3, e4⟩ := e
    exact ⟨e0, e4, e1, e2, e3⟩
  rcases Nat.lt_trichotomy i j with h1 | h1 | h1
  · exact absurd key (hR.2 i j h1 hj)
  · exact h1
  · exact absurd (⟨key.1.symm, key.2.1.symm, key.2.2.1.symm, key.2.2.2.1.symm, key.2.2.2.2.symm⟩ : M.Same j i) (hR.2 j i h1 hi)

section
variable {H : Type} {enc : TypeId × Value → H} {W : World} {base : Nat} {spare : Nat → Bool} {held : Bool}

set_option maxRecDepth 100000 in
theorem open_one {n B p : Nat} {cs : List Value} {y : DataW H × List MemPlace} (hc : W.cells? base ⟨B, p, none⟩ 7 = some cs) (h : DataW.trod enc Try.prog W base spare held n 36 cs = some y) : ∃ x, OneAt W B p x := by
  obtain ⟨_, hlen, hcell⟩ := World.cells?_some hc
  obtain ⟨xs, k, _, _, _, hxl, hf⟩ := DataW.trod_struct Try.underlying36 h
  have c9 : Try.prog.cellsOf 9 = 1 := by kernel_rfl
  have c5 : Try.prog.cellsOf 5 = 1 := by kernel_rfl
  have c3 : Try.prog.cellsOf 3 = 1 := by kernel_rfl
  have c34 : Try.prog.cellsOf 34 = 1 := by kernel_rfl
  have c2 : Try.prog.cellsOf 2 = 1 := by kernel_rfl
  match cs, hlen with
  | [v0, v1, v2, v3, v4, v5, v6], _ =>
  match xs, hxl with
  | [x0, x1, x2, x3, x4, x5, x6], _ =>
  have f0 : DataW.trod enc Try.prog W base spare held k 9 (([v0, v1, v2, v3, v4, v5, v6].drop 0).take (Try.prog.cellsOf 9)) = some x0 := hf 0 _ rfl
  rw [c9] at f0
  have f1 : DataW.trod enc Try.prog W base spare held k 5 (([v0, v1, v2, v3, v4, v5, v6].drop 1).take (Try.prog.cellsOf 5)) = some x1 := hf 1 _ rfl
  rw [c5] at f1
  have f2 : DataW.trod enc Try.prog W base spare held k 3 (([v0, v1, v2, v3, v4, v5, v6].drop 2).take (Try.prog.cellsOf 3)) = some x2 := hf 2 _ rfl
  rw [c3] at f2
  have f3 : DataW.trod enc Try.prog W base spare held k 3 (([v0, v1, v2, v3, v4, v5, v6].drop 3).take (Try.prog.cellsOf 3)) = some x3 := hf 3 _ rfl
  rw [c3] at f3
  have f4 : DataW.trod enc Try.prog W base spare held k 5 (([v0, v1, v2, v3, v4, v5, v6].drop 4).take (Try.prog.cellsOf 5)) = some x4 := hf 4 _ rfl
  rw [c5] at f4
  have f5 : DataW.trod enc Try.prog W base spare held k 34 (([v0, v1, v2, v3, v4, v5, v6].drop 5).take (Try.prog.cellsOf 34)) = some x5 := hf 5 _ rfl
  rw [c34] at f5
  have f6 : DataW.trod enc Try.prog W base spare held k 2 (([v0, v1, v2, v3, v4, v5, v6].drop 6).take (Try.prog.cellsOf 2)) = some x6 := hf 6 _ rfl
  rw [c2] at f6
  simp only [List.drop_zero, List.drop_succ_cons, List.take_succ_cons, List.take_zero] at f0 f1 f2 f3 f4 f5 f6
  obtain ⟨s, e0, _, q0⟩ := DataW.trod_string Try.underlying9 f0
  obtain ⟨n1, e1, _, q1⟩ := DataW.trod_int Try.underlying5 f1
  obtain ⟨n2, e2, _, q2⟩ := DataW.trod_int Try.underlying3 f2
  obtain ⟨n3, e3, _, q3⟩ := DataW.trod_int Try.underlying3 f3
  obtain ⟨n4, e4, _, q4⟩ := DataW.trod_int Try.underlying5 f4
  obtain ⟨n6, e6, _, q6⟩ := DataW.trod_int Try.underlying2 f6
  simp at e0 e1 e2 e3 e4 e6
  subst e0 e1 e2 e3 e4 e6
  have d0 := hcell 0 (by omega)
  have d1 := hcell 1 (by omega)
  have d2 := hcell 2 (by omega)
  have d3 := hcell 3 (by omega)
  have d4 := hcell 4 (by omega)
  have d5 := hcell 5 (by omega)
  have d6 := hcell 6 (by omega)
  rw [add_plain] at d0 d1 d2 d3 d4 d5 d6
  simp only [Nat.add_zero, List.getElem?_cons_zero, List.getElem?_cons_succ] at d0 d1 d2 d3 d4 d5 d6
  rcases open_ints Try.underlying34 Try.underlying3 c3 f5 with ⟨hcs, _⟩ | ⟨ad, len, cap, zs, hcs, _, hl, _, hz, _, hq, _⟩
  · simp at hcs
    subst hcs
    exact ⟨⟨s, n1, n2, n3, n4, n6, 0, 0, none, 0, 0, fun _ => 0⟩, d0, d1, d2, d3, d4, d5, d6, fun h => absurd h (Nat.lt_irrefl _), fun k h => absurd h (Nat.not_lt_zero _), q0, q1, q2, q3, q4, q6⟩
  · simp at hcs
    subst hcs
    obtain ⟨b, off, spot⟩ := ad
    have hzl : len ≤ zs.length := by rw [hz]; split <;> omega
    have hspot : 0 < len → spot = none := fun h0 => by
      have g0 := hq 0 (by omega)
      simpa [Addr.add] using World.cell?_spot g0
    refine ⟨⟨s, n1, n2, n3, n4, n6, len, cap, some ⟨b, off, spot⟩, b, off, fun k => zs.getD k 0⟩, d0, d1, d2, d3, d4, d5, d6, fun h => by rw [hspot h], fun k hk => ?_, q0, q1, q2, q3, q4, q6⟩
    have h0 : 0 < len := Nat.lt_of_le_of_lt (Nat.zero_le _) hk
    have g := hq k (Nat.lt_of_lt_of_le hk hzl)
    rw [hspot h0, add_plain] at g
    exact g

theorem open_msgs {fuel len cap : Nat} {a : Option Addr} {x : DataW H × List MemPlace} (h : DataW.trod enc Try.prog W base spare held fuel 27 [.slice a len cap] = some x) :
    ∃ (M : Ms) (m : Mem), M.N = len ∧ m.a = a ∧ m.cap = cap ∧ MsgsAt M m W ∧ M.Wf := by
  have c36 : Try.prog.cellsOf 36 = 7 := by kernel_rfl
  rcases open_slice Try.underlying27 h with ⟨hcs, _⟩ | ⟨ad, len', cap', k, n, D, Pl, hcs, _, hl, hm, hk, _, hx⟩
  · simp at hcs
    obtain ⟨rfl, rfl, rfl⟩ := hcs
    have no : ∀ i, ¬ i < 0 := Nat.not_lt_zero
    exact ⟨⟨0, fun _ => ByteArray.empty, fun _ => 0, fun _ => 0, fun _ => 0, fun _ => 0, fun _ => 0, fun _ => 0, fun _ _ => 0, fun _ => .bool true⟩, ⟨none, 0, 0, 0, fun _ => none, fun _ => 0, fun _ => 0, fun _ => 0⟩, rfl, rfl, rfl,
      ⟨fun h => absurd h (no _), fun i h => absurd h (no _), fun i h => absurd h (no _), fun i h => absurd h (no _), fun i h => absurd h (no _), fun i h => absurd h (no _), fun i h => absurd h (no _), fun i h => absurd h (no _), fun i h => absurd h (no _), fun i h => absurd h (no _)⟩,
      ⟨Nat.zero_le _, fun i h => absurd h (no _), fun i h => absurd h (no _), fun i h => absurd h (no _), fun i h => absurd h (no _), fun i h => absurd h (no _), fun i h => absurd h (no _), fun i h => absurd h (no _)⟩⟩
  · simp at hcs
    obtain ⟨rfl, rfl, rfl⟩ := hcs
    rw [c36] at hx
    obtain ⟨B, F, spot⟩ := ad
    have hkl : len ≤ k := by rw [hk]; split <;> omega
    have hspot : 0 < len → spot = none := fun h0 => by
      obtain ⟨cs', h1, _⟩ := hx 0 (by omega)
      obtain ⟨_, hlen, hcell⟩ := World.cells?_some h1
      have g0 := hcell 0 (by omega)
      match cs', hlen with
      | c :: _, _ =>
      simp only [Nat.zero_mul, List.getElem?_cons_zero] at g0
      simpa [Addr.add] using World.cell?_spot g0
    have all : ∀ i, i < len → ∃ x : One, OneAt W B (F + i * 7) x := fun i hi => by
      obtain ⟨cs', h1, h2⟩ := hx i (by omega)
      rw [hspot (by omega), add_plain] at h1
      exact open_one h1 h2
    have : Inhabited One := ⟨⟨ByteArray.empty, 0, 0, 0, 0, 0, 0, 0, none, 0, 0, fun _ => 0⟩⟩
    obtain ⟨f, hf⟩ := choose_lt all
    have : Inhabited Lit := ⟨.bool true⟩
    obtain ⟨κ, hκ⟩ := choose_lt (fun i (hi : i < len) => key_some (f i).o (f i).rf (f i).tot (f i).el (f i).ty (hf i hi).w0 (hf i hi).w2 (hf i hi).w3 (hf i hi).w4 (hf i hi).w1)
    exact ⟨⟨len, fun i => (f i).o, fun i => (f i).ty, fun i => (f i).rf, fun i => (f i).tot, fun i => (f i).el, fun i => (f i).la, fun i => (f i).sl, fun i => (f i).sq, κ⟩, ⟨some ⟨B, F, spot⟩, cap, B, F, fun i => (f i).sa, fun i => (f i).sc, fun i => (f i).sb, fun i => (f i).sf⟩, rfl, rfl, rfl,
      ⟨fun h => by show some _ = some _; rw [hspot h], fun i h => (hf i h).c0, fun i h => (hf i h).c1, fun i h => (hf i h).c2, fun i h => (hf i h).c3, fun i h => (hf i h).c4, fun i h => (hf i h).c5, fun i h => (hf i h).c6, fun i h => (hf i h).sa, fun i h => (hf i h).sq⟩,
      ⟨Nat.le_trans hl hm, hκ, fun i h => (hf i h).w0, fun i h => (hf i h).w1, fun i h => (hf i h).w2, fun i h => (hf i h).w3, fun i h => (hf i h).w4, fun i h => (hf i h).w6⟩⟩
end
end Go.Proofs.Qxb6613072a
