import Derived.Test.Qxb6613072aMap
namespace Go.Proofs.Qxb6613072a
open Go.RowKit Go.Maps
set_option linter.unusedVariables false

theorem below_drew {B : Nat} {w W : World} (h : Below B w W) (q : Nat) : Below B w (W.drewN q) := h.trans ⟨rfl, rfl, rfl, Nat.le_refl _, fun _ _ => rfl⟩

/-- Where the argument lies: the block and the place of its first cell, and of each message's numbers. -/
structure Mem where
  a : Option Addr
  cap : Nat
  B : Nat
  F : Nat
  SA : Nat → Option Addr
  SC : Nat → Nat
  SB : Nat → Nat
  SF : Nat → Nat

structure MsgsAt (M : Ms) (m : Mem) (w : World) : Prop where
  addr : 0 < M.N → m.a = some ⟨m.B, m.F, none⟩
  c0 : ∀ i, i < M.N → w.cell? ⟨m.B, m.F + i * 7, none⟩ = some (.string (M.O i))
  c1 : ∀ i, i < M.N → w.cell? ⟨m.B, m.F + i * 7 + 1, none⟩ = some (.int .u8 (M.Ty i))
  c2 : ∀ i, i < M.N → w.cell? ⟨m.B, m.F + i * 7 + 2, none⟩ = some (.int .i64 (M.Rf i))
  c3 : ∀ i, i < M.N → w.cell? ⟨m.B, m.F + i * 7 + 3, none⟩ = some (.int .i64 (M.To i))
  c4 : ∀ i, i < M.N → w.cell? ⟨m.B, m.F + i * 7 + 4, none⟩ = some (.int .u8 (M.El i))
  c5 : ∀ i, i < M.N → w.cell? ⟨m.B, m.F + i * 7 + 5, none⟩ = some (.slice (m.SA i) (M.SL i) (m.SC i))
  c6 : ∀ i, i < M.N → w.cell? ⟨m.B, m.F + i * 7 + 6, none⟩ = some (.int .i64 (M.La i))
  sa : ∀ i, i < M.N → 0 < M.SL i → m.SA i = some ⟨m.SB i, m.SF i, none⟩
  sq : ∀ i, i < M.N → ∀ k, k < M.SL i → w.cell? ⟨m.SB i, m.SF i + k, none⟩ = some (.int .i64 (M.SQ i k))

theorem keepCell {w w' : World} (h : Below w.heap.size w w') {a : Addr} {v : Value} (hc : w.cell? a = some v) : w'.cell? a = some v :=
  (h.cell (World.block_lt_of_cell? w a hc)).trans hc

theorem MsgsAt.below {M : Ms} {m : Mem} {w w' : World} (h : MsgsAt M m w) (hb : Below w.heap.size w w') : MsgsAt M m w' :=
  ⟨h.addr, fun i hi => keepCell hb (h.c0 i hi), fun i hi => keepCell hb (h.c1 i hi), fun i hi => keepCell hb (h.c2 i hi), fun i hi => keepCell hb (h.c3 i hi),
   fun i hi => keepCell hb (h.c4 i hi), fun i hi => keepCell hb (h.c5 i hi), fun i hi => keepCell hb (h.c6 i hi), h.sa, fun i hi k hk => keepCell hb (h.sq i hi k hk)⟩

set_option maxHeartbeats 2000000 in
theorem sameKey_call (B p q : Nat) (s s' : ByteArray) (y y' r r' t t' e e' : Int) (w : World)
    (a0 : w.cell? ⟨B, p, none⟩ = some (.string s)) (a1 : w.cell? ⟨B, p + 1, none⟩ = some (.int .u8 y)) (a2 : w.cell? ⟨B, p + 2, none⟩ = some (.int .i64 r)) (a3 : w.cell? ⟨B, p + 3, none⟩ = some (.int .i64 t)) (a4 : w.cell? ⟨B, p + 4, none⟩ = some (.int .u8 e))
    (b0 : w.cell? ⟨B, q, none⟩ = some (.string s')) (b1 : w.cell? ⟨B, q + 1, none⟩ = some (.int .u8 y')) (b2 : w.cell? ⟨B, q + 2, none⟩ = some (.int .i64 r')) (b3 : w.cell? ⟨B, q + 3, none⟩ = some (.int .i64 t')) (b4 : w.cell? ⟨B, q + 4, none⟩ = some (.int .u8 e')) :
    Calls Try.prog 24 #[.pointer (some ⟨B, p, none⟩), .pointer (some ⟨B, q, none⟩)] w fun x w' =>
      ∃ v, x = .returned (.bool v) ∧ (v = false → ¬ (s = s' ∧ y = y' ∧ r = r' ∧ t = t' ∧ e = e')) ∧ Below w.heap.size w w' := by
  by_cases h0 : s = s'
  · subst h0
    by_cases h1 : y = y'
    · subst h1
      by_cases h2 : r = r'
      · subst h2
        by_cases h3 : t = t'
        · subst h3
          by_cases h4 : e = e'
          · subst h4
            go_enter Try.func24, Try.ntmps24
            go_wp2_with fail
            go_quiet (fail)
            go_wp2
            go_ret
            exact ⟨_, rfl, by simp, below_drew (Below.refl _ _) _⟩
          · have h4' : (e == e') = false := by simp [h4]
            go_enter Try.func24, Try.ntmps24
            go_wp2_with fail
            go_quiet (fail)
            go_wp2
            go_ret
            exact ⟨_, rfl, by simp [h4], below_drew (Below.refl _ _) _⟩
        · have h3' : (t == t') = false := by simp [h3]
          go_enter Try.func24, Try.ntmps24
          go_wp2_with fail
          go_quiet (fail)
          go_wp2
          go_ret
          exact ⟨_, rfl, by simp [h3], below_drew (Below.refl _ _) _⟩
      · have h2' : (r == r') = false := by simp [h2]
        go_enter Try.func24, Try.ntmps24
        go_wp2_with fail
        go_quiet (fail)
        go_wp2
        go_ret
        exact ⟨_, rfl, by simp [h2], below_drew (Below.refl _ _) _⟩
    · have h1' : (y == y') = false := by simp [h1]
      go_enter Try.func24, Try.ntmps24
      go_wp2_with fail
      go_quiet (fail)
      go_wp2
      go_ret
      exact ⟨_, rfl, by simp [h1], below_drew (Below.refl _ _) _⟩
  · have h0' : (s.toList == s'.toList) = false := beq_eq_false_iff_ne.2 (fun h => h0 (WideShapes.bytes_inj (by rw [← ByteArray.toList_eq, ← ByteArray.toList_eq]; exact h)))
    go_enter Try.func24, Try.ntmps24
    go_wp2_with fail
    go_quiet (fail)
    go_wp2
    go_ret
    exact ⟨_, rfl, by simp [h0], below_drew (Below.refl _ _) _⟩
end Go.Proofs.Qxb6613072a
