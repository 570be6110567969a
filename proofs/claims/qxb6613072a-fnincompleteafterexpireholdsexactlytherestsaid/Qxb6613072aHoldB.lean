import Derived.Test.Qxb6613072aHold
import Derived.DeepKeys4
namespace Go.Proofs.Qxb6613072a
open Go.RowKit Go.Maps
set_option linter.unusedVariables false
theorem Try.info72 : (Try.prog.info? 72).map (fun i => (i.zero, i.size, i.bytes)) = some (some (.agg #[.int .i64 0, .int .i64 0, .int .i64 0, .int .i64 0, .int .i64 0, .int .i64 0, .int .u8 0, .int .u8 0]), 8, 56) := by kernel_rfl
theorem Try.info78 : (Try.prog.info? 78).map (fun i => (i.zero, i.size, i.bytes)) = some (some (.agg #[.string ByteArray.empty, .int .i64 0, .int .i64 0, .int .u8 0, .int .u8 0]), 5, 40) := by kernel_rfl
theorem Try.info45 : (Try.prog.info? 45).map (fun i => (i.zero, i.size, i.bytes)) = some (some (.agg #[.int .u8 0, .string ByteArray.empty, .int .u8 0, .int .i64 0, .int .i64 0, .slice none 0 0, .int .u64 0, .int .i64 0, .pointer none]), 9, 96) := by kernel_rfl
theorem laid : laidOutB Try.prog = true := by kernel_rfl
theorem key_keyed : Keyed Try.prog 78 := Keyed.of_law (deep_law_laid laid (m := 3) (by omega) (of_decide_eq_true (by kernel_rfl)) (by kernel_rfl) (by kernel_rfl))

/-! ### The messages, and the key of each -/
structure Ms where
  N : Nat
  O : Nat → ByteArray
  Ty : Nat → Int
  Rf : Nat → Int
  To : Nat → Int
  El : Nat → Int
  La : Nat → Int
  SL : Nat → Nat
  SQ : Nat → Nat → Int
  κ : Nat → Lit

def Ms.KV (M : Ms) (i : Nat) : Value := .agg #[.string (M.O i), .int .i64 (M.Rf i), .int .i64 (M.To i), .int .u8 (M.El i), .int .u8 (M.Ty i)]

theorem key_some (s : ByteArray) (r t e y : Int) (hs : s.size ≤ maxLen) (hr : (Lit.int .i64 r).wf = true) (ht : (Lit.int .i64 t).wf = true) (he : (Lit.int .u8 e).wf = true) (hy : (Lit.int .u8 y).wf = true) :
    ∃ κ, keyOf Try.prog 78 (.agg #[.string s, .int .i64 r, .int .i64 t, .int .u8 e, .int .u8 y]) = some κ := by
  have hk : Try.prog.keyType 78 = true := by kernel_rfl
  have hf : Value.formed Try.prog 78 (.agg #[.string s, .int .i64 r, .int .i64 t, .int .u8 e, .int .u8 y]) = true := by kernel_rfl
  have c9 : Try.prog.cellsOf 9 = 1 := by kernel_rfl
  have c3 : Try.prog.cellsOf 3 = 1 := by kernel_rfl
  have c5 : Try.prog.cellsOf 5 = 1 := by kernel_rfl
  have c39 : Try.prog.cellsOf 39 = 1 := by kernel_rfl
  have c78 : Try.prog.cellsOf 78 = 5 := by kernel_rfl
  obtain ⟨m, ts⟩ : ∃ m, Try.prog.types.size + 1 = m + 1 + 1 := by
    have h0 : Try.prog.types.size ≠ 0 := of_decide_eq_true (by kernel_rfl)
    exact ⟨Try.prog.types.size - 1, by omega⟩
  have k9 : Try.prog.keyLits (m + 1) 9 [.string s] = some [.string s.data.toList] := by
    unfold Program.keyLits; rw [Try.underlying9]; simp only [hs, if_true]
  have k3 : ∀ x, (Lit.int .i64 x).wf = true → Try.prog.keyLits (m + 1) 3 [.int .i64 x] = some [.int .i64 x] := by
    intro x hx; unfold Program.keyLits; rw [Try.underlying3]; simp only [hx, and_self, if_true]
  have k5 : ∀ x, (Lit.int .u8 x).wf = true → Try.prog.keyLits (m + 1) 5 [.int .u8 x] = some [.int .u8 x] := by
    intro x hx; unfold Program.keyLits; rw [Try.underlying5]; simp only [hx, and_self, if_true]
  have k39 : ∀ x, (Lit.int .u8 x).wf = true → Try.prog.keyLits (m + 1) 39 [.int .u8 x] = some [.int .u8 x] := by
    intro x hx; unfold Program.keyLits; rw [Try.underlying39]; simp only [hx, and_self, if_true]
  have kk : ∃ ls, Try.prog.keyLits (m + 1 + 1) 78 [.string s, .int .i64 r, .int .i64 t, .int .u8 e, .int .u8 y] = some ls := by
    unfold Program.keyLits
    rw [Try.underlying78]
    simp [c9, c3, c5, c39, c78, k9, k3 r hr, k3 t ht, k39 e he, k5 y hy]
  obtain ⟨ls, kk⟩ := kk
  refine ⟨.string (keyBytes ls), ?_⟩
  unfold keyOf
  rw [Try.underlying78]
  simp only [hk, hf, Bool.and_self, if_true]
  rw [ts]
  show (Try.prog.keyLits (m + 1 + 1) 78 [.string s, .int .i64 r, .int .i64 t, .int .u8 e, .int .u8 y]).map _ = _
  rw [kk]
  rfl
end Go.Proofs.Qxb6613072a
