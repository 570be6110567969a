import Derived.Test.Qxb6613072aBuild
import Derived.Shelf.SlSortFuncK.WholeK
import Derived.Shelf.GgSortFunc.Tiny
namespace Go.Proofs.Qxb6613072a
open Go.Shelf Go.RowKit Go.Lib Go.Sort
set_option linter.unusedVariables false

/-! ### The place of sort.Slice in this dump -/
def sort_ren : Ren := ⟨fun | 6 => 39 | 10 => 44 | 11 => 45 | 12 => 46 | 13 => 47 | 14 => 48 | 24 => 58 | 25 => 59 | 26 => 60 | 27 => 61 | 28 => 62 | 29 => 63 | 30 => 64 | 31 => 65 | 32 => 66 | 33 => 67 | 34 => 68 | 35 => 69 | 36 => 70 | 37 => 71 | 38 => 72 | 39 => 73 | n => n, fun | 20 => 20 | 26 => 88 | 35 => 95 | 0 => 0 | 37 => 97 | 3 => 3 | 41 => 65 | 44 => 103 | 49 => 108 | 51 => 40 | 4 => 4 | 54 => 112 | 53 => 111 | 58 => 116 | 5 => 5 | 9 => 9 | 60 => 118 | 64 => 122 | 66 => 124 | 67 => 125 | 17 => 17 | 32 => 92 | 33 => 93 | 82 => 140 | 12 => 12 | 75 => 133 | 76 => 134 | 77 => 135 | 78 => 136 | 79 => 137 | 80 => 138 | n => n, fun n => n⟩
theorem sort_lay : LaysGg.n6 Try.prog sort_ren :=
  { mixed := by kernel_rfl,
    f6 := Eq.trans Try.func39 (congrArg some (by kernel_rfl)),
    f10 := Eq.trans Try.func44 (congrArg some (by kernel_rfl)),
    f11 := Eq.trans Try.func45 (congrArg some (by kernel_rfl)),
    f12 := Eq.trans Try.func46 (congrArg some (by kernel_rfl)),
    f13 := Eq.trans Try.func47 (congrArg some (by kernel_rfl)),
    f14 := Eq.trans Try.func48 (congrArg some (by kernel_rfl)),
    f24 := Eq.trans Try.func58 (congrArg some (by kernel_rfl)),
    f25 := Eq.trans Try.func59 (congrArg some (by kernel_rfl)),
    f26 := Eq.trans Try.func60 (congrArg some (by kernel_rfl)),
    f27 := Eq.trans Try.func61 (congrArg some (by kernel_rfl)),
    f28 := Eq.trans Try.func62 (congrArg some (by kernel_rfl)),
    f29 := Eq.trans Try.func63 (congrArg some (by kernel_rfl)),
    f30 := Eq.trans Try.func64 (congrArg some (by kernel_rfl)),
    f31 := Eq.trans Try.func65 (congrArg some (by kernel_rfl)),
    f32 := Eq.trans Try.func66 (congrArg some (by kernel_rfl)),
    f33 := Eq.trans Try.func67 (congrArg some (by kernel_rfl)),
    f34 := Eq.trans Try.func68 (congrArg some (by kernel_rfl)),
    f35 := Eq.trans Try.func69 (congrArg some (by kernel_rfl)),
    f36 := Eq.trans Try.func70 (congrArg some (by kernel_rfl)),
    f37 := Eq.trans Try.func71 (congrArg some (by kernel_rfl)),
    f38 := Eq.trans Try.func72 (congrArg some (by kernel_rfl)),
    f39 := Eq.trans Try.func73 (congrArg some (by kernel_rfl)),
    t0 := Try.underlying0, a0 := Try.isAgg0, z0 := Try.sizeOf0, v0 := Try.zeroValue0, i0 := by kernel_rfl,
    t3 := Try.underlying3, a3 := Try.isAgg3, z3 := Try.sizeOf3, v3 := Try.zeroValue3, i3 := by kernel_rfl,
    t4 := Try.underlying4, a4 := Try.isAgg4, z4 := Try.sizeOf4, v4 := Try.zeroValue4, i4 := by kernel_rfl,
    t5 := Try.underlying5, a5 := Try.isAgg5, z5 := Try.sizeOf5, v5 := Try.zeroValue5, i5 := by kernel_rfl,
    t9 := Try.underlying9, a9 := Try.isAgg9, z9 := Try.sizeOf9, v9 := Try.zeroValue9, i9 := by kernel_rfl,
    t12 := Try.underlying12, a12 := Try.isAgg12, z12 := Try.sizeOf12, v12 := Try.zeroValue12, i12 := by kernel_rfl,
    t17 := Try.underlying17, a17 := Try.isAgg17, z17 := Try.sizeOf17, v17 := Try.zeroValue17, i17 := by kernel_rfl,
    t20 := Try.underlying20, a20 := Try.isAgg20, z20 := Try.sizeOf20, v20 := Try.zeroValue20, i20 := by kernel_rfl,
    t26 := Try.underlying88, a26 := Try.isAgg88, z26 := Try.sizeOf88, v26 := Try.zeroValue88, i26 := by kernel_rfl,
    t32 := Try.underlying92, a32 := Try.isAgg92, z32 := Try.sizeOf92, v32 := Try.zeroValue92, i32 := by kernel_rfl,
    t33 := Try.underlying93, a33 := Try.isAgg93, z33 := Try.sizeOf93, v33 := Try.zeroValue93, i33 := by kernel_rfl,
    t35 := Try.underlying95, a35 := Try.isAgg95, z35 := Try.sizeOf95, v35 := Try.zeroValue95, i35 := by kernel_rfl,
    t37 := Try.underlying97, a37 := Try.isAgg97, z37 := Try.sizeOf97, v37 := Try.zeroValue97, i37 := by kernel_rfl,
    t41 := Try.underlying65, a41 := Try.isAgg65, z41 := Try.sizeOf65, v41 := Try.zeroValue65, i41 := by kernel_rfl,
    t44 := Try.underlying103, a44 := Try.isAgg103, z44 := Try.sizeOf103, v44 := Try.zeroValue103, i44 := by kernel_rfl,
    t49 := Try.underlying108, a49 := Try.isAgg108, z49 := Try.sizeOf108, v49 := Try.zeroValue108, i49 := by kernel_rfl,
    t51 := Try.underlying40, a51 := Try.isAgg40, z51 := Try.sizeOf40, v51 := Try.zeroValue40, i51 := by kernel_rfl,
    t53 := Try.underlying111, a53 := Try.isAgg111, z53 := Try.sizeOf111, v53 := Try.zeroValue111, i53 := by kernel_rfl,
    t54 := Try.underlying112, a54 := Try.isAgg112, z54 := Try.sizeOf112, v54 := Try.zeroValue112, i54 := by kernel_rfl,
    t58 := Try.underlying116, a58 := Try.isAgg116, z58 := Try.sizeOf116, v58 := Try.zeroValue116, i58 := by kernel_rfl,
    t60 := Try.underlying118, a60 := Try.isAgg118, z60 := Try.sizeOf118, v60 := Try.zeroValue118, i60 := by kernel_rfl,
    t64 := Try.underlying122, a64 := Try.isAgg122, z64 := Try.sizeOf122, v64 := Try.zeroValue122, i64 := by kernel_rfl,
    t66 := Try.underlying124, a66 := Try.isAgg124, z66 := Try.sizeOf124, v66 := Try.zeroValue124, i66 := by kernel_rfl,
    t67 := Try.underlying125, a67 := Try.isAgg125, z67 := Try.sizeOf125, v67 := Try.zeroValue125, i67 := by kernel_rfl,
    t75 := Try.underlying133, a75 := Try.isAgg133, z75 := Try.sizeOf133, v75 := Try.zeroValue133, i75 := by kernel_rfl,
    t76 := Try.underlying134, a76 := Try.isAgg134, z76 := Try.sizeOf134, v76 := Try.zeroValue134, i76 := by kernel_rfl,
    t77 := Try.underlying135, a77 := Try.isAgg135, z77 := Try.sizeOf135, v77 := Try.zeroValue135, i77 := by kernel_rfl,
    t78 := Try.underlying136, a78 := Try.isAgg136, z78 := Try.sizeOf136, v78 := Try.zeroValue136, i78 := by kernel_rfl,
    t79 := Try.underlying137, a79 := Try.isAgg137, z79 := Try.sizeOf137, v79 := Try.zeroValue137, i79 := by kernel_rfl,
    t80 := Try.underlying138, a80 := Try.isAgg138, z80 := Try.sizeOf138, v80 := Try.zeroValue138, i80 := by kernel_rfl,
    t82 := Try.underlying140, a82 := Try.isAgg140, z82 := Try.sizeOf140, v82 := Try.zeroValue140, i82 := by kernel_rfl }

theorem tell86 : (Try.prog.info? 86).isSome = true := by kernel_rfl
theorem tell78 : (Try.prog.info? 78).isSome = true := by kernel_rfl

/-- The five cells of message i's key. -/
def Ms.enc (M : Ms) (i : Nat) : List Value := [.string (M.O i), .int .i64 (M.Rf i), .int .i64 (M.To i), .int .u8 (M.El i), .int .u8 (M.Ty i)]
structure Key5 (M : Ms) (w : World) (blk a i : Nat) : Prop where
  k0 : w.cell? ⟨blk, a * 5, none⟩ = some (.string (M.O i))
  k1 : w.cell? ⟨blk, a * 5 + 1, none⟩ = some (.int .i64 (M.Rf i))
  k2 : w.cell? ⟨blk, a * 5 + 2, none⟩ = some (.int .i64 (M.To i))
  k3 : w.cell? ⟨blk, a * 5 + 3, none⟩ = some (.int .u8 (M.El i))
  k4 : w.cell? ⟨blk, a * 5 + 4, none⟩ = some (.int .u8 (M.Ty i))

theorem MapSt.drewN {M : Ms} {w : World} {mv : Value} {n : Nat} {S : Nat → Bool} {HB : Nat → Nat} (h : MapSt M w mv n S HB) (q : Nat) : MapSt M (w.drewN q) mv n S HB := h.kept (fun _ _ => rfl)

set_option maxHeartbeats 2000000 in
theorem less_call (M : Ms) (G : M.Good) (W : World) (b2 b5 jb blk c n nn a b x y : Nat) (mv : Value) (S : Nat → Bool) (HB : Nat → Nat)
    (h2 : W.cell? ⟨b2, 0, none⟩ = some (.pointer (some ⟨jb, 0, none⟩))) (hj : W.cell? ⟨jb, 0, none⟩ = some mv) (h5 : W.cell? ⟨b5, 0, none⟩ = some (.slice (some ⟨blk, 0, none⟩) n c))
    (hm : MapSt M W mv nn S HB) (ha : a < n) (hb : b < n) (hn : n ≤ 4096) (hx : x < M.N) (hy : y < M.N) (sx : S x = true) (sy : S y = true) (ka : Key5 M W blk a x) (kb : Key5 M W blk b y)
    (bx : W.cell? ⟨HB x, 0, none⟩ = some (.int .u64 x)) (bY : W.cell? ⟨HB y, 0, none⟩ = some (.int .u64 y)) :
    Calls Try.prog 40 #[.int .i64 a, .int .i64 b, .pointer (some ⟨b2, 0, none⟩), .pointer (some ⟨b5, 0, none⟩)] W fun e w' => e = .returned (.bool (decide (x < y))) ∧ ∃ q, w' = W.drewN q := by
  have lx := fun q => (hm.drewN q).look G hx sx
  have ly := fun q => (hm.drewN q).look G hy sy
  obtain ⟨a0, a1, a2, a3, a4⟩ := ka
  obtain ⟨c0, c1, c2, c3, c4⟩ := kb
  unfold Ms.KV at lx ly
  have hN := G.N
  generalize HB x = hbx at *
  generalize HB y = hby at *
  generalize M.O x = o at *
  generalize M.Rf x = rf at *
  generalize M.To x = tot at *
  generalize M.El x = el at *
  generalize M.Ty x = ty at *
  generalize M.O y = o' at *
  generalize M.Rf y = rf' at *
  generalize M.To y = tot' at *
  generalize M.El y = el' at *
  generalize M.Ty y = ty' at *
  have haz : (a : Int) < (n : Int) := by omega
  have haz0 : (0 : Int) ≤ (a : Int) := by omega
  have hbz : (b : Int) < (n : Int) := by omega
  have hbz0 : (0 : Int) ≤ (b : Int) := by omega
  have hxy : decide (x < y) = decide ((x : Int) < (y : Int)) := by
    by_cases h : x < y
    · have h' : (x : Int) < (y : Int) := by omega
      simp [h]
    · have h' : ¬ (x : Int) < (y : Int) := by omega
      simp [h]
  rw [hxy]
  clear hm hx hy sx sy hN hxy
  generalize hxz : (x : Int) = xz at *
  generalize hyz : (y : Int) = yz at *
  go_enter Try.func40, Try.ntmps40
  go_wp2_with fail
  go_quiet (fail)
  go_wp2
  go_ret
  exact ⟨rfl, nq, rfl⟩
end Go.Proofs.Qxb6613072a
