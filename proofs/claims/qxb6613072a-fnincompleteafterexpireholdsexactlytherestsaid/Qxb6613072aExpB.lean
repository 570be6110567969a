import Derived.Test.Qxb6613072aExp
namespace Go.Proofs.Qxb6613072a
open Go.RowKit Go.Maps
set_option linter.unusedVariables false

theorem old_call (d bf : Int) (w : World) (hb bb : Nat) (h4 : w.cell? ⟨hb, 4, none⟩ = some (.int .u64 (ns d))) (h5 : w.cell? ⟨hb, 5, none⟩ = some (.int .i64 (es d))) (h6 : w.cell? ⟨hb, 6, none⟩ = some (.pointer none))
    (c0 : w.cell? ⟨bb, 0, none⟩ = some (.int .u64 (ns bf))) (c1 : w.cell? ⟨bb, 1, none⟩ = some (.int .i64 (es bf))) (c2 : w.cell? ⟨bb, 2, none⟩ = some (.pointer none)) :
    Calls Try.prog 32 #[.pointer (some ⟨hb, 0, none⟩), .pointer (some ⟨bb, 0, none⟩)] w fun e w' => e = .returned (.bool (decide (d < bf))) ∧ Below w.heap.size w w' := by
  have B := hid (before_call d bf)
  generalize decide (d < bf) = r at *
  generalize ns d = d0 at *
  generalize es d = d1 at *
  generalize ns bf = f0 at *
  generalize es bf = f1 at *
  go_enter Try.func32, Try.ntmps32
  go_wp2_with fail
  go_region_held3 (fun w' => w'.cell? ⟨hb, 4, none⟩ = some (.int .u64 d0) ∧ w'.cell? ⟨hb, 5, none⟩ = some (.int .i64 d1) ∧ w'.cell? ⟨hb, 6, none⟩ = some (.pointer none) ∧ w'.cell? ⟨bb, 0, none⟩ = some (.int .u64 f0) ∧ w'.cell? ⟨bb, 1, none⟩ = some (.int .i64 f1) ∧ w'.cell? ⟨bb, 2, none⟩ = some (.pointer none)) (simp (maxDischargeDepth := 12) [*, World.cell?_alloc_some])
    (first | (go_at_call 33; refine (B.out _).mono ?_; rintro e w' ⟨rfl, rfl⟩))
  all_goals go_wp2
  all_goals go_ret
  all_goals exact ⟨rfl, by first | exact ((((Below.refl _ _).alloc (Nat.le_refl _) _).alloc (by simp) _).drew) | exact ((((Below.refl _ _).drew.alloc (Nat.le_refl _) _).alloc (by simp; try omega) _))⟩

/-- What Expire leaves. -/
def EPost (M : Ms) (w : World) (jb : Nat) (mv : Value) (S : Nat → Bool) (HB QB : Nat → Nat) (cc nn : Nat) (bf : Int) (e : Ending) (w' : World) : Prop :=
  ∃ lb n, e = .returned (.slice (some ⟨lb, 0, none⟩) n n) ∧ J M w' jb mv (fun i => S i && !decide (M.La i < bf)) HB QB cc nn ∧ Below jb w w'

set_option maxRecDepth 20000 in
set_option maxHeartbeats 4000000 in
theorem expire_call (M : Ms) (G : M.Good) (w : World) (jb cc nn : Nat) (mv : Value) (S : Nat → Bool) (HB QB : Nat → Nat) (hJ : J M w jb mv S HB QB cc nn) (bf : Int) :
    Calls Try.prog 26 #[.pointer (some ⟨jb, 0, none⟩), .agg #[.int .u64 (ns bf), .int .i64 (es bf), .pointer none]] w (EPost M w jb mv S HB QB cc nn bf) := by
  have jlt : jb < w.heap.size := World.block_lt_of_cell? w _ hJ.c0
  have bw : Below w.heap.size w (w.alloc (.cells #[.int .u64 (ns bf), .int .i64 (es bf), .pointer none] 43)) := (Below.refl _ _).alloc (Nat.le_refl _) _
  have jw := hJ.below bw
  have d0 : (w.alloc (.cells #[.int .u64 (ns bf), .int .i64 (es bf), .pointer none] 43)).cell? ⟨w.heap.size, 0, none⟩ = some (.int .u64 (ns bf)) := by simp
  have d1 : (w.alloc (.cells #[.int .u64 (ns bf), .int .i64 (es bf), .pointer none] 43)).cell? ⟨w.heap.size, 1, none⟩ = some (.int .i64 (es bf)) := by simp
  have d2 : (w.alloc (.cells #[.int .u64 (ns bf), .int .i64 (es bf), .pointer none] 43)).cell? ⟨w.heap.size, 2, none⟩ = some (.pointer none) := by simp
  have wh : Which M (w.alloc (.cells #[.int .u64 (ns bf), .int .i64 (es bf), .pointer none] 43)) S (fun i => decide (M.La i < bf)) HB 32 #[.pointer (some ⟨w.heap.size, 0, none⟩)] := by
    intro W i hi hS b
    have he := (jw.below b).held i hi hS
    exact old_call (M.La i) bf W (HB i) w.heap.size he.c4 he.c5 he.c6 (keepCell b d0) (keepCell b d1) (keepCell b d2)
  have C := hid (incomplete_call M G _ jb cc nn mv S (fun i => decide (M.La i < bf)) HB QB 32 #[.pointer (some ⟨w.heap.size, 0, none⟩)] jw wh (enters_of Try.func32 (by kernel_rfl) rfl))
  have JW := hid jw
  have BW := hid (bw.mono (Nat.le_of_lt jlt))
  have JL : Hid (jb ≤ (w.alloc (.cells #[.int .u64 (ns bf), .int .i64 (es bf), .pointer none] 43)).heap.size) := hid (by simp; omega)
  clear hJ bw jw d0 d1 d2 wh jlt
  go_enter Try.func26, Try.ntmps26
  go_wp2_with fail
  refine C.out.mono ?_
  have KM : Hid (∀ x ∈ M.sel (fun i => S i && decide (M.La i < bf)), x < M.N ∧ S x = true) := hid (fun x hx => by have := (sel_mem M _ x).1 hx; simp only [Bool.and_eq_true] at this; exact ⟨this.1, this.2.1⟩)
  have KN : Hid ((M.sel (fun i => S i && decide (M.La i < bf))).Nodup) := hid (List.pairwise_iff_getElem.2 (fun a b ha hb hab => Nat.ne_of_lt (List.pairwise_iff_getElem.1 (sel_asc M _) a b ha hb hab)))
  have KI : Hid (∀ i, i < M.N → (S i && !decide (i ∈ M.sel (fun i => S i && decide (M.La i < bf)))) = (S i && !decide (M.La i < bf))) := hid (fun i hi => by
    by_cases h1 : S i <;> by_cases h2 : M.La i < bf <;> simp [h1, h2, sel_mem, hi])
  have KL : Hid ((M.sel (fun i => S i && decide (M.La i < bf))).length ≤ M.N) := hid (by have := List.length_filter_le (fun i => S i && decide (M.La i < bf)) (List.range M.N); simpa [Ms.sel] using this)
  rintro e w1 ⟨lb, rfl, hlb, b1, i1⟩
  have E0 : Hid (EI M w w1 jb mv S HB QB cc nn lb (M.sel (fun i => S i && decide (M.La i < bf))) 0) := hid ⟨(JW.out.below b1).cong (fun i _ => by simp), i1, BW.out.trans (b1.mono JL.out)⟩
  clear C JW BW JL b1 i1 hlb
  generalize M.sel (fun i => S i && decide (M.La i < bf)) = ks at *
  have hN := G.N
  have hn : ks.length ≤ 4096 := Nat.le_trans KL.out hN
  generalize hkn : ks.length = n at *
  have HKN := hid hkn
  clear hkn
  go_wp2_with fail
  go_loopw [13] (fun t wr => ∃ a : Nat, a ≤ n ∧ t = .int .i64 a ∧ Hid (EI M w wr jb mv S HB QB cc nn lb ks a)) (fun t _ => n - (intOf t).toNat)
  case atStart => exact ⟨0, Nat.zero_le _, rfl, E0⟩
  case round =>
    obtain ⟨a, ha, rfl, ER⟩ := hrel
    clear E0
    by_cases hlt : a < n
    · have hkz : (a : Int) < (n : Int) := by omega
      have hkz0 : (0 : Int) ≤ (a : Int) := by omega
      have hal : a < ks.length := by rw [HKN.out]; exact hlt
      obtain ⟨hb, ic⟩ := ER.out.inc a hal
      obtain ⟨r0, r1, r2, r3, r4, r5, r6, r7, r8, _⟩ := ic
      have c0 := ER.out.j.c0
      have ST : Hid (∀ X ty, Below wr.heap.size wr X → ∃ w', (Builtin.delete_ #[52, 78] ty #[mv, M.KV ks[a]]).run Try.prog X = .ok (.tuple #[]) w' ∧ EI M w w' jb mv S HB QB cc nn lb ks (a + 1) ∧ ∀ p v, X.cell? p = some v → w'.cell? p = some v) := hid (fun X ty b => ER.out.step G hal KM.out KN.out b ty)
      have KV : Hid (M.KV ks[a] = .agg #[.string (M.O ks[a]), .int .i64 (M.Rf ks[a]), .int .i64 (M.To ks[a]), .int .u8 (M.El ks[a]), .int .u8 (M.Ty ks[a])]) := hid rfl
      have jl : jb < wr.heap.size := World.block_lt_of_cell? wr _ c0
      generalize M.KV ks[a] = kv at *
      generalize M.O ks[a] = o at *
      generalize M.Rf ks[a] = rf at *
      generalize M.To ks[a] = tot at *
      generalize M.El ks[a] = el at *
      generalize M.Ty ks[a] = ty at *
      generalize M.SL ks[a] = L at *
      generalize ns (M.La ks[a]) = la0 at *
      generalize es (M.La ks[a]) = la1 at *
      have KO := hid (keyOf_call o ty el rf tot 0)
      go_upto_region 5 with fail
      have bA : Below wr.heap.size wr (wr.alloc (.cells #[.int .u8 ty, .string o, .int .u8 el, .int .i64 rf, .int .i64 tot, .slice (some ⟨hb, 0, none⟩) L L, .int .u64 la0, .int .i64 la1, .pointer none] 45)) := (Below.refl _ _).alloc (Nat.le_refl _) _
      have sA : (wr.alloc (.cells #[.int .u8 ty, .string o, .int .u8 el, .int .i64 rf, .int .i64 tot, .slice (some ⟨hb, 0, none⟩) L L, .int .u64 la0, .int .i64 la1, .pointer none] 45)).heap.size = wr.heap.size + 1 := by simp
      have z0 : (wr.alloc (.cells #[.int .u8 ty, .string o, .int .u8 el, .int .i64 rf, .int .i64 tot, .slice (some ⟨hb, 0, none⟩) L L, .int .u64 la0, .int .i64 la1, .pointer none] 45)).cell? ⟨wr.heap.size, 0, none⟩ = some (.int .u8 ty) := by simp
      have z1 : (wr.alloc (.cells #[.int .u8 ty, .string o, .int .u8 el, .int .i64 rf, .int .i64 tot, .slice (some ⟨hb, 0, none⟩) L L, .int .u64 la0, .int .i64 la1, .pointer none] 45)).cell? ⟨wr.heap.size, 1, none⟩ = some (.string o) := by simp
      have z2 : (wr.alloc (.cells #[.int .u8 ty, .string o, .int .u8 el, .int .i64 rf, .int .i64 tot, .slice (some ⟨hb, 0, none⟩) L L, .int .u64 la0, .int .i64 la1, .pointer none] 45)).cell? ⟨wr.heap.size, 2, none⟩ = some (.int .u8 el) := by simp
      have z3 : (wr.alloc (.cells #[.int .u8 ty, .string o, .int .u8 el, .int .i64 rf, .int .i64 tot, .slice (some ⟨hb, 0, none⟩) L L, .int .u64 la0, .int .i64 la1, .pointer none] 45)).cell? ⟨wr.heap.size, 3, none⟩ = some (.int .i64 rf) := by simp
      have z4 : (wr.alloc (.cells #[.int .u8 ty, .string o, .int .u8 el, .int .i64 rf, .int .i64 tot, .slice (some ⟨hb, 0, none⟩) L L, .int .u64 la0, .int .i64 la1, .pointer none] 45)).cell? ⟨wr.heap.size, 4, none⟩ = some (.int .i64 tot) := by simp
      have cj := keepCell bA c0
      clear r0 r1 r2 r3 r4 r5 r6 r7 r8 c0
      generalize (wr.alloc (.cells #[.int .u8 ty, .string o, .int .u8 el, .int .i64 rf, .int .i64 tot, .slice (some ⟨hb, 0, none⟩) L L, .int .u64 la0, .int .i64 la1, .pointer none] 45)) = A1 at *
      have bx : Below A1.heap.size A1 ((((A1.alloc (.cells #[.int .u8 ty, .string o] 25)).alloc (.cells #[.int .u8 el, .int .i64 rf, .int .i64 tot, .int .i64 0] 81)).alloc (.cells #[.string o, .int .i64 rf, .int .i64 tot, .int .u8 el, .int .u8 ty] 78)).drew) := ((((Below.refl _ _).alloc (Nat.le_refl _) _).alloc (by simp) _).alloc (by simp; omega) _).drew
      obtain ⟨w', hrun, en, kp⟩ := ST.out ((((A1.alloc (.cells #[.int .u8 ty, .string o] 25)).alloc (.cells #[.int .u8 el, .int .i64 rf, .int .i64 tot, .int .i64 0] 81)).alloc (.cells #[.string o, .int .i64 rf, .int .i64 tot, .int .u8 el, .int .u8 ty] 78)).drew) 0 (bA.trans (bx.mono bA.size))
      rw [KV.out] at hrun
      have y0 := kp _ _ (keepCell bx z0)
      have y1 := kp _ _ (keepCell bx z1)
      have y2 := kp _ _ (keepCell bx z2)
      have y3 := kp _ _ (keepCell bx z3)
      have y4 := kp _ _ (keepCell bx z4)
      have y5 := kp _ _ (keepCell bx cj)
      have EN := hid en
      generalize hnb : wr.heap.size = nb at *
      clear kp en bx bA ST hnb jl
      go_region_held3 (fun w' => w'.cell? ⟨jb, 0, none⟩ = some mv ∧ w'.cell? ⟨nb, 0, none⟩ = some (.int .u8 ty) ∧ w'.cell? ⟨nb, 1, none⟩ = some (.string o) ∧ w'.cell? ⟨nb, 2, none⟩ = some (.int .u8 el) ∧ w'.cell? ⟨nb, 3, none⟩ = some (.int .i64 rf) ∧ w'.cell? ⟨nb, 4, none⟩ = some (.int .i64 tot)) (simp (maxDischargeDepth := 12) [*, World.cell?_alloc_some])
        (first | (go_at_call 31; refine (KO.out _).mono ?_; rintro e w' ⟨rfl, rfl⟩))
      all_goals go_wp2
      all_goals go_roundw
      case rel => exact ⟨a + 1, by omega, by go_num, EN⟩
      case measure => simp [intOf]; omega
    · have HEQ : n = a := by omega
      subst HEQ
      clear ha hlt
      go_wp2
      go_ret
      refine ⟨lb, n, rfl, ER.out.j.cong (fun i hi => ?_), ER.out.bel⟩
      rw [← KI.out i hi, List.take_of_length_le (Nat.le_of_eq HKN.out)]

/-- ZZexpire -/
theorem zzexpire_call (M : Ms) (G : M.Good) (w : World) (jb cc nn : Nat) (mv : Value) (S : Nat → Bool) (HB QB : Nat → Nat) (hJ : J M w jb mv S HB QB cc nn) (bf : Int) (h0 : -9223372036854775808 ≤ bf) (h1 : bf < 9223372036854775808) :
    Calls Try.prog 16 #[.pointer (some ⟨jb, 0, none⟩), .int .i64 bf] w (EPost M w jb mv S HB QB cc nn bf) := by
  have A := hid (add_call bf h0 h1)
  have jlt : jb < w.heap.size := World.block_lt_of_cell? w _ hJ.c0
  have E : Hid (∀ W, Below w.heap.size w W → Calls Try.prog 26 #[.pointer (some ⟨jb, 0, none⟩), .agg #[.int .u64 (ns bf), .int .i64 (es bf), .pointer none]] W (EPost M W jb mv S HB QB cc nn bf)) := hid (fun W b => expire_call M G W jb cc nn mv S HB QB (hJ.below b) bf)
  have JL := hid (Nat.le_of_lt jlt)
  clear hJ jlt h0 h1
  generalize ns bf = b0 at *
  generalize es bf = b1 at *
  go_enter Try.func16, Try.ntmps16
  go_wp2_with fail
  refine (A.out _).mono ?_
  rintro e w1 ⟨rfl, rfl⟩
  have bb : Below w.heap.size w ((w.alloc (.cells #[.int .u64 b0, .int .i64 b1, .pointer none] 43)).alloc (.cells #[.int .u64 b0, .int .i64 b1, .pointer none] 43)) := ((Below.refl _ _).alloc (Nat.le_refl _) _).alloc (by simp) _
  have BB := hid bb
  clear bb
  generalize (w.alloc (.cells #[.int .u64 b0, .int .i64 b1, .pointer none] 43)).alloc (.cells #[.int .u64 b0, .int .i64 b1, .pointer none] 43) = w1 at *
  go_wp2_with fail
  refine (E.out w1 BB.out).mono ?_
  rintro e w2 ⟨lb, n, rfl, j2, b2⟩
  have J2 := hid j2
  have B2 := hid ((BB.out.mono JL.out).trans b2)
  clear j2 b2
  go_wp2
  go_ret
  exact ⟨lb, n, rfl, J2.out, B2.out⟩
end Go.Proofs.Qxb6613072a
