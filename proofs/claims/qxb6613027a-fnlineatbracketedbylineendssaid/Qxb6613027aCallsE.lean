import Derived.Test.Qxb6613027aCallsD
import Derived.Shelf.SlSorted.Search
namespace Go.Proofs.Qxb6613027a
open Go.Shelf Go.RowKit Go.Lib Go.Sort
set_option linter.unusedVariables false

/-! ### The place of sort.Search in this dump -/
def search_ren : Ren := ⟨fun | 16 => 15 | n => n, fun | 3 => 3 | 35 => 29 | 4 => 4 | 38 => 39 | n => n, fun n => n⟩
theorem search_lay : SlLaysO.n16 Try.prog search_ren :=
  { mixed := by kernel_rfl, f16 := Eq.trans Try.func15 (congrArg some (by kernel_rfl)),
    t3 := Try.underlying3, a3 := Try.isAgg3, z3 := Try.sizeOf3, v3 := Try.zeroValue3, t4 := Try.underlying4,
    a4 := Try.isAgg4, z4 := Try.sizeOf4, v4 := Try.zeroValue4, t35 := Try.underlying29, a35 := Try.isAgg29,
    z35 := Try.sizeOf29, v35 := Try.zeroValue29, t38 := Try.underlying39, a38 := Try.isAgg39, z38 := Try.sizeOf39,
    v38 := Try.zeroValue39 }

/-! ### The plain law: where the boundary of a monotone test lies -/
theorem boundary (p : Nat → Bool) : ∀ n : Nat, (∀ a b, a ≤ b → b < n → p a = true → p b = true) →
    (List.range n).countP (fun i => !p i) ≤ n ∧ ((List.range n).countP (fun i => !p i) < n → p ((List.range n).countP (fun i => !p i)) = true) ∧
      (0 < (List.range n).countP (fun i => !p i) → p ((List.range n).countP (fun i => !p i) - 1) = false)
  | 0, _ => by simp
  | n + 1, hm => by
    obtain ⟨h1, h2, h3⟩ := boundary p n (fun a b hab hb => hm a b hab (by omega))
    rw [List.range_succ, List.countP_append]
    generalize (List.range n).countP (fun i => !p i) = r at h1 h2 h3
    cases hp : p n with
    | true =>
      have e : [n].countP (fun i => !p i) = 0 := by simp [hp]
      rw [e, Nat.add_zero]
      refine ⟨by omega, fun hr => ?_, h3⟩
      by_cases he : r = n
      · rw [he]; exact hp
      · exact h2 (by omega)
    | false =>
      have e : [n].countP (fun i => !p i) = 1 := by simp [hp]
      have hr : r = n := by
        by_cases he : r < n
        · have := hm r n (by omega) (by omega) (h2 he)
          rw [hp] at this; cases this
        · omega
      rw [e, hr]
      refine ⟨Nat.le_refl _, fun h => absurd h (by omega), fun _ => ?_⟩
      rw [Nat.add_sub_cancel]; exact hp

theorem up_mono {F T A : Nat → Int} {n : Nat} (h : Up F T A n) : ∀ b a, a ≤ b → b < n → En F T A a ≤ En F T A b
  | 0, a, hab, _ => by obtain rfl : a = 0 := by omega
                       exact Int.le_refl _
  | b + 1, a, hab, hb => by
    by_cases e : a = b + 1
    · subst e; exact Int.le_refl _
    · exact Int.le_trans (up_mono h b a (by omega) (by omega)) (h (b + 1) (by omega) hb)

/-- What lineAt answers: how many lines end at or before x. -/
def lineOf (F T A : Nat → Int) (n : Nat) (x : Int) : Nat := (List.range n).countP (fun i => !decide (x < En F T A i))

theorem lineOf_spec {F T A : Nat → Int} {n : Nat} (h : Up F T A n) (x : Int) :
    lineOf F T A n x ≤ n ∧ (lineOf F T A n x < n → x < En F T A (lineOf F T A n x)) ∧ (0 < lineOf F T A n x → En F T A (lineOf F T A n x - 1) ≤ x) := by
  have hb := boundary (fun i => decide (x < En F T A i)) n (fun a b hab hbn hp => by
    have := up_mono h b a hab hbn
    simp only [decide_eq_true_eq] at hp ⊢
    omega)
  refine ⟨hb.1, fun hl => of_decide_eq_true (hb.2.1 hl), fun hl => ?_⟩
  have := hb.2.2 hl
  simp only [decide_eq_false_iff_not] at this
  show En F T A ((List.range n).countP (fun i => !decide (x < En F T A i)) - 1) ≤ x
  omega

set_option maxHeartbeats 1000000 in
theorem newDef_none (a0 a1 a2 a3 a4 : Option Addr) (l0 l1 l2 l3 c0 c1 c2 c3 c4 : Nat) (S F T P A : Nat → Int) (w : World) :
    Calls Try.prog 8 #[.slice a0 l0 c0, .slice a1 l1 c1, .slice a2 l2 c2, .slice a3 l3 c3, .slice a4 0 c4] w
      fun e w' => ∃ d xs, e = .returned (.pointer (some ⟨d, 0, none⟩)) ∧ Below w.heap.size w w' ∧ w.heap.size < d ∧ d < w'.heap.size ∧
        w'.cell? ⟨d, 1, none⟩ = some (.slice (some ⟨w.heap.size, 0, none⟩) 0 0) ∧
        Hid (Fill xs S F T P A 0) ∧ ∀ j, j < 0 * 5 → w'.cell? ⟨w.heap.size, j, none⟩ = xs[j]? := by
  obtain ⟨i0, hi, hz0, hz1, hz2⟩ := info_parts Try.info32
  go_enter Try.func8, Try.ntmps8
  go_wp2_with (refine wpList_make_full _ rfl _ _ 30 rfl w.heap.size 32 i0 _ 5 Try.underlying30 hi hz0 hz1 .i64 .i64 _ _ 0 rfl rfl rfl rfl (by rw [hz2]; omega) (by unfold maxLen; omega) (Nat.le_refl _) ?_; intro w1 hown hgrow)
  have hb1 : Below w.heap.size w w1 := (Below.refl _ _).grown hgrow (Nat.le_refl _) (by intro k hk; cases hk)
  have hs1 := (hown.lt w.heap.size rfl).2
  have HB := hid hb1
  have HS := hid hs1
  clear hown hgrow hb1 hs1
  refine wp_loop_rounds 1 ?_
  rw [rounds_succ]
  go_wp2
  go_ret
  refine ⟨w1.heap.size, [], rfl, HB.out.alloc (Nat.le_of_lt HS.out) _, HS.out, by simp, ?_, fun i hi => absurd hi (Nat.not_lt_zero _), fun j hj => absurd hj (by omega)⟩
  rw [World.cell?_alloc_at _ _ _ _ (by simp)]; rfl

set_option maxHeartbeats 1000000 in
theorem lineAt_call (n : Nat) (hn : n ≤ 16384) (d g : Nat) (x : Int) (S F T P A : Nat → Int) (xs : List Value) (w : World) (hin : Hid (AllIn F T A n)) (hup : Hid (Up F T A n))
    (kd : d < w.heap.size) (kg : g < w.heap.size)
    (hd : w.cell? ⟨d, 1, none⟩ = some (.slice (some ⟨g, 0, none⟩) n n)) (hF : Hid (Fill xs S F T P A n))
    (hc : ∀ j, j < n * 5 → w.cell? ⟨g, j, none⟩ = xs[j]?) :
    Calls Try.prog 13 #[.pointer (some ⟨d, 0, none⟩), .int .i64 x] w fun e w' => e = .returned (.int .i64 (lineOf F T A n x : Nat)) ∧ Below w.heap.size w w' := by
  obtain ⟨W0, hW0⟩ : ∃ W0, W0 = (w.alloc (.cells #[.pointer (some ⟨d, 0, none⟩)] 25)).alloc (.cells #[.int .i64 x] 3) := ⟨_, rfl⟩
  have hsize : W0.heap.size = w.heap.size + 1 + 1 := by rw [hW0]; simp
  have cd : W0.cell? ⟨w.heap.size, 0, none⟩ = some (.pointer (some ⟨d, 0, none⟩)) := by rw [hW0]; exact cell_alloc_sl _ (cell_new_sl w _ _)
  have cx : W0.cell? ⟨w.heap.size + 1, 0, none⟩ = some (.int .i64 x) := by rw [hW0]; have := cell_new_sl (w.alloc (.cells #[.pointer (some ⟨d, 0, none⟩)] 25)) (.int .i64 x) 3; rwa [World.size_alloc] at this
  have cl : W0.cell? ⟨d, 1, none⟩ = some (.slice (some ⟨g, 0, none⟩) n n) := by rw [hW0]; exact cell_alloc_sl _ (cell_alloc_sl _ hd)
  have cc : ∀ j v, j < n * 5 → xs[j]? = some v → W0.cell? ⟨g, j, none⟩ = some v := fun j v hj hv => by rw [hW0]; exact cell_alloc_sl _ (cell_alloc_sl _ ((hc j hj).trans hv))
  have eg : ∀ args w, (callFunc 16 args).run Try.prog w = .ok (.enter 16 args) w := enters_of Try.func16 (by kernel_rfl) rfl
  have hS := Any.sort_Search search_lay 16 #[.pointer (some ⟨w.heap.size, 0, none⟩), .pointer (some ⟨w.heap.size + 1, 0, none⟩)] n (fun i => decide (x < En F T A i)) W0 eg (by omega)
    (fun m os i hi => by
      obtain ⟨e0, e1, e2, e3, e4⟩ := hF.out i hi
      obtain ⟨i1, i2, i3⟩ := hin.out i hi
      rw [inB_iff] at i1 i2 i3
      refine (closure_call i n n hi hn w.heap.size (w.heap.size + 1) d g x (S i) (F i) (T i) (P i) (A i) (grow (W0.drewN m) os) i1 i2 i3 (cell_grown (by simp [hsize]; omega) cd m os) (cell_grown (by simp [hsize]) cx m os) (cell_grown (by simp [hsize]; omega) cl m os)
        (cell_grown (by simp [hsize]; omega) (cc _ _ (by omega) e0) m os) (cell_grown (by simp [hsize]; omega) (cc _ _ (by omega) e1) m os) (cell_grown (by simp [hsize]; omega) (cc _ _ (by omega) e2) m os) (cell_grown (by simp [hsize]; omega) (cc _ _ (by omega) e3) m os) (cell_grown (by simp [hsize]; omega) (cc _ _ (by omega) e4) m os)).mono ?_
      rintro e w' ⟨he, hw⟩
      refine ⟨he, 1, #[.cells #[.int .i64 (S i), .int .i64 (F i), .int .i64 (T i), .int .i64 (P i), .int .i64 (A i)] 32], ?_⟩
      rw [hw, alloc_eq_grow]; rfl)
    (fun a b hab hb hp => by
      have := up_mono hup.out b a hab hb
      simp only [decide_eq_true_eq] at hp ⊢
      omega)
  change Calls Try.prog 15 _ _ _ at hS
  have hl : ((List.range n).countP (fun i => !decide (x < En F T A i))) = lineOf F T A n x := rfl
  rw [hl] at hS
  clear hl cd cx cc hc hF hin hup eg
  generalize lineOf F T A n x = r at hS ⊢
  have HS := hid hS
  have HW := hid hW0
  have CL := hid cl
  clear hS hW0 cl
  go_enter Try.func13, Try.ntmps13
  go_wp2_with fail
  rw [← HW.out]
  refine HS.out.mono ?_
  rintro e w' ⟨rfl, q, os, rfl⟩
  go_wp2
  go_ret
  refine ⟨rfl, ?_⟩
  have hB0 : Below w.heap.size w W0 := by rw [HW.out]; exact ((Below.refl _ w).alloc (Nat.le_refl _) _).alloc (by simp) _
  exact hB0.trans (below_grown_sl w.heap.size W0 q os (by omega))

theorem defLineAt_call (n : Nat) (hn : n ≤ 16384) (d g : Nat) (x : Int) (S F T P A : Nat → Int) (xs : List Value) (w : World) (hin : Hid (AllIn F T A n)) (hup : Hid (Up F T A n))
    (kd : d < w.heap.size) (kg : g < w.heap.size)
    (hd : w.cell? ⟨d, 1, none⟩ = some (.slice (some ⟨g, 0, none⟩) n n)) (hF : Hid (Fill xs S F T P A n))
    (hc : ∀ j, j < n * 5 → w.cell? ⟨g, j, none⟩ = xs[j]?) :
    Calls Try.prog 9 #[.pointer (some ⟨d, 0, none⟩), .int .i64 x] w fun e w' => e = .returned (.int .i64 (lineOf F T A n x : Nat)) ∧ Below w.heap.size w w' := by
  have C := hid (lineAt_call n hn d g x S F T P A xs w hin hup kd kg hd hF hc)
  clear hin hup hF hc hd
  generalize lineOf F T A n x = r at C ⊢
  go_enter Try.func9, Try.ntmps9
  go_wp2_with fail
  refine C.out.mono ?_
  rintro e w' ⟨rfl, hb⟩
  go_wp2
  go_ret
  exact ⟨rfl, hb⟩

end Go.Proofs.Qxb6613027a
