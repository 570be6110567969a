import Derived.Test.Qxb6613072aSame
import Derived.Test.Qxb6613072aOpen
import Derived.Test.Qxb6613072aPreC
import Derived.Test.Qxb6613072aBuild
namespace Go.Proofs.Qxb6613072a
open Go.RowKit Go.Maps
set_option linter.unusedVariables false

/-- All messages, in their order. -/
def APost (M : Ms) (N : Nat) (w : World) (e : Ending) (w' : World) : Prop :=
  ∃ lb, e = .returned (.slice (some ⟨lb, 0, none⟩) N N) ∧ Below w.heap.size w w' ∧ ∀ a, a < N → ∃ hb, Inc M w' lb a a hb

theorem sel_all (M : Ms) : M.sel (fun q => decide (q < M.N)) = List.range M.N := by
  unfold Ms.sel
  rw [List.filter_eq_self]
  intro a ha
  simpa using ha

theorem all_list (M : Ms) (G : M.Good) (w : World) (jb : Nat) (j : JAt M w jb M.N) : Calls Try.prog 21 #[.pointer (some ⟨jb, 0, none⟩)] w (APost M M.N w) := by
  obtain ⟨mv, HB, QB, j⟩ := j
  have c := all_call M G w jb _ _ mv _ HB QB j
  rw [sel_all] at c
  refine c.mono ?_
  rintro e w' ⟨lb, rfl, _, b, h⟩
  refine ⟨lb, by simp, b, fun a ha => ?_⟩
  obtain ⟨hb, i⟩ := h a (by simpa using ha)
  simp only [List.getElem_range] at i
  exact ⟨hb, i⟩

theorem JAt.below {M : Ms} {w w' : World} {jb k : Nat} (j : JAt M w jb k) (b : Below w.heap.size w w') : JAt M w' jb k := by
  obtain ⟨mv, HB, QB, j⟩ := j
  exact ⟨mv, HB, QB, j.below b⟩

def Yes (w : World) (e : Ending) (w' : World) : Prop := e = .returned (.bool true) ∧ Below w.heap.size w w'

set_option maxHeartbeats 4000000 in
theorem law7 (M : Ms) (m : Mem) (w : World) (hm : MsgsAt M m w) (hw : M.Wf) : Calls Try.prog 7 #[.slice m.a M.N m.cap] w (Yes w) := by
  have HM := hid hm
  have HW := hid hw
  have C20 := hid (zzBytes_call M m w hw.n hm)
  have HA := hid hm.addr
  clear hm hw
  have C13 : Hid (∀ W, Below w.heap.size w W → Calls Try.prog 13 #[.slice m.a M.N m.cap] W (PB W (M.N ≤ 4096))) := hid (fun W b => heldFits_call M m W HW.out.n (HM.out.below b))
  have C14 : Hid (∀ W, M.N ≤ 4096 → Below w.heap.size w W → Calls Try.prog 14 #[.slice m.a M.N m.cap] W (PB W (M.R M.N))) := hid (fun W h b => heldReachable_call M m W h (HM.out.below b))
  have C15 : Hid (∀ W, M.Good → M.R M.N → Below w.heap.size w W → Calls Try.prog 15 #[.slice m.a M.N m.cap] W (BPost M W)) := hid (fun W G R b => build_call M G m W (HM.out.below b) (fun i hi => (R.1 i hi).1))
  have C17 : Hid (∀ W lb a hb, M.Good → M.R M.N → a < M.N → Below w.heap.size w W → Inc M W lb a a hb → Calls Try.prog 17 #[.pointer (some ⟨lb, a * 9, none⟩), .pointer (some ⟨m.B, m.F + a * 7, none⟩)] W fun e w' => e = .returned (.bool true) ∧ Below W.heap.size W w') :=
    hid (fun W lb a hb G R ha b i => sameMessage_call M G m W lb a a hb ha (R.1 a ha).1 (HM.out.below b) i)
  have C21 : Hid (∀ W jb, M.Good → JAt M W jb M.N → Calls Try.prog 21 #[.pointer (some ⟨jb, 0, none⟩)] W (APost M M.N W)) := hid (fun W jb G j => all_list M G W jb j)
  have GG : Hid (M.N ≤ 4096 → M.R M.N → M.Good) := hid (fun h R => HW.out.good h R)
  clear HW HM
  generalize hN : M.N = N at *
  have HN := hid hN
  clear hN
  generalize m.a = ma at *
  generalize m.cap = mc at *
  go_enter Try.func7, Try.ntmps7
  go_wp2_with fail
  refine C20.out.mono ?_
  rintro e w1 ⟨v, rfl, _, b1⟩
  have B1 := hid b1
  clear b1 C20
  cases v
  · go_wp2
    go_ret
    exact ⟨rfl, B1.out⟩
  go_wp2_with fail
  refine (C13.out w1 B1.out).mono ?_
  rintro e w2 ⟨v, rfl, h2, b2⟩
  have B2 := hid (B1.out.trans (b2.mono B1.out.size))
  clear b2 C13 B1
  cases v
  · clear h2
    go_wp2
    go_ret
    exact ⟨rfl, B2.out⟩
  have hN := h2 rfl
  clear h2
  go_wp2_with fail
  refine (C14.out w2 hN B2.out).mono ?_
  rintro e w3 ⟨v, rfl, h3, b3⟩
  have B3 := hid (B2.out.trans (b3.mono B2.out.size))
  clear b3 C14 B2
  cases v
  · clear h3
    go_wp2
    go_ret
    exact ⟨rfl, B3.out⟩
  have R := hid (h3 rfl)
  clear h3
  have G := hid (GG.out hN R.out)
  clear GG
  go_wp2_with fail
  refine (C15.out w3 G.out R.out B3.out).mono ?_
  rintro e w4 ⟨rfl, j4, b4⟩
  have B4 := hid (B3.out.trans (b4.mono B3.out.size))
  rw [HN.out] at j4
  have J4 := hid j4
  generalize w3.heap.size = jb at *
  clear b4 j4 C15 B3
  go_wp2_with fail
  refine (C21.out w4 jb G.out J4.out).mono ?_
  rintro e w5 ⟨lb, rfl, b5, i5⟩
  have B5 := hid (B4.out.trans (b5.mono B4.out.size))
  have J5 := hid (J4.out.below b5)
  have I5 := hid i5
  clear b5 i5 B4 J4
  go_upto_region 12 with fail
  go_loopw [28] (fun t wr => ∃ k : Nat, k ≤ N ∧ t = .int .i64 k ∧ Hid (Below w5.heap.size w5 wr)) (fun t _ => N - (intOf t).toNat)
  case atStart => exact ⟨0, Nat.zero_le _, rfl, hid (Below.refl _ _)⟩
  case round =>
    obtain ⟨k, hk, rfl, BR⟩ := hrel
    by_cases hlt : k < N
    · have hkz : (k : Int) < (N : Int) := by omega
      have hkz0 : (0 : Int) ≤ (k : Int) := by omega
      have ha := HA.out (by omega)
      subst ha
      obtain ⟨hb, inc⟩ := I5.out k hlt
      have C : Hid (∀ W, Below wr.heap.size wr W → Calls Try.prog 17 #[.pointer (some ⟨lb, k * 9, none⟩), .pointer (some ⟨m.B, m.F + k * 7, none⟩)] W fun e w' => e = .returned (.bool true) ∧ Below W.heap.size W w') :=
        hid (fun W b => C17.out W lb k hb G.out R.out hlt (B5.out.trans ((BR.out.trans (b.mono BR.out.size)).mono B5.out.size)) (inc.below (BR.out.trans (b.mono BR.out.size))))
      clear inc
      go_upto_region 14 with fail
      go_region_held3 (fun w' => True) (trivial)
        (first | (go_at_call 17; refine (C.out _ (by first | exact Below.refl _ _ | exact (Below.refl _ _).drew)).mono ?_; rintro e W1 ⟨rfl, hW1⟩; have BN : Hid (Below w5.heap.size w5 W1) := hid (by first | exact BR.out.trans (hW1.mono BR.out.size) | exact BR.out.drew.trans (hW1.mono BR.out.size)); clear hW1))
      all_goals go_wp2
      all_goals go_roundw
      case rel => exact ⟨k + 1, by omega, by go_num, hid (by first | exact BN.out | exact BN.out.drew)⟩
      case measure => simp [intOf]; omega
    · have HEQ : N = k := by omega
      subst HEQ
      clear hk hlt
      have J6 := hid (J5.out.below BR.out)
      have B6 := hid (B5.out.trans (BR.out.mono B5.out.size))
      rename World => w6
      clear I5 J5 B5 BR
      go_wp2_with fail
      refine (C21.out w6 jb G.out J6.out).mono ?_
      rintro e w7 ⟨lb2, rfl, b7, i7⟩
      have B7 := hid (B6.out.trans (b7.mono B6.out.size))
      have I7 := hid i7
      clear b7 i7 B6 J6
      go_upto_region 21 with fail
      go_loopw [49] (fun t wr => ∃ k : Nat, k ≤ N ∧ t = .int .i64 k ∧ Hid (Below w7.heap.size w7 wr)) (fun t _ => N - (intOf t).toNat)
      case atStart => exact ⟨0, Nat.zero_le _, rfl, hid (Below.refl _ _)⟩
      case round =>
        obtain ⟨k, hk, rfl, BR⟩ := hrel
        by_cases hlt : k < N
        · have hkz : (k : Int) < (N : Int) := by omega
          have hkz0 : (0 : Int) ≤ (k : Int) := by omega
          have ha := HA.out (by omega)
          subst ha
          obtain ⟨hb, inc⟩ := I7.out k hlt
          have C : Hid (∀ W, Below wr.heap.size wr W → Calls Try.prog 17 #[.pointer (some ⟨lb2, k * 9, none⟩), .pointer (some ⟨m.B, m.F + k * 7, none⟩)] W fun e w' => e = .returned (.bool true) ∧ Below W.heap.size W w') :=
            hid (fun W b => C17.out W lb2 k hb G.out R.out hlt (B7.out.trans ((BR.out.trans (b.mono BR.out.size)).mono B7.out.size)) (inc.below (BR.out.trans (b.mono BR.out.size))))
          clear inc
          go_upto_region 23 with fail
          go_region_held3 (fun w' => True) (trivial)
            (first | (go_at_call 17; refine (C.out _ (by first | exact Below.refl _ _ | exact (Below.refl _ _).drew)).mono ?_; rintro e W1 ⟨rfl, hW1⟩; have BN : Hid (Below w7.heap.size w7 W1) := hid (by first | exact BR.out.trans (hW1.mono BR.out.size) | exact BR.out.drew.trans (hW1.mono BR.out.size)); clear hW1))
          all_goals go_wp2
          all_goals go_roundw
          case rel => exact ⟨k + 1, by omega, by go_num, hid (by first | exact BN.out | exact BN.out.drew)⟩
          case measure => simp [intOf]; omega
        · have HEQ : N = k := by omega
          subst HEQ
          clear hk hlt
          go_wp2
          go_ret
          exact ⟨rfl, B7.out.trans (BR.out.mono B7.out.size)⟩
end Go.Proofs.Qxb6613072a
