import Derived.Test.Qxb6613072aExpB
import Derived.Test.Qxb6613072aLists
namespace Go.Proofs.Qxb6613072a
open Go.RowKit Go.Maps
set_option linter.unusedVariables false

/-- What is kept. -/
def Ms.Q (M : Ms) (bf : Int) (i : Nat) : Bool := !decide (M.La i < bf)

/-- The joiner, behind Expire. -/
def JR (M : Ms) (bf : Int) (w : World) (jb : Nat) : Prop := ∃ mv HB QB, J M w jb mv (fun i => decide (i < M.N) && !decide (M.La i < bf)) HB QB M.N M.N

def XPost (M : Ms) (bf : Int) (w : World) (jb : Nat) (e : Ending) (w' : World) : Prop := ∃ v, e = .returned v ∧ JR M bf w' jb ∧ Below jb w w'

def RPost (M : Ms) (bf : Int) (N : Nat) (w : World) (e : Ending) (w' : World) : Prop :=
  ∃ lb, e = .returned (.slice (some ⟨lb, 0, none⟩) (cntK (M.Q bf) N) (cntK (M.Q bf) N)) ∧ Below w.heap.size w w' ∧ ∀ i, i < N → M.Q bf i = true → cntK (M.Q bf) i < cntK (M.Q bf) N ∧ ∃ hb, Inc M w' lb (cntK (M.Q bf) i) i hb

theorem rest_exp (M : Ms) (G : M.Good) (bf : Int) (h0 : -9223372036854775808 ≤ bf) (h1 : bf < 9223372036854775808) (w : World) (jb : Nat) (j : JAt M w jb M.N) :
    Calls Try.prog 16 #[.pointer (some ⟨jb, 0, none⟩), .int .i64 bf] w (XPost M bf w jb) := by
  obtain ⟨mv, HB, QB, j⟩ := j
  refine (zzexpire_call M G w jb _ _ mv _ HB QB j bf h0 h1).mono ?_
  rintro e w' ⟨lb, n, rfl, j', b⟩
  exact ⟨_, rfl, ⟨mv, HB, QB, j'⟩, b⟩

theorem rest_list (M : Ms) (G : M.Good) (bf : Int) (w : World) (jb : Nat) (j : JR M bf w jb) : Calls Try.prog 21 #[.pointer (some ⟨jb, 0, none⟩)] w (RPost M bf M.N w) := by
  obtain ⟨mv, HB, QB, j⟩ := j
  have c := all_call M G w jb _ _ mv _ HB QB j
  have e : M.sel (fun i => decide (i < M.N) && !decide (M.La i < bf)) = M.sel (M.Q bf) := by
    unfold Ms.sel
    apply List.filter_congr
    intro x hx
    have : x < M.N := by simpa using hx
    simp [this, Ms.Q]
  rw [e] at c
  refine c.mono ?_
  rintro e w' ⟨lb, rfl, _, b, h⟩
  refine ⟨lb, rfl, b, fun i hi hq => ?_⟩
  obtain ⟨hl, hv⟩ := sel_at M (M.Q bf) hi hq
  obtain ⟨hb, ic⟩ := h _ hl
  rw [hv] at ic
  exact ⟨hl, hb, ic⟩

set_option maxRecDepth 20000 in
set_option maxHeartbeats 4000000 in
theorem law8 (M : Ms) (m : Mem) (bf : Int) (h0 : -9223372036854775808 ≤ bf) (h1 : bf < 9223372036854775808) (w : World) (hm : MsgsAt M m w) (hw : M.Wf) : Calls Try.prog 8 #[.slice m.a M.N m.cap, .int .i64 bf] w (Yes w) := by
  have HM := hid hm
  have HW := hid hw
  have C22 := hid (zzBytes2_call M m bf w hw.n hm)
  have HA := hid hm.addr
  have C6 := hid hm.c6
  clear hm hw
  have C13 : Hid (∀ W, Below w.heap.size w W → Calls Try.prog 13 #[.slice m.a M.N m.cap] W (PB W (M.N ≤ 4096))) := hid (fun W b => heldFits_call M m W HW.out.n (HM.out.below b))
  have C14 : Hid (∀ W, M.N ≤ 4096 → Below w.heap.size w W → Calls Try.prog 14 #[.slice m.a M.N m.cap] W (PB W (M.R M.N))) := hid (fun W h b => heldReachable_call M m W h (HM.out.below b))
  have C15 : Hid (∀ W, M.Good → M.R M.N → Below w.heap.size w W → Calls Try.prog 15 #[.slice m.a M.N m.cap] W (BPost M W)) := hid (fun W G R b => build_call M G m W (HM.out.below b) (fun i hi => (R.1 i hi).1))
  have C17 : Hid (∀ W lb k a hb, M.Good → M.R M.N → a < M.N → Below w.heap.size w W → Inc M W lb k a hb → Calls Try.prog 17 #[.pointer (some ⟨lb, k * 9, none⟩), .pointer (some ⟨m.B, m.F + a * 7, none⟩)] W fun e w' => e = .returned (.bool true) ∧ Below W.heap.size W w') :=
    hid (fun W lb k a hb G R ha b i => sameMessage_call M G m W lb k a hb ha (R.1 a ha).1 (HM.out.below b) i)
  have C16 : Hid (∀ W jb, M.Good → JAt M W jb M.N → Calls Try.prog 16 #[.pointer (some ⟨jb, 0, none⟩), .int .i64 bf] W (XPost M bf W jb)) := hid (fun W jb G j => rest_exp M G bf h0 h1 W jb j)
  have C21 : Hid (∀ W jb, M.Good → JR M bf W jb → Calls Try.prog 21 #[.pointer (some ⟨jb, 0, none⟩)] W (RPost M bf M.N W)) := hid (fun W jb G j => rest_list M G bf W jb j)
  have GG : Hid (M.N ≤ 4096 → M.R M.N → M.Good) := hid (fun h R => HW.out.good h R)
  clear HW HM
  generalize hN : M.N = N at *
  have HN := hid hN
  clear hN h0 h1
  generalize m.a = ma at *
  generalize m.cap = mc at *
  go_enter Try.func8, Try.ntmps8
  go_wp2_with fail
  refine C22.out.mono ?_
  rintro e w1 ⟨v, rfl, _, b1⟩
  have B1 := hid b1
  clear b1 C22
  cases v
  · go_wp2
    go_ret
    exact ⟨rfl, B1.out⟩
  go_wp2_with fail
  refine (C13.out w1 B1.out).mono ?_
  rintro e w2 ⟨v, rfl, h2, b2⟩
  have B2 := hid (B1.out.trans (b2.mono B1.out.size))
  clear b2 C13 B1
  cases v
  · clear h2
    go_wp2
    go_ret
    exact ⟨rfl, B2.out⟩
  have hN := h2 rfl
  clear h2
  go_wp2_with fail
  refine (C14.out w2 hN B2.out).mono ?_
  rintro e w3 ⟨v, rfl, h3, b3⟩
  have B3 := hid (B2.out.trans (b3.mono B2.out.size))
  clear b3 C14 B2
  cases v
  · clear h3
    go_wp2
    go_ret
    exact ⟨rfl, B3.out⟩
  have R := hid (h3 rfl)
  clear h3
  have G := hid (GG.out hN R.out)
  clear GG
  go_wp2_with fail
  refine (C15.out w3 G.out R.out B3.out).mono ?_
  rintro e w4 ⟨rfl, j4, b4⟩
  have B4 := hid (B3.out.trans (b4.mono B3.out.size))
  rw [HN.out] at j4
  have J4 := hid j4
  have W3 := hid B3.out.size
  generalize w3.heap.size = jb at *
  clear b4 j4 C15 B3
  go_wp2_with fail
  refine (C16.out w4 jb G.out J4.out).mono ?_
  rintro e w5 ⟨v, rfl, j5, b5⟩
  have J5 := hid j5
  have B5 := hid (B4.out.trans (b5.mono W3.out))
  clear j5 b5 J4 B4 C16 W3
  go_wp2_with fail
  refine (C21.out w5 jb G.out J5.out).mono ?_
  rintro e w6 ⟨lb, rfl, b6, i6⟩
  have B6 := hid (B5.out.trans (b6.mono B5.out.size))
  have I6 := hid i6
  clear b6 i6 J5 B5 C21
  have KN : cntK (M.Q bf) N ≤ N := cntK_le _ _
  generalize hn : cntK (M.Q bf) N = n at *
  have HNN := hid hn
  clear hn
  go_upto_region 12 with fail
  go_loopw [7, 28] (fun u t wr => ∃ i : Nat, i ≤ N ∧ t = .int .i64 i ∧ u = .int .i64 (cntK (M.Q bf) i) ∧ Hid (Below w6.heap.size w6 wr)) (fun _ t _ => N - (intOf t).toNat)
  case atStart => exact ⟨0, Nat.zero_le _, rfl, rfl, hid (Below.refl _ _)⟩
  case round =>
    obtain ⟨i, hi, rfl, rfl, BR⟩ := hrel
    by_cases hlt : i < N
    · have hkz : (i : Int) < (N : Int) := by omega
      have hkz0 : (0 : Int) ≤ (i : Int) := by omega
      have ha := HA.out (by omega)
      subst ha
      have g6 := keepCell BR.out (keepCell B6.out (C6.out i hlt))
      have KI : cntK (M.Q bf) i ≤ i := cntK_le _ _
      cases hQ : M.Q bf i
      · have hk1 := cntK_no hQ
        have hl : M.La i < bf := by simpa [Ms.Q] using hQ
        generalize hk : cntK (M.Q bf) i = k at *
        have HK1 := hid hk1
        generalize M.La i = la at *
        have hd : decide (bf ≤ la) = false := by simp; omega
        clear hk hk1 hQ
        go_wp2
        go_roundw
        case rel => exact ⟨i + 1, by omega, by go_num, by rw [HK1.out], BR⟩
        case measure => simp [intOf]; omega
      · have hk1 := cntK_yes hQ
        have hl : bf ≤ M.La i := by have h : ¬ M.La i < bf := by simpa [Ms.Q] using hQ
                                    omega
        obtain ⟨hkn, hb, inc⟩ := I6.out i hlt hQ
        have C : Hid (∀ W, Below wr.heap.size wr W → Calls Try.prog 17 #[.pointer (some ⟨lb, cntK (M.Q bf) i * 9, none⟩), .pointer (some ⟨m.B, m.F + i * 7, none⟩)] W fun e w' => e = .returned (.bool true) ∧ Below W.heap.size W w') :=
          hid (fun W b => C17.out W lb _ i hb G.out R.out hlt (B6.out.trans ((BR.out.trans (b.mono BR.out.size)).mono B6.out.size)) (inc.below (BR.out.trans (b.mono BR.out.size))))
        clear inc
        generalize hk : cntK (M.Q bf) i = k at *
        have HK1 := hid hk1
        generalize M.La i = la at *
        have hd : decide (bf ≤ la) = true := by simp; omega
        have hkn0 : (k : Int) < (n : Int) := by omega
        have hkn1 : (0 : Int) ≤ (k : Int) := by omega
        have hkn2 : decide (n ≤ k) = false := by simp; omega
        clear hk hk1 hQ
        go_upto_region 15 with fail
        go_region_held3 (fun w' => True) (trivial)
          (first | (go_at_call 17; refine (C.out _ (by first | exact Below.refl _ _ | exact (Below.refl _ _).drew)).mono ?_; rintro e W1 ⟨rfl, hW1⟩; have BN : Hid (Below w6.heap.size w6 W1) := hid (by first | exact BR.out.trans (hW1.mono BR.out.size) | exact BR.out.drew.trans (hW1.mono BR.out.size)); clear hW1))
        all_goals go_wp2
        all_goals go_roundw
        case rel => exact ⟨i + 1, by omega, by go_num, by rw [HK1.out]; go_num, hid (by first | exact BN.out | exact BN.out.drew)⟩
        case measure => simp [intOf]; omega
    · have HEQ : N = i := by omega
      subst HEQ
      clear hi hlt
      have hn := HNN.out
      rw [hn]
      go_wp2
      go_ret
      exact ⟨rfl, B6.out.trans (BR.out.mono B6.out.size)⟩
end Go.Proofs.Qxb6613072a
