/-
  THE SHELL OF A PROOF OF 'Rows.FnLineAtBracketedByLineEndsSaid' ('example.com/backslash/backslash/zzlaws_root_b1.FnLineAtBracketedByLineEnds'), WRITTEN BY PROGRAM (proof-skeleton.mjs, third state) off the guide's own print for that function. Not trusted: Lean checks it.
  THE WALK IS THE PROVER's. ALL ELSE IS THE GUIDE's OWN WAY (howto/template/XProofs.lean; Derived/Test/ChunkProofs.lean for 'Below') at this function's number and types: leave it.
-/
import Derived.Test.Qxb6613027aRows
import Derived.WalkKit
import Derived.ProofKit
import Derived.OpenShut
import Derived.ShutString
import Derived.ChangeOld
import Derived.Below
import Derived.WalkSpells
import Derived.Deep.DeepCutAuto
import Derived.Test.Qxb6613027aCallsF
namespace Go.Proofs.Qxb6613027a.fnLineAtBracketedByLineEnds
open Go.ChangeShapes Go.WideShapes Go.ChangeAt Go.RowKit
open Go.ChangeMaps (open_string shut_string)
set_option linter.unusedVariables false

theorem own : ownKnob Try.prog.godebug = none := by kernel_rfl
theorem laidOut : laidOutB Try.prog = true := by kernel_rfl

/-- WHAT THE WALK IS TOLD OF A SLICE OF INTEGERS THAT CAME IN: it is nil; or it leads to a row of 'cap' cells, the numbers 'zs' (the first 'len' are its elements, the rest its spare room), each fitting its kind. -/
def IsRow (k : IntKind) (w : World) (a : Option Addr) (len cap : Nat) (zs : List Int) : Prop :=
  (a = none ∧ len = 0 ∧ cap = 0 ∧ zs = []) ∨
  ∃ x, a = some x ∧ len ≤ cap ∧ cap ≤ maxLen ∧ zs.length = cap ∧ (∀ i, i < zs.length → w.cell? (x.add i) = some (.int k (zs.getD i 0))) ∧ ∀ n ∈ zs, (Lit.int k n).wf = true

/-! ### STEP 1: THE WALK: the Go text returns true, AND WRITES NOTHING THAT WAS THERE: 'Below w.heap.size w w'' (Derived/Below.lean: '.refl', '.alloc', '.drew', '.setCell' at a new block, '.trans'). Open each 'IsRow' by 'rcases' AHEAD of 'go_enter'; part every test ahead of the walk. -/
set_option maxHeartbeats 2000000 in
set_option maxRecDepth 20000 in
theorem walk_in (a0 : Option Addr) (len0 cap0 : Nat) (z0 : List Int) (a1 : Option Addr) (len1 cap1 : Nat) (z1 : List Int) (a2 : Option Addr) (len2 cap2 : Nat) (z2 : List Int) (a3 : Option Addr) (len3 cap3 : Nat) (z3 : List Int) (a4 : Option Addr) (len4 cap4 : Nat) (z4 : List Int) (a5 : Int) (w : World) (w0 : IsRow .i64 w a0 len0 cap0 z0) (w1 : IsRow .i64 w a1 len1 cap1 z1) (w2 : IsRow .i64 w a2 len2 cap2 z2) (w3 : IsRow .i64 w a3 len3 cap3 z3) (w4 : IsRow .i64 w a4 len4 cap4 z4) (w5 : (Lit.int .i64 a5).wf = true)
    (l0 : len0 ≤ 16384) (l1 : len1 ≤ 16384) (l2 : len2 ≤ 16384) (l3 : len3 ≤ 16384) (l4 : len4 ≤ 16384) :
    Calls Try.prog 3 #[.slice a0 len0 cap0, .slice a1 len1 cap1, .slice a2 len2 cap2, .slice a3 len3 cap3, .slice a4 len4 cap4, .int .i64 a5] w fun e w' => e = .returned (.bool true) ∧ Below w.heap.size w w' := by
  have R0 := hid w0
  have R1 := hid w1
  have R2 := hid w2
  have R3 := hid w3
  have R4 := hid w4
  clear w0 w1 w2 w3 w4
  obtain ⟨i3, hi3, hz30, hz31, hz32⟩ := info_parts Try.info3
  have nn := fun (W : World) (a : Option Addr) (n c : Nat) => run_neq_slice_nil_any (P := Try.prog) W 22 3 a n c 0 0 Try.underlying22
  have B0 : Hid (Below w.heap.size w w) := Below.refl _ _
  go_enter Try.func3, Try.ntmps3
  go_wp2_with fail
  refine (bytes_call _ _ _ _ _ _ _ _ _ _ _ _ _ _ _ _ _).mono ?_
  rintro e w' ⟨he, hw⟩
  have hw' := hw.symm
  subst hw'
  rcases he with rfl | rfl
  case inr =>
    go_wp2
    go_ret
    exact ⟨rfl, Below.refl _ _⟩

  go_upto_if 45 with fail
  go_cut [0] from 21 to 52 (fun s wc => Hid (Cp wc s len0 z0) ∧ Hid (Below w.heap.size w wc))
  case first =>
    rcases R0.out with ⟨rfl, rfl, rfl, rfl⟩ | ⟨x, rfl, hl, hm, hz, hcell, hwf⟩
    · go_wp2_with fail
      go_meet
      case rel => exact ⟨hid (Cp.nil _ _), hid (Below.refl _ _)⟩
    · have hsrc := hid (src_cells (W := w) (len := len0) (fun i hi => by
        have hb := World.block_lt_of_cell? w (x.add i) (hcell i hi)
        exact (B0.out.cell hb).trans (hcell i hi)))
      have HL := hid hl
      have HZ := hid hz
      clear hcell hwf hm hl hz
      obtain ⟨V2, hrun, hC, hB⟩ := copy_run w x z0 len0 cap0 (by have := HL.out; have := HZ.out; omega) hsrc.out
      have HC := hid hC
      have HB := hid hB
      clear hC hB hsrc HL HZ
      have mk := fun (W : World) => Go.run_make_row' (P := Try.prog) 22 3 (.int .i64 0) 8 Try.underlying22 Try.info3 rfl .i64 .i64 len0 (by omega) (by omega) W
      go_wp2_with fail
      go_meet
      case rel => exact ⟨HC, HB⟩
  case rest =>
  obtain ⟨C0, D0⟩ := hcut
  rename World => W1
  clear R0
  have B1 := D0

  go_upto_if 54 with fail
  go_cut [1] from 53 to 61 (fun s wc => Hid (Cp wc s len1 z1) ∧ Hid (Below W1.heap.size W1 wc))
  case first =>
    rcases R1.out with ⟨rfl, rfl, rfl, rfl⟩ | ⟨x, rfl, hl, hm, hz, hcell, hwf⟩
    · go_wp2_with fail
      go_meet
      case rel => exact ⟨hid (Cp.nil _ _), hid (Below.refl _ _)⟩
    · have hsrc := hid (src_cells (W := W1) (len := len1) (fun i hi => by
        have hb := World.block_lt_of_cell? w (x.add i) (hcell i hi)
        exact (B1.out.cell hb).trans (hcell i hi)))
      have HL := hid hl
      have HZ := hid hz
      clear hcell hwf hm hl hz
      obtain ⟨V2, hrun, hC, hB⟩ := copy_run W1 x z1 len1 cap1 (by have := HL.out; have := HZ.out; omega) hsrc.out
      have HC := hid hC
      have HB := hid hB
      clear hC hB hsrc HL HZ
      have mk := fun (W : World) => Go.run_make_row' (P := Try.prog) 22 3 (.int .i64 0) 8 Try.underlying22 Try.info3 rfl .i64 .i64 len1 (by omega) (by omega) W
      go_wp2_with fail
      go_meet
      case rel => exact ⟨HC, HB⟩
  case rest =>
  obtain ⟨C1, D1⟩ := hcut
  rename World => W2
  clear R1
  have B2 := hid (B1.out.trans (D1.out.mono B1.out.size))
  have C01 := hid (C0.out.later D1.out)
  clear C0 D0

  go_upto_if 63 with fail
  go_cut [2] from 62 to 70 (fun s wc => Hid (Cp wc s len2 z2) ∧ Hid (Below W2.heap.size W2 wc))
  case first =>
    rcases R2.out with ⟨rfl, rfl, rfl, rfl⟩ | ⟨x, rfl, hl, hm, hz, hcell, hwf⟩
    · go_wp2_with fail
      go_meet
      case rel => exact ⟨hid (Cp.nil _ _), hid (Below.refl _ _)⟩
    · have hsrc := hid (src_cells (W := W2) (len := len2) (fun i hi => by
        have hb := World.block_lt_of_cell? w (x.add i) (hcell i hi)
        exact (B2.out.cell hb).trans (hcell i hi)))
      have HL := hid hl
      have HZ := hid hz
      clear hcell hwf hm hl hz
      obtain ⟨V2, hrun, hC, hB⟩ := copy_run W2 x z2 len2 cap2 (by have := HL.out; have := HZ.out; omega) hsrc.out
      have HC := hid hC
      have HB := hid hB
      clear hC hB hsrc HL HZ
      have mk := fun (W : World) => Go.run_make_row' (P := Try.prog) 22 3 (.int .i64 0) 8 Try.underlying22 Try.info3 rfl .i64 .i64 len2 (by omega) (by omega) W
      go_wp2_with fail
      go_meet
      case rel => exact ⟨HC, HB⟩
  case rest =>
  obtain ⟨C2, D2⟩ := hcut
  rename World => W3
  clear R2
  have B3 := hid (B2.out.trans (D2.out.mono B2.out.size))
  have C02 := hid (C01.out.later D2.out)
  have C12 := hid (C1.out.later D2.out)
  clear C01 C1 D1

  go_upto_if 72 with fail
  go_cut [3] from 71 to 79 (fun s wc => Hid (Cp wc s len3 z3) ∧ Hid (Below W3.heap.size W3 wc))
  case first =>
    rcases R3.out with ⟨rfl, rfl, rfl, rfl⟩ | ⟨x, rfl, hl, hm, hz, hcell, hwf⟩
    · go_wp2_with fail
      go_meet
      case rel => exact ⟨hid (Cp.nil _ _), hid (Below.refl _ _)⟩
    · have hsrc := hid (src_cells (W := W3) (len := len3) (fun i hi => by
        have hb := World.block_lt_of_cell? w (x.add i) (hcell i hi)
        exact (B3.out.cell hb).trans (hcell i hi)))
      have HL := hid hl
      have HZ := hid hz
      clear hcell hwf hm hl hz
      obtain ⟨V2, hrun, hC, hB⟩ := copy_run W3 x z3 len3 cap3 (by have := HL.out; have := HZ.out; omega) hsrc.out
      have HC := hid hC
      have HB := hid hB
      clear hC hB hsrc HL HZ
      have mk := fun (W : World) => Go.run_make_row' (P := Try.prog) 22 3 (.int .i64 0) 8 Try.underlying22 Try.info3 rfl .i64 .i64 len3 (by omega) (by omega) W
      go_wp2_with fail
      go_meet
      case rel => exact ⟨HC, HB⟩
  case rest =>
  obtain ⟨C3, D3⟩ := hcut
  rename World => W4
  clear R3
  have B4 := hid (B3.out.trans (D3.out.mono B3.out.size))
  have C03 := hid (C02.out.later D3.out)
  have C13 := hid (C12.out.later D3.out)
  have C23 := hid (C2.out.later D3.out)
  clear C02 C12 C2 D2

  go_upto_if 81 with fail
  go_cut [4] from 80 to 88 (fun s wc => Hid (Cp wc s len4 z4) ∧ Hid (Below W4.heap.size W4 wc))
  case first =>
    rcases R4.out with ⟨rfl, rfl, rfl, rfl⟩ | ⟨x, rfl, hl, hm, hz, hcell, hwf⟩
    · go_wp2_with fail
      go_meet
      case rel => exact ⟨hid (Cp.nil _ _), hid (Below.refl _ _)⟩
    · have hsrc := hid (src_cells (W := W4) (len := len4) (fun i hi => by
        have hb := World.block_lt_of_cell? w (x.add i) (hcell i hi)
        exact (B4.out.cell hb).trans (hcell i hi)))
      have HL := hid hl
      have HZ := hid hz
      clear hcell hwf hm hl hz
      obtain ⟨V2, hrun, hC, hB⟩ := copy_run W4 x z4 len4 cap4 (by have := HL.out; have := HZ.out; omega) hsrc.out
      have HC := hid hC
      have HB := hid hB
      clear hC hB hsrc HL HZ
      have mk := fun (W : World) => Go.run_make_row' (P := Try.prog) 22 3 (.int .i64 0) 8 Try.underlying22 Try.info3 rfl .i64 .i64 len4 (by omega) (by omega) W
      go_wp2_with fail
      go_meet
      case rel => exact ⟨HC, HB⟩
  case rest =>
  obtain ⟨C4, D4⟩ := hcut
  rename World => W5
  clear R4
  have B5 := hid (B4.out.trans (D4.out.mono B4.out.size))
  have C04 := hid (C03.out.later D4.out)
  have C14 := hid (C13.out.later D4.out)
  have C24 := hid (C23.out.later D4.out)
  have C34 := hid (C3.out.later D4.out)
  clear C03 C13 C23 C3 D3 D4 B1 B2 B3 B4 B0
  obtain ⟨p0, q0, rfl, r0⟩ := C04.out
  obtain ⟨p1, q1, rfl, r1⟩ := C14.out
  obtain ⟨p2, q2, rfl, r2⟩ := C24.out
  obtain ⟨p3, q3, rfl, r3⟩ := C34.out
  obtain ⟨p4, q4, rfl, r4⟩ := C4.out
  have X0 := hid r0
  have X1 := hid r1
  have X2 := hid r2
  have X3 := hid r3
  have X4 := hid r4
  clear r0 r1 r2 r3 r4 C04 C14 C24 C34 C4
  by_cases e0 : len0 = len4
  · by_cases e1 : len1 = len4
    · by_cases e2 : len2 = len4
      · by_cases e3 : len3 = len4
        · subst e0
          subst e1
          subst e2
          subst e3
          rcases Nat.eq_zero_or_pos len3 with hn0 | hnp
          · subst hn0
            obtain ⟨S, hS⟩ : ∃ S : Nat → Int, S = fun _ => 0 := ⟨_, rfl⟩
            clear hS X0 X1 X2 X3 X4
            go_wp2_with fail
            refine (fields_none _ _ _ _ _ _ _ _ _).mono ?_
            rintro e w' ⟨rfl, hw⟩
            have hw' := hw.symm
            subst hw'
            clear hw
            go_wp2_with fail
            refine (ends_none _ _ _ _ _ _ _ _ _).mono ?_
            rintro e w' ⟨rfl, hw⟩
            have hw' := hw.symm
            subst hw'
            clear hw
            go_wp2_with fail
            refine (newDef_none _ _ _ _ _ _ _ _ _ _ _ _ _ _ S S S S S _).mono ?_
            rintro e W6 ⟨d, xs, rfl, hb6, hd1, hd2, hdc, hF, hx⟩
            have BB := hid hb6
            have AI := hid (show AllIn S S S 0 from fun i hi => absurd hi (Nat.not_lt_zero _))
            have UP := hid (show Up S S S 0 from fun i _ hi => absurd hi (Nat.not_lt_zero _))
            have CL := hid (defLineAt_call 0 (by omega) d W5.heap.size a5 S S S S S xs W6 AI UP hd2 (Nat.lt_trans hd1 hd2) hdc hF hx)
            have e9 : lineOf S S S 0 a5 = 0 := rfl
            rw [e9] at CL
            clear hb6 hx hF AI UP e9 hdc
            go_wp2_with fail
            refine CL.out.mono ?_
            rintro e W7 ⟨rfl, hb7⟩
            have B7 := hid hb7
            clear hb7 CL
            go_wp2
            go_ret
            exact ⟨rfl, (B5.out.trans (BB.out.mono B5.out.size)).trans (B7.out.mono (Nat.le_trans B5.out.size BB.out.size))⟩
          · obtain ⟨g0, h0⟩ := X0.out.resolve_left (by omega)
            obtain ⟨g1, h1⟩ := X1.out.resolve_left (by omega)
            obtain ⟨g2, h2⟩ := X2.out.resolve_left (by omega)
            obtain ⟨g3, h3⟩ := X3.out.resolve_left (by omega)
            obtain ⟨g4, h4⟩ := X4.out.resolve_left (by omega)
            obtain ⟨rfl, y0, c0⟩ := h0
            obtain ⟨rfl, y1, c1⟩ := h1
            obtain ⟨rfl, y2, c2⟩ := h2
            obtain ⟨rfl, y3, c3⟩ := h3
            obtain ⟨rfl, y4, c4⟩ := h4
            obtain ⟨S, hS⟩ : ∃ S : Nat → Int, (fun i => z0.getD i 0) = S := ⟨_, rfl⟩
            obtain ⟨F, hF⟩ : ∃ S : Nat → Int, (fun i => z1.getD i 0) = S := ⟨_, rfl⟩
            obtain ⟨T, hT⟩ : ∃ S : Nat → Int, (fun i => z2.getD i 0) = S := ⟨_, rfl⟩
            obtain ⟨P, hP⟩ : ∃ S : Nat → Int, (fun i => z3.getD i 0) = S := ⟨_, rfl⟩
            obtain ⟨A, hA⟩ : ∃ S : Nat → Int, (fun i => z4.getD i 0) = S := ⟨_, rfl⟩
            have K0 : Hid (∀ i, i < len3 → W5.cell? ⟨g0, i, none⟩ = some (.int .i64 (S i))) := by subst hS; exact c0
            have K1 : Hid (∀ i, i < len3 → W5.cell? ⟨g1, i, none⟩ = some (.int .i64 (F i))) := by subst hF; exact c1
            have K2 : Hid (∀ i, i < len3 → W5.cell? ⟨g2, i, none⟩ = some (.int .i64 (T i))) := by subst hT; exact c2
            have K3 : Hid (∀ i, i < len3 → W5.cell? ⟨g3, i, none⟩ = some (.int .i64 (P i))) := by subst hP; exact c3
            have K4 : Hid (∀ i, i < len3 → W5.cell? ⟨g4, i, none⟩ = some (.int .i64 (A i))) := by subst hA; exact c4
            clear c0 c1 c2 c3 c4 hS hF hT hP hA X0 X1 X2 X3 X4
            go_wp2_with fail
            refine (fields_call len3 l3 F T A g1 g2 g4 _ _ _ W5 K1.out K2.out K4.out).mono ?_
            rintro e w' ⟨he, hw⟩
            have hw' := hw.symm
            subst hw'
            clear hw
            rcases he with ⟨rfl, AI⟩ | rfl
            case inr =>
              go_wp2
              go_ret
              exact ⟨rfl, B5.out⟩
            go_wp2_with fail
            refine (ends_call len3 l3 hnp F T A AI g1 g2 g4 _ _ _ W5 K1.out K2.out K4.out).mono ?_
            rintro e w' ⟨he, qd, hw⟩
            have hw' := hw.symm
            subst hw'
            clear hw
            rcases he with ⟨rfl, UP⟩ | rfl
            case inr =>
              go_wp2
              go_ret
              exact ⟨rfl, below_drew B5.out _⟩
            obtain ⟨V5, hV5⟩ : ∃ V, V = W5.drewN qd := ⟨_, rfl⟩
            have BV : Hid (Below w.heap.size w V5) := by rw [hV5]; exact below_drew B5.out _
            have SV : V5.heap.size = W5.heap.size := by rw [hV5]; rfl
            have N0 : Hid (∀ i, i < len3 → V5.cell? ⟨g0, i, none⟩ = some (.int .i64 (S i))) := by rw [hV5]; exact K0.out
            have N1 : Hid (∀ i, i < len3 → V5.cell? ⟨g1, i, none⟩ = some (.int .i64 (F i))) := by rw [hV5]; exact K1.out
            have N2 : Hid (∀ i, i < len3 → V5.cell? ⟨g2, i, none⟩ = some (.int .i64 (T i))) := by rw [hV5]; exact K2.out
            have N3 : Hid (∀ i, i < len3 → V5.cell? ⟨g3, i, none⟩ = some (.int .i64 (P i))) := by rw [hV5]; exact K3.out
            have N4 : Hid (∀ i, i < len3 → V5.cell? ⟨g4, i, none⟩ = some (.int .i64 (A i))) := by rw [hV5]; exact K4.out
            have ND := hid (newDef_call len3 l3 S F T P A g0 g1 g2 g3 g4 q0 q1 q2 q3 q4 V5 (by omega) (by omega) (by omega) (by omega) (by omega) N0.out N1.out N2.out N3.out N4.out)
            rw [← hV5]
            clear hV5 N0 N1 N2 N3 N4 K0 K1 K2 K3 K4 B5 SV
            go_wp2_with fail
            refine ND.out.mono ?_
            rintro e W6 ⟨d, xs, rfl, hb6, hd1, hd2, hdc, hF, hx⟩
            have BB := hid hb6
            have HX := hid hx
            have HD := hid hdc
            clear hb6 hx hdc ND
            have CL := hid (defLineAt_call len3 l3 d V5.heap.size a5 S F T P A xs W6 AI UP hd2 (Nat.lt_trans hd1 hd2) HD.out hF HX.out)
            obtain ⟨s1, s2, s3⟩ := lineOf_spec UP.out a5
            generalize lineOf F T A len3 a5 = r at CL s1 s2 s3
            have S2 := hid s2
            have S3 := hid s3
            clear s2 s3
            go_wp2_with fail
            refine CL.out.mono ?_
            rintro e W7 ⟨rfl, hb7⟩
            have B7 := hid hb7
            clear hb7 CL
            have D7 : Hid (W7.cell? ⟨d, 1, none⟩ = some (.slice (some ⟨V5.heap.size, 0, none⟩) len3 len3)) := (B7.out.cell (p := ⟨d, 1, none⟩) hd2).trans HD.out
            have X7 : Hid (∀ j, j < len3 * 5 → W7.cell? ⟨V5.heap.size, j, none⟩ = xs[j]?) := fun j hj => (B7.out.cell (p := ⟨V5.heap.size, j, none⟩) (Nat.lt_trans hd1 hd2)).trans (HX.out j hj)
            have T7 := hid ((BV.out.trans (BB.out.mono BV.out.size)).trans (B7.out.mono (Nat.le_trans BV.out.size BB.out.size)))
            have Z7 := Nat.lt_of_lt_of_le hd2 B7.out.size
            clear HD HX BV BB B7
            by_cases hr1 : r < len3
            · have hx1 := S2.out hr1
              have CE := hid (lineEnd_at len3 l3 d V5.heap.size S F T P A xs W7 AI hF D7.out X7.out r hr1 r rfl)
              generalize En F T A r = er at hx1 CE
              by_cases hr0 : 0 < r
              · have hx0 := S3.out hr0
                clear S2 S3
                go_wp2_with fail
                refine CE.out.mono ?_
                rintro e W8 ⟨rfl, hb8⟩
                have B8 := hid hb8
                clear hb8 CE
                have CE2 := hid (lineEnd_at len3 l3 d V5.heap.size S F T P A xs W8 AI hF ((B8.out.cell (p := ⟨d, 1, none⟩) Z7).trans D7.out) (fun j hj => (B8.out.cell (p := ⟨V5.heap.size, j, none⟩) (Nat.lt_trans hd1 Z7)).trans (X7.out j hj)) (r - 1) (by omega) ((r : Int) - 1) (by omega))
                generalize En F T A (r - 1) = ep at hx0 CE2
                go_wp2_with fail
                refine CE2.out.mono ?_
                rintro e W9 ⟨rfl, hb9⟩
                have B9 := hid hb9
                clear hb9 CE2
                go_wp2
                go_ret
                exact ⟨rfl, (T7.out.trans (B8.out.mono T7.out.size)).trans (B9.out.mono (Nat.le_trans T7.out.size B8.out.size))⟩
              · clear S2 S3
                go_wp2_with fail
                refine CE.out.mono ?_
                rintro e W8 ⟨rfl, hb8⟩
                have B8 := hid hb8
                clear hb8 CE
                go_wp2
                go_ret
                exact ⟨rfl, T7.out.trans (B8.out.mono T7.out.size)⟩
            · by_cases hr0 : 0 < r
              · have hx0 := S3.out hr0
                have CE2 := hid (lineEnd_at len3 l3 d V5.heap.size S F T P A xs W7 AI hF D7.out X7.out (r - 1) (by omega) ((r : Int) - 1) (by omega))
                generalize En F T A (r - 1) = ep at hx0 CE2
                clear S2 S3
                go_wp2_with fail
                refine CE2.out.mono ?_
                rintro e W9 ⟨rfl, hb9⟩
                have B9 := hid hb9
                clear hb9 CE2
                go_wp2
                go_ret
                exact ⟨rfl, T7.out.trans (B9.out.mono T7.out.size)⟩
              · omega
        · go_wp2
          go_ret
          exact ⟨rfl, B5.out⟩
      · go_wp2
        go_ret
        exact ⟨rfl, B5.out⟩
    · go_wp2
      go_ret
      exact ⟨rfl, B5.out⟩
  · go_wp2
    go_ret
    exact ⟨rfl, B5.out⟩

theorem walk (a0 : Option Addr) (len0 cap0 : Nat) (z0 : List Int) (a1 : Option Addr) (len1 cap1 : Nat) (z1 : List Int) (a2 : Option Addr) (len2 cap2 : Nat) (z2 : List Int) (a3 : Option Addr) (len3 cap3 : Nat) (z3 : List Int) (a4 : Option Addr) (len4 cap4 : Nat) (z4 : List Int) (a5 : Int) (w : World) (w0 : IsRow .i64 w a0 len0 cap0 z0) (w1 : IsRow .i64 w a1 len1 cap1 z1) (w2 : IsRow .i64 w a2 len2 cap2 z2) (w3 : IsRow .i64 w a3 len3 cap3 z3) (w4 : IsRow .i64 w a4 len4 cap4 z4) (w5 : (Lit.int .i64 a5).wf = true) :
    Calls Try.prog 3 #[.slice a0 len0 cap0, .slice a1 len1 cap1, .slice a2 len2 cap2, .slice a3 len3 cap3, .slice a4 len4 cap4, .int .i64 a5] w fun e w' => e = .returned (.bool true) ∧ Below w.heap.size w w' := by
  by_cases l0 : len0 ≤ 16384
  · by_cases l1 : len1 ≤ 16384
    · by_cases l2 : len2 ≤ 16384
      · by_cases l3 : len3 ≤ 16384
        · by_cases l4 : len4 ≤ 16384
          · exact walk_in a0 len0 cap0 z0 a1 len1 cap1 z1 a2 len2 cap2 z2 a3 len3 cap3 z3 a4 len4 cap4 z4 a5 w w0 w1 w2 w3 w4 w5 l0 l1 l2 l3 l4
          · go_enter Try.func3, Try.ntmps3
            go_wp2_with fail
            refine (bytes_call _ _ _ _ _ _ _ _ _ _ _ _ _ _ _ _ _).mono ?_
            rintro e w' ⟨rfl | rfl, rfl⟩
            all_goals go_wp2
            all_goals go_ret
            all_goals exact ⟨rfl, Below.refl _ _⟩
        · go_enter Try.func3, Try.ntmps3
          go_wp2_with fail
          refine (bytes_call _ _ _ _ _ _ _ _ _ _ _ _ _ _ _ _ _).mono ?_
          rintro e w' ⟨rfl | rfl, rfl⟩
          all_goals go_wp2
          all_goals go_ret
          all_goals exact ⟨rfl, Below.refl _ _⟩
      · go_enter Try.func3, Try.ntmps3
        go_wp2_with fail
        refine (bytes_call _ _ _ _ _ _ _ _ _ _ _ _ _ _ _ _ _).mono ?_
        rintro e w' ⟨rfl | rfl, rfl⟩
        all_goals go_wp2
        all_goals go_ret
        all_goals exact ⟨rfl, Below.refl _ _⟩
    · go_enter Try.func3, Try.ntmps3
      go_wp2_with fail
      refine (bytes_call _ _ _ _ _ _ _ _ _ _ _ _ _ _ _ _ _).mono ?_
      rintro e w' ⟨rfl | rfl, rfl⟩
      all_goals go_wp2
      all_goals go_ret
      all_goals exact ⟨rfl, Below.refl _ _⟩
  · go_enter Try.func3, Try.ntmps3
    go_wp2_with fail
    refine (bytes_call _ _ _ _ _ _ _ _ _ _ _ _ _ _ _ _ _).mono ?_
    rintro e w' ⟨rfl | rfl, rfl⟩
    all_goals go_wp2
    all_goals go_ret
    all_goals exact ⟨rfl, Below.refl _ _⟩

/-! ### THE ROW's STEP: WRITTEN OUT: LEAVE IT -/
set_option maxRecDepth 100000 in
theorem lifted (os : Os) (started : os.Started) (H : Type) (enc : TypeId × Value → H) :
    ReturnsInHanded {} Try.checked os 3 .any (Rows.fnLineAtBracketedByLineEndsSpec.pre6 enc Try.prog Try.f3 Rows.fnLineAtBracketedByLineEndsRow.domain false) (Rows.fnLineAtBracketedByLineEndsSpec.post enc Try.prog Try.f3 false true false false) := by
  refine returnsInHanded_of_change (C := Try.checked) own started (by kernel_rfl) Try.func3
    (ChangeSpec.witness6 (enc := enc) (C := Try.checked) false ⟨#[], #[.slice none 0 0, .slice none 0 0, .slice none 0 0, .slice none 0 0, .slice none 0 0, .int .i64 0], []⟩ 8 (by kernel_rfl) (by kernel_rfl) (by kernel_rfl) (by kernel_rfl)) ?_
  intro W base args ds gs before hval0 hW hcnd _
  have hval : ∀ (j : Nat) t v, Try.f3.params[j]? = some t → args[j]? = some v → Value.okWide Try.prog W .any base t v := hval0
  have hW' := hW
  obtain ⟨p, q, hA0, hV, rfl, hfz, hnd⟩ := hW
  have hA : DataW.TrodAll enc Try.prog W 0 (fun _ => true) true Try.f3.params.toList args.toList ds p := hA0
  rw [Try.params3] at hA hval
  obtain ⟨v0, vs0, d0, ds0, p0, q0, hargs, rfl, rfl, h0, r0⟩ := trodAll_cons hA
  obtain ⟨v1, vs1, d1, ds1, p1, q1, rfl, rfl, rfl, h1, r1⟩ := trodAll_cons r0
  obtain ⟨v2, vs2, d2, ds2, p2, q2, rfl, rfl, rfl, h2, r2⟩ := trodAll_cons r1
  obtain ⟨v3, vs3, d3, ds3, p3, q3, rfl, rfl, rfl, h3, r3⟩ := trodAll_cons r2
  obtain ⟨v4, vs4, d4, ds4, p4, q4, rfl, rfl, rfl, h4, r4⟩ := trodAll_cons r3
  obtain ⟨v5, vs5, d5, ds5, p5, q5, rfl, rfl, rfl, h5, r5⟩ := trodAll_cons r4
  obtain ⟨rfl, rfl, rfl⟩ := trodAll_nil r5
  obtain rfl : args = #[v0, v1, v2, v3, v4, v5] := by cases args; simp_all
  obtain ⟨rfl, rfl⟩ := trodVars_none hV
  obtain ⟨a0, len0, cap0, rfl⟩ := okWide_slice Try.underlying22 (hval 0 22 v0 rfl rfl)
  have k0 := h0
  have lt0 : ∀ x ∈ p0, x.block < W.heap.size := by obtain ⟨m, hm⟩ := k0; exact DataW.trod_lt m _ _ _ hm
  obtain ⟨z0, w0⟩ : ∃ zs, IsRow .i64 W a0 len0 cap0 zs := by
    obtain ⟨fuel, hf⟩ := h0
    rcases open_ints Try.underlying22 Try.underlying3 (by kernel_rfl) hf with ⟨hcs, _⟩ | ⟨x, l, c, zs, hcs, _, hl, hm, hz, _, hcell, hwz⟩
    · simp [Value.cells] at hcs
      obtain ⟨rfl, rfl, rfl⟩ := hcs
      exact ⟨[], .inl ⟨rfl, rfl, rfl, rfl⟩⟩
    · simp [Value.cells] at hcs
      obtain ⟨rfl, rfl, rfl⟩ := hcs
      exact ⟨zs, .inr ⟨_, rfl, hl, hm, by simpa using hz, hcell, hwz⟩⟩
  obtain ⟨a1, len1, cap1, rfl⟩ := okWide_slice Try.underlying22 (hval 1 22 v1 rfl rfl)
  have k1 := h1
  have lt1 : ∀ x ∈ p1, x.block < W.heap.size := by obtain ⟨m, hm⟩ := k1; exact DataW.trod_lt m _ _ _ hm
  obtain ⟨z1, w1⟩ : ∃ zs, IsRow .i64 W a1 len1 cap1 zs := by
    obtain ⟨fuel, hf⟩ := h1
    rcases open_ints Try.underlying22 Try.underlying3 (by kernel_rfl) hf with ⟨hcs, _⟩ | ⟨x, l, c, zs, hcs, _, hl, hm, hz, _, hcell, hwz⟩
    · simp [Value.cells] at hcs
      obtain ⟨rfl, rfl, rfl⟩ := hcs
      exact ⟨[], .inl ⟨rfl, rfl, rfl, rfl⟩⟩
    · simp [Value.cells] at hcs
      obtain ⟨rfl, rfl, rfl⟩ := hcs
      exact ⟨zs, .inr ⟨_, rfl, hl, hm, by simpa using hz, hcell, hwz⟩⟩
  obtain ⟨a2, len2, cap2, rfl⟩ := okWide_slice Try.underlying22 (hval 2 22 v2 rfl rfl)
  have k2 := h2
  have lt2 : ∀ x ∈ p2, x.block < W.heap.size := by obtain ⟨m, hm⟩ := k2; exact DataW.trod_lt m _ _ _ hm
  obtain ⟨z2, w2⟩ : ∃ zs, IsRow .i64 W a2 len2 cap2 zs := by
    obtain ⟨fuel, hf⟩ := h2
    rcases open_ints Try.underlying22 Try.underlying3 (by kernel_rfl) hf with ⟨hcs, _⟩ | ⟨x, l, c, zs, hcs, _, hl, hm, hz, _, hcell, hwz⟩
    · simp [Value.cells] at hcs
      obtain ⟨rfl, rfl, rfl⟩ := hcs
      exact ⟨[], .inl ⟨rfl, rfl, rfl, rfl⟩⟩
    · simp [Value.cells] at hcs
      obtain ⟨rfl, rfl, rfl⟩ := hcs
      exact ⟨zs, .inr ⟨_, rfl, hl, hm, by simpa using hz, hcell, hwz⟩⟩
  obtain ⟨a3, len3, cap3, rfl⟩ := okWide_slice Try.underlying22 (hval 3 22 v3 rfl rfl)
  have k3 := h3
  have lt3 : ∀ x ∈ p3, x.block < W.heap.size := by obtain ⟨m, hm⟩ := k3; exact DataW.trod_lt m _ _ _ hm
  obtain ⟨z3, w3⟩ : ∃ zs, IsRow .i64 W a3 len3 cap3 zs := by
    obtain ⟨fuel, hf⟩ := h3
    rcases open_ints Try.underlying22 Try.underlying3 (by kernel_rfl) hf with ⟨hcs, _⟩ | ⟨x, l, c, zs, hcs, _, hl, hm, hz, _, hcell, hwz⟩
    · simp [Value.cells] at hcs
      obtain ⟨rfl, rfl, rfl⟩ := hcs
      exact ⟨[], .inl ⟨rfl, rfl, rfl, rfl⟩⟩
    · simp [Value.cells] at hcs
      obtain ⟨rfl, rfl, rfl⟩ := hcs
      exact ⟨zs, .inr ⟨_, rfl, hl, hm, by simpa using hz, hcell, hwz⟩⟩
  obtain ⟨a4, len4, cap4, rfl⟩ := okWide_slice Try.underlying22 (hval 4 22 v4 rfl rfl)
  have k4 := h4
  have lt4 : ∀ x ∈ p4, x.block < W.heap.size := by obtain ⟨m, hm⟩ := k4; exact DataW.trod_lt m _ _ _ hm
  obtain ⟨z4, w4⟩ : ∃ zs, IsRow .i64 W a4 len4 cap4 zs := by
    obtain ⟨fuel, hf⟩ := h4
    rcases open_ints Try.underlying22 Try.underlying3 (by kernel_rfl) hf with ⟨hcs, _⟩ | ⟨x, l, c, zs, hcs, _, hl, hm, hz, _, hcell, hwz⟩
    · simp [Value.cells] at hcs
      obtain ⟨rfl, rfl, rfl⟩ := hcs
      exact ⟨[], .inl ⟨rfl, rfl, rfl, rfl⟩⟩
    · simp [Value.cells] at hcs
      obtain ⟨rfl, rfl, rfl⟩ := hcs
      exact ⟨zs, .inr ⟨_, rfl, hl, hm, by simpa using hz, hcell, hwz⟩⟩
  obtain ⟨a5, rfl, rfl, rfl, w5⟩ := open_int Try.underlying3 (hval 5 3 v5 rfl rfl) h5
  clear hA0 hval0
  refine (walk a0 len0 cap0 z0 a1 len1 cap1 z1 a2 len2 cap2 z2 a3 len3 cap3 z3 a4 len4 cap4 z4 a5 W w0 w1 w2 w3 w4 w5).mono fun e W' ⟨he, bel⟩ => ?_
  subst he
  exact ⟨_, rfl, _, _, _, [], _, [], hW', trodAll_mk1 (shut_bool Try.underlying4 _), (trodAll_cons_mk (Below.trod laidOut (by kernel_rfl) (of_decide_eq_true (by kernel_rfl)) k0 bel lt0) (trodAll_cons_mk (Below.trod laidOut (by kernel_rfl) (of_decide_eq_true (by kernel_rfl)) k1 bel lt1) (trodAll_cons_mk (Below.trod laidOut (by kernel_rfl) (of_decide_eq_true (by kernel_rfl)) k2 bel lt2) (trodAll_cons_mk (Below.trod laidOut (by kernel_rfl) (of_decide_eq_true (by kernel_rfl)) k3 bel lt3) (trodAll_cons_mk (Below.trod laidOut (by kernel_rfl) (of_decide_eq_true (by kernel_rfl)) k4 bel lt4) (trodAll_cons_mk (shut_int Try.underlying3 w5) trodAll_mk0)))))), rfl, bel.frame _, fun h => by cases h⟩

theorem over : Rows.fnLineAtBracketedByLineEndsRow.holds Try.pinned (OpenSpec.ofChange Rows.fnLineAtBracketedByLineEndsSpec) :=
  OpenClaim.holds_of_wide 3 Try.f3 rfl rfl rfl rfl rfl rfl rfl ⟨rfl, rfl, rfl, rfl, rfl⟩ rfl rfl rfl rfl rfl (by kernel_rfl) Try.func3 (by kernel_rfl)
    (of_decide_eq_true (by kernel_rfl)) (by unfold Func.isWrapper; first | (rw [if_pos (by decide +kernel)]; kernel_rfl) | (rw [if_neg (by decide +kernel)]; exact ⟨rfl, rfl⟩))
    (fun os started H enc _ => lifted os started H enc)

/-- ████ THE STATEMENT ████ -/
theorem proved : Rows.FnLineAtBracketedByLineEndsSaid := over
#print axioms proved
end Go.Proofs.Qxb6613027a.fnLineAtBracketedByLineEnds
