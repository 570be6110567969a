/-
  No cell of these rows narrows 'for every input' (looked for: loops, veiled, ifaces, maps, wideKeys, modest, calm, conditions, laid).
  DERIVED. THE GIVEN ROWS OF THIS SEAT. 2 by the template 'for every input the law returns true; each argument reads behind the call as it read before'; 0 by the template 'total and deterministic' (their statements: Qxb6613027aTotals.lean).
  GIVEN WITH THE SEED: the statements are not yours to turn. If you find one false, say at which input.
  Laid BY PROGRAM, IN A SANDBOX (cutbox-rows.mjs): the forced cells as the released guide's own fill.sh prints them over the translation 0fb1e1ab3830d070… (all of the seat's roots in one cut). By AI agents, Wed Nov 11 2026. No macro, syntax, notation, axiom, sorry.
-/
import Derived.Test.Qxb6613027aChecked
import GoSem.Claim
import GoSem.ClaimJoined
import GoSem.ClaimMapViews
import Derived.JoinedTies
import Derived.KernelRfl
namespace Go.Proofs.Qxb6613027a
/- THE CELL 'sum', in the pinned program and in every row, IS THE sha256 OF THE DUMP (.gsa) THAT Qxb6613027aProg.lean LOADS. Nothing in Lean hashes anything: it is a label: what it is worth is what the hold of that sum in a sandbox is worth. -/
noncomputable def Try.pinned : Pinned := { name := "qxb6613027a", sum := "0fb1e1ab3830d07070dbf9b578b76261020e6c8eb464d7742b5d9ce4c3ad74bb", checked := Try.checked }
namespace Rows
def none {H : Type} : Left H := { results := [], args := [] }

/-- 'zzlaws_root_b1.FnLineAtBracketedByLineEnds': WHATEVER THE INPUT: true; the input reads as it did. -/
def fnLineAtBracketedByLineEndsSpec : ChangeSpec := { name := "fnLineAtBracketedByLineEnds", fn := fun _ => fun
  | [d1, d2, d3, d4, d5, d6] => { results := [.lit (.bool true)], args := [d1, d2, d3, d4, d5, d6] }
  | _ => none }
def fnLineAtBracketedByLineEndsRow : OpenClaim := { program := "qxb6613027a", sum := "0fb1e1ab3830d07070dbf9b578b76261020e6c8eb464d7742b5d9ce4c3ad74bb", func := "example.com/backslash/backslash/zzlaws_root_b1.FnLineAtBracketedByLineEnds", spec := "fnLineAtBracketedByLineEnds", unfollowed := true, recurses := true, apart := false }
def FnLineAtBracketedByLineEndsSaid : Prop := fnLineAtBracketedByLineEndsRow.holds Try.pinned (OpenSpec.ofChange fnLineAtBracketedByLineEndsSpec)

/-- ITS FALSE NEIGHBOUR: 'it returns false'. Refute it at one input. -/
def fnLineAtBracketedByLineEndsWrong : ChangeSpec := { name := "fnLineAtBracketedByLineEnds", fn := fun _ => fun
  | [d1, d2, d3, d4, d5, d6] => { results := [.lit (.bool false)], args := [d1, d2, d3, d4, d5, d6] }
  | _ => none }
def FnLineAtBracketedByLineEndsWrongFalsely : Prop := fnLineAtBracketedByLineEndsRow.holds Try.pinned (OpenSpec.ofChange fnLineAtBracketedByLineEndsWrong)

/-- 'zzlaws_root_b1.FnLineAtShiftInvariantAndCountsEndedLines': WHATEVER THE INPUT: true; the input reads as it did. -/
def fnLineAtShiftInvariantAndCountsEndedLinesSpec : ChangeSpec := { name := "fnLineAtShiftInvariantAndCountsEndedLines", fn := fun _ => fun
  | [d1, d2, d3, d4, d5, d6, d7] => { results := [.lit (.bool true)], args := [d1, d2, d3, d4, d5, d6, d7] }
  | _ => none }
def fnLineAtShiftInvariantAndCountsEndedLinesRow : OpenClaim := { program := "qxb6613027a", sum := "0fb1e1ab3830d07070dbf9b578b76261020e6c8eb464d7742b5d9ce4c3ad74bb", func := "example.com/backslash/backslash/zzlaws_root_b1.FnLineAtShiftInvariantAndCountsEndedLines", spec := "fnLineAtShiftInvariantAndCountsEndedLines", unfollowed := true, recurses := true, apart := false }
def FnLineAtShiftInvariantAndCountsEndedLinesSaid : Prop := fnLineAtShiftInvariantAndCountsEndedLinesRow.holds Try.pinned (OpenSpec.ofChange fnLineAtShiftInvariantAndCountsEndedLinesSpec)

/-- ITS FALSE NEIGHBOUR: 'it returns false'. Refute it at one input. -/
def fnLineAtShiftInvariantAndCountsEndedLinesWrong : ChangeSpec := { name := "fnLineAtShiftInvariantAndCountsEndedLines", fn := fun _ => fun
  | [d1, d2, d3, d4, d5, d6, d7] => { results := [.lit (.bool false)], args := [d1, d2, d3, d4, d5, d6, d7] }
  | _ => none }
def FnLineAtShiftInvariantAndCountsEndedLinesWrongFalsely : Prop := fnLineAtShiftInvariantAndCountsEndedLinesRow.holds Try.pinned (OpenSpec.ofChange fnLineAtShiftInvariantAndCountsEndedLinesWrong)

end Rows
end Go.Proofs.Qxb6613027a
