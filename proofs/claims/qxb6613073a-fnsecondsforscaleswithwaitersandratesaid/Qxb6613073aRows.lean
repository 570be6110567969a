/-
  No cell of these rows narrows 'for every input' (looked for: loops, veiled, ifaces, maps, wideKeys, modest, calm, conditions, laid).
  DERIVED. THE GIVEN ROWS OF THIS SEAT. 3 by the template 'for every input the law returns true; each argument reads behind the call as it read before'; 0 by the template 'total and deterministic' (their statements: Qxb6613073aTotals.lean).
  GIVEN WITH THE SEED: the statements are not yours to turn. If you find one false, say at which input.
  Laid BY PROGRAM, IN A SANDBOX (cutbox-rows.mjs): the forced cells as the released guide's own fill.sh prints them over the translation 843116d6e4a69b0a… (all of the seat's roots in one cut). By AI agents, Wed Nov 11 2026. No macro, syntax, notation, axiom, sorry.
-/
import Derived.Test.Qxb6613073aChecked
import GoSem.Claim
import GoSem.ClaimJoined
import GoSem.ClaimMapViews
import Derived.JoinedTies
import Derived.KernelRfl
namespace Go.Proofs.Qxb6613073a
/- THE CELL 'sum', in the pinned program and in every row, IS THE sha256 OF THE DUMP (.gsa) THAT Qxb6613073aProg.lean LOADS. Nothing in Lean hashes anything: it is a label: what it is worth is what the hold of that sum in a sandbox is worth. -/
noncomputable def Try.pinned : Pinned := { name := "qxb6613073a", sum := "843116d6e4a69b0a64a367ed7eb89c3a65d477b84bc2c04b2698c4f12c65f92a", checked := Try.checked }
namespace Rows
def none {H : Type} : Left H := { results := [], args := [] }

/-- 'zzlaws_root_b1.FnFirstWordIsKeptWhenWordsAreAdded': WHATEVER THE INPUT: true; the input reads as it did. -/
def fnFirstWordIsKeptWhenWordsAreAddedSpec : ChangeSpec := { name := "fnFirstWordIsKeptWhenWordsAreAdded", fn := fun _ => fun
  | [d1, d2, d3] => { results := [.lit (.bool true)], args := [d1, d2, d3] }
  | _ => none }
def fnFirstWordIsKeptWhenWordsAreAddedRow : OpenClaim := { program := "qxb6613073a", sum := "843116d6e4a69b0a64a367ed7eb89c3a65d477b84bc2c04b2698c4f12c65f92a", func := "example.com/lachesis/lachesis/zzlaws_root_b1.FnFirstWordIsKeptWhenWordsAreAdded", spec := "fnFirstWordIsKeptWhenWordsAreAdded", apart := false }
def FnFirstWordIsKeptWhenWordsAreAddedSaid : Prop := fnFirstWordIsKeptWhenWordsAreAddedRow.holds Try.pinned (OpenSpec.ofChange fnFirstWordIsKeptWhenWordsAreAddedSpec)

/-- ITS FALSE NEIGHBOUR: 'it returns false'. Refute it at one input. -/
def fnFirstWordIsKeptWhenWordsAreAddedWrong : ChangeSpec := { name := "fnFirstWordIsKeptWhenWordsAreAdded", fn := fun _ => fun
  | [d1, d2, d3] => { results := [.lit (.bool false)], args := [d1, d2, d3] }
  | _ => none }
def FnFirstWordIsKeptWhenWordsAreAddedWrongFalsely : Prop := fnFirstWordIsKeptWhenWordsAreAddedRow.holds Try.pinned (OpenSpec.ofChange fnFirstWordIsKeptWhenWordsAreAddedWrong)

/-- 'zzlaws_root_b1.FnFirstWordIsNestsAsAnOrder': WHATEVER THE INPUT: true; the input reads as it did. -/
def fnFirstWordIsNestsAsAnOrderSpec : ChangeSpec := { name := "fnFirstWordIsNestsAsAnOrder", fn := fun _ => fun
  | [d1, d2, d3] => { results := [.lit (.bool true)], args := [d1, d2, d3] }
  | _ => none }
def fnFirstWordIsNestsAsAnOrderRow : OpenClaim := { program := "qxb6613073a", sum := "843116d6e4a69b0a64a367ed7eb89c3a65d477b84bc2c04b2698c4f12c65f92a", func := "example.com/lachesis/lachesis/zzlaws_root_b1.FnFirstWordIsNestsAsAnOrder", spec := "fnFirstWordIsNestsAsAnOrder", apart := false }
def FnFirstWordIsNestsAsAnOrderSaid : Prop := fnFirstWordIsNestsAsAnOrderRow.holds Try.pinned (OpenSpec.ofChange fnFirstWordIsNestsAsAnOrderSpec)

/-- ITS FALSE NEIGHBOUR: 'it returns false'. Refute it at one input. -/
def fnFirstWordIsNestsAsAnOrderWrong : ChangeSpec := { name := "fnFirstWordIsNestsAsAnOrder", fn := fun _ => fun
  | [d1, d2, d3] => { results := [.lit (.bool false)], args := [d1, d2, d3] }
  | _ => none }
def FnFirstWordIsNestsAsAnOrderWrongFalsely : Prop := fnFirstWordIsNestsAsAnOrderRow.holds Try.pinned (OpenSpec.ofChange fnFirstWordIsNestsAsAnOrderWrong)

/-- 'zzlaws_root_b1.FnSecondsForScalesWithWaitersAndRate': WHATEVER THE INPUT: true; the input reads as it did. -/
def fnSecondsForScalesWithWaitersAndRateSpec : ChangeSpec := { name := "fnSecondsForScalesWithWaitersAndRate", fn := fun _ => fun
  | [d1, d2, d3] => { results := [.lit (.bool true)], args := [d1, d2, d3] }
  | _ => none }
def fnSecondsForScalesWithWaitersAndRateRow : OpenClaim := { program := "qxb6613073a", sum := "843116d6e4a69b0a64a367ed7eb89c3a65d477b84bc2c04b2698c4f12c65f92a", func := "example.com/lachesis/lachesis/zzlaws_root_b1.FnSecondsForScalesWithWaitersAndRate", spec := "fnSecondsForScalesWithWaitersAndRate", apart := false }
def FnSecondsForScalesWithWaitersAndRateSaid : Prop := fnSecondsForScalesWithWaitersAndRateRow.holds Try.pinned (OpenSpec.ofChange fnSecondsForScalesWithWaitersAndRateSpec)

/-- ITS FALSE NEIGHBOUR: 'it returns false'. Refute it at one input. -/
def fnSecondsForScalesWithWaitersAndRateWrong : ChangeSpec := { name := "fnSecondsForScalesWithWaitersAndRate", fn := fun _ => fun
  | [d1, d2, d3] => { results := [.lit (.bool false)], args := [d1, d2, d3] }
  | _ => none }
def FnSecondsForScalesWithWaitersAndRateWrongFalsely : Prop := fnSecondsForScalesWithWaitersAndRateRow.holds Try.pinned (OpenSpec.ofChange fnSecondsForScalesWithWaitersAndRateWrong)

end Rows
end Go.Proofs.Qxb6613073a
