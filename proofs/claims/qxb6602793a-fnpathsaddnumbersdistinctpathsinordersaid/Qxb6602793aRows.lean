/-
  No cell of these rows narrows 'for every input' (looked for: loops, veiled, ifaces, maps, wideKeys, modest, calm, conditions, laid).
  DERIVED. THE GIVEN ROWS OF THIS SEAT. 7 by the template 'for every input the law returns true; each argument reads behind the call as it read before'; 0 by the template 'total and deterministic' (their statements: Qxb6602793aTotals.lean).
  GIVEN WITH THE SEED: the statements are not yours to turn. If you find one false, say at which input.
  Laid BY PROGRAM, IN A SANDBOX (cutbox-rows.mjs): the forced cells as the released guide's own fill.sh prints them over the translation 87a08b08f367f2eb… (all of the seat's roots in one cut). By AI agents, Wed Nov 11 2026. No macro, syntax, notation, axiom, sorry.
-/
import Derived.Test.Qxb6602793aChecked
import GoSem.Claim
import GoSem.ClaimJoined
import GoSem.ClaimMapViews
import Derived.JoinedTies
import Derived.KernelRfl
namespace Go.Proofs.Qxb6602793a
/- THE CELL 'sum', in the pinned program and in every row, IS THE sha256 OF THE DUMP (.gsa) THAT Qxb6602793aProg.lean LOADS. Nothing in Lean hashes anything: it is a label: what it is worth is what the hold of that sum in a sandbox is worth. -/
noncomputable def Try.pinned : Pinned := { name := "qxb6602793a", sum := "87a08b08f367f2eba159751a03fc8a9bb909fa7b3be3cf2d50b79a1d03a6c301", checked := Try.checked }
namespace Rows
def none {H : Type} : Left H := { results := [], args := [] }

/-- 'zzlaws_pkg_jsonobj_b1.FnCompactMatchesSegmentModel': WHATEVER THE INPUT: true; the input reads as it did. -/
def fnCompactMatchesSegmentModelSpec : ChangeSpec := { name := "fnCompactMatchesSegmentModel", fn := fun _ => fun
  | [d] => { results := [.lit (.bool true)], args := [d] }
  | _ => none }
def fnCompactMatchesSegmentModelRow : OpenClaim := { program := "qxb6602793a", sum := "87a08b08f367f2eba159751a03fc8a9bb909fa7b3be3cf2d50b79a1d03a6c301", func := "example.com/moraine/moraine/zzlaws_pkg_jsonobj_b1.FnCompactMatchesSegmentModel", spec := "fnCompactMatchesSegmentModel", apart := false }
def FnCompactMatchesSegmentModelSaid : Prop := fnCompactMatchesSegmentModelRow.holds Try.pinned (OpenSpec.ofChange fnCompactMatchesSegmentModelSpec)

/-- ITS FALSE NEIGHBOUR: 'it returns false'. Refute it at one input. -/
def fnCompactMatchesSegmentModelWrong : ChangeSpec := { name := "fnCompactMatchesSegmentModel", fn := fun _ => fun
  | [d] => { results := [.lit (.bool false)], args := [d] }
  | _ => none }
def FnCompactMatchesSegmentModelWrongFalsely : Prop := fnCompactMatchesSegmentModelRow.holds Try.pinned (OpenSpec.ofChange fnCompactMatchesSegmentModelWrong)

/-- 'zzlaws_pkg_jsonobj_b1.FnCompactIsIdempotent': WHATEVER THE INPUT: true; the input reads as it did. -/
def fnCompactIsIdempotentSpec : ChangeSpec := { name := "fnCompactIsIdempotent", fn := fun _ => fun
  | [d] => { results := [.lit (.bool true)], args := [d] }
  | _ => none }
def fnCompactIsIdempotentRow : OpenClaim := { program := "qxb6602793a", sum := "87a08b08f367f2eba159751a03fc8a9bb909fa7b3be3cf2d50b79a1d03a6c301", func := "example.com/moraine/moraine/zzlaws_pkg_jsonobj_b1.FnCompactIsIdempotent", spec := "fnCompactIsIdempotent", apart := false }
def FnCompactIsIdempotentSaid : Prop := fnCompactIsIdempotentRow.holds Try.pinned (OpenSpec.ofChange fnCompactIsIdempotentSpec)

/-- ITS FALSE NEIGHBOUR: 'it returns false'. Refute it at one input. -/
def fnCompactIsIdempotentWrong : ChangeSpec := { name := "fnCompactIsIdempotent", fn := fun _ => fun
  | [d] => { results := [.lit (.bool false)], args := [d] }
  | _ => none }
def FnCompactIsIdempotentWrongFalsely : Prop := fnCompactIsIdempotentRow.holds Try.pinned (OpenSpec.ofChange fnCompactIsIdempotentWrong)

/-- 'zzlaws_pkg_jsonobj_b1.FnCompactDeletesOnlyWhiteSpace': WHATEVER THE INPUT: true; the input reads as it did. -/
def fnCompactDeletesOnlyWhiteSpaceSpec : ChangeSpec := { name := "fnCompactDeletesOnlyWhiteSpace", fn := fun _ => fun
  | [d] => { results := [.lit (.bool true)], args := [d] }
  | _ => none }
def fnCompactDeletesOnlyWhiteSpaceRow : OpenClaim := { program := "qxb6602793a", sum := "87a08b08f367f2eba159751a03fc8a9bb909fa7b3be3cf2d50b79a1d03a6c301", func := "example.com/moraine/moraine/zzlaws_pkg_jsonobj_b1.FnCompactDeletesOnlyWhiteSpace", spec := "fnCompactDeletesOnlyWhiteSpace", apart := false }
def FnCompactDeletesOnlyWhiteSpaceSaid : Prop := fnCompactDeletesOnlyWhiteSpaceRow.holds Try.pinned (OpenSpec.ofChange fnCompactDeletesOnlyWhiteSpaceSpec)

/-- ITS FALSE NEIGHBOUR: 'it returns false'. Refute it at one input. -/
def fnCompactDeletesOnlyWhiteSpaceWrong : ChangeSpec := { name := "fnCompactDeletesOnlyWhiteSpace", fn := fun _ => fun
  | [d] => { results := [.lit (.bool false)], args := [d] }
  | _ => none }
def FnCompactDeletesOnlyWhiteSpaceWrongFalsely : Prop := fnCompactDeletesOnlyWhiteSpaceRow.holds Try.pinned (OpenSpec.ofChange fnCompactDeletesOnlyWhiteSpaceWrong)

/-- 'zzlaws_pkg_jsonobj_b1.FnNumberMatchesAutomaton': WHATEVER THE INPUT: true; the input reads as it did. -/
def fnNumberMatchesAutomatonSpec : ChangeSpec := { name := "fnNumberMatchesAutomaton", fn := fun _ => fun
  | [d1, d2] => { results := [.lit (.bool true)], args := [d1, d2] }
  | _ => none }
def fnNumberMatchesAutomatonRow : OpenClaim := { program := "qxb6602793a", sum := "87a08b08f367f2eba159751a03fc8a9bb909fa7b3be3cf2d50b79a1d03a6c301", func := "example.com/moraine/moraine/zzlaws_pkg_jsonobj_b1.FnNumberMatchesAutomaton", spec := "fnNumberMatchesAutomaton", apart := false }
def FnNumberMatchesAutomatonSaid : Prop := fnNumberMatchesAutomatonRow.holds Try.pinned (OpenSpec.ofChange fnNumberMatchesAutomatonSpec)

/-- ITS FALSE NEIGHBOUR: 'it returns false'. Refute it at one input. -/
def fnNumberMatchesAutomatonWrong : ChangeSpec := { name := "fnNumberMatchesAutomaton", fn := fun _ => fun
  | [d1, d2] => { results := [.lit (.bool false)], args := [d1, d2] }
  | _ => none }
def FnNumberMatchesAutomatonWrongFalsely : Prop := fnNumberMatchesAutomatonRow.holds Try.pinned (OpenSpec.ofChange fnNumberMatchesAutomatonWrong)

/-- 'zzlaws_pkg_jsonobj_b1.FnNumberIsShiftInvariant': WHATEVER THE INPUT: true; the input reads as it did. -/
def fnNumberIsShiftInvariantSpec : ChangeSpec := { name := "fnNumberIsShiftInvariant", fn := fun _ => fun
  | [d1, d2] => { results := [.lit (.bool true)], args := [d1, d2] }
  | _ => none }
def fnNumberIsShiftInvariantRow : OpenClaim := { program := "qxb6602793a", sum := "87a08b08f367f2eba159751a03fc8a9bb909fa7b3be3cf2d50b79a1d03a6c301", func := "example.com/moraine/moraine/zzlaws_pkg_jsonobj_b1.FnNumberIsShiftInvariant", spec := "fnNumberIsShiftInvariant", apart := false }
def FnNumberIsShiftInvariantSaid : Prop := fnNumberIsShiftInvariantRow.holds Try.pinned (OpenSpec.ofChange fnNumberIsShiftInvariantSpec)

/-- ITS FALSE NEIGHBOUR: 'it returns false'. Refute it at one input. -/
def fnNumberIsShiftInvariantWrong : ChangeSpec := { name := "fnNumberIsShiftInvariant", fn := fun _ => fun
  | [d1, d2] => { results := [.lit (.bool false)], args := [d1, d2] }
  | _ => none }
def FnNumberIsShiftInvariantWrongFalsely : Prop := fnNumberIsShiftInvariantRow.holds Try.pinned (OpenSpec.ofChange fnNumberIsShiftInvariantWrong)

/-- 'zzlaws_pkg_jsonobj_b1.FnNumberNeedsNothingPastItsEnd': WHATEVER THE INPUT: true; the input reads as it did. -/
def fnNumberNeedsNothingPastItsEndSpec : ChangeSpec := { name := "fnNumberNeedsNothingPastItsEnd", fn := fun _ => fun
  | [d1, d2] => { results := [.lit (.bool true)], args := [d1, d2] }
  | _ => none }
def fnNumberNeedsNothingPastItsEndRow : OpenClaim := { program := "qxb6602793a", sum := "87a08b08f367f2eba159751a03fc8a9bb909fa7b3be3cf2d50b79a1d03a6c301", func := "example.com/moraine/moraine/zzlaws_pkg_jsonobj_b1.FnNumberNeedsNothingPastItsEnd", spec := "fnNumberNeedsNothingPastItsEnd", apart := false }
def FnNumberNeedsNothingPastItsEndSaid : Prop := fnNumberNeedsNothingPastItsEndRow.holds Try.pinned (OpenSpec.ofChange fnNumberNeedsNothingPastItsEndSpec)

/-- ITS FALSE NEIGHBOUR: 'it returns false'. Refute it at one input. -/
def fnNumberNeedsNothingPastItsEndWrong : ChangeSpec := { name := "fnNumberNeedsNothingPastItsEnd", fn := fun _ => fun
  | [d1, d2] => { results := [.lit (.bool false)], args := [d1, d2] }
  | _ => none }
def FnNumberNeedsNothingPastItsEndWrongFalsely : Prop := fnNumberNeedsNothingPastItsEndRow.holds Try.pinned (OpenSpec.ofChange fnNumberNeedsNothingPastItsEndWrong)

/-- 'zzlaws_pkg_jsonobj_b1.FnPathsAddNumbersDistinctPathsInOrder': WHATEVER THE INPUT: true; the input reads as it did. -/
def fnPathsAddNumbersDistinctPathsInOrderSpec : ChangeSpec := { name := "fnPathsAddNumbersDistinctPathsInOrder", fn := fun _ => fun
  | [d] => { results := [.lit (.bool true)], args := [d] }
  | _ => none }
def fnPathsAddNumbersDistinctPathsInOrderRow : OpenClaim := { program := "qxb6602793a", sum := "87a08b08f367f2eba159751a03fc8a9bb909fa7b3be3cf2d50b79a1d03a6c301", func := "example.com/moraine/moraine/zzlaws_pkg_jsonobj_b1.FnPathsAddNumbersDistinctPathsInOrder", spec := "fnPathsAddNumbersDistinctPathsInOrder", apart := false }
def FnPathsAddNumbersDistinctPathsInOrderSaid : Prop := fnPathsAddNumbersDistinctPathsInOrderRow.holds Try.pinned (OpenSpec.ofChange fnPathsAddNumbersDistinctPathsInOrderSpec)

/-- ITS FALSE NEIGHBOUR: 'it returns false'. Refute it at one input. -/
def fnPathsAddNumbersDistinctPathsInOrderWrong : ChangeSpec := { name := "fnPathsAddNumbersDistinctPathsInOrder", fn := fun _ => fun
  | [d] => { results := [.lit (.bool false)], args := [d] }
  | _ => none }
def FnPathsAddNumbersDistinctPathsInOrderWrongFalsely : Prop := fnPathsAddNumbersDistinctPathsInOrderRow.holds Try.pinned (OpenSpec.ofChange fnPathsAddNumbersDistinctPathsInOrderWrong)

end Rows
end Go.Proofs.Qxb6602793a
