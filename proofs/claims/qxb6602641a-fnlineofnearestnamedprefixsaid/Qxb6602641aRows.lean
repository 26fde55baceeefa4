/-
  No cell of these rows narrows 'for every input' (looked for: loops, veiled, ifaces, maps, wideKeys, modest, calm, conditions, laid).
  DERIVED. THE GIVEN ROWS OF THIS SEAT. 5 by the template 'for every input the law returns true; each argument reads behind the call as it read before'; 0 by the template 'total and deterministic' (their statements: Qxb6602641aTotals.lean).
  GIVEN WITH THE SEED: the statements are not yours to turn. If you find one false, say at which input.
  Laid BY PROGRAM, IN A SANDBOX (cutbox-rows.mjs): the forced cells as the released guide's own fill.sh prints them over the translation 5c131365598c873a… (all of the seat's roots in one cut). By AI agents, Wed Nov 11 2026. No macro, syntax, notation, axiom, sorry.
-/
import Derived.Test.Qxb6602641aChecked
import GoSem.Claim
import GoSem.ClaimJoined
import GoSem.ClaimMapViews
import Derived.JoinedTies
import Derived.KernelRfl
namespace Go.Proofs.Qxb6602641a
/- THE CELL 'sum', in the pinned program and in every row, IS THE sha256 OF THE DUMP (.gsa) THAT Qxb6602641aProg.lean LOADS. Nothing in Lean hashes anything: it is a label: what it is worth is what the hold of that sum in a sandbox is worth. -/
noncomputable def Try.pinned : Pinned := { name := "qxb6602641a", sum := "5c131365598c873a96dbf0de71e0899c09fbb5319500bc0bddc9846b969972d1", checked := Try.checked }
namespace Rows
def none {H : Type} : Left H := { results := [], args := [] }

/-- 'zzlaws_internal_tomlfile_b1.FnStringEndMatchesScanner': WHATEVER THE INPUT: true; the input reads as it did. -/
def fnStringEndMatchesScannerSpec : ChangeSpec := { name := "fnStringEndMatchesScanner", fn := fun _ => fun
  | [d1, d2] => { results := [.lit (.bool true)], args := [d1, d2] }
  | _ => none }
def fnStringEndMatchesScannerRow : OpenClaim := { program := "qxb6602641a", sum := "5c131365598c873a96dbf0de71e0899c09fbb5319500bc0bddc9846b969972d1", func := "example.com/grantwright/grantwright/zzlaws_internal_tomlfile_b1.FnStringEndMatchesScanner", spec := "fnStringEndMatchesScanner", inPlace := ["internal/bytealg.IndexByteString", "internal/bytealg.IndexString"], named := ["internal/bytealg.MaxLen"], apart := false }
def FnStringEndMatchesScannerSaid : Prop := fnStringEndMatchesScannerRow.holds Try.pinned (OpenSpec.ofChange fnStringEndMatchesScannerSpec)

/-- ITS FALSE NEIGHBOUR: 'it returns false'. Refute it at one input. -/
def fnStringEndMatchesScannerWrong : ChangeSpec := { name := "fnStringEndMatchesScanner", fn := fun _ => fun
  | [d1, d2] => { results := [.lit (.bool false)], args := [d1, d2] }
  | _ => none }
def FnStringEndMatchesScannerWrongFalsely : Prop := fnStringEndMatchesScannerRow.holds Try.pinned (OpenSpec.ofChange fnStringEndMatchesScannerWrong)

/-- 'zzlaws_internal_tomlfile_b1.FnStringEndShiftInvariant': WHATEVER THE INPUT: true; the input reads as it did. -/
def fnStringEndShiftInvariantSpec : ChangeSpec := { name := "fnStringEndShiftInvariant", fn := fun _ => fun
  | [d1, d2, d3] => { results := [.lit (.bool true)], args := [d1, d2, d3] }
  | _ => none }
def fnStringEndShiftInvariantRow : OpenClaim := { program := "qxb6602641a", sum := "5c131365598c873a96dbf0de71e0899c09fbb5319500bc0bddc9846b969972d1", func := "example.com/grantwright/grantwright/zzlaws_internal_tomlfile_b1.FnStringEndShiftInvariant", spec := "fnStringEndShiftInvariant", inPlace := ["internal/bytealg.IndexByteString", "internal/bytealg.IndexString"], named := ["internal/bytealg.MaxLen"], apart := false }
def FnStringEndShiftInvariantSaid : Prop := fnStringEndShiftInvariantRow.holds Try.pinned (OpenSpec.ofChange fnStringEndShiftInvariantSpec)

/-- ITS FALSE NEIGHBOUR: 'it returns false'. Refute it at one input. -/
def fnStringEndShiftInvariantWrong : ChangeSpec := { name := "fnStringEndShiftInvariant", fn := fun _ => fun
  | [d1, d2, d3] => { results := [.lit (.bool false)], args := [d1, d2, d3] }
  | _ => none }
def FnStringEndShiftInvariantWrongFalsely : Prop := fnStringEndShiftInvariantRow.holds Try.pinned (OpenSpec.ofChange fnStringEndShiftInvariantWrong)

/-- 'zzlaws_internal_tomlfile_b1.FnStringEndAppendingNeverMovesAnEndBack': WHATEVER THE INPUT: true; the input reads as it did. -/
def fnStringEndAppendingNeverMovesAnEndBackSpec : ChangeSpec := { name := "fnStringEndAppendingNeverMovesAnEndBack", fn := fun _ => fun
  | [d1, d2, d3] => { results := [.lit (.bool true)], args := [d1, d2, d3] }
  | _ => none }
def fnStringEndAppendingNeverMovesAnEndBackRow : OpenClaim := { program := "qxb6602641a", sum := "5c131365598c873a96dbf0de71e0899c09fbb5319500bc0bddc9846b969972d1", func := "example.com/grantwright/grantwright/zzlaws_internal_tomlfile_b1.FnStringEndAppendingNeverMovesAnEndBack", spec := "fnStringEndAppendingNeverMovesAnEndBack", inPlace := ["internal/bytealg.IndexByteString", "internal/bytealg.IndexString"], named := ["internal/bytealg.MaxLen"], apart := false }
def FnStringEndAppendingNeverMovesAnEndBackSaid : Prop := fnStringEndAppendingNeverMovesAnEndBackRow.holds Try.pinned (OpenSpec.ofChange fnStringEndAppendingNeverMovesAnEndBackSpec)

/-- ITS FALSE NEIGHBOUR: 'it returns false'. Refute it at one input. -/
def fnStringEndAppendingNeverMovesAnEndBackWrong : ChangeSpec := { name := "fnStringEndAppendingNeverMovesAnEndBack", fn := fun _ => fun
  | [d1, d2, d3] => { results := [.lit (.bool false)], args := [d1, d2, d3] }
  | _ => none }
def FnStringEndAppendingNeverMovesAnEndBackWrongFalsely : Prop := fnStringEndAppendingNeverMovesAnEndBackRow.holds Try.pinned (OpenSpec.ofChange fnStringEndAppendingNeverMovesAnEndBackWrong)

/-- 'zzlaws_internal_tomlfile_b1.FnLineOfNearestNamedPrefix': WHATEVER THE INPUT: true; the input reads as it did. -/
def fnLineOfNearestNamedPrefixSpec : ChangeSpec := { name := "fnLineOfNearestNamedPrefix", fn := fun _ => fun
  | [d1, d2, d3] => { results := [.lit (.bool true)], args := [d1, d2, d3] }
  | _ => none }
def fnLineOfNearestNamedPrefixRow : OpenClaim := { program := "qxb6602641a", sum := "5c131365598c873a96dbf0de71e0899c09fbb5319500bc0bddc9846b969972d1", func := "example.com/grantwright/grantwright/zzlaws_internal_tomlfile_b1.FnLineOfNearestNamedPrefix", spec := "fnLineOfNearestNamedPrefix", apart := false }
def FnLineOfNearestNamedPrefixSaid : Prop := fnLineOfNearestNamedPrefixRow.holds Try.pinned (OpenSpec.ofChange fnLineOfNearestNamedPrefixSpec)

/-- ITS FALSE NEIGHBOUR: 'it returns false'. Refute it at one input. -/
def fnLineOfNearestNamedPrefixWrong : ChangeSpec := { name := "fnLineOfNearestNamedPrefix", fn := fun _ => fun
  | [d1, d2, d3] => { results := [.lit (.bool false)], args := [d1, d2, d3] }
  | _ => none }
def FnLineOfNearestNamedPrefixWrongFalsely : Prop := fnLineOfNearestNamedPrefixRow.holds Try.pinned (OpenSpec.ofChange fnLineOfNearestNamedPrefixWrong)

/-- 'zzlaws_internal_tomlfile_b1.FnLineOfFallsBackToHolder': WHATEVER THE INPUT: true; the input reads as it did. -/
def fnLineOfFallsBackToHolderSpec : ChangeSpec := { name := "fnLineOfFallsBackToHolder", fn := fun _ => fun
  | [d1, d2, d3, d4, d5] => { results := [.lit (.bool true)], args := [d1, d2, d3, d4, d5] }
  | _ => none }
def fnLineOfFallsBackToHolderRow : OpenClaim := { program := "qxb6602641a", sum := "5c131365598c873a96dbf0de71e0899c09fbb5319500bc0bddc9846b969972d1", func := "example.com/grantwright/grantwright/zzlaws_internal_tomlfile_b1.FnLineOfFallsBackToHolder", spec := "fnLineOfFallsBackToHolder", apart := false }
def FnLineOfFallsBackToHolderSaid : Prop := fnLineOfFallsBackToHolderRow.holds Try.pinned (OpenSpec.ofChange fnLineOfFallsBackToHolderSpec)

/-- ITS FALSE NEIGHBOUR: 'it returns false'. Refute it at one input. -/
def fnLineOfFallsBackToHolderWrong : ChangeSpec := { name := "fnLineOfFallsBackToHolder", fn := fun _ => fun
  | [d1, d2, d3, d4, d5] => { results := [.lit (.bool false)], args := [d1, d2, d3, d4, d5] }
  | _ => none }
def FnLineOfFallsBackToHolderWrongFalsely : Prop := fnLineOfFallsBackToHolderRow.holds Try.pinned (OpenSpec.ofChange fnLineOfFallsBackToHolderWrong)

end Rows
end Go.Proofs.Qxb6602641a
