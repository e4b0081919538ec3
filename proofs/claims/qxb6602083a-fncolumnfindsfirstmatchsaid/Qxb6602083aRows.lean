/-
  No cell of these rows narrows 'for every input' (looked for: loops, veiled, ifaces, maps, wideKeys, modest, calm, conditions, laid).
  DERIVED. THE GIVEN ROWS OF THIS SEAT. 7 by the template 'for every input the law returns true; each argument reads behind the call as it read before'; 0 by the template 'total and deterministic' (their statements: Qxb6602083aTotals.lean).
  GIVEN WITH THE SEED: the statements are not yours to turn. If you find one false, say at which input.
  Laid BY PROGRAM, IN A SANDBOX (cutbox-rows.mjs): the forced cells as the released guide's own fill.sh prints them over the translation e991cbe6e77a1834… (all of the seat's roots in one cut). By AI agents, Wed Nov 11 2026. No macro, syntax, notation, axiom, sorry.
-/
import Derived.Test.Qxb6602083aChecked
import GoSem.Claim
import GoSem.ClaimJoined
import GoSem.ClaimMapViews
import Derived.JoinedTies
import Derived.KernelRfl
namespace Go.Proofs.Qxb6602083a
/- THE CELL 'sum', in the pinned program and in every row, IS THE sha256 OF THE DUMP (.gsa) THAT Qxb6602083aProg.lean LOADS. Nothing in Lean hashes anything: it is a label: what it is worth is what the hold of that sum in a sandbox is worth. -/
noncomputable def Try.pinned : Pinned := { name := "qxb6602083a", sum := "e991cbe6e77a1834e540e9f5a30cff33681b8008c7cae42ff10af49961bf8e05", checked := Try.checked }
namespace Rows
def none {H : Type} : Left H := { results := [], args := [] }

/-- 'zzlaws_pkg_input_b1.FnHex4MatchesTableModel': WHATEVER THE INPUT: true; the input reads as it did. -/
def fnHex4MatchesTableModelSpec : ChangeSpec := { name := "fnHex4MatchesTableModel", fn := fun _ => fun
  | [d] => { results := [.lit (.bool true)], args := [d] }
  | _ => none }
def fnHex4MatchesTableModelRow : OpenClaim := { program := "qxb6602083a", sum := "e991cbe6e77a1834e540e9f5a30cff33681b8008c7cae42ff10af49961bf8e05", func := "example.com/tuoguan/tuoguan/zzlaws_pkg_input_b1.FnHex4MatchesTableModel", spec := "fnHex4MatchesTableModel", apart := false }
def FnHex4MatchesTableModelSaid : Prop := fnHex4MatchesTableModelRow.holds Try.pinned (OpenSpec.ofChange fnHex4MatchesTableModelSpec)

/-- ITS FALSE NEIGHBOUR: 'it returns false'. Refute it at one input. -/
def fnHex4MatchesTableModelWrong : ChangeSpec := { name := "fnHex4MatchesTableModel", fn := fun _ => fun
  | [d] => { results := [.lit (.bool false)], args := [d] }
  | _ => none }
def FnHex4MatchesTableModelWrongFalsely : Prop := fnHex4MatchesTableModelRow.holds Try.pinned (OpenSpec.ofChange fnHex4MatchesTableModelWrong)

/-- 'zzlaws_pkg_input_b1.FnHex4ReadsBackEveryCodeUnit': WHATEVER THE INPUT: true; the input reads as it did. -/
def fnHex4ReadsBackEveryCodeUnitSpec : ChangeSpec := { name := "fnHex4ReadsBackEveryCodeUnit", fn := fun _ => fun
  | [d1, d2, d3] => { results := [.lit (.bool true)], args := [d1, d2, d3] }
  | _ => none }
def fnHex4ReadsBackEveryCodeUnitRow : OpenClaim := { program := "qxb6602083a", sum := "e991cbe6e77a1834e540e9f5a30cff33681b8008c7cae42ff10af49961bf8e05", func := "example.com/tuoguan/tuoguan/zzlaws_pkg_input_b1.FnHex4ReadsBackEveryCodeUnit", spec := "fnHex4ReadsBackEveryCodeUnit", apart := false }
def FnHex4ReadsBackEveryCodeUnitSaid : Prop := fnHex4ReadsBackEveryCodeUnitRow.holds Try.pinned (OpenSpec.ofChange fnHex4ReadsBackEveryCodeUnitSpec)

/-- ITS FALSE NEIGHBOUR: 'it returns false'. Refute it at one input. -/
def fnHex4ReadsBackEveryCodeUnitWrong : ChangeSpec := { name := "fnHex4ReadsBackEveryCodeUnit", fn := fun _ => fun
  | [d1, d2, d3] => { results := [.lit (.bool false)], args := [d1, d2, d3] }
  | _ => none }
def FnHex4ReadsBackEveryCodeUnitWrongFalsely : Prop := fnHex4ReadsBackEveryCodeUnitRow.holds Try.pinned (OpenSpec.ofChange fnHex4ReadsBackEveryCodeUnitWrong)

/-- 'zzlaws_pkg_input_b1.FnFlatSpaceStopsAtFirstNonSpace': WHATEVER THE INPUT: true; the input reads as it did. -/
def fnFlatSpaceStopsAtFirstNonSpaceSpec : ChangeSpec := { name := "fnFlatSpaceStopsAtFirstNonSpace", fn := fun _ => fun
  | [d1, d2, d3] => { results := [.lit (.bool true)], args := [d1, d2, d3] }
  | _ => none }
def fnFlatSpaceStopsAtFirstNonSpaceRow : OpenClaim := { program := "qxb6602083a", sum := "e991cbe6e77a1834e540e9f5a30cff33681b8008c7cae42ff10af49961bf8e05", func := "example.com/tuoguan/tuoguan/zzlaws_pkg_input_b1.FnFlatSpaceStopsAtFirstNonSpace", spec := "fnFlatSpaceStopsAtFirstNonSpace", apart := false }
def FnFlatSpaceStopsAtFirstNonSpaceSaid : Prop := fnFlatSpaceStopsAtFirstNonSpaceRow.holds Try.pinned (OpenSpec.ofChange fnFlatSpaceStopsAtFirstNonSpaceSpec)

/-- ITS FALSE NEIGHBOUR: 'it returns false'. Refute it at one input. -/
def fnFlatSpaceStopsAtFirstNonSpaceWrong : ChangeSpec := { name := "fnFlatSpaceStopsAtFirstNonSpace", fn := fun _ => fun
  | [d1, d2, d3] => { results := [.lit (.bool false)], args := [d1, d2, d3] }
  | _ => none }
def FnFlatSpaceStopsAtFirstNonSpaceWrongFalsely : Prop := fnFlatSpaceStopsAtFirstNonSpaceRow.holds Try.pinned (OpenSpec.ofChange fnFlatSpaceStopsAtFirstNonSpaceWrong)

/-- 'zzlaws_pkg_input_b1.FnFlatSpaceIsIdempotent': WHATEVER THE INPUT: true; the input reads as it did. -/
def fnFlatSpaceIsIdempotentSpec : ChangeSpec := { name := "fnFlatSpaceIsIdempotent", fn := fun _ => fun
  | [d1, d2, d3] => { results := [.lit (.bool true)], args := [d1, d2, d3] }
  | _ => none }
def fnFlatSpaceIsIdempotentRow : OpenClaim := { program := "qxb6602083a", sum := "e991cbe6e77a1834e540e9f5a30cff33681b8008c7cae42ff10af49961bf8e05", func := "example.com/tuoguan/tuoguan/zzlaws_pkg_input_b1.FnFlatSpaceIsIdempotent", spec := "fnFlatSpaceIsIdempotent", apart := false }
def FnFlatSpaceIsIdempotentSaid : Prop := fnFlatSpaceIsIdempotentRow.holds Try.pinned (OpenSpec.ofChange fnFlatSpaceIsIdempotentSpec)

/-- ITS FALSE NEIGHBOUR: 'it returns false'. Refute it at one input. -/
def fnFlatSpaceIsIdempotentWrong : ChangeSpec := { name := "fnFlatSpaceIsIdempotent", fn := fun _ => fun
  | [d1, d2, d3] => { results := [.lit (.bool false)], args := [d1, d2, d3] }
  | _ => none }
def FnFlatSpaceIsIdempotentWrongFalsely : Prop := fnFlatSpaceIsIdempotentRow.holds Try.pinned (OpenSpec.ofChange fnFlatSpaceIsIdempotentWrong)

/-- 'zzlaws_pkg_input_b1.FnFlatSpaceLooksNoFurtherThanItsStop': WHATEVER THE INPUT: true; the input reads as it did. -/
def fnFlatSpaceLooksNoFurtherThanItsStopSpec : ChangeSpec := { name := "fnFlatSpaceLooksNoFurtherThanItsStop", fn := fun _ => fun
  | [d1, d2, d3] => { results := [.lit (.bool true)], args := [d1, d2, d3] }
  | _ => none }
def fnFlatSpaceLooksNoFurtherThanItsStopRow : OpenClaim := { program := "qxb6602083a", sum := "e991cbe6e77a1834e540e9f5a30cff33681b8008c7cae42ff10af49961bf8e05", func := "example.com/tuoguan/tuoguan/zzlaws_pkg_input_b1.FnFlatSpaceLooksNoFurtherThanItsStop", spec := "fnFlatSpaceLooksNoFurtherThanItsStop", apart := false }
def FnFlatSpaceLooksNoFurtherThanItsStopSaid : Prop := fnFlatSpaceLooksNoFurtherThanItsStopRow.holds Try.pinned (OpenSpec.ofChange fnFlatSpaceLooksNoFurtherThanItsStopSpec)

/-- ITS FALSE NEIGHBOUR: 'it returns false'. Refute it at one input. -/
def fnFlatSpaceLooksNoFurtherThanItsStopWrong : ChangeSpec := { name := "fnFlatSpaceLooksNoFurtherThanItsStop", fn := fun _ => fun
  | [d1, d2, d3] => { results := [.lit (.bool false)], args := [d1, d2, d3] }
  | _ => none }
def FnFlatSpaceLooksNoFurtherThanItsStopWrongFalsely : Prop := fnFlatSpaceLooksNoFurtherThanItsStopRow.holds Try.pinned (OpenSpec.ofChange fnFlatSpaceLooksNoFurtherThanItsStopWrong)

/-- 'zzlaws_pkg_input_b1.FnColumnFindsFirstMatch': WHATEVER THE INPUT: true; the input reads as it did. -/
def fnColumnFindsFirstMatchSpec : ChangeSpec := { name := "fnColumnFindsFirstMatch", fn := fun _ => fun
  | [d1, d2] => { results := [.lit (.bool true)], args := [d1, d2] }
  | _ => none }
def fnColumnFindsFirstMatchRow : OpenClaim := { program := "qxb6602083a", sum := "e991cbe6e77a1834e540e9f5a30cff33681b8008c7cae42ff10af49961bf8e05", func := "example.com/tuoguan/tuoguan/zzlaws_pkg_input_b1.FnColumnFindsFirstMatch", spec := "fnColumnFindsFirstMatch", apart := false }
def FnColumnFindsFirstMatchSaid : Prop := fnColumnFindsFirstMatchRow.holds Try.pinned (OpenSpec.ofChange fnColumnFindsFirstMatchSpec)

/-- ITS FALSE NEIGHBOUR: 'it returns false'. Refute it at one input. -/
def fnColumnFindsFirstMatchWrong : ChangeSpec := { name := "fnColumnFindsFirstMatch", fn := fun _ => fun
  | [d1, d2] => { results := [.lit (.bool false)], args := [d1, d2] }
  | _ => none }
def FnColumnFindsFirstMatchWrongFalsely : Prop := fnColumnFindsFirstMatchRow.holds Try.pinned (OpenSpec.ofChange fnColumnFindsFirstMatchWrong)

/-- 'zzlaws_pkg_input_b1.FnColumnAfterAppendingName': WHATEVER THE INPUT: true; the input reads as it did. -/
def fnColumnAfterAppendingNameSpec : ChangeSpec := { name := "fnColumnAfterAppendingName", fn := fun _ => fun
  | [d1, d2] => { results := [.lit (.bool true)], args := [d1, d2] }
  | _ => none }
def fnColumnAfterAppendingNameRow : OpenClaim := { program := "qxb6602083a", sum := "e991cbe6e77a1834e540e9f5a30cff33681b8008c7cae42ff10af49961bf8e05", func := "example.com/tuoguan/tuoguan/zzlaws_pkg_input_b1.FnColumnAfterAppendingName", spec := "fnColumnAfterAppendingName", apart := false }
def FnColumnAfterAppendingNameSaid : Prop := fnColumnAfterAppendingNameRow.holds Try.pinned (OpenSpec.ofChange fnColumnAfterAppendingNameSpec)

/-- ITS FALSE NEIGHBOUR: 'it returns false'. Refute it at one input. -/
def fnColumnAfterAppendingNameWrong : ChangeSpec := { name := "fnColumnAfterAppendingName", fn := fun _ => fun
  | [d1, d2] => { results := [.lit (.bool false)], args := [d1, d2] }
  | _ => none }
def FnColumnAfterAppendingNameWrongFalsely : Prop := fnColumnAfterAppendingNameRow.holds Try.pinned (OpenSpec.ofChange fnColumnAfterAppendingNameWrong)

end Rows
end Go.Proofs.Qxb6602083a
