/-
  No cell of these rows narrows 'for every input' (looked for: loops, veiled, ifaces, maps, wideKeys, modest, calm, conditions, laid).
  DERIVED. THE GIVEN ROWS OF THIS SEAT. 5 by the template 'for every input the law returns true; each argument reads behind the call as it read before'; 0 by the template 'total and deterministic' (their statements: Qxb6601673aTotals.lean).
  GIVEN WITH THE SEED: the statements are not yours to turn. If you find one false, say at which input.
  Laid BY PROGRAM, IN A SANDBOX (cutbox-rows.mjs): the forced cells as the released guide's own fill.sh prints them over the translation 094ba63cd4265734… (all of the seat's roots in one cut). By AI agents, Wed Nov 11 2026. No macro, syntax, notation, axiom, sorry.
-/
import Derived.Test.Qxb6601673aChecked
import GoSem.Claim
import GoSem.ClaimJoined
import GoSem.ClaimMapViews
import Derived.JoinedTies
import Derived.KernelRfl
namespace Go.Proofs.Qxb6601673a
/- THE CELL 'sum', in the pinned program and in every row, IS THE sha256 OF THE DUMP (.gsa) THAT Qxb6601673aProg.lean LOADS. Nothing in Lean hashes anything: it is a label: what it is worth is what the hold of that sum in a sandbox is worth. -/
noncomputable def Try.pinned : Pinned := { name := "qxb6601673a", sum := "094ba63cd4265734d1d222e7bb95f36c21561632ef0fbe8cc48df643f3af3d28", checked := Try.checked }
namespace Rows
def none {H : Type} : Left H := { results := [], args := [] }

/-- 'zzlaws_internal_textbuf_b1.FnWriteStringAppendsToText': WHATEVER THE INPUT: true; the input reads as it did. -/
def fnWriteStringAppendsToTextSpec : ChangeSpec := { name := "fnWriteStringAppendsToText", fn := fun _ => fun
  | [d1, d2] => { results := [.lit (.bool true)], args := [d1, d2] }
  | _ => none }
def fnWriteStringAppendsToTextRow : OpenClaim := { program := "qxb6601673a", sum := "094ba63cd4265734d1d222e7bb95f36c21561632ef0fbe8cc48df643f3af3d28", func := "example.com/deft-loop/deft-loop/zzlaws_internal_textbuf_b1.FnWriteStringAppendsToText", spec := "fnWriteStringAppendsToText", inPlace := ["internal/abi.NoEscape", "internal/bytealg.MakeNoZero"], apart := false }
def FnWriteStringAppendsToTextSaid : Prop := fnWriteStringAppendsToTextRow.holds Try.pinned (OpenSpec.ofChange fnWriteStringAppendsToTextSpec)

/-- ITS FALSE NEIGHBOUR: 'it returns false'. Refute it at one input. -/
def fnWriteStringAppendsToTextWrong : ChangeSpec := { name := "fnWriteStringAppendsToText", fn := fun _ => fun
  | [d1, d2] => { results := [.lit (.bool false)], args := [d1, d2] }
  | _ => none }
def FnWriteStringAppendsToTextWrongFalsely : Prop := fnWriteStringAppendsToTextRow.holds Try.pinned (OpenSpec.ofChange fnWriteStringAppendsToTextWrong)

/-- 'zzlaws_internal_textbuf_b1.FnPartsMirrorPieces': WHATEVER THE INPUT: true; the input reads as it did. -/
def fnPartsMirrorPiecesSpec : ChangeSpec := { name := "fnPartsMirrorPieces", fn := fun _ => fun
  | [d] => { results := [.lit (.bool true)], args := [d] }
  | _ => none }
def fnPartsMirrorPiecesRow : OpenClaim := { program := "qxb6601673a", sum := "094ba63cd4265734d1d222e7bb95f36c21561632ef0fbe8cc48df643f3af3d28", func := "example.com/deft-loop/deft-loop/zzlaws_internal_textbuf_b1.FnPartsMirrorPieces", spec := "fnPartsMirrorPieces", apart := false }
def FnPartsMirrorPiecesSaid : Prop := fnPartsMirrorPiecesRow.holds Try.pinned (OpenSpec.ofChange fnPartsMirrorPiecesSpec)

/-- ITS FALSE NEIGHBOUR: 'it returns false'. Refute it at one input. -/
def fnPartsMirrorPiecesWrong : ChangeSpec := { name := "fnPartsMirrorPieces", fn := fun _ => fun
  | [d] => { results := [.lit (.bool false)], args := [d] }
  | _ => none }
def FnPartsMirrorPiecesWrongFalsely : Prop := fnPartsMirrorPiecesRow.holds Try.pinned (OpenSpec.ofChange fnPartsMirrorPiecesWrong)

/-- 'zzlaws_internal_textbuf_b1.FnBlockSizesDoubleToCeiling': WHATEVER THE INPUT: true; the input reads as it did. -/
def fnBlockSizesDoubleToCeilingSpec : ChangeSpec := { name := "fnBlockSizesDoubleToCeiling", fn := fun _ => fun
  | [d] => { results := [.lit (.bool true)], args := [d] }
  | _ => none }
def fnBlockSizesDoubleToCeilingRow : OpenClaim := { program := "qxb6601673a", sum := "094ba63cd4265734d1d222e7bb95f36c21561632ef0fbe8cc48df643f3af3d28", func := "example.com/deft-loop/deft-loop/zzlaws_internal_textbuf_b1.FnBlockSizesDoubleToCeiling", spec := "fnBlockSizesDoubleToCeiling", apart := false }
def FnBlockSizesDoubleToCeilingSaid : Prop := fnBlockSizesDoubleToCeilingRow.holds Try.pinned (OpenSpec.ofChange fnBlockSizesDoubleToCeilingSpec)

/-- ITS FALSE NEIGHBOUR: 'it returns false'. Refute it at one input. -/
def fnBlockSizesDoubleToCeilingWrong : ChangeSpec := { name := "fnBlockSizesDoubleToCeiling", fn := fun _ => fun
  | [d] => { results := [.lit (.bool false)], args := [d] }
  | _ => none }
def FnBlockSizesDoubleToCeilingWrongFalsely : Prop := fnBlockSizesDoubleToCeilingRow.holds Try.pinned (OpenSpec.ofChange fnBlockSizesDoubleToCeilingWrong)

/-- 'zzlaws_internal_textbuf_b1.FnOpenBlockGivesRoomAtTheEnd': WHATEVER THE INPUT: true; the input reads as it did. -/
def fnOpenBlockGivesRoomAtTheEndSpec : ChangeSpec := { name := "fnOpenBlockGivesRoomAtTheEnd", fn := fun _ => fun
  | [d] => { results := [.lit (.bool true)], args := [d] }
  | _ => none }
def fnOpenBlockGivesRoomAtTheEndRow : OpenClaim := { program := "qxb6601673a", sum := "094ba63cd4265734d1d222e7bb95f36c21561632ef0fbe8cc48df643f3af3d28", func := "example.com/deft-loop/deft-loop/zzlaws_internal_textbuf_b1.FnOpenBlockGivesRoomAtTheEnd", spec := "fnOpenBlockGivesRoomAtTheEnd", inPlace := ["internal/abi.NoEscape", "internal/bytealg.MakeNoZero"], apart := false }
def FnOpenBlockGivesRoomAtTheEndSaid : Prop := fnOpenBlockGivesRoomAtTheEndRow.holds Try.pinned (OpenSpec.ofChange fnOpenBlockGivesRoomAtTheEndSpec)

/-- ITS FALSE NEIGHBOUR: 'it returns false'. Refute it at one input. -/
def fnOpenBlockGivesRoomAtTheEndWrong : ChangeSpec := { name := "fnOpenBlockGivesRoomAtTheEnd", fn := fun _ => fun
  | [d] => { results := [.lit (.bool false)], args := [d] }
  | _ => none }
def FnOpenBlockGivesRoomAtTheEndWrongFalsely : Prop := fnOpenBlockGivesRoomAtTheEndRow.holds Try.pinned (OpenSpec.ofChange fnOpenBlockGivesRoomAtTheEndWrong)

/-- 'zzlaws_internal_textbuf_b1.FnWrittenPartsNeverMove': WHATEVER THE INPUT: true; the input reads as it did. -/
def fnWrittenPartsNeverMoveSpec : ChangeSpec := { name := "fnWrittenPartsNeverMove", fn := fun _ => fun
  | [d1, d2] => { results := [.lit (.bool true)], args := [d1, d2] }
  | _ => none }
def fnWrittenPartsNeverMoveRow : OpenClaim := { program := "qxb6601673a", sum := "094ba63cd4265734d1d222e7bb95f36c21561632ef0fbe8cc48df643f3af3d28", func := "example.com/deft-loop/deft-loop/zzlaws_internal_textbuf_b1.FnWrittenPartsNeverMove", spec := "fnWrittenPartsNeverMove", inPlace := ["internal/abi.NoEscape", "internal/bytealg.MakeNoZero"], apart := false }
def FnWrittenPartsNeverMoveSaid : Prop := fnWrittenPartsNeverMoveRow.holds Try.pinned (OpenSpec.ofChange fnWrittenPartsNeverMoveSpec)

/-- ITS FALSE NEIGHBOUR: 'it returns false'. Refute it at one input. -/
def fnWrittenPartsNeverMoveWrong : ChangeSpec := { name := "fnWrittenPartsNeverMove", fn := fun _ => fun
  | [d1, d2] => { results := [.lit (.bool false)], args := [d1, d2] }
  | _ => none }
def FnWrittenPartsNeverMoveWrongFalsely : Prop := fnWrittenPartsNeverMoveRow.holds Try.pinned (OpenSpec.ofChange fnWrittenPartsNeverMoveWrong)

end Rows
end Go.Proofs.Qxb6601673a
