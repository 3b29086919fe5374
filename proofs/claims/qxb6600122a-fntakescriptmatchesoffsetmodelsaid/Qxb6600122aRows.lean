/-
  No cell of these rows narrows 'for every input' (looked for: loops, veiled, ifaces, maps, wideKeys, modest, calm, conditions, laid).
  DERIVED. THE GIVEN ROWS OF THIS SEAT. 7 by the template 'for every input the law returns true; each argument reads behind the call as it read before'; 0 by the template 'total and deterministic' (their statements: Qxb6600122aTotals.lean).
  GIVEN WITH THE SEED: the statements are not yours to turn. If you find one false, say at which input.
  Laid BY PROGRAM, IN A SANDBOX (cutbox-rows.mjs): the forced cells as the released guide's own fill.sh prints them over the translation e86bb156b3896aa9… (all of the seat's roots in one cut). By AI agents, Wed Nov 11 2026. No macro, syntax, notation, axiom, sorry.
-/
import Derived.Test.Qxb6600122aChecked
import GoSem.Claim
import GoSem.ClaimJoined
import GoSem.ClaimMapViews
import Derived.JoinedTies
import Derived.KernelRfl
namespace Go.Proofs.Qxb6600122a
/- THE CELL 'sum', in the pinned program and in every row, IS THE sha256 OF THE DUMP (.gsa) THAT Qxb6600122aProg.lean LOADS. Nothing in Lean hashes anything: it is a label: what it is worth is what the hold of that sum in a sandbox is worth. -/
noncomputable def Try.pinned : Pinned := { name := "qxb6600122a", sum := "e86bb156b3896aa9a5a12a0c33a62f9cd6c973e3ee87c8cb223be426211390ae", checked := Try.checked }
namespace Rows
def none {H : Type} : Left H := { results := [], args := [] }

/-- 'zzlaws_internal_wire_b1.FnAppendBoolRoundTripsThroughReader': WHATEVER THE INPUT: true; the input reads as it did. -/
def fnAppendBoolRoundTripsThroughReaderSpec : ChangeSpec := { name := "fnAppendBoolRoundTripsThroughReader", fn := fun _ => fun
  | [d1, d2] => { results := [.lit (.bool true)], args := [d1, d2] }
  | _ => none }
def fnAppendBoolRoundTripsThroughReaderRow : OpenClaim := { program := "qxb6600122a", sum := "e86bb156b3896aa9a5a12a0c33a62f9cd6c973e3ee87c8cb223be426211390ae", func := "example.com/credence/credence/zzlaws_internal_wire_b1.FnAppendBoolRoundTripsThroughReader", spec := "fnAppendBoolRoundTripsThroughReader", apart := false }
def FnAppendBoolRoundTripsThroughReaderSaid : Prop := fnAppendBoolRoundTripsThroughReaderRow.holds Try.pinned (OpenSpec.ofChange fnAppendBoolRoundTripsThroughReaderSpec)

/-- ITS FALSE NEIGHBOUR: 'it returns false'. Refute it at one input. -/
def fnAppendBoolRoundTripsThroughReaderWrong : ChangeSpec := { name := "fnAppendBoolRoundTripsThroughReader", fn := fun _ => fun
  | [d1, d2] => { results := [.lit (.bool false)], args := [d1, d2] }
  | _ => none }
def FnAppendBoolRoundTripsThroughReaderWrongFalsely : Prop := fnAppendBoolRoundTripsThroughReaderRow.holds Try.pinned (OpenSpec.ofChange fnAppendBoolRoundTripsThroughReaderWrong)

/-- 'zzlaws_internal_wire_b1.FnAppendBoolSequenceDecodesInOrder': WHATEVER THE INPUT: true; the input reads as it did. -/
def fnAppendBoolSequenceDecodesInOrderSpec : ChangeSpec := { name := "fnAppendBoolSequenceDecodesInOrder", fn := fun _ => fun
  | [d] => { results := [.lit (.bool true)], args := [d] }
  | _ => none }
def fnAppendBoolSequenceDecodesInOrderRow : OpenClaim := { program := "qxb6600122a", sum := "e86bb156b3896aa9a5a12a0c33a62f9cd6c973e3ee87c8cb223be426211390ae", func := "example.com/credence/credence/zzlaws_internal_wire_b1.FnAppendBoolSequenceDecodesInOrder", spec := "fnAppendBoolSequenceDecodesInOrder", apart := false }
def FnAppendBoolSequenceDecodesInOrderSaid : Prop := fnAppendBoolSequenceDecodesInOrderRow.holds Try.pinned (OpenSpec.ofChange fnAppendBoolSequenceDecodesInOrderSpec)

/-- ITS FALSE NEIGHBOUR: 'it returns false'. Refute it at one input. -/
def fnAppendBoolSequenceDecodesInOrderWrong : ChangeSpec := { name := "fnAppendBoolSequenceDecodesInOrder", fn := fun _ => fun
  | [d] => { results := [.lit (.bool false)], args := [d] }
  | _ => none }
def FnAppendBoolSequenceDecodesInOrderWrongFalsely : Prop := fnAppendBoolSequenceDecodesInOrderRow.holds Try.pinned (OpenSpec.ofChange fnAppendBoolSequenceDecodesInOrderWrong)

/-- 'zzlaws_internal_wire_b1.FnTakeScriptMatchesOffsetModel': WHATEVER THE INPUT: true; the input reads as it did. -/
def fnTakeScriptMatchesOffsetModelSpec : ChangeSpec := { name := "fnTakeScriptMatchesOffsetModel", fn := fun _ => fun
  | [d1, d2] => { results := [.lit (.bool true)], args := [d1, d2] }
  | _ => none }
def fnTakeScriptMatchesOffsetModelRow : OpenClaim := { program := "qxb6600122a", sum := "e86bb156b3896aa9a5a12a0c33a62f9cd6c973e3ee87c8cb223be426211390ae", func := "example.com/credence/credence/zzlaws_internal_wire_b1.FnTakeScriptMatchesOffsetModel", spec := "fnTakeScriptMatchesOffsetModel", apart := false }
def FnTakeScriptMatchesOffsetModelSaid : Prop := fnTakeScriptMatchesOffsetModelRow.holds Try.pinned (OpenSpec.ofChange fnTakeScriptMatchesOffsetModelSpec)

/-- ITS FALSE NEIGHBOUR: 'it returns false'. Refute it at one input. -/
def fnTakeScriptMatchesOffsetModelWrong : ChangeSpec := { name := "fnTakeScriptMatchesOffsetModel", fn := fun _ => fun
  | [d1, d2] => { results := [.lit (.bool false)], args := [d1, d2] }
  | _ => none }
def FnTakeScriptMatchesOffsetModelWrongFalsely : Prop := fnTakeScriptMatchesOffsetModelRow.holds Try.pinned (OpenSpec.ofChange fnTakeScriptMatchesOffsetModelWrong)

/-- 'zzlaws_internal_wire_b1.FnTakePieceCannotReachRest': WHATEVER THE INPUT: true; the input reads as it did. -/
def fnTakePieceCannotReachRestSpec : ChangeSpec := { name := "fnTakePieceCannotReachRest", fn := fun _ => fun
  | [d1, d2, d3] => { results := [.lit (.bool true)], args := [d1, d2, d3] }
  | _ => none }
def fnTakePieceCannotReachRestRow : OpenClaim := { program := "qxb6600122a", sum := "e86bb156b3896aa9a5a12a0c33a62f9cd6c973e3ee87c8cb223be426211390ae", func := "example.com/credence/credence/zzlaws_internal_wire_b1.FnTakePieceCannotReachRest", spec := "fnTakePieceCannotReachRest", apart := false }
def FnTakePieceCannotReachRestSaid : Prop := fnTakePieceCannotReachRestRow.holds Try.pinned (OpenSpec.ofChange fnTakePieceCannotReachRestSpec)

/-- ITS FALSE NEIGHBOUR: 'it returns false'. Refute it at one input. -/
def fnTakePieceCannotReachRestWrong : ChangeSpec := { name := "fnTakePieceCannotReachRest", fn := fun _ => fun
  | [d1, d2, d3] => { results := [.lit (.bool false)], args := [d1, d2, d3] }
  | _ => none }
def FnTakePieceCannotReachRestWrongFalsely : Prop := fnTakePieceCannotReachRestRow.holds Try.pinned (OpenSpec.ofChange fnTakePieceCannotReachRestWrong)

/-- 'zzlaws_internal_wire_b1.FnTakeRefusalIsSticky': WHATEVER THE INPUT: true; the input reads as it did. -/
def fnTakeRefusalIsStickySpec : ChangeSpec := { name := "fnTakeRefusalIsSticky", fn := fun _ => fun
  | [d1, d2, d3] => { results := [.lit (.bool true)], args := [d1, d2, d3] }
  | _ => none }
def fnTakeRefusalIsStickyRow : OpenClaim := { program := "qxb6600122a", sum := "e86bb156b3896aa9a5a12a0c33a62f9cd6c973e3ee87c8cb223be426211390ae", func := "example.com/credence/credence/zzlaws_internal_wire_b1.FnTakeRefusalIsSticky", spec := "fnTakeRefusalIsSticky", apart := false }
def FnTakeRefusalIsStickySaid : Prop := fnTakeRefusalIsStickyRow.holds Try.pinned (OpenSpec.ofChange fnTakeRefusalIsStickySpec)

/-- ITS FALSE NEIGHBOUR: 'it returns false'. Refute it at one input. -/
def fnTakeRefusalIsStickyWrong : ChangeSpec := { name := "fnTakeRefusalIsSticky", fn := fun _ => fun
  | [d1, d2, d3] => { results := [.lit (.bool false)], args := [d1, d2, d3] }
  | _ => none }
def FnTakeRefusalIsStickyWrongFalsely : Prop := fnTakeRefusalIsStickyRow.holds Try.pinned (OpenSpec.ofChange fnTakeRefusalIsStickyWrong)

/-- 'zzlaws_internal_wire_b1.FnByteReadsEveryByteInOrder': WHATEVER THE INPUT: true; the input reads as it did. -/
def fnByteReadsEveryByteInOrderSpec : ChangeSpec := { name := "fnByteReadsEveryByteInOrder", fn := fun _ => fun
  | [d] => { results := [.lit (.bool true)], args := [d] }
  | _ => none }
def fnByteReadsEveryByteInOrderRow : OpenClaim := { program := "qxb6600122a", sum := "e86bb156b3896aa9a5a12a0c33a62f9cd6c973e3ee87c8cb223be426211390ae", func := "example.com/credence/credence/zzlaws_internal_wire_b1.FnByteReadsEveryByteInOrder", spec := "fnByteReadsEveryByteInOrder", apart := false }
def FnByteReadsEveryByteInOrderSaid : Prop := fnByteReadsEveryByteInOrderRow.holds Try.pinned (OpenSpec.ofChange fnByteReadsEveryByteInOrderSpec)

/-- ITS FALSE NEIGHBOUR: 'it returns false'. Refute it at one input. -/
def fnByteReadsEveryByteInOrderWrong : ChangeSpec := { name := "fnByteReadsEveryByteInOrder", fn := fun _ => fun
  | [d] => { results := [.lit (.bool false)], args := [d] }
  | _ => none }
def FnByteReadsEveryByteInOrderWrongFalsely : Prop := fnByteReadsEveryByteInOrderRow.holds Try.pinned (OpenSpec.ofChange fnByteReadsEveryByteInOrderWrong)

/-- 'zzlaws_internal_wire_b1.FnByteAfterTakeMatchesOffset': WHATEVER THE INPUT: true; the input reads as it did. -/
def fnByteAfterTakeMatchesOffsetSpec : ChangeSpec := { name := "fnByteAfterTakeMatchesOffset", fn := fun _ => fun
  | [d1, d2] => { results := [.lit (.bool true)], args := [d1, d2] }
  | _ => none }
def fnByteAfterTakeMatchesOffsetRow : OpenClaim := { program := "qxb6600122a", sum := "e86bb156b3896aa9a5a12a0c33a62f9cd6c973e3ee87c8cb223be426211390ae", func := "example.com/credence/credence/zzlaws_internal_wire_b1.FnByteAfterTakeMatchesOffset", spec := "fnByteAfterTakeMatchesOffset", apart := false }
def FnByteAfterTakeMatchesOffsetSaid : Prop := fnByteAfterTakeMatchesOffsetRow.holds Try.pinned (OpenSpec.ofChange fnByteAfterTakeMatchesOffsetSpec)

/-- ITS FALSE NEIGHBOUR: 'it returns false'. Refute it at one input. -/
def fnByteAfterTakeMatchesOffsetWrong : ChangeSpec := { name := "fnByteAfterTakeMatchesOffset", fn := fun _ => fun
  | [d1, d2] => { results := [.lit (.bool false)], args := [d1, d2] }
  | _ => none }
def FnByteAfterTakeMatchesOffsetWrongFalsely : Prop := fnByteAfterTakeMatchesOffsetRow.holds Try.pinned (OpenSpec.ofChange fnByteAfterTakeMatchesOffsetWrong)

end Rows
end Go.Proofs.Qxb6600122a
