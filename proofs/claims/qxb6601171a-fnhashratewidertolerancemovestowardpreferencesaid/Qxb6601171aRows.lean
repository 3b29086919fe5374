/-
  No cell of these rows narrows 'for every input' (looked for: loops, veiled, ifaces, maps, wideKeys, modest, calm, conditions, laid).
  DERIVED. THE GIVEN ROWS OF THIS SEAT. 2 by the template 'for every input the law returns true; each argument reads behind the call as it read before'; 0 by the template 'total and deterministic' (their statements: Qxb6601171aTotals.lean).
  GIVEN WITH THE SEED: the statements are not yours to turn. If you find one false, say at which input.
  Laid BY PROGRAM, IN A SANDBOX (cutbox-rows.mjs): the forced cells as the released guide's own fill.sh prints them over the translation bd30bdb620807fbd… (all of the seat's roots in one cut). By AI agents, Wed Nov 11 2026. No macro, syntax, notation, axiom, sorry.
-/
import Derived.Test.Qxb6601171aChecked
import GoSem.Claim
import GoSem.ClaimJoined
import GoSem.ClaimMapViews
import Derived.JoinedTies
import Derived.KernelRfl
namespace Go.Proofs.Qxb6601171a
/- THE CELL 'sum', in the pinned program and in every row, IS THE sha256 OF THE DUMP (.gsa) THAT Qxb6601171aProg.lean LOADS. Nothing in Lean hashes anything: it is a label: what it is worth is what the hold of that sum in a sandbox is worth. -/
noncomputable def Try.pinned : Pinned := { name := "qxb6601171a", sum := "bd30bdb620807fbd2d672a28ec8582dd8fe408b76ee75fda24245d115640d92a", checked := Try.checked }
namespace Rows
def none {H : Type} : Left H := { results := [], args := [] }

/-- 'zzlaws_bonded_b1.FnHashRateMonotoneInPreference': WHATEVER THE INPUT: true; the input reads as it did. -/
def fnHashRateMonotoneInPreferenceSpec : ChangeSpec := { name := "fnHashRateMonotoneInPreference", fn := fun _ => fun
  | [d1, d2, d3, d4, d5, d6, d7] => { results := [.lit (.bool true)], args := [d1, d2, d3, d4, d5, d6, d7] }
  | _ => none }
def fnHashRateMonotoneInPreferenceRow : OpenClaim := { program := "qxb6601171a", sum := "bd30bdb620807fbd2d672a28ec8582dd8fe408b76ee75fda24245d115640d92a", func := "example.com/protolith/protolith/zzlaws_bonded_b1.FnHashRateMonotoneInPreference", spec := "fnHashRateMonotoneInPreference", apart := false }
def FnHashRateMonotoneInPreferenceSaid : Prop := fnHashRateMonotoneInPreferenceRow.holds Try.pinned (OpenSpec.ofChange fnHashRateMonotoneInPreferenceSpec)

/-- ITS FALSE NEIGHBOUR: 'it returns false'. Refute it at one input. -/
def fnHashRateMonotoneInPreferenceWrong : ChangeSpec := { name := "fnHashRateMonotoneInPreference", fn := fun _ => fun
  | [d1, d2, d3, d4, d5, d6, d7] => { results := [.lit (.bool false)], args := [d1, d2, d3, d4, d5, d6, d7] }
  | _ => none }
def FnHashRateMonotoneInPreferenceWrongFalsely : Prop := fnHashRateMonotoneInPreferenceRow.holds Try.pinned (OpenSpec.ofChange fnHashRateMonotoneInPreferenceWrong)

/-- 'zzlaws_bonded_b1.FnHashRateWiderToleranceMovesTowardPreference': WHATEVER THE INPUT: true; the input reads as it did. -/
def fnHashRateWiderToleranceMovesTowardPreferenceSpec : ChangeSpec := { name := "fnHashRateWiderToleranceMovesTowardPreference", fn := fun _ => fun
  | [d1, d2, d3, d4, d5, d6, d7] => { results := [.lit (.bool true)], args := [d1, d2, d3, d4, d5, d6, d7] }
  | _ => none }
def fnHashRateWiderToleranceMovesTowardPreferenceRow : OpenClaim := { program := "qxb6601171a", sum := "bd30bdb620807fbd2d672a28ec8582dd8fe408b76ee75fda24245d115640d92a", func := "example.com/protolith/protolith/zzlaws_bonded_b1.FnHashRateWiderToleranceMovesTowardPreference", spec := "fnHashRateWiderToleranceMovesTowardPreference", apart := false }
def FnHashRateWiderToleranceMovesTowardPreferenceSaid : Prop := fnHashRateWiderToleranceMovesTowardPreferenceRow.holds Try.pinned (OpenSpec.ofChange fnHashRateWiderToleranceMovesTowardPreferenceSpec)

/-- ITS FALSE NEIGHBOUR: 'it returns false'. Refute it at one input. -/
def fnHashRateWiderToleranceMovesTowardPreferenceWrong : ChangeSpec := { name := "fnHashRateWiderToleranceMovesTowardPreference", fn := fun _ => fun
  | [d1, d2, d3, d4, d5, d6, d7] => { results := [.lit (.bool false)], args := [d1, d2, d3, d4, d5, d6, d7] }
  | _ => none }
def FnHashRateWiderToleranceMovesTowardPreferenceWrongFalsely : Prop := fnHashRateWiderToleranceMovesTowardPreferenceRow.holds Try.pinned (OpenSpec.ofChange fnHashRateWiderToleranceMovesTowardPreferenceWrong)

end Rows
end Go.Proofs.Qxb6601171a
