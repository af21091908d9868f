/-
  No cell of these rows narrows 'for every input' (looked for: loops, veiled, ifaces, maps, wideKeys, modest, calm, conditions, laid).
  DERIVED. THE GIVEN ROWS OF THIS SEAT. 3 by the template 'for every input the law returns true; each argument reads behind the call as it read before'; 0 by the template 'total and deterministic' (their statements: Qxb6602691aTotals.lean).
  GIVEN WITH THE SEED: the statements are not yours to turn. If you find one false, say at which input.
  Laid BY PROGRAM, IN A SANDBOX (cutbox-rows.mjs): the forced cells as the released guide's own fill.sh prints them over the translation 2210ef5af1affea5… (all of the seat's roots in one cut). By AI agents, Wed Nov 11 2026. No macro, syntax, notation, axiom, sorry.
-/
import Derived.Test.Qxb6602691aChecked
import GoSem.Claim
import GoSem.ClaimJoined
import GoSem.ClaimMapViews
import Derived.JoinedTies
import Derived.KernelRfl
namespace Go.Proofs.Qxb6602691a
/- THE CELL 'sum', in the pinned program and in every row, IS THE sha256 OF THE DUMP (.gsa) THAT Qxb6602691aProg.lean LOADS. Nothing in Lean hashes anything: it is a label: what it is worth is what the hold of that sum in a sandbox is worth. -/
noncomputable def Try.pinned : Pinned := { name := "qxb6602691a", sum := "2210ef5af1affea5ce9b76d01659593586a1f54263a1e8c2174107c9be5a6c7f", checked := Try.checked }
namespace Rows
def none {H : Type} : Left H := { results := [], args := [] }

/-- 'zzlaws_root_b1.FnWriteStringMatchesEscapeTable': WHATEVER THE INPUT: true; the input reads as it did. -/
def fnWriteStringMatchesEscapeTableSpec : ChangeSpec := { name := "fnWriteStringMatchesEscapeTable", fn := fun _ => fun
  | [d1, d2] => { results := [.lit (.bool true)], args := [d1, d2] }
  | _ => none }
def fnWriteStringMatchesEscapeTableRow : OpenClaim := { program := "qxb6602691a", sum := "2210ef5af1affea5ce9b76d01659593586a1f54263a1e8c2174107c9be5a6c7f", func := "example.com/onceward/onceward/zzlaws_root_b1.FnWriteStringMatchesEscapeTable", spec := "fnWriteStringMatchesEscapeTable", inPlace := ["internal/bytealg.IndexByteString"], apart := false }
def FnWriteStringMatchesEscapeTableSaid : Prop := fnWriteStringMatchesEscapeTableRow.holds Try.pinned (OpenSpec.ofChange fnWriteStringMatchesEscapeTableSpec)

/-- ITS FALSE NEIGHBOUR: 'it returns false'. Refute it at one input. -/
def fnWriteStringMatchesEscapeTableWrong : ChangeSpec := { name := "fnWriteStringMatchesEscapeTable", fn := fun _ => fun
  | [d1, d2] => { results := [.lit (.bool false)], args := [d1, d2] }
  | _ => none }
def FnWriteStringMatchesEscapeTableWrongFalsely : Prop := fnWriteStringMatchesEscapeTableRow.holds Try.pinned (OpenSpec.ofChange fnWriteStringMatchesEscapeTableWrong)

/-- 'zzlaws_root_b1.FnWriteStringRoundTripsThroughHexUnit': WHATEVER THE INPUT: true; the input reads as it did. -/
def fnWriteStringRoundTripsThroughHexUnitSpec : ChangeSpec := { name := "fnWriteStringRoundTripsThroughHexUnit", fn := fun _ => fun
  | [d] => { results := [.lit (.bool true)], args := [d] }
  | _ => none }
def fnWriteStringRoundTripsThroughHexUnitRow : OpenClaim := { program := "qxb6602691a", sum := "2210ef5af1affea5ce9b76d01659593586a1f54263a1e8c2174107c9be5a6c7f", func := "example.com/onceward/onceward/zzlaws_root_b1.FnWriteStringRoundTripsThroughHexUnit", spec := "fnWriteStringRoundTripsThroughHexUnit", inPlace := ["internal/bytealg.IndexByteString"], apart := false }
def FnWriteStringRoundTripsThroughHexUnitSaid : Prop := fnWriteStringRoundTripsThroughHexUnitRow.holds Try.pinned (OpenSpec.ofChange fnWriteStringRoundTripsThroughHexUnitSpec)

/-- ITS FALSE NEIGHBOUR: 'it returns false'. Refute it at one input. -/
def fnWriteStringRoundTripsThroughHexUnitWrong : ChangeSpec := { name := "fnWriteStringRoundTripsThroughHexUnit", fn := fun _ => fun
  | [d] => { results := [.lit (.bool false)], args := [d] }
  | _ => none }
def FnWriteStringRoundTripsThroughHexUnitWrongFalsely : Prop := fnWriteStringRoundTripsThroughHexUnitRow.holds Try.pinned (OpenSpec.ofChange fnWriteStringRoundTripsThroughHexUnitWrong)

/-- 'zzlaws_root_b1.FnHexUnitReadsBackWrittenDigits': WHATEVER THE INPUT: true; the input reads as it did. -/
def fnHexUnitReadsBackWrittenDigitsSpec : ChangeSpec := { name := "fnHexUnitReadsBackWrittenDigits", fn := fun _ => fun
  | [d1, d2, d3, d4] => { results := [.lit (.bool true)], args := [d1, d2, d3, d4] }
  | _ => none }
def fnHexUnitReadsBackWrittenDigitsRow : OpenClaim := { program := "qxb6602691a", sum := "2210ef5af1affea5ce9b76d01659593586a1f54263a1e8c2174107c9be5a6c7f", func := "example.com/onceward/onceward/zzlaws_root_b1.FnHexUnitReadsBackWrittenDigits", spec := "fnHexUnitReadsBackWrittenDigits", apart := false }
def FnHexUnitReadsBackWrittenDigitsSaid : Prop := fnHexUnitReadsBackWrittenDigitsRow.holds Try.pinned (OpenSpec.ofChange fnHexUnitReadsBackWrittenDigitsSpec)

/-- ITS FALSE NEIGHBOUR: 'it returns false'. Refute it at one input. -/
def fnHexUnitReadsBackWrittenDigitsWrong : ChangeSpec := { name := "fnHexUnitReadsBackWrittenDigits", fn := fun _ => fun
  | [d1, d2, d3, d4] => { results := [.lit (.bool false)], args := [d1, d2, d3, d4] }
  | _ => none }
def FnHexUnitReadsBackWrittenDigitsWrongFalsely : Prop := fnHexUnitReadsBackWrittenDigitsRow.holds Try.pinned (OpenSpec.ofChange fnHexUnitReadsBackWrittenDigitsWrong)

end Rows
end Go.Proofs.Qxb6602691a
