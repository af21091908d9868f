/-
  No cell of these rows narrows 'for every input' (looked for: loops, veiled, ifaces, maps, wideKeys, modest, calm, conditions, laid).
  DERIVED. THE GIVEN ROWS OF THIS SEAT. 5 by the template 'for every input the law returns true; each argument reads behind the call as it read before'; 0 by the template 'total and deterministic' (their statements: Qxb6600511aTotals.lean).
  GIVEN WITH THE SEED: the statements are not yours to turn. If you find one false, say at which input.
  Laid BY PROGRAM, IN A SANDBOX (cutbox-rows.mjs): the forced cells as the released guide's own fill.sh prints them over the translation da8fa7281871459e… (all of the seat's roots in one cut). By AI agents, Wed Nov 11 2026. No macro, syntax, notation, axiom, sorry.
-/
import Derived.Test.Qxb6600511aChecked
import GoSem.Claim
import GoSem.ClaimJoined
import GoSem.ClaimMapViews
import Derived.JoinedTies
import Derived.KernelRfl
namespace Go.Proofs.Qxb6600511a
/- THE CELL 'sum', in the pinned program and in every row, IS THE sha256 OF THE DUMP (.gsa) THAT Qxb6600511aProg.lean LOADS. Nothing in Lean hashes anything: it is a label: what it is worth is what the hold of that sum in a sandbox is worth. -/
noncomputable def Try.pinned : Pinned := { name := "qxb6600511a", sum := "da8fa7281871459e4080af953e15375ba1bbfb1583d4cc8914e0f0927bb8d7bd", checked := Try.checked }
namespace Rows
def none {H : Type} : Left H := { results := [], args := [] }

/-- 'zzlaws_record_b1.FnHexEscapeMatchesModel': WHATEVER THE INPUT: true; the input reads as it did. -/
def fnHexEscapeMatchesModelSpec : ChangeSpec := { name := "fnHexEscapeMatchesModel", fn := fun _ => fun
  | [d] => { results := [.lit (.bool true)], args := [d] }
  | _ => none }
def fnHexEscapeMatchesModelRow : OpenClaim := { program := "qxb6600511a", sum := "da8fa7281871459e4080af953e15375ba1bbfb1583d4cc8914e0f0927bb8d7bd", func := "example.com/netsounder/netsounder/zzlaws_record_b1.FnHexEscapeMatchesModel", spec := "fnHexEscapeMatchesModel", apart := false }
def FnHexEscapeMatchesModelSaid : Prop := fnHexEscapeMatchesModelRow.holds Try.pinned (OpenSpec.ofChange fnHexEscapeMatchesModelSpec)

/-- ITS FALSE NEIGHBOUR: 'it returns false'. Refute it at one input. -/
def fnHexEscapeMatchesModelWrong : ChangeSpec := { name := "fnHexEscapeMatchesModel", fn := fun _ => fun
  | [d] => { results := [.lit (.bool false)], args := [d] }
  | _ => none }
def FnHexEscapeMatchesModelWrongFalsely : Prop := fnHexEscapeMatchesModelRow.holds Try.pinned (OpenSpec.ofChange fnHexEscapeMatchesModelWrong)

/-- 'zzlaws_record_b1.FnHexEscapeInvertsWriting': WHATEVER THE INPUT: true; the input reads as it did. -/
def fnHexEscapeInvertsWritingSpec : ChangeSpec := { name := "fnHexEscapeInvertsWriting", fn := fun _ => fun
  | [d1, d2, d3] => { results := [.lit (.bool true)], args := [d1, d2, d3] }
  | _ => none }
def fnHexEscapeInvertsWritingRow : OpenClaim := { program := "qxb6600511a", sum := "da8fa7281871459e4080af953e15375ba1bbfb1583d4cc8914e0f0927bb8d7bd", func := "example.com/netsounder/netsounder/zzlaws_record_b1.FnHexEscapeInvertsWriting", spec := "fnHexEscapeInvertsWriting", apart := false }
def FnHexEscapeInvertsWritingSaid : Prop := fnHexEscapeInvertsWritingRow.holds Try.pinned (OpenSpec.ofChange fnHexEscapeInvertsWritingSpec)

/-- ITS FALSE NEIGHBOUR: 'it returns false'. Refute it at one input. -/
def fnHexEscapeInvertsWritingWrong : ChangeSpec := { name := "fnHexEscapeInvertsWriting", fn := fun _ => fun
  | [d1, d2, d3] => { results := [.lit (.bool false)], args := [d1, d2, d3] }
  | _ => none }
def FnHexEscapeInvertsWritingWrongFalsely : Prop := fnHexEscapeInvertsWritingRow.holds Try.pinned (OpenSpec.ofChange fnHexEscapeInvertsWritingWrong)

/-- 'zzlaws_record_b1.FnNumberMatchesModel': WHATEVER THE INPUT: true; the input reads as it did. -/
def fnNumberMatchesModelSpec : ChangeSpec := { name := "fnNumberMatchesModel", fn := fun _ => fun
  | [d1, d2] => { results := [.lit (.bool true)], args := [d1, d2] }
  | _ => none }
def fnNumberMatchesModelRow : OpenClaim := { program := "qxb6600511a", sum := "da8fa7281871459e4080af953e15375ba1bbfb1583d4cc8914e0f0927bb8d7bd", func := "example.com/netsounder/netsounder/zzlaws_record_b1.FnNumberMatchesModel", spec := "fnNumberMatchesModel", apart := false }
def FnNumberMatchesModelSaid : Prop := fnNumberMatchesModelRow.holds Try.pinned (OpenSpec.ofChange fnNumberMatchesModelSpec)

/-- ITS FALSE NEIGHBOUR: 'it returns false'. Refute it at one input. -/
def fnNumberMatchesModelWrong : ChangeSpec := { name := "fnNumberMatchesModel", fn := fun _ => fun
  | [d1, d2] => { results := [.lit (.bool false)], args := [d1, d2] }
  | _ => none }
def FnNumberMatchesModelWrongFalsely : Prop := fnNumberMatchesModelRow.holds Try.pinned (OpenSpec.ofChange fnNumberMatchesModelWrong)

/-- 'zzlaws_record_b1.FnNumberRescansItsOwnText': WHATEVER THE INPUT: true; the input reads as it did. -/
def fnNumberRescansItsOwnTextSpec : ChangeSpec := { name := "fnNumberRescansItsOwnText", fn := fun _ => fun
  | [d1, d2] => { results := [.lit (.bool true)], args := [d1, d2] }
  | _ => none }
def fnNumberRescansItsOwnTextRow : OpenClaim := { program := "qxb6600511a", sum := "da8fa7281871459e4080af953e15375ba1bbfb1583d4cc8914e0f0927bb8d7bd", func := "example.com/netsounder/netsounder/zzlaws_record_b1.FnNumberRescansItsOwnText", spec := "fnNumberRescansItsOwnText", apart := false }
def FnNumberRescansItsOwnTextSaid : Prop := fnNumberRescansItsOwnTextRow.holds Try.pinned (OpenSpec.ofChange fnNumberRescansItsOwnTextSpec)

/-- ITS FALSE NEIGHBOUR: 'it returns false'. Refute it at one input. -/
def fnNumberRescansItsOwnTextWrong : ChangeSpec := { name := "fnNumberRescansItsOwnText", fn := fun _ => fun
  | [d1, d2] => { results := [.lit (.bool false)], args := [d1, d2] }
  | _ => none }
def FnNumberRescansItsOwnTextWrongFalsely : Prop := fnNumberRescansItsOwnTextRow.holds Try.pinned (OpenSpec.ofChange fnNumberRescansItsOwnTextWrong)

/-- 'zzlaws_record_b1.FnNumberAcceptsWhatJSONWrites': WHATEVER THE INPUT: true; the input reads as it did. -/
def fnNumberAcceptsWhatJSONWritesSpec : ChangeSpec := { name := "fnNumberAcceptsWhatJSONWrites", fn := fun _ => fun
  | [d1, d2, d3, d4, d5, d6, d7, d8, d9, d10, d11] => { results := [.lit (.bool true)], args := [d1, d2, d3, d4, d5, d6, d7, d8, d9, d10, d11] }
  | _ => none }
def fnNumberAcceptsWhatJSONWritesRow : OpenClaim := { program := "qxb6600511a", sum := "da8fa7281871459e4080af953e15375ba1bbfb1583d4cc8914e0f0927bb8d7bd", func := "example.com/netsounder/netsounder/zzlaws_record_b1.FnNumberAcceptsWhatJSONWrites", spec := "fnNumberAcceptsWhatJSONWrites", apart := false }
def FnNumberAcceptsWhatJSONWritesSaid : Prop := fnNumberAcceptsWhatJSONWritesRow.holds Try.pinned (OpenSpec.ofChange fnNumberAcceptsWhatJSONWritesSpec)

/-- ITS FALSE NEIGHBOUR: 'it returns false'. Refute it at one input. -/
def fnNumberAcceptsWhatJSONWritesWrong : ChangeSpec := { name := "fnNumberAcceptsWhatJSONWrites", fn := fun _ => fun
  | [d1, d2, d3, d4, d5, d6, d7, d8, d9, d10, d11] => { results := [.lit (.bool false)], args := [d1, d2, d3, d4, d5, d6, d7, d8, d9, d10, d11] }
  | _ => none }
def FnNumberAcceptsWhatJSONWritesWrongFalsely : Prop := fnNumberAcceptsWhatJSONWritesRow.holds Try.pinned (OpenSpec.ofChange fnNumberAcceptsWhatJSONWritesWrong)

end Rows
end Go.Proofs.Qxb6600511a
