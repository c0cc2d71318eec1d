/-
  No cell of these rows narrows 'for every input' (looked for: loops, veiled, ifaces, maps, wideKeys, modest, calm, conditions, laid).
  DERIVED. THE GIVEN ROWS OF THIS SEAT. 10 by the template 'for every input the law returns true; each argument reads behind the call as it read before'; 0 by the template 'total and deterministic' (their statements: Qxb6001709aModsTotals.lean).
  GIVEN WITH THE SEED: the statements are not yours to turn. If you find one false, say at which input.
  Laid BY PROGRAM, IN A SANDBOX (cutbox-rows.mjs): the forced cells as the released guide's own fill.sh prints them over the translation 3af63d92f24a254a… (all of the seat's roots in one cut). By AI agents, Wed Nov 11 2026. No macro, syntax, notation, axiom, sorry.
-/
import Derived.Test.Qxb6001709aModsChecked
import GoSem.Claim
import GoSem.ClaimJoined
import GoSem.ClaimMapViews
import Derived.JoinedTies
import Derived.KernelRfl
namespace Go.Proofs.Qxb6001709aMods
/- THE CELL 'sum', in the pinned program and in every row, IS THE sha256 OF THE DUMP (.gsa) THAT Qxb6001709aModsProg.lean LOADS. Nothing in Lean hashes anything: it is a label: what it is worth is what the hold of that sum in a sandbox is worth. -/
noncomputable def Trym.pinned : Pinned := { name := "qxb6001709amods", sum := "3af63d92f24a254a1de34bf9d7aed43933ec25f7a6015ff00e7e47ad31926ed3", checked := Trym.checked }
namespace Rows
def none {H : Type} : Left H := { results := [], args := [] }

/-- 'zzlaws_internal_jinja_b1.FnLineStartsCharacterised': WHATEVER THE INPUT: true; the input reads as it did. -/
def fnLineStartsCharacterisedSpec : ChangeSpec := { name := "fnLineStartsCharacterised", fn := fun _ => fun
  | [d] => { results := [.lit (.bool true)], args := [d] }
  | _ => none }
def fnLineStartsCharacterisedRow : OpenClaim := { program := "qxb6001709amods", sum := "3af63d92f24a254a1de34bf9d7aed43933ec25f7a6015ff00e7e47ad31926ed3", func := "example.com/cradle/cradle/zzlaws_internal_jinja_b1.FnLineStartsCharacterised", spec := "fnLineStartsCharacterised", make := .lifted ["publicsums"], apart := false }
def FnLineStartsCharacterisedSaid : Prop := fnLineStartsCharacterisedRow.holds Trym.pinned (OpenSpec.ofChange fnLineStartsCharacterisedSpec)

/-- ITS FALSE NEIGHBOUR: 'it returns false'. Refute it at one input. -/
def fnLineStartsCharacterisedWrong : ChangeSpec := { name := "fnLineStartsCharacterised", fn := fun _ => fun
  | [d] => { results := [.lit (.bool false)], args := [d] }
  | _ => none }
def FnLineStartsCharacterisedWrongFalsely : Prop := fnLineStartsCharacterisedRow.holds Trym.pinned (OpenSpec.ofChange fnLineStartsCharacterisedWrong)

/-- 'zzlaws_internal_jinja_b1.FnLineStartsOfJoinedText': WHATEVER THE INPUT: true; the input reads as it did. -/
def fnLineStartsOfJoinedTextSpec : ChangeSpec := { name := "fnLineStartsOfJoinedText", fn := fun _ => fun
  | [d1, d2] => { results := [.lit (.bool true)], args := [d1, d2] }
  | _ => none }
def fnLineStartsOfJoinedTextRow : OpenClaim := { program := "qxb6001709amods", sum := "3af63d92f24a254a1de34bf9d7aed43933ec25f7a6015ff00e7e47ad31926ed3", func := "example.com/cradle/cradle/zzlaws_internal_jinja_b1.FnLineStartsOfJoinedText", spec := "fnLineStartsOfJoinedText", make := .lifted ["publicsums"], apart := false }
def FnLineStartsOfJoinedTextSaid : Prop := fnLineStartsOfJoinedTextRow.holds Trym.pinned (OpenSpec.ofChange fnLineStartsOfJoinedTextSpec)

/-- ITS FALSE NEIGHBOUR: 'it returns false'. Refute it at one input. -/
def fnLineStartsOfJoinedTextWrong : ChangeSpec := { name := "fnLineStartsOfJoinedText", fn := fun _ => fun
  | [d1, d2] => { results := [.lit (.bool false)], args := [d1, d2] }
  | _ => none }
def FnLineStartsOfJoinedTextWrongFalsely : Prop := fnLineStartsOfJoinedTextRow.holds Trym.pinned (OpenSpec.ofChange fnLineStartsOfJoinedTextWrong)

/-- 'zzlaws_internal_jinja_b1.FnRangeLengthLastInsideNextOutside': WHATEVER THE INPUT: true; the input reads as it did. -/
def fnRangeLengthLastInsideNextOutsideSpec : ChangeSpec := { name := "fnRangeLengthLastInsideNextOutside", fn := fun _ => fun
  | [d1, d2, d3] => { results := [.lit (.bool true)], args := [d1, d2, d3] }
  | _ => none }
def fnRangeLengthLastInsideNextOutsideRow : OpenClaim := { program := "qxb6001709amods", sum := "3af63d92f24a254a1de34bf9d7aed43933ec25f7a6015ff00e7e47ad31926ed3", func := "example.com/cradle/cradle/zzlaws_internal_jinja_b1.FnRangeLengthLastInsideNextOutside", spec := "fnRangeLengthLastInsideNextOutside", make := .lifted ["publicsums"], apart := false }
def FnRangeLengthLastInsideNextOutsideSaid : Prop := fnRangeLengthLastInsideNextOutsideRow.holds Trym.pinned (OpenSpec.ofChange fnRangeLengthLastInsideNextOutsideSpec)

/-- ITS FALSE NEIGHBOUR: 'it returns false'. Refute it at one input. -/
def fnRangeLengthLastInsideNextOutsideWrong : ChangeSpec := { name := "fnRangeLengthLastInsideNextOutside", fn := fun _ => fun
  | [d1, d2, d3] => { results := [.lit (.bool false)], args := [d1, d2, d3] }
  | _ => none }
def FnRangeLengthLastInsideNextOutsideWrongFalsely : Prop := fnRangeLengthLastInsideNextOutsideRow.holds Trym.pinned (OpenSpec.ofChange fnRangeLengthLastInsideNextOutsideWrong)

/-- 'zzlaws_internal_jinja_b1.FnRangeLengthMirror': WHATEVER THE INPUT: true; the input reads as it did. -/
def fnRangeLengthMirrorSpec : ChangeSpec := { name := "fnRangeLengthMirror", fn := fun _ => fun
  | [d1, d2, d3] => { results := [.lit (.bool true)], args := [d1, d2, d3] }
  | _ => none }
def fnRangeLengthMirrorRow : OpenClaim := { program := "qxb6001709amods", sum := "3af63d92f24a254a1de34bf9d7aed43933ec25f7a6015ff00e7e47ad31926ed3", func := "example.com/cradle/cradle/zzlaws_internal_jinja_b1.FnRangeLengthMirror", spec := "fnRangeLengthMirror", make := .lifted ["publicsums"], apart := false }
def FnRangeLengthMirrorSaid : Prop := fnRangeLengthMirrorRow.holds Trym.pinned (OpenSpec.ofChange fnRangeLengthMirrorSpec)

/-- ITS FALSE NEIGHBOUR: 'it returns false'. Refute it at one input. -/
def fnRangeLengthMirrorWrong : ChangeSpec := { name := "fnRangeLengthMirror", fn := fun _ => fun
  | [d1, d2, d3] => { results := [.lit (.bool false)], args := [d1, d2, d3] }
  | _ => none }
def FnRangeLengthMirrorWrongFalsely : Prop := fnRangeLengthMirrorRow.holds Trym.pinned (OpenSpec.ofChange fnRangeLengthMirrorWrong)

/-- 'zzlaws_internal_jinja_b1.FnRangeLengthMonotone': WHATEVER THE INPUT: true; the input reads as it did. -/
def fnRangeLengthMonotoneSpec : ChangeSpec := { name := "fnRangeLengthMonotone", fn := fun _ => fun
  | [d1, d2, d3, d4, d5] => { results := [.lit (.bool true)], args := [d1, d2, d3, d4, d5] }
  | _ => none }
def fnRangeLengthMonotoneRow : OpenClaim := { program := "qxb6001709amods", sum := "3af63d92f24a254a1de34bf9d7aed43933ec25f7a6015ff00e7e47ad31926ed3", func := "example.com/cradle/cradle/zzlaws_internal_jinja_b1.FnRangeLengthMonotone", spec := "fnRangeLengthMonotone", make := .lifted ["publicsums"], apart := false }
def FnRangeLengthMonotoneSaid : Prop := fnRangeLengthMonotoneRow.holds Trym.pinned (OpenSpec.ofChange fnRangeLengthMonotoneSpec)

/-- ITS FALSE NEIGHBOUR: 'it returns false'. Refute it at one input. -/
def fnRangeLengthMonotoneWrong : ChangeSpec := { name := "fnRangeLengthMonotone", fn := fun _ => fun
  | [d1, d2, d3, d4, d5] => { results := [.lit (.bool false)], args := [d1, d2, d3, d4, d5] }
  | _ => none }
def FnRangeLengthMonotoneWrongFalsely : Prop := fnRangeLengthMonotoneRow.holds Trym.pinned (OpenSpec.ofChange fnRangeLengthMonotoneWrong)

/-- 'zzlaws_internal_jinja_b1.FnByteOffsetOfASCIIIsIndex': WHATEVER THE INPUT: true; the input reads as it did. -/
def fnByteOffsetOfASCIIIsIndexSpec : ChangeSpec := { name := "fnByteOffsetOfASCIIIsIndex", fn := fun _ => fun
  | [d1, d2] => { results := [.lit (.bool true)], args := [d1, d2] }
  | _ => none }
def fnByteOffsetOfASCIIIsIndexRow : OpenClaim := { program := "qxb6001709amods", sum := "3af63d92f24a254a1de34bf9d7aed43933ec25f7a6015ff00e7e47ad31926ed3", func := "example.com/cradle/cradle/zzlaws_internal_jinja_b1.FnByteOffsetOfASCIIIsIndex", spec := "fnByteOffsetOfASCIIIsIndex", make := .lifted ["publicsums"], apart := false }
def FnByteOffsetOfASCIIIsIndexSaid : Prop := fnByteOffsetOfASCIIIsIndexRow.holds Trym.pinned (OpenSpec.ofChange fnByteOffsetOfASCIIIsIndexSpec)

/-- ITS FALSE NEIGHBOUR: 'it returns false'. Refute it at one input. -/
def fnByteOffsetOfASCIIIsIndexWrong : ChangeSpec := { name := "fnByteOffsetOfASCIIIsIndex", fn := fun _ => fun
  | [d1, d2] => { results := [.lit (.bool false)], args := [d1, d2] }
  | _ => none }
def FnByteOffsetOfASCIIIsIndexWrongFalsely : Prop := fnByteOffsetOfASCIIIsIndexRow.holds Trym.pinned (OpenSpec.ofChange fnByteOffsetOfASCIIIsIndexWrong)

/-- 'zzlaws_internal_jinja_b1.FnByteOffsetSplitsAtCharacter': WHATEVER THE INPUT: true; the input reads as it did. -/
def fnByteOffsetSplitsAtCharacterSpec : ChangeSpec := { name := "fnByteOffsetSplitsAtCharacter", fn := fun _ => fun
  | [d1, d2, d3] => { results := [.lit (.bool true)], args := [d1, d2, d3] }
  | _ => none }
def fnByteOffsetSplitsAtCharacterRow : OpenClaim := { program := "qxb6001709amods", sum := "3af63d92f24a254a1de34bf9d7aed43933ec25f7a6015ff00e7e47ad31926ed3", func := "example.com/cradle/cradle/zzlaws_internal_jinja_b1.FnByteOffsetSplitsAtCharacter", spec := "fnByteOffsetSplitsAtCharacter", make := .lifted ["publicsums"], apart := false }
def FnByteOffsetSplitsAtCharacterSaid : Prop := fnByteOffsetSplitsAtCharacterRow.holds Trym.pinned (OpenSpec.ofChange fnByteOffsetSplitsAtCharacterSpec)

/-- ITS FALSE NEIGHBOUR: 'it returns false'. Refute it at one input. -/
def fnByteOffsetSplitsAtCharacterWrong : ChangeSpec := { name := "fnByteOffsetSplitsAtCharacter", fn := fun _ => fun
  | [d1, d2, d3] => { results := [.lit (.bool false)], args := [d1, d2, d3] }
  | _ => none }
def FnByteOffsetSplitsAtCharacterWrongFalsely : Prop := fnByteOffsetSplitsAtCharacterRow.holds Trym.pinned (OpenSpec.ofChange fnByteOffsetSplitsAtCharacterWrong)

/-- 'zzlaws_internal_jinja_b1.FnByteOffsetAdvancesOneToFourBytes': WHATEVER THE INPUT: true; the input reads as it did. -/
def fnByteOffsetAdvancesOneToFourBytesSpec : ChangeSpec := { name := "fnByteOffsetAdvancesOneToFourBytes", fn := fun _ => fun
  | [d1, d2] => { results := [.lit (.bool true)], args := [d1, d2] }
  | _ => none }
def fnByteOffsetAdvancesOneToFourBytesRow : OpenClaim := { program := "qxb6001709amods", sum := "3af63d92f24a254a1de34bf9d7aed43933ec25f7a6015ff00e7e47ad31926ed3", func := "example.com/cradle/cradle/zzlaws_internal_jinja_b1.FnByteOffsetAdvancesOneToFourBytes", spec := "fnByteOffsetAdvancesOneToFourBytes", make := .lifted ["publicsums"], apart := false }
def FnByteOffsetAdvancesOneToFourBytesSaid : Prop := fnByteOffsetAdvancesOneToFourBytesRow.holds Trym.pinned (OpenSpec.ofChange fnByteOffsetAdvancesOneToFourBytesSpec)

/-- ITS FALSE NEIGHBOUR: 'it returns false'. Refute it at one input. -/
def fnByteOffsetAdvancesOneToFourBytesWrong : ChangeSpec := { name := "fnByteOffsetAdvancesOneToFourBytes", fn := fun _ => fun
  | [d1, d2] => { results := [.lit (.bool false)], args := [d1, d2] }
  | _ => none }
def FnByteOffsetAdvancesOneToFourBytesWrongFalsely : Prop := fnByteOffsetAdvancesOneToFourBytesRow.holds Trym.pinned (OpenSpec.ofChange fnByteOffsetAdvancesOneToFourBytesWrong)

/-- 'zzlaws_internal_jinja_b1.FnPlainASCIIOfJoinedText': WHATEVER THE INPUT: true; the input reads as it did. -/
def fnPlainASCIIOfJoinedTextSpec : ChangeSpec := { name := "fnPlainASCIIOfJoinedText", fn := fun _ => fun
  | [d1, d2] => { results := [.lit (.bool true)], args := [d1, d2] }
  | _ => none }
def fnPlainASCIIOfJoinedTextRow : OpenClaim := { program := "qxb6001709amods", sum := "3af63d92f24a254a1de34bf9d7aed43933ec25f7a6015ff00e7e47ad31926ed3", func := "example.com/cradle/cradle/zzlaws_internal_jinja_b1.FnPlainASCIIOfJoinedText", spec := "fnPlainASCIIOfJoinedText", make := .lifted ["publicsums"], apart := false }
def FnPlainASCIIOfJoinedTextSaid : Prop := fnPlainASCIIOfJoinedTextRow.holds Trym.pinned (OpenSpec.ofChange fnPlainASCIIOfJoinedTextSpec)

/-- ITS FALSE NEIGHBOUR: 'it returns false'. Refute it at one input. -/
def fnPlainASCIIOfJoinedTextWrong : ChangeSpec := { name := "fnPlainASCIIOfJoinedText", fn := fun _ => fun
  | [d1, d2] => { results := [.lit (.bool false)], args := [d1, d2] }
  | _ => none }
def FnPlainASCIIOfJoinedTextWrongFalsely : Prop := fnPlainASCIIOfJoinedTextRow.holds Trym.pinned (OpenSpec.ofChange fnPlainASCIIOfJoinedTextWrong)

/-- 'zzlaws_internal_jinja_b1.FnPlainASCIIIsOneLineOfByteCharacters': WHATEVER THE INPUT: true; the input reads as it did. -/
def fnPlainASCIIIsOneLineOfByteCharactersSpec : ChangeSpec := { name := "fnPlainASCIIIsOneLineOfByteCharacters", fn := fun _ => fun
  | [d1, d2] => { results := [.lit (.bool true)], args := [d1, d2] }
  | _ => none }
def fnPlainASCIIIsOneLineOfByteCharactersRow : OpenClaim := { program := "qxb6001709amods", sum := "3af63d92f24a254a1de34bf9d7aed43933ec25f7a6015ff00e7e47ad31926ed3", func := "example.com/cradle/cradle/zzlaws_internal_jinja_b1.FnPlainASCIIIsOneLineOfByteCharacters", spec := "fnPlainASCIIIsOneLineOfByteCharacters", make := .lifted ["publicsums"], apart := false }
def FnPlainASCIIIsOneLineOfByteCharactersSaid : Prop := fnPlainASCIIIsOneLineOfByteCharactersRow.holds Trym.pinned (OpenSpec.ofChange fnPlainASCIIIsOneLineOfByteCharactersSpec)

/-- ITS FALSE NEIGHBOUR: 'it returns false'. Refute it at one input. -/
def fnPlainASCIIIsOneLineOfByteCharactersWrong : ChangeSpec := { name := "fnPlainASCIIIsOneLineOfByteCharacters", fn := fun _ => fun
  | [d1, d2] => { results := [.lit (.bool false)], args := [d1, d2] }
  | _ => none }
def FnPlainASCIIIsOneLineOfByteCharactersWrongFalsely : Prop := fnPlainASCIIIsOneLineOfByteCharactersRow.holds Trym.pinned (OpenSpec.ofChange fnPlainASCIIIsOneLineOfByteCharactersWrong)

end Rows
end Go.Proofs.Qxb6001709aMods
