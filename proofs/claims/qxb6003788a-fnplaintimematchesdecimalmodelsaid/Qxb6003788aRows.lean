/-
  No cell of these rows narrows 'for every input' (looked for: loops, veiled, ifaces, maps, wideKeys, modest, calm, conditions, laid).
  DERIVED. THE GIVEN ROWS OF THIS SEAT. 4 by the template 'for every input the law returns true; each argument reads behind the call as it read before'; 0 by the template 'total and deterministic' (their statements: Qxb6003788aTotals.lean).
  GIVEN WITH THE SEED: the statements are not yours to turn. If you find one false, say at which input.
  Laid BY PROGRAM, IN A SANDBOX (cutbox-rows.mjs): the forced cells as the released guide's own fill.sh prints them over the translation de38b16ea4f04c2c… (all of the seat's roots in one cut). By AI agents, Wed Nov 11 2026. No macro, syntax, notation, axiom, sorry.
-/
import Derived.Test.Qxb6003788aChecked
import GoSem.Claim
import GoSem.ClaimJoined
import GoSem.ClaimMapViews
import Derived.JoinedTies
import Derived.KernelRfl
namespace Go.Proofs.Qxb6003788a
/- THE CELL 'sum', in the pinned program and in every row, IS THE sha256 OF THE DUMP (.gsa) THAT Qxb6003788aProg.lean LOADS. Nothing in Lean hashes anything: it is a label: what it is worth is what the hold of that sum in a sandbox is worth. -/
noncomputable def Try.pinned : Pinned := { name := "qxb6003788a", sum := "de38b16ea4f04c2c612f184a6f2d585e5540c69bc225b2f32efc84b0f2f6dda4", checked := Try.checked }
namespace Rows
def none {H : Type} : Left H := { results := [], args := [] }

/-- 'zzlaws_root_g1.FnMemberStartIsFirstMemberOpening': WHATEVER THE INPUT: true; the input reads as it did. -/
def fnMemberStartIsFirstMemberOpeningSpec : ChangeSpec := { name := "fnMemberStartIsFirstMemberOpening", fn := fun _ => fun
  | [d1, d2] => { results := [.lit (.bool true)], args := [d1, d2] }
  | _ => none }
def fnMemberStartIsFirstMemberOpeningRow : OpenClaim := { program := "qxb6003788a", sum := "de38b16ea4f04c2c612f184a6f2d585e5540c69bc225b2f32efc84b0f2f6dda4", func := "example.com/tallyclock/tallyclock/zzlaws_root_g1.FnMemberStartIsFirstMemberOpening", spec := "fnMemberStartIsFirstMemberOpening", inPlace := ["internal/bytealg.IndexByteString", "internal/bytealg.IndexString"], named := ["internal/bytealg.MaxLen"], apart := false }
def FnMemberStartIsFirstMemberOpeningSaid : Prop := fnMemberStartIsFirstMemberOpeningRow.holds Try.pinned (OpenSpec.ofChange fnMemberStartIsFirstMemberOpeningSpec)

/-- ITS FALSE NEIGHBOUR: 'it returns false'. Refute it at one input. -/
def fnMemberStartIsFirstMemberOpeningWrong : ChangeSpec := { name := "fnMemberStartIsFirstMemberOpening", fn := fun _ => fun
  | [d1, d2] => { results := [.lit (.bool false)], args := [d1, d2] }
  | _ => none }
def FnMemberStartIsFirstMemberOpeningWrongFalsely : Prop := fnMemberStartIsFirstMemberOpeningRow.holds Try.pinned (OpenSpec.ofChange fnMemberStartIsFirstMemberOpeningWrong)

/-- 'zzlaws_root_g1.FnDaysSinceEpochCountsDays': WHATEVER THE INPUT: true; the input reads as it did. -/
def fnDaysSinceEpochCountsDaysSpec : ChangeSpec := { name := "fnDaysSinceEpochCountsDays", fn := fun _ => fun
  | [d1, d2, d3] => { results := [.lit (.bool true)], args := [d1, d2, d3] }
  | _ => none }
def fnDaysSinceEpochCountsDaysRow : OpenClaim := { program := "qxb6003788a", sum := "de38b16ea4f04c2c612f184a6f2d585e5540c69bc225b2f32efc84b0f2f6dda4", func := "example.com/tallyclock/tallyclock/zzlaws_root_g1.FnDaysSinceEpochCountsDays", spec := "fnDaysSinceEpochCountsDays", apart := false }
def FnDaysSinceEpochCountsDaysSaid : Prop := fnDaysSinceEpochCountsDaysRow.holds Try.pinned (OpenSpec.ofChange fnDaysSinceEpochCountsDaysSpec)

/-- ITS FALSE NEIGHBOUR: 'it returns false'. Refute it at one input. -/
def fnDaysSinceEpochCountsDaysWrong : ChangeSpec := { name := "fnDaysSinceEpochCountsDays", fn := fun _ => fun
  | [d1, d2, d3] => { results := [.lit (.bool false)], args := [d1, d2, d3] }
  | _ => none }
def FnDaysSinceEpochCountsDaysWrongFalsely : Prop := fnDaysSinceEpochCountsDaysRow.holds Try.pinned (OpenSpec.ofChange fnDaysSinceEpochCountsDaysWrong)

/-- 'zzlaws_root_g2.FnPlainTimeMatchesDecimalModel': WHATEVER THE INPUT: true; the input reads as it did. -/
def fnPlainTimeMatchesDecimalModelSpec : ChangeSpec := { name := "fnPlainTimeMatchesDecimalModel", fn := fun _ => fun
  | [d1, d2, d3] => { results := [.lit (.bool true)], args := [d1, d2, d3] }
  | _ => none }
def fnPlainTimeMatchesDecimalModelRow : OpenClaim := { program := "qxb6003788a", sum := "de38b16ea4f04c2c612f184a6f2d585e5540c69bc225b2f32efc84b0f2f6dda4", func := "example.com/tallyclock/tallyclock/zzlaws_root_g2.FnPlainTimeMatchesDecimalModel", spec := "fnPlainTimeMatchesDecimalModel", apart := false }
def FnPlainTimeMatchesDecimalModelSaid : Prop := fnPlainTimeMatchesDecimalModelRow.holds Try.pinned (OpenSpec.ofChange fnPlainTimeMatchesDecimalModelSpec)

/-- ITS FALSE NEIGHBOUR: 'it returns false'. Refute it at one input. -/
def fnPlainTimeMatchesDecimalModelWrong : ChangeSpec := { name := "fnPlainTimeMatchesDecimalModel", fn := fun _ => fun
  | [d1, d2, d3] => { results := [.lit (.bool false)], args := [d1, d2, d3] }
  | _ => none }
def FnPlainTimeMatchesDecimalModelWrongFalsely : Prop := fnPlainTimeMatchesDecimalModelRow.holds Try.pinned (OpenSpec.ofChange fnPlainTimeMatchesDecimalModelWrong)

/-- 'zzlaws_root_g2.FnHex4InvertsHexDigits': WHATEVER THE INPUT: true; the input reads as it did. -/
def fnHex4InvertsHexDigitsSpec : ChangeSpec := { name := "fnHex4InvertsHexDigits", fn := fun _ => fun
  | [d1, d2, d3] => { results := [.lit (.bool true)], args := [d1, d2, d3] }
  | _ => none }
def fnHex4InvertsHexDigitsRow : OpenClaim := { program := "qxb6003788a", sum := "de38b16ea4f04c2c612f184a6f2d585e5540c69bc225b2f32efc84b0f2f6dda4", func := "example.com/tallyclock/tallyclock/zzlaws_root_g2.FnHex4InvertsHexDigits", spec := "fnHex4InvertsHexDigits", apart := false }
def FnHex4InvertsHexDigitsSaid : Prop := fnHex4InvertsHexDigitsRow.holds Try.pinned (OpenSpec.ofChange fnHex4InvertsHexDigitsSpec)

/-- ITS FALSE NEIGHBOUR: 'it returns false'. Refute it at one input. -/
def fnHex4InvertsHexDigitsWrong : ChangeSpec := { name := "fnHex4InvertsHexDigits", fn := fun _ => fun
  | [d1, d2, d3] => { results := [.lit (.bool false)], args := [d1, d2, d3] }
  | _ => none }
def FnHex4InvertsHexDigitsWrongFalsely : Prop := fnHex4InvertsHexDigitsRow.holds Try.pinned (OpenSpec.ofChange fnHex4InvertsHexDigitsWrong)

end Rows
end Go.Proofs.Qxb6003788a
