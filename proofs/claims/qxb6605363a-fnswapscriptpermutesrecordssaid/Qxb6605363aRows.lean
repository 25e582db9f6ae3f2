/-
  No cell of these rows narrows 'for every input' (looked for: loops, veiled, ifaces, maps, wideKeys, modest, calm, conditions, laid).
  DERIVED. THE GIVEN ROWS OF THIS SEAT. 2 by the template 'for every input the law returns true; each argument reads behind the call as it read before'; 0 by the template 'total and deterministic' (their statements: Qxb6605363aTotals.lean).
  GIVEN WITH THE SEED: the statements are not yours to turn. If you find one false, say at which input.
  Laid BY PROGRAM, IN A SANDBOX (cutbox-rows.mjs): the forced cells as the released guide's own fill.sh prints them over the translation 8385f39b639fbe4e… (all of the seat's roots in one cut). By AI agents, Wed Nov 11 2026. No macro, syntax, notation, axiom, sorry.
-/
import Derived.Test.Qxb6605363aChecked
import GoSem.Claim
import GoSem.ClaimJoined
import GoSem.ClaimMapViews
import Derived.JoinedTies
import Derived.KernelRfl
namespace Go.Proofs.Qxb6605363a
/- THE CELL 'sum', in the pinned program and in every row, IS THE sha256 OF THE DUMP (.gsa) THAT Qxb6605363aProg.lean LOADS. Nothing in Lean hashes anything: it is a label: what it is worth is what the hold of that sum in a sandbox is worth. -/
noncomputable def Try.pinned : Pinned := { name := "qxb6605363a", sum := "8385f39b639fbe4e5a8082e2c1ade3feccedfc224c98f86169508f33baf07333", checked := Try.checked }
namespace Rows
def none {H : Type} : Left H := { results := [], args := [] }

/-- 'zzlaws_internal_storage_b1.FnSwapExactByPosition': WHATEVER THE INPUT: true; the input reads as it did. -/
def fnSwapExactByPositionSpec : ChangeSpec := { name := "fnSwapExactByPosition", fn := fun _ => fun
  | [d1, d2, d3, d4] => { results := [.lit (.bool true)], args := [d1, d2, d3, d4] }
  | _ => none }
def fnSwapExactByPositionRow : OpenClaim := { program := "qxb6605363a", sum := "8385f39b639fbe4e5a8082e2c1ade3feccedfc224c98f86169508f33baf07333", func := "example.com/tilbury/tilbury/zzlaws_internal_storage_b1.FnSwapExactByPosition", spec := "fnSwapExactByPosition", apart := false }
def FnSwapExactByPositionSaid : Prop := fnSwapExactByPositionRow.holds Try.pinned (OpenSpec.ofChange fnSwapExactByPositionSpec)

/-- ITS FALSE NEIGHBOUR: 'it returns false'. Refute it at one input. -/
def fnSwapExactByPositionWrong : ChangeSpec := { name := "fnSwapExactByPosition", fn := fun _ => fun
  | [d1, d2, d3, d4] => { results := [.lit (.bool false)], args := [d1, d2, d3, d4] }
  | _ => none }
def FnSwapExactByPositionWrongFalsely : Prop := fnSwapExactByPositionRow.holds Try.pinned (OpenSpec.ofChange fnSwapExactByPositionWrong)

/-- 'zzlaws_internal_storage_b1.FnSwapScriptPermutesRecords': WHATEVER THE INPUT: true; the input reads as it did. -/
def fnSwapScriptPermutesRecordsSpec : ChangeSpec := { name := "fnSwapScriptPermutesRecords", fn := fun _ => fun
  | [d1, d2, d3] => { results := [.lit (.bool true)], args := [d1, d2, d3] }
  | _ => none }
def fnSwapScriptPermutesRecordsRow : OpenClaim := { program := "qxb6605363a", sum := "8385f39b639fbe4e5a8082e2c1ade3feccedfc224c98f86169508f33baf07333", func := "example.com/tilbury/tilbury/zzlaws_internal_storage_b1.FnSwapScriptPermutesRecords", spec := "fnSwapScriptPermutesRecords", apart := false }
def FnSwapScriptPermutesRecordsSaid : Prop := fnSwapScriptPermutesRecordsRow.holds Try.pinned (OpenSpec.ofChange fnSwapScriptPermutesRecordsSpec)

/-- ITS FALSE NEIGHBOUR: 'it returns false'. Refute it at one input. -/
def fnSwapScriptPermutesRecordsWrong : ChangeSpec := { name := "fnSwapScriptPermutesRecords", fn := fun _ => fun
  | [d1, d2, d3] => { results := [.lit (.bool false)], args := [d1, d2, d3] }
  | _ => none }
def FnSwapScriptPermutesRecordsWrongFalsely : Prop := fnSwapScriptPermutesRecordsRow.holds Try.pinned (OpenSpec.ofChange fnSwapScriptPermutesRecordsWrong)

end Rows
end Go.Proofs.Qxb6605363a
