/-
  No cell of these rows narrows 'for every input' (looked for: loops, veiled, ifaces, maps, wideKeys, modest, calm, conditions, laid).
  DERIVED. THE GIVEN ROWS OF THIS SEAT. 3 by the template 'for every input the law returns true; each argument reads behind the call as it read before'; 0 by the template 'total and deterministic' (their statements: Qxb6606287aTotals.lean).
  GIVEN WITH THE SEED: the statements are not yours to turn. If you find one false, say at which input.
  Laid BY PROGRAM, IN A SANDBOX (cutbox-rows.mjs): the forced cells as the released guide's own fill.sh prints them over the translation 3c0d50daad1a7076… (all of the seat's roots in one cut). By AI agents, Wed Nov 11 2026. No macro, syntax, notation, axiom, sorry.
-/
import Derived.Test.Qxb6606287aChecked
import GoSem.Claim
import GoSem.ClaimJoined
import GoSem.ClaimMapViews
import Derived.JoinedTies
import Derived.KernelRfl
namespace Go.Proofs.Qxb6606287a
/- THE CELL 'sum', in the pinned program and in every row, IS THE sha256 OF THE DUMP (.gsa) THAT Qxb6606287aProg.lean LOADS. Nothing in Lean hashes anything: it is a label: what it is worth is what the hold of that sum in a sandbox is worth. -/
noncomputable def Try.pinned : Pinned := { name := "qxb6606287a", sum := "3c0d50daad1a707694d6da99d2d8b2883b8f6d844a48b1dfa27a24beb5ca4e16", checked := Try.checked }
namespace Rows
def none {H : Type} : Left H := { results := [], args := [] }

/-- 'zzlaws_internal_address_b1.FnValidRefNameMatchesAlphabetModel': WHATEVER THE INPUT: true; the input reads as it did. -/
def fnValidRefNameMatchesAlphabetModelSpec : ChangeSpec := { name := "fnValidRefNameMatchesAlphabetModel", fn := fun _ => fun
  | [d] => { results := [.lit (.bool true)], args := [d] }
  | _ => none }
def fnValidRefNameMatchesAlphabetModelRow : OpenClaim := { program := "qxb6606287a", sum := "3c0d50daad1a707694d6da99d2d8b2883b8f6d844a48b1dfa27a24beb5ca4e16", func := "example.com/nudibranch/nudibranch/zzlaws_internal_address_b1.FnValidRefNameMatchesAlphabetModel", spec := "fnValidRefNameMatchesAlphabetModel", apart := false }
def FnValidRefNameMatchesAlphabetModelSaid : Prop := fnValidRefNameMatchesAlphabetModelRow.holds Try.pinned (OpenSpec.ofChange fnValidRefNameMatchesAlphabetModelSpec)

/-- ITS FALSE NEIGHBOUR: 'it returns false'. Refute it at one input. -/
def fnValidRefNameMatchesAlphabetModelWrong : ChangeSpec := { name := "fnValidRefNameMatchesAlphabetModel", fn := fun _ => fun
  | [d] => { results := [.lit (.bool false)], args := [d] }
  | _ => none }
def FnValidRefNameMatchesAlphabetModelWrongFalsely : Prop := fnValidRefNameMatchesAlphabetModelRow.holds Try.pinned (OpenSpec.ofChange fnValidRefNameMatchesAlphabetModelWrong)

/-- 'zzlaws_internal_address_b1.FnValidRefNamePrefixClosed': WHATEVER THE INPUT: true; the input reads as it did. -/
def fnValidRefNamePrefixClosedSpec : ChangeSpec := { name := "fnValidRefNamePrefixClosed", fn := fun _ => fun
  | [d] => { results := [.lit (.bool true)], args := [d] }
  | _ => none }
def fnValidRefNamePrefixClosedRow : OpenClaim := { program := "qxb6606287a", sum := "3c0d50daad1a707694d6da99d2d8b2883b8f6d844a48b1dfa27a24beb5ca4e16", func := "example.com/nudibranch/nudibranch/zzlaws_internal_address_b1.FnValidRefNamePrefixClosed", spec := "fnValidRefNamePrefixClosed", apart := false }
def FnValidRefNamePrefixClosedSaid : Prop := fnValidRefNamePrefixClosedRow.holds Try.pinned (OpenSpec.ofChange fnValidRefNamePrefixClosedSpec)

/-- ITS FALSE NEIGHBOUR: 'it returns false'. Refute it at one input. -/
def fnValidRefNamePrefixClosedWrong : ChangeSpec := { name := "fnValidRefNamePrefixClosed", fn := fun _ => fun
  | [d] => { results := [.lit (.bool false)], args := [d] }
  | _ => none }
def FnValidRefNamePrefixClosedWrongFalsely : Prop := fnValidRefNamePrefixClosedRow.holds Try.pinned (OpenSpec.ofChange fnValidRefNamePrefixClosedWrong)

/-- 'zzlaws_internal_address_b1.FnValidRefNameConcatenationClosed': WHATEVER THE INPUT: true; the input reads as it did. -/
def fnValidRefNameConcatenationClosedSpec : ChangeSpec := { name := "fnValidRefNameConcatenationClosed", fn := fun _ => fun
  | [d1, d2] => { results := [.lit (.bool true)], args := [d1, d2] }
  | _ => none }
def fnValidRefNameConcatenationClosedRow : OpenClaim := { program := "qxb6606287a", sum := "3c0d50daad1a707694d6da99d2d8b2883b8f6d844a48b1dfa27a24beb5ca4e16", func := "example.com/nudibranch/nudibranch/zzlaws_internal_address_b1.FnValidRefNameConcatenationClosed", spec := "fnValidRefNameConcatenationClosed", apart := false }
def FnValidRefNameConcatenationClosedSaid : Prop := fnValidRefNameConcatenationClosedRow.holds Try.pinned (OpenSpec.ofChange fnValidRefNameConcatenationClosedSpec)

/-- ITS FALSE NEIGHBOUR: 'it returns false'. Refute it at one input. -/
def fnValidRefNameConcatenationClosedWrong : ChangeSpec := { name := "fnValidRefNameConcatenationClosed", fn := fun _ => fun
  | [d1, d2] => { results := [.lit (.bool false)], args := [d1, d2] }
  | _ => none }
def FnValidRefNameConcatenationClosedWrongFalsely : Prop := fnValidRefNameConcatenationClosedRow.holds Try.pinned (OpenSpec.ofChange fnValidRefNameConcatenationClosedWrong)

end Rows
end Go.Proofs.Qxb6606287a
