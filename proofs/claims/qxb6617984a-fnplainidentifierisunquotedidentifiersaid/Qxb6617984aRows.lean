/-
  No cell of these rows narrows 'for every input' (looked for: loops, veiled, ifaces, maps, wideKeys, modest, calm, conditions, laid).
  DERIVED. THE GIVEN ROWS OF THIS SEAT. 2 by the template 'for every input the law returns true; each argument reads behind the call as it read before'; 0 by the template 'total and deterministic' (their statements: Qxb6617984aTotals.lean).
  GIVEN WITH THE SEED: the statements are not yours to turn. If you find one false, say at which input.
  Laid BY PROGRAM, IN A SANDBOX (cutbox-rows.mjs): the forced cells as the released guide's own fill.sh prints them over the translation 93ec4f068f404f04… (all of the seat's roots in one cut). By AI agents, Wed Nov 11 2026. No macro, syntax, notation, axiom, sorry.
-/
import Derived.Test.Qxb6617984aChecked
import GoSem.Claim
import GoSem.ClaimJoined
import GoSem.ClaimMapViews
import Derived.JoinedTies
import Derived.KernelRfl
namespace Go.Proofs.Qxb6617984a
/- THE CELL 'sum', in the pinned program and in every row, IS THE sha256 OF THE DUMP (.gsa) THAT Qxb6617984aProg.lean LOADS. Nothing in Lean hashes anything: it is a label: what it is worth is what the hold of that sum in a sandbox is worth. -/
noncomputable def Try.pinned : Pinned := { name := "qxb6617984a", sum := "93ec4f068f404f0405a00c66e9aed3dda912df04894b4c7e87b7dbeb6b2483fd", checked := Try.checked }
namespace Rows
def none {H : Type} : Left H := { results := [], args := [] }

/-- 'zzlaws_internal_core_b1.FnPlainIdentifierIsUnquotedIdentifier': WHATEVER THE INPUT: true; the input reads as it did. -/
def fnPlainIdentifierIsUnquotedIdentifierSpec : ChangeSpec := { name := "fnPlainIdentifierIsUnquotedIdentifier", fn := fun _ => fun
  | [d] => { results := [.lit (.bool true)], args := [d] }
  | _ => none }
def fnPlainIdentifierIsUnquotedIdentifierRow : OpenClaim := { program := "qxb6617984a", sum := "93ec4f068f404f0405a00c66e9aed3dda912df04894b4c7e87b7dbeb6b2483fd", func := "example.com/txscope/txscope/zzlaws_internal_core_b1.FnPlainIdentifierIsUnquotedIdentifier", spec := "fnPlainIdentifierIsUnquotedIdentifier", apart := false }
def FnPlainIdentifierIsUnquotedIdentifierSaid : Prop := fnPlainIdentifierIsUnquotedIdentifierRow.holds Try.pinned (OpenSpec.ofChange fnPlainIdentifierIsUnquotedIdentifierSpec)

/-- ITS FALSE NEIGHBOUR: 'it returns false'. Refute it at one input. -/
def fnPlainIdentifierIsUnquotedIdentifierWrong : ChangeSpec := { name := "fnPlainIdentifierIsUnquotedIdentifier", fn := fun _ => fun
  | [d] => { results := [.lit (.bool false)], args := [d] }
  | _ => none }
def FnPlainIdentifierIsUnquotedIdentifierWrongFalsely : Prop := fnPlainIdentifierIsUnquotedIdentifierRow.holds Try.pinned (OpenSpec.ofChange fnPlainIdentifierIsUnquotedIdentifierWrong)

/-- 'zzlaws_internal_core_b1.FnPlainIdentifierJoinAtAnyCut': WHATEVER THE INPUT: true; the input reads as it did. -/
def fnPlainIdentifierJoinAtAnyCutSpec : ChangeSpec := { name := "fnPlainIdentifierJoinAtAnyCut", fn := fun _ => fun
  | [d1, d2] => { results := [.lit (.bool true)], args := [d1, d2] }
  | _ => none }
def fnPlainIdentifierJoinAtAnyCutRow : OpenClaim := { program := "qxb6617984a", sum := "93ec4f068f404f0405a00c66e9aed3dda912df04894b4c7e87b7dbeb6b2483fd", func := "example.com/txscope/txscope/zzlaws_internal_core_b1.FnPlainIdentifierJoinAtAnyCut", spec := "fnPlainIdentifierJoinAtAnyCut", apart := false }
def FnPlainIdentifierJoinAtAnyCutSaid : Prop := fnPlainIdentifierJoinAtAnyCutRow.holds Try.pinned (OpenSpec.ofChange fnPlainIdentifierJoinAtAnyCutSpec)

/-- ITS FALSE NEIGHBOUR: 'it returns false'. Refute it at one input. -/
def fnPlainIdentifierJoinAtAnyCutWrong : ChangeSpec := { name := "fnPlainIdentifierJoinAtAnyCut", fn := fun _ => fun
  | [d1, d2] => { results := [.lit (.bool false)], args := [d1, d2] }
  | _ => none }
def FnPlainIdentifierJoinAtAnyCutWrongFalsely : Prop := fnPlainIdentifierJoinAtAnyCutRow.holds Try.pinned (OpenSpec.ofChange fnPlainIdentifierJoinAtAnyCutWrong)

end Rows
end Go.Proofs.Qxb6617984a
