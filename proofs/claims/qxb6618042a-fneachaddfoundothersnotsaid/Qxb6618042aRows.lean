/-
  No cell of these rows narrows 'for every input' (looked for: loops, veiled, ifaces, maps, wideKeys, modest, calm, conditions, laid).
  DERIVED. THE GIVEN ROWS OF THIS SEAT. 2 by the template 'for every input the law returns true; each argument reads behind the call as it read before'; 0 by the template 'total and deterministic' (their statements: Qxb6618042aTotals.lean).
  GIVEN WITH THE SEED: the statements are not yours to turn. If you find one false, say at which input.
  Laid BY PROGRAM, IN A SANDBOX (cutbox-rows.mjs): the forced cells as the released guide's own fill.sh prints them over the translation ca1c54f33dd1410a… (all of the seat's roots in one cut). By AI agents, Wed Nov 11 2026. No macro, syntax, notation, axiom, sorry.
-/
import Derived.Test.Qxb6618042aChecked
import GoSem.Claim
import GoSem.ClaimJoined
import GoSem.ClaimMapViews
import Derived.JoinedTies
import Derived.KernelRfl
namespace Go.Proofs.Qxb6618042a
/- THE CELL 'sum', in the pinned program and in every row, IS THE sha256 OF THE DUMP (.gsa) THAT Qxb6618042aProg.lean LOADS. Nothing in Lean hashes anything: it is a label: what it is worth is what the hold of that sum in a sandbox is worth. -/
noncomputable def Try.pinned : Pinned := { name := "qxb6618042a", sum := "ca1c54f33dd1410ad6d845e8693a44792c96ed0439fd11b36ca45ed3145c88a9", checked := Try.checked }
namespace Rows
def none {H : Type} : Left H := { results := [], args := [] }

/-- 'zzlaws_internal_prefix_b1.FnOverlapMatchesScan': WHATEVER THE INPUT: true; the input reads as it did. -/
def fnOverlapMatchesScanSpec : ChangeSpec := { name := "fnOverlapMatchesScan", fn := fun _ => fun
  | [d1, d2] => { results := [.lit (.bool true)], args := [d1, d2] }
  | _ => none }
def fnOverlapMatchesScanRow : OpenClaim := { program := "qxb6618042a", sum := "ca1c54f33dd1410ad6d845e8693a44792c96ed0439fd11b36ca45ed3145c88a9", func := "example.com/tidecrew/tidecrew/zzlaws_internal_prefix_b1.FnOverlapMatchesScan", spec := "fnOverlapMatchesScan", apart := false }
def FnOverlapMatchesScanSaid : Prop := fnOverlapMatchesScanRow.holds Try.pinned (OpenSpec.ofChange fnOverlapMatchesScanSpec)

/-- ITS FALSE NEIGHBOUR: 'it returns false'. Refute it at one input. -/
def fnOverlapMatchesScanWrong : ChangeSpec := { name := "fnOverlapMatchesScan", fn := fun _ => fun
  | [d1, d2] => { results := [.lit (.bool false)], args := [d1, d2] }
  | _ => none }
def FnOverlapMatchesScanWrongFalsely : Prop := fnOverlapMatchesScanRow.holds Try.pinned (OpenSpec.ofChange fnOverlapMatchesScanWrong)

/-- 'zzlaws_internal_prefix_b1.FnEachAddFoundOthersNot': WHATEVER THE INPUT: true; the input reads as it did. -/
def fnEachAddFoundOthersNotSpec : ChangeSpec := { name := "fnEachAddFoundOthersNot", fn := fun _ => fun
  | [d1, d2] => { results := [.lit (.bool true)], args := [d1, d2] }
  | _ => none }
def fnEachAddFoundOthersNotRow : OpenClaim := { program := "qxb6618042a", sum := "ca1c54f33dd1410ad6d845e8693a44792c96ed0439fd11b36ca45ed3145c88a9", func := "example.com/tidecrew/tidecrew/zzlaws_internal_prefix_b1.FnEachAddFoundOthersNot", spec := "fnEachAddFoundOthersNot", apart := false }
def FnEachAddFoundOthersNotSaid : Prop := fnEachAddFoundOthersNotRow.holds Try.pinned (OpenSpec.ofChange fnEachAddFoundOthersNotSpec)

/-- ITS FALSE NEIGHBOUR: 'it returns false'. Refute it at one input. -/
def fnEachAddFoundOthersNotWrong : ChangeSpec := { name := "fnEachAddFoundOthersNot", fn := fun _ => fun
  | [d1, d2] => { results := [.lit (.bool false)], args := [d1, d2] }
  | _ => none }
def FnEachAddFoundOthersNotWrongFalsely : Prop := fnEachAddFoundOthersNotRow.holds Try.pinned (OpenSpec.ofChange fnEachAddFoundOthersNotWrong)

end Rows
end Go.Proofs.Qxb6618042a
