/-
  No cell of these rows narrows 'for every input' (looked for: loops, veiled, ifaces, maps, wideKeys, modest, calm, conditions, laid).
  DERIVED. THE GIVEN ROWS OF THIS SEAT. 2 by the template 'for every input the law returns true; each argument reads behind the call as it read before'; 0 by the template 'total and deterministic' (their statements: Qxb6619380aTotals.lean).
  GIVEN WITH THE SEED: the statements are not yours to turn. If you find one false, say at which input.
  Laid BY PROGRAM, IN A SANDBOX (cutbox-rows.mjs): the forced cells as the released guide's own fill.sh prints them over the translation e9970a6533213c46… (all of the seat's roots in one cut). By AI agents, Wed Nov 11 2026. No macro, syntax, notation, axiom, sorry.
-/
import Derived.Test.Qxb6619380aChecked
import GoSem.Claim
import GoSem.ClaimJoined
import GoSem.ClaimMapViews
import Derived.JoinedTies
import Derived.KernelRfl
namespace Go.Proofs.Qxb6619380a
/- THE CELL 'sum', in the pinned program and in every row, IS THE sha256 OF THE DUMP (.gsa) THAT Qxb6619380aProg.lean LOADS. Nothing in Lean hashes anything: it is a label: what it is worth is what the hold of that sum in a sandbox is worth. -/
noncomputable def Try.pinned : Pinned := { name := "qxb6619380a", sum := "e9970a6533213c463a4a02a3ff1496ddd8f8fa98aadf95dd7fd8e7b4f1814318", checked := Try.checked }
namespace Rows
def none {H : Type} : Left H := { results := [], args := [] }

/-- 'zzlaws_internal_heapfloor_b1.FnPercentIsGreatestGOGCKeepingGoalWithinTarget': WHATEVER THE INPUT: true; the input reads as it did. -/
def fnPercentIsGreatestGOGCKeepingGoalWithinTargetSpec : ChangeSpec := { name := "fnPercentIsGreatestGOGCKeepingGoalWithinTarget", fn := fun _ => fun
  | [d] => { results := [.lit (.bool true)], args := [d] }
  | _ => none }
def fnPercentIsGreatestGOGCKeepingGoalWithinTargetRow : OpenClaim := { program := "qxb6619380a", sum := "e9970a6533213c463a4a02a3ff1496ddd8f8fa98aadf95dd7fd8e7b4f1814318", func := "example.com/coppice/coppice/zzlaws_internal_heapfloor_b1.FnPercentIsGreatestGOGCKeepingGoalWithinTarget", spec := "fnPercentIsGreatestGOGCKeepingGoalWithinTarget", apart := false }
def FnPercentIsGreatestGOGCKeepingGoalWithinTargetSaid : Prop := fnPercentIsGreatestGOGCKeepingGoalWithinTargetRow.holds Try.pinned (OpenSpec.ofChange fnPercentIsGreatestGOGCKeepingGoalWithinTargetSpec)

/-- ITS FALSE NEIGHBOUR: 'it returns false'. Refute it at one input. -/
def fnPercentIsGreatestGOGCKeepingGoalWithinTargetWrong : ChangeSpec := { name := "fnPercentIsGreatestGOGCKeepingGoalWithinTarget", fn := fun _ => fun
  | [d] => { results := [.lit (.bool false)], args := [d] }
  | _ => none }
def FnPercentIsGreatestGOGCKeepingGoalWithinTargetWrongFalsely : Prop := fnPercentIsGreatestGOGCKeepingGoalWithinTargetRow.holds Try.pinned (OpenSpec.ofChange fnPercentIsGreatestGOGCKeepingGoalWithinTargetWrong)

/-- 'zzlaws_internal_heapfloor_b1.FnPercentGoalWithinGoDefaultBoundsAndFallsWithLive': WHATEVER THE INPUT: true; the input reads as it did. -/
def fnPercentGoalWithinGoDefaultBoundsAndFallsWithLiveSpec : ChangeSpec := { name := "fnPercentGoalWithinGoDefaultBoundsAndFallsWithLive", fn := fun _ => fun
  | [d1, d2] => { results := [.lit (.bool true)], args := [d1, d2] }
  | _ => none }
def fnPercentGoalWithinGoDefaultBoundsAndFallsWithLiveRow : OpenClaim := { program := "qxb6619380a", sum := "e9970a6533213c463a4a02a3ff1496ddd8f8fa98aadf95dd7fd8e7b4f1814318", func := "example.com/coppice/coppice/zzlaws_internal_heapfloor_b1.FnPercentGoalWithinGoDefaultBoundsAndFallsWithLive", spec := "fnPercentGoalWithinGoDefaultBoundsAndFallsWithLive", apart := false }
def FnPercentGoalWithinGoDefaultBoundsAndFallsWithLiveSaid : Prop := fnPercentGoalWithinGoDefaultBoundsAndFallsWithLiveRow.holds Try.pinned (OpenSpec.ofChange fnPercentGoalWithinGoDefaultBoundsAndFallsWithLiveSpec)

/-- ITS FALSE NEIGHBOUR: 'it returns false'. Refute it at one input. -/
def fnPercentGoalWithinGoDefaultBoundsAndFallsWithLiveWrong : ChangeSpec := { name := "fnPercentGoalWithinGoDefaultBoundsAndFallsWithLive", fn := fun _ => fun
  | [d1, d2] => { results := [.lit (.bool false)], args := [d1, d2] }
  | _ => none }
def FnPercentGoalWithinGoDefaultBoundsAndFallsWithLiveWrongFalsely : Prop := fnPercentGoalWithinGoDefaultBoundsAndFallsWithLiveRow.holds Try.pinned (OpenSpec.ofChange fnPercentGoalWithinGoDefaultBoundsAndFallsWithLiveWrong)

end Rows
end Go.Proofs.Qxb6619380a
