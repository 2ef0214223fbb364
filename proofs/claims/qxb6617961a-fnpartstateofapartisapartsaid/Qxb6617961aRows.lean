/-
  No cell of these rows narrows 'for every input' (looked for: loops, veiled, ifaces, maps, wideKeys, modest, calm, conditions, laid).
  DERIVED. THE GIVEN ROWS OF THIS SEAT. 2 by the template 'for every input the law returns true; each argument reads behind the call as it read before'; 0 by the template 'total and deterministic' (their statements: Qxb6617961aTotals.lean).
  GIVEN WITH THE SEED: the statements are not yours to turn. If you find one false, say at which input.
  Laid BY PROGRAM, IN A SANDBOX (cutbox-rows.mjs): the forced cells as the released guide's own fill.sh prints them over the translation c04f0426240dc364… (all of the seat's roots in one cut). By AI agents, Wed Nov 11 2026. No macro, syntax, notation, axiom, sorry.
-/
import Derived.Test.Qxb6617961aChecked
import GoSem.Claim
import GoSem.ClaimJoined
import GoSem.ClaimMapViews
import Derived.JoinedTies
import Derived.KernelRfl
namespace Go.Proofs.Qxb6617961a
/- THE CELL 'sum', in the pinned program and in every row, IS THE sha256 OF THE DUMP (.gsa) THAT Qxb6617961aProg.lean LOADS. Nothing in Lean hashes anything: it is a label: what it is worth is what the hold of that sum in a sandbox is worth. -/
noncomputable def Try.pinned : Pinned := { name := "qxb6617961a", sum := "c04f0426240dc3648a65f2d53714a9ac91293da717fe5fbed34a26e6d259abe2", checked := Try.checked }
namespace Rows
def none {H : Type} : Left H := { results := [], args := [] }

/-- 'zzlaws_internal_solve_b1.FnPodSizesIsLargestShareScaled': WHATEVER THE INPUT: true; the input reads as it did. -/
def fnPodSizesIsLargestShareScaledSpec : ChangeSpec := { name := "fnPodSizesIsLargestShareScaled", fn := fun _ => fun
  | [d1, d2] => { results := [.lit (.bool true)], args := [d1, d2] }
  | _ => none }
def fnPodSizesIsLargestShareScaledRow : OpenClaim := { program := "qxb6617961a", sum := "c04f0426240dc3648a65f2d53714a9ac91293da717fe5fbed34a26e6d259abe2", func := "example.com/thriftfit/thriftfit/zzlaws_internal_solve_b1.FnPodSizesIsLargestShareScaled", spec := "fnPodSizesIsLargestShareScaled", apart := false }
def FnPodSizesIsLargestShareScaledSaid : Prop := fnPodSizesIsLargestShareScaledRow.holds Try.pinned (OpenSpec.ofChange fnPodSizesIsLargestShareScaledSpec)

/-- ITS FALSE NEIGHBOUR: 'it returns false'. Refute it at one input. -/
def fnPodSizesIsLargestShareScaledWrong : ChangeSpec := { name := "fnPodSizesIsLargestShareScaled", fn := fun _ => fun
  | [d1, d2] => { results := [.lit (.bool false)], args := [d1, d2] }
  | _ => none }
def FnPodSizesIsLargestShareScaledWrongFalsely : Prop := fnPodSizesIsLargestShareScaledRow.holds Try.pinned (OpenSpec.ofChange fnPodSizesIsLargestShareScaledWrong)

/-- 'zzlaws_internal_solve_b1.FnPartStateOfAPartIsAPart': WHATEVER THE INPUT: true; the input reads as it did. -/
def fnPartStateOfAPartIsAPartSpec : ChangeSpec := { name := "fnPartStateOfAPartIsAPart", fn := fun _ => fun
  | [d1, d2, d3, d4, d5, d6, d7] => { results := [.lit (.bool true)], args := [d1, d2, d3, d4, d5, d6, d7] }
  | _ => none }
def fnPartStateOfAPartIsAPartRow : OpenClaim := { program := "qxb6617961a", sum := "c04f0426240dc3648a65f2d53714a9ac91293da717fe5fbed34a26e6d259abe2", func := "example.com/thriftfit/thriftfit/zzlaws_internal_solve_b1.FnPartStateOfAPartIsAPart", spec := "fnPartStateOfAPartIsAPart", apart := false }
def FnPartStateOfAPartIsAPartSaid : Prop := fnPartStateOfAPartIsAPartRow.holds Try.pinned (OpenSpec.ofChange fnPartStateOfAPartIsAPartSpec)

/-- ITS FALSE NEIGHBOUR: 'it returns false'. Refute it at one input. -/
def fnPartStateOfAPartIsAPartWrong : ChangeSpec := { name := "fnPartStateOfAPartIsAPart", fn := fun _ => fun
  | [d1, d2, d3, d4, d5, d6, d7] => { results := [.lit (.bool false)], args := [d1, d2, d3, d4, d5, d6, d7] }
  | _ => none }
def FnPartStateOfAPartIsAPartWrongFalsely : Prop := fnPartStateOfAPartIsAPartRow.holds Try.pinned (OpenSpec.ofChange fnPartStateOfAPartIsAPartWrong)

end Rows
end Go.Proofs.Qxb6617961a
