/-
  THE PROOF OF 'Rows.FnPodSizesIsLargestShareScaledSaid': the guide's frame (as the skeleton tool writes it for laws over slices) at this function's number and types; the walk stands in Qxb6617961aLawA.
-/
import Derived.Test.Qxb6617961aRows
import Derived.WalkKit
import Derived.ProofKit
import Derived.OpenShut
import Derived.ShutString
import Derived.ChangeOld
import Derived.Below
import Derived.Test.Qxb6617961aLawA
import Derived.Test.Qxb6617961aOpen
namespace Go.Proofs.Qxb6617961a.fnPodSizesIsLargestShareScaled
open Go.ChangeShapes Go.WideShapes Go.ChangeAt Go.RowKit
set_option linter.unusedVariables false

theorem own : ownKnob Try.prog.godebug = none := by kernel_rfl
theorem laidOut : laidOutB Try.prog = true := by kernel_rfl

set_option maxRecDepth 100000 in
theorem lifted (os : Os) (started : os.Started) (H : Type) (enc : TypeId × Value → H) :
    ReturnsInHanded {} Try.checked os 3 .any (Rows.fnPodSizesIsLargestShareScaledSpec.pre6 enc Try.prog Try.f3 Rows.fnPodSizesIsLargestShareScaledRow.domain false) (Rows.fnPodSizesIsLargestShareScaledSpec.post enc Try.prog Try.f3 false true false false) := by
  refine returnsInHanded_of_change (C := Try.checked) own started (by kernel_rfl) Try.func3
    (ChangeSpec.witness6 (enc := enc) (C := Try.checked) false ⟨#[], #[.slice none 0 0, .slice none 0 0], []⟩ 8 (by kernel_rfl) (by kernel_rfl) (by kernel_rfl) (by kernel_rfl)) ?_
  intro W base args ds gs before hval0 hW hcnd _
  have hval : ∀ (j : Nat) t v, Try.f3.params[j]? = some t → args[j]? = some v → Value.okWide Try.prog W .any base t v := hval0
  have hW' := hW
  obtain ⟨p, q, hA0, hV, rfl, hfz, hnd⟩ := hW
  have hA : DataW.TrodAll enc Try.prog W 0 (fun _ => true) true Try.f3.params.toList args.toList ds p := hA0
  rw [Try.params3] at hA hval
  obtain ⟨v0, vs0, d0, ds0, p0, q0, hargs, rfl, rfl, h0, r0⟩ := trodAll_cons hA
  obtain ⟨v1, vs1, d1, ds1, p1, q1, rfl, rfl, rfl, h1, r1⟩ := trodAll_cons r0
  obtain ⟨rfl, rfl, rfl⟩ := trodAll_nil r1
  obtain rfl : args = #[v0, v1] := by cases args; simp_all
  obtain ⟨rfl, rfl⟩ := trodVars_none hV
  obtain ⟨a0, len0, cap0, rfl⟩ := okWide_slice Try.underlying22 (hval 0 22 v0 rfl rfl)
  obtain ⟨a1, len1, cap1, rfl⟩ := okWide_slice Try.underlying23 (hval 1 23 v1 rfl rfl)
  have k0 := h0
  have k1 := h1
  have lt0 : ∀ x ∈ p0, x.block < W.heap.size := by obtain ⟨m, hm⟩ := k0; exact DataW.trod_lt m _ _ _ hm
  have lt1 : ∀ x ∈ p1, x.block < W.heap.size := by obtain ⟨m, hm⟩ := k1; exact DataW.trod_lt m _ _ _ hm
  obtain ⟨hm0, R, hR, okR⟩ : len0 ≤ maxLen ∧ ∃ R : Nat → RowD, RowsIn W a0 len0 R ∧ ∀ i, i < len0 → RowOk W (R i) := by
    obtain ⟨fuel, hf⟩ := h0
    exact open_rows (by simpa [Value.cells] using hf)
  obtain ⟨hm1, G, hG, okG⟩ : len1 ≤ maxLen ∧ ∃ G : Nat → GroupD, GroupsIn W a1 len1 G ∧ ∀ i, i < len1 → GrpOk W (G i) := by
    obtain ⟨fuel, hf⟩ := h1
    exact open_groups (by simpa [Value.cells] using hf)
  obtain ⟨C, hC⟩ := Go.Deep.choose_lt (α := Nat → Int) (n := len0) (p := fun i z => IsI (R i).cap z) (fun i hi => (okR i hi).2.2.2.2.1)
  obtain ⟨Q, hQ⟩ := Go.Deep.choose_lt (α := Nat → Int) (n := len1) (p := fun i z => IsI (G i).req z) (fun i hi => (okG i hi).2.2.2.2.2.2.1)
  clear hA0 hval0
  refine (law_walk a0 len0 cap0 R C a1 len1 cap1 G Q W hm0 hm1 hR hG hC hQ
    (fun i hi => by obtain ⟨z, hz⟩ := (okR i hi).2.2.2.2.2; exact hz.one)
    (fun i hi j hj => by obtain ⟨z, hz⟩ := (okG i hi).2.2.2.2.2.2.2.1; rw [hz j hj]; rfl)
    (fun i hi => by obtain ⟨z, hz⟩ := (okG i hi).2.2.2.2.2.2.2.2; exact hz.one)
    (fun i hi => ⟨(okR i hi).2.2.1, (okR i hi).2.2.2.1⟩) (fun i hi => ⟨(okG i hi).2.2.2.1, (okG i hi).2.2.2.2.1, (okG i hi).2.2.2.2.2.1⟩)).mono fun e W' ⟨he, bel⟩ => ?_
  subst he
  exact ⟨_, rfl, _, _, _, [], _, [], hW', trodAll_mk1 (shut_bool Try.underlying4 _), (trodAll_cons_mk (Below.trod laidOut (by kernel_rfl) (of_decide_eq_true (by kernel_rfl)) k0 bel lt0) (trodAll_cons_mk (Below.trod laidOut (by kernel_rfl) (of_decide_eq_true (by kernel_rfl)) k1 bel lt1) trodAll_mk0)), rfl, bel.frame _, fun h => by cases h⟩

theorem over : Rows.fnPodSizesIsLargestShareScaledRow.holds Try.pinned (OpenSpec.ofChange Rows.fnPodSizesIsLargestShareScaledSpec) :=
  OpenClaim.holds_of_wide 3 Try.f3 rfl rfl rfl rfl rfl rfl rfl ⟨rfl, rfl, rfl, rfl, rfl⟩ rfl rfl rfl rfl rfl (by kernel_rfl) Try.func3 (by kernel_rfl)
    (of_decide_eq_true (by kernel_rfl)) (by unfold Func.isWrapper; first | (rw [if_pos (by decide +kernel)]; kernel_rfl) | (rw [if_neg (by decide +kernel)]; exact ⟨rfl, rfl⟩))
    (fun os started H enc _ => lifted os started H enc)

/-- ████ THE STATEMENT ████ -/
theorem proved : Rows.FnPodSizesIsLargestShareScaledSaid :=
  over
#print axioms proved
end Go.Proofs.Qxb6617961a.fnPodSizesIsLargestShareScaled
