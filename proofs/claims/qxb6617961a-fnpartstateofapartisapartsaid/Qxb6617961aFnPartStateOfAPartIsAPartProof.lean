/-
  THE PROOF OF 'Rows.FnPartStateOfAPartIsAPartSaid': the guide's frame (as the skeleton tool writes it for laws over slices) at this function's number and types; the walk stands in Qxb6617961aLawB.
-/
import Derived.Test.Qxb6617961aRows
import Derived.WalkKit
import Derived.ProofKit
import Derived.OpenShut
import Derived.ShutString
import Derived.ChangeOld
import Derived.Below
import Derived.Test.Qxb6617961aLawB
import Derived.Test.Qxb6617961aOpen
namespace Go.Proofs.Qxb6617961a.fnPartStateOfAPartIsAPart
open Go.ChangeShapes Go.WideShapes Go.ChangeAt Go.RowKit
set_option linter.unusedVariables false

theorem own : ownKnob Try.prog.godebug = none := by kernel_rfl
theorem laidOut : laidOutB Try.prog = true := by kernel_rfl

set_option maxRecDepth 100000 in
theorem lifted (os : Os) (started : os.Started) (H : Type) (enc : TypeId × Value → H) :
    ReturnsInHanded {} Try.checked os 4 .any (Rows.fnPartStateOfAPartIsAPartSpec.pre6 enc Try.prog Try.f4 Rows.fnPartStateOfAPartIsAPartRow.domain false) (Rows.fnPartStateOfAPartIsAPartSpec.post enc Try.prog Try.f4 false true false false) := by
  refine returnsInHanded_of_change (C := Try.checked) own started (by kernel_rfl) Try.func4
    (ChangeSpec.witness6 (enc := enc) (C := Try.checked) false ⟨#[], #[.slice none 0 0, .slice none 0 0, .bool false, .slice none 0 0, .slice none 0 0, .slice none 0 0, .slice none 0 0], []⟩ 8 (by kernel_rfl) (by kernel_rfl) (by kernel_rfl) (by kernel_rfl)) ?_
  intro W base args ds gs before hval0 hW hcnd _
  have hval : ∀ (j : Nat) t v, Try.f4.params[j]? = some t → args[j]? = some v → Value.okWide Try.prog W .any base t v := hval0
  have hW' := hW
  obtain ⟨p, q, hA0, hV, rfl, hfz, hnd⟩ := hW
  have hA : DataW.TrodAll enc Try.prog W 0 (fun _ => true) true Try.f4.params.toList args.toList ds p := hA0
  rw [Try.params4] at hA hval
  obtain ⟨v0, vs0, d0, ds0, p0, q0, hargs, rfl, rfl, h0, r0⟩ := trodAll_cons hA
  obtain ⟨v1, vs1, d1, ds1, p1, q1, rfl, rfl, rfl, h1, r1⟩ := trodAll_cons r0
  obtain ⟨v2, vs2, d2, ds2, p2, q2, rfl, rfl, rfl, h2, r2⟩ := trodAll_cons r1
  obtain ⟨v3, vs3, d3, ds3, p3, q3, rfl, rfl, rfl, h3, r3⟩ := trodAll_cons r2
  obtain ⟨v4, vs4, d4, ds4, p4, q4, rfl, rfl, rfl, h4, r4⟩ := trodAll_cons r3
  obtain ⟨v5, vs5, d5, ds5, p5, q5, rfl, rfl, rfl, h5, r5⟩ := trodAll_cons r4
  obtain ⟨v6, vs6, d6, ds6, p6, q6, rfl, rfl, rfl, h6, r6⟩ := trodAll_cons r5
  obtain ⟨rfl, rfl, rfl⟩ := trodAll_nil r6
  obtain rfl : args = #[v0, v1, v2, v3, v4, v5, v6] := by cases args; simp_all
  obtain ⟨rfl, rfl⟩ := trodVars_none hV
  obtain ⟨a0, len0, cap0, rfl⟩ := okWide_slice Try.underlying22 (hval 0 22 v0 rfl rfl)
  obtain ⟨a1, len1, cap1, rfl⟩ := okWide_slice Try.underlying23 (hval 1 23 v1 rfl rfl)
  obtain ⟨a3, len3, cap3, rfl⟩ := okWide_slice Try.underlying40 (hval 3 40 v3 rfl rfl)
  obtain ⟨a4, len4, cap4, rfl⟩ := okWide_slice Try.underlying40 (hval 4 40 v4 rfl rfl)
  obtain ⟨a5, len5, cap5, rfl⟩ := okWide_slice Try.underlying40 (hval 5 40 v5 rfl rfl)
  obtain ⟨a6, len6, cap6, rfl⟩ := okWide_slice Try.underlying40 (hval 6 40 v6 rfl rfl)
  have k0 := h0
  have k1 := h1
  have k2 := h2
  have k3 := h3
  have k4 := h4
  have k5 := h5
  have k6 := h6
  have lt0 : ∀ x ∈ p0, x.block < W.heap.size := by obtain ⟨m, hm⟩ := k0; exact DataW.trod_lt m _ _ _ hm
  have lt1 : ∀ x ∈ p1, x.block < W.heap.size := by obtain ⟨m, hm⟩ := k1; exact DataW.trod_lt m _ _ _ hm
  have lt2 : ∀ x ∈ p2, x.block < W.heap.size := by obtain ⟨m, hm⟩ := k2; exact DataW.trod_lt m _ _ _ hm
  have lt3 : ∀ x ∈ p3, x.block < W.heap.size := by obtain ⟨m, hm⟩ := k3; exact DataW.trod_lt m _ _ _ hm
  have lt4 : ∀ x ∈ p4, x.block < W.heap.size := by obtain ⟨m, hm⟩ := k4; exact DataW.trod_lt m _ _ _ hm
  have lt5 : ∀ x ∈ p5, x.block < W.heap.size := by obtain ⟨m, hm⟩ := k5; exact DataW.trod_lt m _ _ _ hm
  have lt6 : ∀ x ∈ p6, x.block < W.heap.size := by obtain ⟨m, hm⟩ := k6; exact DataW.trod_lt m _ _ _ hm
  obtain ⟨hm0, R, hR, okR⟩ : len0 ≤ maxLen ∧ ∃ R : Nat → RowD, RowsIn W a0 len0 R ∧ ∀ i, i < len0 → RowOk W (R i) := by
    obtain ⟨fuel, hf⟩ := h0
    exact open_rows (by simpa [Value.cells] using hf)
  obtain ⟨hm1, G, hG, okG⟩ : len1 ≤ maxLen ∧ ∃ G : Nat → GroupD, GroupsIn W a1 len1 G ∧ ∀ i, i < len1 → GrpOk W (G i) := by
    obtain ⟨fuel, hf⟩ := h1
    exact open_groups (by simpa [Value.cells] using hf)
  obtain ⟨bd, rfl⟩ := okWide_bool Try.underlying4 (hval 2 4 v2 rfl rfl)
  obtain ⟨g1, hg1, j1, m1, y1, z1⟩ : ∃ s : SL, Value.slice a3 len3 cap3 = s.val ∧ s.In W ∧ s.len ≤ maxLen ∧ ∃ z, IsI s z := by
    obtain ⟨fuel, hf⟩ := h3
    exact open_I Try.underlying40 Try.underlying3 cells3 (by simpa [Value.cells] using hf)
  obtain ⟨r1, hr1, j2, m2, x1, z2⟩ : ∃ s : SL, Value.slice a4 len4 cap4 = s.val ∧ s.In W ∧ s.len ≤ maxLen ∧ ∃ z, IsI s z := by
    obtain ⟨fuel, hf⟩ := h4
    exact open_I Try.underlying40 Try.underlying3 cells3 (by simpa [Value.cells] using hf)
  obtain ⟨g2, hg2, j3, m3, y2, z3⟩ : ∃ s : SL, Value.slice a5 len5 cap5 = s.val ∧ s.In W ∧ s.len ≤ maxLen ∧ ∃ z, IsI s z := by
    obtain ⟨fuel, hf⟩ := h5
    exact open_I Try.underlying40 Try.underlying3 cells3 (by simpa [Value.cells] using hf)
  obtain ⟨s2, hs2, j4, m4, x2, z4⟩ : ∃ s : SL, Value.slice a6 len6 cap6 = s.val ∧ s.In W ∧ s.len ≤ maxLen ∧ ∃ z, IsI s z := by
    obtain ⟨fuel, hf⟩ := h6
    exact open_I Try.underlying40 Try.underlying3 cells3 (by simpa [Value.cells] using hf)
  obtain ⟨C, hC⟩ := Go.Deep.choose_lt (α := Nat → Int) (n := len0) (p := fun i z => IsI (R i).cap z) (fun i hi => (okR i hi).2.2.2.2.1)
  obtain ⟨A, hAl⟩ := Go.Deep.choose_lt (α := Nat → Int) (n := len0) (p := fun i z => IsI (R i).alc z) (fun i hi => (okR i hi).2.2.2.2.2)
  obtain ⟨Q, hQ⟩ := Go.Deep.choose_lt (α := Nat → Int) (n := len1) (p := fun i z => IsI (G i).req z) (fun i hi => (okG i hi).2.2.2.2.2.2.1)
  obtain ⟨Bz, hBz⟩ := Go.Deep.choose_lt (α := Nat → Bool) (n := len1) (p := fun i z => IsB (G i).rows z) (fun i hi => (okG i hi).2.2.2.2.2.2.2.1)
  obtain ⟨Az, hAz⟩ := Go.Deep.choose_lt (α := Nat → Int) (n := len1) (p := fun i z => IsI (G i).apart z) (fun i hi => (okG i hi).2.2.2.2.2.2.2.2)
  clear hA0 hval0
  have hcall := law4_walk a0 len0 cap0 R C A a1 len1 cap1 G Q Az Bz bd g1 r1 g2 s2 y1 x1 y2 x2 W hm0 hm1 hR hG hC hAl hQ hBz hAz
    (fun i hi => ⟨(okR i hi).2.2.1, (okR i hi).2.2.2.1⟩) (fun i hi => ⟨(okG i hi).2.2.2.1, (okG i hi).2.2.2.2.1, (okG i hi).2.2.2.2.2.1⟩) j1 j2 j3 j4 z1 z2 z3 z4 m1 m2 m3 m4
  rw [← hg1, ← hr1, ← hg2, ← hs2] at hcall
  refine hcall.mono fun e W' ⟨he, bel⟩ => ?_
  subst he
  exact ⟨_, rfl, _, _, _, [], _, [], hW', trodAll_mk1 (shut_bool Try.underlying4 _), (trodAll_cons_mk (Below.trod laidOut (by kernel_rfl) (of_decide_eq_true (by kernel_rfl)) k0 bel lt0) (trodAll_cons_mk (Below.trod laidOut (by kernel_rfl) (of_decide_eq_true (by kernel_rfl)) k1 bel lt1) (trodAll_cons_mk (Below.trod laidOut (by kernel_rfl) (of_decide_eq_true (by kernel_rfl)) k2 bel lt2) (trodAll_cons_mk (Below.trod laidOut (by kernel_rfl) (of_decide_eq_true (by kernel_rfl)) k3 bel lt3) (trodAll_cons_mk (Below.trod laidOut (by kernel_rfl) (of_decide_eq_true (by kernel_rfl)) k4 bel lt4) (trodAll_cons_mk (Below.trod laidOut (by kernel_rfl) (of_decide_eq_true (by kernel_rfl)) k5 bel lt5) (trodAll_cons_mk (Below.trod laidOut (by kernel_rfl) (of_decide_eq_true (by kernel_rfl)) k6 bel lt6) trodAll_mk0))))))), rfl, bel.frame _, fun h => by cases h⟩

theorem over : Rows.fnPartStateOfAPartIsAPartRow.holds Try.pinned (OpenSpec.ofChange Rows.fnPartStateOfAPartIsAPartSpec) :=
  OpenClaim.holds_of_wide 4 Try.f4 rfl rfl rfl rfl rfl rfl rfl ⟨rfl, rfl, rfl, rfl, rfl⟩ rfl rfl rfl rfl rfl (by kernel_rfl) Try.func4 (by kernel_rfl)
    (of_decide_eq_true (by kernel_rfl)) (by unfold Func.isWrapper; first | (rw [if_pos (by decide +kernel)]; kernel_rfl) | (rw [if_neg (by decide +kernel)]; exact ⟨rfl, rfl⟩))
    (fun os started H enc _ => lifted os started H enc)

/-- ████ THE STATEMENT ████ -/
theorem proved : Rows.FnPartStateOfAPartIsAPartSaid :=
  over
#print axioms proved
end Go.Proofs.Qxb6617961a.fnPartStateOfAPartIsAPart
