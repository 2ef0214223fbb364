import Derived.Test.Qxb6619380aWalksA
namespace Go.Proofs.Qxb6619380a
open Go.RowKit

theorem fits_yes {a g : Int} (a0 : 0 ≤ a) (a1 : a < 18446744073709551616) (g0 : 0 ≤ g) (g1 : g ≤ 1000) (h : gl a g ≤ tgt a) (w : World) :
    Calls Try.prog 6 #[.int .u64 a, .int .u64 g] w fun e w' => e = .returned (.bool true) ∧ Below w.heap.size w w' :=
  (fits_walk a g w a0 a1 g0 g1).mono fun e w' ⟨he, hb⟩ => ⟨by rw [he, leB_yes h], hb⟩
theorem fits_no {a g : Int} (a0 : 0 ≤ a) (a1 : a < 18446744073709551616) (g0 : 0 ≤ g) (g1 : g ≤ 1000) (h : ¬ gl a g ≤ tgt a) (w : World) :
    Calls Try.prog 6 #[.int .u64 a, .int .u64 g] w fun e w' => e = .returned (.bool false) ∧ Below w.heap.size w w' :=
  (fits_walk a g w a0 a1 g0 g1).mono fun e w' ⟨he, hb⟩ => ⟨by rw [he, leB_no h], hb⟩

set_option maxHeartbeats 400000 in
/-- ████ FnPercentIsGreatestGOGCKeepingGoalWithinTarget. -/
theorem greatest_walk (a : Int) (w : World) (a0 : 0 ≤ a) (a1 : a < 18446744073709551616) :
    Calls Try.prog 3 #[.int .u64 a] w fun e w' => e = .returned (.bool true) ∧ Below w.heap.size w w' := by
  obtain ⟨g1, g2, g3, g4⟩ := greatest a0
  obtain ⟨b1, b2⟩ := pct_bd a0
  have G4 : Hid (¬ gl a (pct a + 1) ≤ tgt a) := g4
  clear g4
  by_cases h : 8388608 < a
  · by_cases hr : 50 < pct a
    · have G3 : Hid (gl a (pct a) ≤ tgt a) := g3 (fun _ => hr) (fun h' => by omega)
      clear g1 g2 g3
      go_enter Try.func3, Try.ntmps3
      go_wp2_with fail
      refine (zz_walk a _ a0 a1).mono ?_; rintro e w' ⟨rfl, rfl⟩
      go_wp2_with fail
      refine (fits_yes a0 a1 (by omega) (by omega) G3.out _).mono ?_; rintro e w1 ⟨rfl, hb1⟩
      go_wp2_with fail
      refine (fits_no a0 a1 (by omega) (by omega) (Int.not_le.2 G4.out) _).mono ?_; rintro e w2 ⟨rfl, hb2⟩
      go_wp2_with fail
      go_ret
      exact ⟨rfl, below_on hb1 hb2⟩
    · clear g1 g2 g3
      go_enter Try.func3, Try.ntmps3
      go_wp2_with fail
      refine (zz_walk a _ a0 a1).mono ?_; rintro e w' ⟨rfl, rfl⟩
      go_wp2_with fail
      refine (fits_no a0 a1 (by omega) (by omega) (Int.not_le.2 G4.out) _).mono ?_; rintro e w2 ⟨rfl, hb2⟩
      go_wp2_with fail
      go_ret
      exact ⟨rfl, hb2⟩
  · have b3 := g2 (by omega)
    by_cases hr : 100 < pct a
    · have G3 : Hid (gl a (pct a) ≤ tgt a) := g3 (fun h' => by omega) (fun _ => hr)
      clear g1 g2 g3
      go_enter Try.func3, Try.ntmps3
      go_wp2_with fail
      refine (zz_walk a _ a0 a1).mono ?_; rintro e w' ⟨rfl, rfl⟩
      go_wp2_with fail
      refine (fits_yes a0 a1 (by omega) (by omega) G3.out _).mono ?_; rintro e w1 ⟨rfl, hb1⟩
      go_wp2_with fail
      refine (fits_no a0 a1 (by omega) (by omega) (Int.not_le.2 G4.out) _).mono ?_; rintro e w2 ⟨rfl, hb2⟩
      go_wp2_with fail
      go_ret
      exact ⟨rfl, below_on hb1 hb2⟩
    · clear g1 g2 g3
      go_enter Try.func3, Try.ntmps3
      go_wp2_with fail
      refine (zz_walk a _ a0 a1).mono ?_; rintro e w' ⟨rfl, rfl⟩
      go_wp2_with fail
      refine (fits_no a0 a1 (by omega) (by omega) (Int.not_le.2 G4.out) _).mono ?_; rintro e w2 ⟨rfl, hb2⟩
      go_wp2_with fail
      go_ret
      exact ⟨rfl, hb2⟩
end Go.Proofs.Qxb6619380a
