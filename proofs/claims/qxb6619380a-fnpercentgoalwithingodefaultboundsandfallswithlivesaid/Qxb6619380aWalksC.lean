import Derived.Test.Qxb6619380aWalksB
import Derived.Deep.RegionHeld3
import Derived.Deep.QuietTactic
import Derived.BigQuiet
namespace Go.Proofs.Qxb6619380a
open Go.RowKit

/-- A cell that is there stays behind a call. -/
theorem cell_on {W w' : World} (hb : Below W.heap.size W w') {b o : Nat} {v : Value} (h : W.cell? ⟨b, o, none⟩ = some v) : w'.cell? ⟨b, o, none⟩ = some v :=
  (hb.cell (p := ⟨b, o, none⟩) (World.block_lt_of_cell? W ⟨b, o, none⟩ h)).trans h

theorem cell_alloc {w : World} {b o : Nat} {v : Value} (h : w.cell? ⟨b, o, none⟩ = some v) (X : Obj) : (w.alloc X).cell? ⟨b, o, none⟩ = some v :=
  cell_on ((Below.refl w.heap.size w).alloc (Nat.le_refl _) X) h
theorem new0 (w : World) (a b : Value) (t : TypeId) : (w.alloc (.cells #[a, b] t)).cell? ⟨w.heap.size, 0, none⟩ = some a := by simp [go_sem]
theorem new1 (w : World) (a b : Value) (t : TypeId) : (w.alloc (.cells #[a, b] t)).cell? ⟨w.heap.size, 1, none⟩ = some b := by simp [go_sem]

theorem keep6 {w0 : World} {B1 B2 B3 : Nat} {g0 g1 d0 d1 h0 h1 : Value} {W w' : World} (hb : Below W.heap.size W w')
    (hS : W.cell? ⟨B1, 0, none⟩ = some g0 ∧ W.cell? ⟨B1, 1, none⟩ = some g1 ∧ W.cell? ⟨B2, 0, none⟩ = some d0 ∧ W.cell? ⟨B2, 1, none⟩ = some d1 ∧ W.cell? ⟨B3, 0, none⟩ = some h0 ∧ W.cell? ⟨B3, 1, none⟩ = some h1 ∧ Below w0.heap.size w0 W) :
    w'.cell? ⟨B1, 0, none⟩ = some g0 ∧ w'.cell? ⟨B1, 1, none⟩ = some g1 ∧ w'.cell? ⟨B2, 0, none⟩ = some d0 ∧ w'.cell? ⟨B2, 1, none⟩ = some d1 ∧ w'.cell? ⟨B3, 0, none⟩ = some h0 ∧ w'.cell? ⟨B3, 1, none⟩ = some h1 ∧ Below w0.heap.size w0 w' := by
  obtain ⟨a, b, c, d, e, f, g⟩ := hS
  exact ⟨cell_on hb a, cell_on hb b, cell_on hb c, cell_on hb d, cell_on hb e, cell_on hb f, below_call hb g⟩

theorem draw6 {w0 : World} {B1 B2 B3 : Nat} {g0 g1 d0 d1 h0 h1 : Value} {W : World}
    (hS : W.cell? ⟨B1, 0, none⟩ = some g0 ∧ W.cell? ⟨B1, 1, none⟩ = some g1 ∧ W.cell? ⟨B2, 0, none⟩ = some d0 ∧ W.cell? ⟨B2, 1, none⟩ = some d1 ∧ W.cell? ⟨B3, 0, none⟩ = some h0 ∧ W.cell? ⟨B3, 1, none⟩ = some h1 ∧ Below w0.heap.size w0 W) :
    W.drew.cell? ⟨B1, 0, none⟩ = some g0 ∧ W.drew.cell? ⟨B1, 1, none⟩ = some g1 ∧ W.drew.cell? ⟨B2, 0, none⟩ = some d0 ∧ W.drew.cell? ⟨B2, 1, none⟩ = some d1 ∧ W.drew.cell? ⟨B3, 0, none⟩ = some h0 ∧ W.drew.cell? ⟨B3, 1, none⟩ = some h1 ∧ Below w0.heap.size w0 W.drew := by
  obtain ⟨a, b, c, d, e, f, g⟩ := hS
  exact ⟨a, b, c, d, e, f, g.drew⟩

theorem last6 {w0 : World} {B1 B2 B3 : Nat} {g0 g1 d0 d1 h0 h1 : Value} {W : World}
    (hS : W.cell? ⟨B1, 0, none⟩ = some g0 ∧ W.cell? ⟨B1, 1, none⟩ = some g1 ∧ W.cell? ⟨B2, 0, none⟩ = some d0 ∧ W.cell? ⟨B2, 1, none⟩ = some d1 ∧ W.cell? ⟨B3, 0, none⟩ = some h0 ∧ W.cell? ⟨B3, 1, none⟩ = some h1 ∧ Below w0.heap.size w0 W) (n : Nat) : Below w0.heap.size w0 (W.drewN n) := below_drewN hS.2.2.2.2.2.2 n

theorem start6 {w w1 w2 w3 w4 w5 : World} {g0 g1 d0 d1 h0 h1 : Value} {t : TypeId} (hb1 : Below w.heap.size w w1) (hb2 : Below (w1.alloc (.cells #[g0, g1] t)).heap.size (w1.alloc (.cells #[g0, g1] t)) w2)
    (hb3 : Below w2.heap.size w2 w3) (hb4 : Below w3.heap.size w3 w4) (hb5 : Below (w4.alloc (.cells #[d0, d1] t)).heap.size (w4.alloc (.cells #[d0, d1] t)) w5) :
    (w5.alloc (.cells #[h0, h1] t)).cell? ⟨w1.heap.size, 0, none⟩ = some g0 ∧ (w5.alloc (.cells #[h0, h1] t)).cell? ⟨w1.heap.size, 1, none⟩ = some g1 ∧
    (w5.alloc (.cells #[h0, h1] t)).cell? ⟨w4.heap.size, 0, none⟩ = some d0 ∧ (w5.alloc (.cells #[h0, h1] t)).cell? ⟨w4.heap.size, 1, none⟩ = some d1 ∧
    (w5.alloc (.cells #[h0, h1] t)).cell? ⟨w5.heap.size, 0, none⟩ = some h0 ∧ (w5.alloc (.cells #[h0, h1] t)).cell? ⟨w5.heap.size, 1, none⟩ = some h1 ∧ Below w.heap.size w (w5.alloc (.cells #[h0, h1] t)) := by
  have f : ∀ {o v}, (w1.alloc (.cells #[g0, g1] t)).cell? ⟨w1.heap.size, o, none⟩ = some v → (w5.alloc (.cells #[h0, h1] t)).cell? ⟨w1.heap.size, o, none⟩ = some v := fun h =>
    cell_alloc (cell_on hb5 (cell_alloc (cell_on hb4 (cell_on hb3 (cell_on hb2 h))) _)) _
  have k : ∀ {o v}, (w4.alloc (.cells #[d0, d1] t)).cell? ⟨w4.heap.size, o, none⟩ = some v → (w5.alloc (.cells #[h0, h1] t)).cell? ⟨w4.heap.size, o, none⟩ = some v := fun h =>
    cell_alloc (cell_on hb5 h) _
  have b5 : Below w.heap.size w w5 := below_call hb5 ((below_call hb4 (below_call hb3 (below_call hb2 (hb1.alloc hb1.size _)))).alloc (Nat.le_trans (Nat.le_trans (Nat.le_trans (Nat.le_trans hb1.size (by simp)) hb2.size) hb3.size) hb4.size) _)
  exact ⟨f (new0 _ _ _ _), f (new1 _ _ _ _), k (new0 _ _ _ _), k (new1 _ _ _ _), new0 _ _ _ _, new1 _ _ _ _, b5.alloc b5.size _⟩

theorem mul_is {a b V : Int} (h : a * b = V) (w : World) (a0 : 0 ≤ a) (a1 : a < 18446744073709551616) (b0 : 0 ≤ b) (b1 : b < 18446744073709551616) :
    Calls Try.prog 13 #[.int .u64 a, .int .u64 b] w fun e w' => e = .returned (W2 V) ∧ Below w.heap.size w w' := by
  subst h; exact mul_walk a b w a0 a1 b0 b1

/-- A number whose sums with its like stay within two words. -/
def Fit (U : Int) : Prop := 0 ≤ U ∧ U < 400 * 18446744073709551616
theorem add_fit (U V : Int) (w : World) (hu : Fit U) (hv : Fit V) : Calls Try.prog 14 #[W2 U, W2 V] w fun e w' => e = .returned (W2 (U + V)) ∧ Below w.heap.size w w' := by
  obtain ⟨u0, u1⟩ := hu
  obtain ⟨v0, v1⟩ := hv
  exact add_walk U V w u0 v0 (by unfold hi; omega)

theorem gl_bd {x r : Int} (x0 : 0 ≤ x) (x1 : x < 18446744073709551616) (r0 : 50 ≤ r) (r1 : r ≤ 200) : Fit (gl x r) := by
  unfold Fit gl mx
  have a : x * (100 + r) ≤ x * 300 := Int.mul_le_mul_of_nonneg_left (by omega) x0
  have b : 0 ≤ x * (100 + r) := Int.mul_nonneg x0 (by omega)
  split <;> omega
theorem dflt_bd {x : Int} (x0 : 0 ≤ x) (x1 : x < 18446744073709551616) : Fit (dflt x) := by
  unfold Fit dflt mx
  split <;> omega

set_option maxHeartbeats 1000000 in
/-- goalWithinDefaultBounds, at x <= Floor. -/
theorem within_1 (x r : Int) (w : World) (x0 : 0 ≤ x) (x1 : x < 18446744073709551616) (r0 : 50 ≤ r) (r1 : r ≤ 200)
    (c1 : gl x r ≤ dflt x + 419430400) (c2 : dflt x + x * 100 ≤ gl x r + gl x r) (h : x ≤ 8388608) :
    Calls Try.prog 7 #[.int .u64 x, .int .i64 r] w fun e w' => e = .returned (.bool true) ∧ Below w.heap.size w w' := by
  have C1 : Hid (gl x r ≤ dflt x + 419430400) := c1
  have C2 : Hid (dflt x + x * 100 ≤ gl x r + gl x r) := c2
  clear c1 c2
  have BG := gl_bd x0 x1 r0 r1
  have BD := dflt_bd x0 x1
  have BX : Fit (x * 100) := by unfold Fit; omega
  have BK : Fit 419430400 := by unfold Fit; omega
  have hd : decide (16777216 ≤ x) = false := by rw [decide_eq_false_iff_not]; omega
  go_enter Try.func7, Try.ntmps7
  go_wp2_with fail
  refine (goal_walk x r _ x0 x1 (by omega) (by omega)).mono ?_; rintro e w1 ⟨rfl, hb1⟩
  go_wp2_with fail
  refine (mul_walk x 200 _ x0 x1 (by omega) (by omega)).mono ?_; rintro e w2 ⟨rfl, hb2⟩
  go_wp2_with fail
  refine (mul_is (V := 419430400) rfl _ (by omega) (by omega) (by omega) (by omega)).mono ?_; rintro e w3 ⟨rfl, hb3⟩
  go_wp2_with fail
  refine (max_walk _ _ _).mono ?_; rintro e w4 ⟨rfl, hb4⟩
  have ed : mx (x * 200) 419430400 = dflt x := rfl
  rw [ed]
  go_wp2_with fail
  refine (mul_walk x 100 _ x0 x1 (by omega) (by omega)).mono ?_; rintro e w5 ⟨rfl, hb5⟩
  go_wp2_with fail
  have hS := start6 (h0 := .int .u64 (hi (x * 100))) (h1 := .int .u64 (lo (x * 100))) hb1 hb2 hb3 hb4 hb5
  clear hb1 hb2 hb3 hb4 hb5 ed
  generalize w5.alloc (Obj.cells #[Value.int IntKind.u64 (hi (x * 100)), Value.int IntKind.u64 (lo (x * 100))] 29) = W at *
  generalize w1.heap.size = B1 at *
  generalize w4.heap.size = B2 at *
  generalize w5.heap.size = B3 at *
  go_region_held3 (fun w' => w'.cell? ⟨B1, 0, none⟩ = some (.int .u64 (hi (gl x r))) ∧ w'.cell? ⟨B1, 1, none⟩ = some (.int .u64 (lo (gl x r))) ∧ w'.cell? ⟨B2, 0, none⟩ = some (.int .u64 (hi (dflt x))) ∧ w'.cell? ⟨B2, 1, none⟩ = some (.int .u64 (lo (dflt x))) ∧ w'.cell? ⟨B3, 0, none⟩ = some (.int .u64 (hi (x * 100))) ∧ w'.cell? ⟨B3, 1, none⟩ = some (.int .u64 (lo (x * 100))) ∧ Below w.heap.size w w')
    (first | exact draw6 (by assumption) | exact keep6 (by assumption) (by assumption))
    (first
      | (go_at_call 13; refine (mul_is (V := 419430400) rfl _ (by omega) (by omega) (by omega) (by omega)).mono ?_; rintro e w' ⟨rfl, hb⟩)
      | (go_at_call 14; refine (add_fit (dflt x) 419430400 _ BD BK).mono ?_; rintro e w' ⟨rfl, hb⟩)
      | (go_at_call 9; refine (le_yes C1.out _).mono ?_; rintro e w' ⟨rfl, hb⟩))
  go_wp2_with fail
  go_region_held3 (fun w' => w'.cell? ⟨B1, 0, none⟩ = some (.int .u64 (hi (gl x r))) ∧ w'.cell? ⟨B1, 1, none⟩ = some (.int .u64 (lo (gl x r))) ∧ w'.cell? ⟨B2, 0, none⟩ = some (.int .u64 (hi (dflt x))) ∧ w'.cell? ⟨B2, 1, none⟩ = some (.int .u64 (lo (dflt x))) ∧ w'.cell? ⟨B3, 0, none⟩ = some (.int .u64 (hi (x * 100))) ∧ w'.cell? ⟨B3, 1, none⟩ = some (.int .u64 (lo (x * 100))) ∧ Below w.heap.size w w')
    (first | exact draw6 (by assumption) | exact keep6 (by assumption) (by assumption))
    (first
      | (go_at_call 14; refine (add_fit _ _ _ (by first | exact BD | exact BG) (by first | exact BX | exact BG)).mono ?_; rintro e w' ⟨rfl, hb⟩)
      | (go_at_call 9; refine (le_yes C2.out _).mono ?_; rintro e w' ⟨rfl, hb⟩))
  go_wp2_with fail
  go_quiet (fail)
  go_wp2_with fail
  go_ret
  exact ⟨rfl, last6 (by assumption) _⟩

set_option maxHeartbeats 1000000 in
/-- goalWithinDefaultBounds, at Floor < x < 2 Floor. -/
theorem within_2 (x r : Int) (w : World) (x0 : 0 ≤ x) (x1 : x < 18446744073709551616) (r0 : 50 ≤ r) (r1 : r ≤ 200)
    (c1 : gl x r ≤ dflt x + 419430400) (c2 : dflt x + x * 100 ≤ gl x r + gl x r) (c3 : gl x r ≤ dflt x) (h : 8388608 < x) (h' : x < 16777216) :
    Calls Try.prog 7 #[.int .u64 x, .int .i64 r] w fun e w' => e = .returned (.bool true) ∧ Below w.heap.size w w' := by
  have C1 : Hid (gl x r ≤ dflt x + 419430400) := c1
  have C2 : Hid (dflt x + x * 100 ≤ gl x r + gl x r) := c2
  have C3 : Hid (gl x r ≤ dflt x) := c3
  clear c1 c2 c3
  have BG := gl_bd x0 x1 r0 r1
  have BD := dflt_bd x0 x1
  have BX : Fit (x * 100) := by unfold Fit; omega
  have BK : Fit 419430400 := by unfold Fit; omega
  have hd : decide (16777216 ≤ x) = false := by rw [decide_eq_false_iff_not]; omega
  go_enter Try.func7, Try.ntmps7
  go_wp2_with fail
  refine (goal_walk x r _ x0 x1 (by omega) (by omega)).mono ?_; rintro e w1 ⟨rfl, hb1⟩
  go_wp2_with fail
  refine (mul_walk x 200 _ x0 x1 (by omega) (by omega)).mono ?_; rintro e w2 ⟨rfl, hb2⟩
  go_wp2_with fail
  refine (mul_is (V := 419430400) rfl _ (by omega) (by omega) (by omega) (by omega)).mono ?_; rintro e w3 ⟨rfl, hb3⟩
  go_wp2_with fail
  refine (max_walk _ _ _).mono ?_; rintro e w4 ⟨rfl, hb4⟩
  have ed : mx (x * 200) 419430400 = dflt x := rfl
  rw [ed]
  go_wp2_with fail
  refine (mul_walk x 100 _ x0 x1 (by omega) (by omega)).mono ?_; rintro e w5 ⟨rfl, hb5⟩
  go_wp2_with fail
  have hS := start6 (h0 := .int .u64 (hi (x * 100))) (h1 := .int .u64 (lo (x * 100))) hb1 hb2 hb3 hb4 hb5
  clear hb1 hb2 hb3 hb4 hb5 ed
  generalize w5.alloc (Obj.cells #[Value.int IntKind.u64 (hi (x * 100)), Value.int IntKind.u64 (lo (x * 100))] 29) = W at *
  generalize w1.heap.size = B1 at *
  generalize w4.heap.size = B2 at *
  generalize w5.heap.size = B3 at *
  go_region_held3 (fun w' => w'.cell? ⟨B1, 0, none⟩ = some (.int .u64 (hi (gl x r))) ∧ w'.cell? ⟨B1, 1, none⟩ = some (.int .u64 (lo (gl x r))) ∧ w'.cell? ⟨B2, 0, none⟩ = some (.int .u64 (hi (dflt x))) ∧ w'.cell? ⟨B2, 1, none⟩ = some (.int .u64 (lo (dflt x))) ∧ w'.cell? ⟨B3, 0, none⟩ = some (.int .u64 (hi (x * 100))) ∧ w'.cell? ⟨B3, 1, none⟩ = some (.int .u64 (lo (x * 100))) ∧ Below w.heap.size w w')
    (first | exact draw6 (by assumption) | exact keep6 (by assumption) (by assumption))
    (first
      | (go_at_call 13; refine (mul_is (V := 419430400) rfl _ (by omega) (by omega) (by omega) (by omega)).mono ?_; rintro e w' ⟨rfl, hb⟩)
      | (go_at_call 14; refine (add_fit (dflt x) 419430400 _ BD BK).mono ?_; rintro e w' ⟨rfl, hb⟩)
      | (go_at_call 9; refine (le_yes C1.out _).mono ?_; rintro e w' ⟨rfl, hb⟩))
  go_wp2_with fail
  go_region_held3 (fun w' => w'.cell? ⟨B1, 0, none⟩ = some (.int .u64 (hi (gl x r))) ∧ w'.cell? ⟨B1, 1, none⟩ = some (.int .u64 (lo (gl x r))) ∧ w'.cell? ⟨B2, 0, none⟩ = some (.int .u64 (hi (dflt x))) ∧ w'.cell? ⟨B2, 1, none⟩ = some (.int .u64 (lo (dflt x))) ∧ w'.cell? ⟨B3, 0, none⟩ = some (.int .u64 (hi (x * 100))) ∧ w'.cell? ⟨B3, 1, none⟩ = some (.int .u64 (lo (x * 100))) ∧ Below w.heap.size w w')
    (first | exact draw6 (by assumption) | exact keep6 (by assumption) (by assumption))
    (first
      | (go_at_call 14; refine (add_fit _ _ _ (by first | exact BD | exact BG) (by first | exact BX | exact BG)).mono ?_; rintro e w' ⟨rfl, hb⟩)
      | (go_at_call 9; refine (le_yes C2.out _).mono ?_; rintro e w' ⟨rfl, hb⟩))
  have hS5 := ‹w'.cell? ⟨B1, 0, none⟩ = some (.int .u64 (hi (gl x r))) ∧ _›
  obtain ⟨q1, q2, q3, q4, q5, q6, q7⟩ := hS5
  go_wp2_with fail
  refine (le_yes C3.out _).mono ?_; rintro e w6 ⟨rfl, hb6⟩
  have hS6 := keep6 hb6 ⟨q1, q2, q3, q4, q5, q6, q7⟩
  go_wp2_with fail
  go_quiet (fail)
  go_wp2_with fail
  go_ret
  exact ⟨rfl, last6 hS6 _⟩

set_option maxHeartbeats 1000000 in
/-- goalWithinDefaultBounds, from 2 Floor on. -/
theorem within_3 (x r : Int) (w : World) (x0 : 0 ≤ x) (x1 : x < 18446744073709551616) (r0 : 50 ≤ r) (r1 : r ≤ 200)
    (c1 : gl x r ≤ dflt x + 419430400) (c2 : dflt x + x * 100 ≤ gl x r + gl x r) (c3 : gl x r ≤ dflt x) (c4 : gl x r + gl x r ≤ dflt x + x * 100) (h' : 16777216 ≤ x) :
    Calls Try.prog 7 #[.int .u64 x, .int .i64 r] w fun e w' => e = .returned (.bool true) ∧ Below w.heap.size w w' := by
  have C1 : Hid (gl x r ≤ dflt x + 419430400) := c1
  have C2 : Hid (dflt x + x * 100 ≤ gl x r + gl x r) := c2
  have C3 : Hid (gl x r ≤ dflt x) := c3
  have C4 : Hid (gl x r + gl x r ≤ dflt x + x * 100) := c4
  clear c1 c2 c3 c4
  have BG := gl_bd x0 x1 r0 r1
  have BD := dflt_bd x0 x1
  have BX : Fit (x * 100) := by unfold Fit; omega
  have BK : Fit 419430400 := by unfold Fit; omega
  have hd : decide (16777216 ≤ x) = true := by rw [decide_eq_true_eq]; omega
  go_enter Try.func7, Try.ntmps7
  go_wp2_with fail
  refine (goal_walk x r _ x0 x1 (by omega) (by omega)).mono ?_; rintro e w1 ⟨rfl, hb1⟩
  go_wp2_with fail
  refine (mul_walk x 200 _ x0 x1 (by omega) (by omega)).mono ?_; rintro e w2 ⟨rfl, hb2⟩
  go_wp2_with fail
  refine (mul_is (V := 419430400) rfl _ (by omega) (by omega) (by omega) (by omega)).mono ?_; rintro e w3 ⟨rfl, hb3⟩
  go_wp2_with fail
  refine (max_walk _ _ _).mono ?_; rintro e w4 ⟨rfl, hb4⟩
  have ed : mx (x * 200) 419430400 = dflt x := rfl
  rw [ed]
  go_wp2_with fail
  refine (mul_walk x 100 _ x0 x1 (by omega) (by omega)).mono ?_; rintro e w5 ⟨rfl, hb5⟩
  go_wp2_with fail
  have hS := start6 (h0 := .int .u64 (hi (x * 100))) (h1 := .int .u64 (lo (x * 100))) hb1 hb2 hb3 hb4 hb5
  clear hb1 hb2 hb3 hb4 hb5 ed
  generalize w5.alloc (Obj.cells #[Value.int IntKind.u64 (hi (x * 100)), Value.int IntKind.u64 (lo (x * 100))] 29) = W at *
  generalize w1.heap.size = B1 at *
  generalize w4.heap.size = B2 at *
  generalize w5.heap.size = B3 at *
  go_region_held3 (fun w' => w'.cell? ⟨B1, 0, none⟩ = some (.int .u64 (hi (gl x r))) ∧ w'.cell? ⟨B1, 1, none⟩ = some (.int .u64 (lo (gl x r))) ∧ w'.cell? ⟨B2, 0, none⟩ = some (.int .u64 (hi (dflt x))) ∧ w'.cell? ⟨B2, 1, none⟩ = some (.int .u64 (lo (dflt x))) ∧ w'.cell? ⟨B3, 0, none⟩ = some (.int .u64 (hi (x * 100))) ∧ w'.cell? ⟨B3, 1, none⟩ = some (.int .u64 (lo (x * 100))) ∧ Below w.heap.size w w')
    (first | exact draw6 (by assumption) | exact keep6 (by assumption) (by assumption))
    (first
      | (go_at_call 13; refine (mul_is (V := 419430400) rfl _ (by omega) (by omega) (by omega) (by omega)).mono ?_; rintro e w' ⟨rfl, hb⟩)
      | (go_at_call 14; refine (add_fit (dflt x) 419430400 _ BD BK).mono ?_; rintro e w' ⟨rfl, hb⟩)
      | (go_at_call 9; refine (le_yes C1.out _).mono ?_; rintro e w' ⟨rfl, hb⟩))
  go_wp2_with fail
  go_region_held3 (fun w' => w'.cell? ⟨B1, 0, none⟩ = some (.int .u64 (hi (gl x r))) ∧ w'.cell? ⟨B1, 1, none⟩ = some (.int .u64 (lo (gl x r))) ∧ w'.cell? ⟨B2, 0, none⟩ = some (.int .u64 (hi (dflt x))) ∧ w'.cell? ⟨B2, 1, none⟩ = some (.int .u64 (lo (dflt x))) ∧ w'.cell? ⟨B3, 0, none⟩ = some (.int .u64 (hi (x * 100))) ∧ w'.cell? ⟨B3, 1, none⟩ = some (.int .u64 (lo (x * 100))) ∧ Below w.heap.size w w')
    (first | exact draw6 (by assumption) | exact keep6 (by assumption) (by assumption))
    (first
      | (go_at_call 14; refine (add_fit _ _ _ (by first | exact BD | exact BG) (by first | exact BX | exact BG)).mono ?_; rintro e w' ⟨rfl, hb⟩)
      | (go_at_call 9; refine (le_yes C2.out _).mono ?_; rintro e w' ⟨rfl, hb⟩))
  have hS5 := ‹w'.cell? ⟨B1, 0, none⟩ = some (.int .u64 (hi (gl x r))) ∧ _›
  obtain ⟨q1, q2, q3, q4, q5, q6, q7⟩ := hS5
  go_wp2_with fail
  refine (le_yes C3.out _).mono ?_; rintro e w6 ⟨rfl, hb6⟩
  have hS6 := keep6 hb6 ⟨q1, q2, q3, q4, q5, q6, q7⟩
  go_wp2_with fail
  go_region_held3 (fun w' => w'.cell? ⟨B1, 0, none⟩ = some (.int .u64 (hi (gl x r))) ∧ w'.cell? ⟨B1, 1, none⟩ = some (.int .u64 (lo (gl x r))) ∧ w'.cell? ⟨B2, 0, none⟩ = some (.int .u64 (hi (dflt x))) ∧ w'.cell? ⟨B2, 1, none⟩ = some (.int .u64 (lo (dflt x))) ∧ w'.cell? ⟨B3, 0, none⟩ = some (.int .u64 (hi (x * 100))) ∧ w'.cell? ⟨B3, 1, none⟩ = some (.int .u64 (lo (x * 100))) ∧ Below w.heap.size w w')
    (first | exact draw6 hS6 | exact keep6 (by assumption) (by assumption))
    (first
      | (go_at_call 14; refine (add_fit _ _ _ (by first | exact BD | exact BG) (by first | exact BX | exact BG)).mono ?_; rintro e w' ⟨rfl, hb⟩)
      | (go_at_call 9; refine (le_yes C4.out _).mono ?_; rintro e w' ⟨rfl, hb⟩))
  have hS7 := ‹w'.cell? ⟨B1, 0, none⟩ = some (.int .u64 (hi (gl x r))) ∧ _›
  have HS7 : Hid (Below w.heap.size w w') := hS7.2.2.2.2.2.2
  go_wp2_with fail
  go_ret
  exact ⟨rfl, HS7.out⟩

/-- goalWithinDefaultBounds at percent's own answer. -/
theorem within (x : Int) (w : World) (x0 : 0 ≤ x) (x1 : x < 18446744073709551616) :
    Calls Try.prog 7 #[.int .u64 x, .int .i64 (pct x)] w fun e w' => e = .returned (.bool true) ∧ Below w.heap.size w w' := by
  obtain ⟨c1, c2, c3, c4⟩ := bounds x0
  obtain ⟨r0, r1⟩ := pct_bd x0
  by_cases h : 8388608 < x
  · by_cases h' : 16777216 ≤ x
    · exact within_3 x (pct x) w x0 x1 r0 r1 c1 c2 (c3 h) (c4 h') h'
    · exact within_2 x (pct x) w x0 x1 r0 r1 c1 c2 (c3 h) h (by omega)
  · exact within_1 x (pct x) w x0 x1 r0 r1 c1 c2 (by omega)

set_option maxHeartbeats 400000 in
/-- ████ FnPercentGoalWithinGoDefaultBoundsAndFallsWithLive. -/
theorem falls_walk (a b : Int) (w : World) (a0 : 0 ≤ a) (a1 : a < 18446744073709551616) (b0 : 0 ≤ b) (b1 : b < 18446744073709551616) :
    Calls Try.prog 4 #[.int .u64 a, .int .u64 b] w fun e w' => e = .returned (.bool true) ∧ Below w.heap.size w w' := by
  by_cases h : b < a
  · have hf := falls b0 (b := a) (by omega)
    go_enter Try.func4, Try.ntmps4
    go_wp2_with fail
    refine (zz_walk b _ b0 b1).mono ?_; rintro e w' ⟨rfl, rfl⟩
    go_wp2_with fail
    refine (zz_walk a _ a0 a1).mono ?_; rintro e w' ⟨rfl, rfl⟩
    go_wp2_with fail
    refine (within b _ b0 b1).mono ?_; rintro e w2 ⟨rfl, hb2⟩
    go_wp2_with fail
    refine (within a _ a0 a1).mono ?_; rintro e w3 ⟨rfl, hb3⟩
    go_wp2_with fail
    go_ret
    exact ⟨rfl, below_on hb2 hb3⟩
  · have hf := falls a0 (b := b) (by omega)
    go_enter Try.func4, Try.ntmps4
    go_wp2_with fail
    refine (zz_walk a _ a0 a1).mono ?_; rintro e w' ⟨rfl, rfl⟩
    go_wp2_with fail
    refine (zz_walk b _ b0 b1).mono ?_; rintro e w' ⟨rfl, rfl⟩
    go_wp2_with fail
    refine (within a _ a0 a1).mono ?_; rintro e w2 ⟨rfl, hb2⟩
    go_wp2_with fail
    refine (within b _ b0 b1).mono ?_; rintro e w3 ⟨rfl, hb3⟩
    go_wp2_with fail
    go_ret
    exact ⟨rfl, below_on hb2 hb3⟩
end Go.Proofs.Qxb6619380a
