import Derived.Test.Qxb6619380aRows
import Derived.Test.Qxb6619380aPlain
import Derived.WalkKit
import Derived.WalkSpells
import Derived.WalkLawsBesides
import Derived.RowKit3
namespace Go.Proofs.Qxb6619380a
open Go.RowKit

theorem bcell {W w1 : World} (hb : Below W.heap.size W w1) : (∀ b o, b < W.heap.size → w1.cell? ⟨b, o, none⟩ = W.cell? ⟨b, o, none⟩) ∧ (∀ b o, b < W.heap.size → w1.frozen? ⟨b, o, none⟩ = W.frozen? ⟨b, o, none⟩) :=
  ⟨fun b o h => hb.cell (p := ⟨b, o, none⟩) h, fun b o h => hb.frozen (p := ⟨b, o, none⟩) h⟩

/-- A 128-bit number, as the program hands it about. -/
abbrev W2 (V : Int) : Value := .agg #[.int .u64 (hi V), .int .u64 (lo V)]

set_option maxHeartbeats 400000 in
/-- mul128. -/
theorem mul_walk (a b : Int) (w : World) (a0 : 0 ≤ a) (a1 : a < 18446744073709551616) (b0 : 0 ≤ b) (b1 : b < 18446744073709551616) :
    Calls Try.prog 13 #[.int .u64 a, .int .u64 b] w fun e w' => e = .returned (W2 (a * b)) ∧ Below w.heap.size w w' := by
  have he := mul_exact a0 a1 b0 b1
  have HE : Hid (mulHi a b = hi (a * b) ∧ mulLo a b = lo (a * b)) := he
  clear he
  go_enter Try.func13, Try.ntmps13
  go_wp2
  refine bodyPost_ret (v := .agg #[.int .u64 (mulHi a b), .int .u64 (mulLo a b)]) (by simp [results, Try.results13, go_sem, mulHi, mulLo, mid]) rfl ⟨by rw [HE.out.1, HE.out.2], (Below.refl _ _).alloc (Nat.le_refl _) _⟩

/-- Behind a call: what was there at our own start is as it was. -/
theorem below_call {w W w1 : World} (hb : Below W.heap.size W w1) (h1 : Below w.heap.size w W) : Below w.heap.size w w1 := h1.trans (hb.mono h1.size)

theorem ret_bool {a b : Bool} (h : a = b) : Ending.returned (.bool a) = .returned (.bool b) := by rw [h]
theorem ret_int {k : IntKind} {a b : Int} (h : a = b) : Ending.returned (.int k a) = .returned (.int k b) := by rw [h]

/-- An answer of 'at most', as a Bool that no walk looks into. -/
def leB (U V : Int) : Bool := decide (U ≤ V)
theorem leB_yes {U V : Int} (h : U ≤ V) : leB U V = true := decide_eq_true h
theorem leB_no {U V : Int} (h : ¬ U ≤ V) : leB U V = false := decide_eq_false h

set_option maxHeartbeats 400000 in
/-- le128. -/
theorem le_walk (U V : Int) (w : World) :
    Calls Try.prog 9 #[W2 U, W2 V] w fun e w' => e = .returned (.bool (leB U V)) ∧ Below w.heap.size w w' := by
  by_cases h : hi U = hi V
  · have hl := lo_words h
    have HL : Hid (lo U ≤ lo V ↔ U ≤ V) := hl
    clear hl
    have h1 : (hi U == hi V) = true := by simpa using h
    clear h
    go_enter Try.func9, Try.ntmps9
    go_wp2
    go_ret
    exact ⟨ret_bool (decide_eq_decide.2 HL.out), by repeat (first | exact Below.refl _ _ | refine Below.alloc ?_ (by simp <;> omega) _)⟩
  · have hl := lt_words h
    have HL : Hid (hi U < hi V ↔ U ≤ V) := hl
    clear hl
    have h1 : (hi U == hi V) = false := by simpa using h
    clear h
    go_enter Try.func9, Try.ntmps9
    go_wp2
    go_ret
    exact ⟨ret_bool (decide_eq_decide.2 HL.out), by repeat (first | exact Below.refl _ _ | refine Below.alloc ?_ (by simp <;> omega) _)⟩

set_option maxHeartbeats 400000 in
/-- add128. -/
theorem add_walk (U V : Int) (w : World) (u0 : 0 ≤ U) (v0 : 0 ≤ V) (h : hi U + hi V + 1 < 18446744073709551616) :
    Calls Try.prog 14 #[W2 U, W2 V] w fun e w' => e = .returned (W2 (U + V)) ∧ Below w.heap.size w w' := by
  go_enter Try.func14, Try.ntmps14
  go_wp2
  · have hl := add_hi_yes u0 v0 h ‹_›
    refine bodyPost_ret (v := .agg #[.int .u64 (IntKind.u64.wrap (IntKind.u64.wrap (hi U + hi V) + 1)), .int .u64 (IntKind.u64.wrap (lo U + lo V))]) (by simp [results, Try.results14, go_sem]) rfl ⟨by rw [hl, add_lo], ?_⟩
    repeat (first | exact Below.refl _ _ | refine Below.alloc ?_ (by simp <;> omega) _)
  · have hl := add_hi_no u0 v0 h ‹_›
    refine bodyPost_ret (v := .agg #[.int .u64 (IntKind.u64.wrap (hi U + hi V)), .int .u64 (IntKind.u64.wrap (lo U + lo V))]) (by simp [results, Try.results14, go_sem]) rfl ⟨by rw [hl, add_lo], ?_⟩
    repeat (first | exact Below.refl _ _ | refine Below.alloc ?_ (by simp <;> omega) _)

theorem le_yes {U V : Int} (h : U ≤ V) (w : World) : Calls Try.prog 9 #[W2 U, W2 V] w fun e w' => e = .returned (.bool true) ∧ Below w.heap.size w w' :=
  (le_walk U V w).mono fun e w' ⟨he, hb⟩ => ⟨by rw [he, leB_yes h], hb⟩
theorem le_no {U V : Int} (h : ¬ U ≤ V) (w : World) : Calls Try.prog 9 #[W2 U, W2 V] w fun e w' => e = .returned (.bool false) ∧ Below w.heap.size w w' :=
  (le_walk U V w).mono fun e w' ⟨he, hb⟩ => ⟨by rw [he, leB_no h], hb⟩

set_option maxHeartbeats 400000 in
/-- max128. -/
theorem max_walk (U V : Int) (w : World) :
    Calls Try.prog 12 #[W2 U, W2 V] w fun e w' => e = .returned (W2 (mx U V)) ∧ Below w.heap.size w w' := by
  by_cases h : U ≤ V
  · rw [mx_yes h]
    go_enter Try.func12, Try.ntmps12
    go_wp2_with fail
    refine (le_yes h _).mono ?_
    rintro e w1 ⟨rfl, hb⟩
    obtain ⟨hc, hf⟩ := bcell hb
    go_wp2_with fail
    refine bodyPost_ret (v := W2 V) (by simp [results, Try.results12, go_sem, hc]) rfl ⟨rfl, ?_⟩
    refine Below.setCell (Below.setCell (below_call hb ?_) (by simp <;> omega) _) (by simp <;> omega) _
    repeat (first | exact Below.refl _ _ | refine Below.alloc ?_ (by simp <;> omega) _)
  · rw [mx_no h]
    go_enter Try.func12, Try.ntmps12
    go_wp2_with fail
    refine (le_no (Int.not_le.2 h) _).mono ?_
    rintro e w1 ⟨rfl, hb⟩
    obtain ⟨hc, hf⟩ := bcell hb
    go_wp2_with fail
    refine bodyPost_ret (v := W2 U) (by simp [results, Try.results12, go_sem, hc]) rfl ⟨rfl, ?_⟩
    refine Below.setCell (Below.setCell (below_call hb ?_) (by simp <;> omega) _) (by simp <;> omega) _
    repeat (first | exact Below.refl _ _ | refine Below.alloc ?_ (by simp <;> omega) _)

/-- Behind a second call: all that stood at the first. -/
theorem below_on {W w1 w2 : World} (h1 : Below W.heap.size W w1) (h2 : Below w1.heap.size w1 w2) : Below W.heap.size W w2 := h1.trans (h2.mono h1.size)

set_option maxHeartbeats 400000 in
/-- goal100. -/
theorem goal_walk (a g : Int) (w : World) (a0 : 0 ≤ a) (a1 : a < 18446744073709551616) (g0 : 0 ≤ g) (g1 : g ≤ 1000) :
    Calls Try.prog 10 #[.int .u64 a, .int .u64 g] w fun e w' => e = .returned (W2 (gl a g)) ∧ Below w.heap.size w w' := by
  go_enter Try.func10, Try.ntmps10
  go_wp2_with fail
  refine (mul_walk a (100 + g) _ a0 a1 (by omega) (by omega)).mono ?_
  rintro e w1 ⟨rfl, hb1⟩
  go_wp2_with fail
  refine (mul_walk 4194304 g _ (by omega) (by omega) g0 (by omega)).mono ?_
  rintro e w2 ⟨rfl, hb2⟩
  have hB2 := below_on hb1 hb2
  clear hb1 hb2
  go_wp2_with fail
  refine (max_walk _ _ _).mono ?_
  rintro e w3 ⟨rfl, hb3⟩
  have hB3 := below_on hB2 hb3
  clear hB2 hb3
  obtain ⟨hc3, hf3⟩ := bcell hB3
  go_wp2_with fail
  refine bodyPost_ret (v := W2 (gl a g)) (by simp [results, Try.results10, go_sem, gl, hc3]) rfl ⟨rfl, ?_⟩
  refine Below.setCell (Below.setCell (below_call hB3 ?_) (by simp) _) (by simp) _
  exact (Below.refl _ _).alloc (Nat.le_refl _) _

set_option maxHeartbeats 400000 in
/-- target100. -/
theorem target_walk (a : Int) (w : World) (a0 : 0 ≤ a) (a1 : a < 18446744073709551616) :
    Calls Try.prog 11 #[.int .u64 a] w fun e w' => e = .returned (W2 (tgt a)) ∧ Below w.heap.size w w' := by
  by_cases h : a ≤ 8388608
  · rw [tgt_yes h]
    go_enter Try.func11, Try.ntmps11
    go_wp2_with fail
    refine (mul_walk 8388608 100 _ (by omega) (by omega) (by omega) (by omega)).mono ?_
    rintro e w1 ⟨rfl, hb1⟩
    obtain ⟨hc3, hf3⟩ := bcell hb1
    go_wp2_with fail
    refine bodyPost_ret (v := W2 (8388608 * 100)) (by simp [results, Try.results11, go_sem, hc3]) rfl ⟨rfl, ?_⟩
    refine Below.setCell (Below.setCell (below_call hb1 ?_) (by simp) _) (by simp) _
    exact (Below.refl _ _).alloc (Nat.le_refl _) _
  · rw [tgt_no h]
    have hh : hi (a * 100) + hi (8388608 * 100) + 1 < 18446744073709551616 := by
      have := hi_small (V := a * 100) (by omega)
      have := hi_small (V := 8388608 * 100) (by omega)
      omega
    have HH : Hid (hi (a * 100) + hi (8388608 * 100) + 1 < 18446744073709551616) := hh
    clear hh
    go_enter Try.func11, Try.ntmps11
    go_wp2_with fail
    refine (mul_walk a 100 _ a0 a1 (by omega) (by omega)).mono ?_
    rintro e w1 ⟨rfl, hb1⟩
    go_wp2_with fail
    refine (mul_walk 8388608 100 _ (by omega) (by omega) (by omega) (by omega)).mono ?_
    rintro e w2 ⟨rfl, hb2⟩
    have hB2 := below_on hb1 hb2
    clear hb1 hb2
    go_wp2_with fail
    refine (add_walk (a * 100) (8388608 * 100) _ (by omega) (by omega) HH.out).mono ?_
    rintro e w3 ⟨rfl, hb3⟩
    have hB3 := below_on hB2 hb3
    clear hB2 hb3
    obtain ⟨hc3, hf3⟩ := bcell hB3
    go_wp2_with fail
    refine bodyPost_ret (v := W2 (a * 100 + 8388608 * 100)) (by simp [results, Try.results11, go_sem, hc3]) rfl ⟨rfl, ?_⟩
    refine Below.setCell (Below.setCell (below_call hB3 ?_) (by simp) _) (by simp) _
    exact (Below.refl _ _).alloc (Nat.le_refl _) _

set_option maxHeartbeats 400000 in
/-- goalFits. -/
theorem fits_walk (a g : Int) (w : World) (a0 : 0 ≤ a) (a1 : a < 18446744073709551616) (g0 : 0 ≤ g) (g1 : g ≤ 1000) :
    Calls Try.prog 6 #[.int .u64 a, .int .u64 g] w fun e w' => e = .returned (.bool (leB (gl a g) (tgt a))) ∧ Below w.heap.size w w' := by
  go_enter Try.func6, Try.ntmps6
  go_wp2_with fail
  refine (goal_walk a g _ a0 a1 g0 g1).mono ?_
  rintro e w1 ⟨rfl, hb1⟩
  go_wp2_with fail
  refine (target_walk a _ a0 a1).mono ?_
  rintro e w2 ⟨rfl, hb2⟩
  go_wp2_with fail
  refine (le_walk _ _ _).mono ?_
  rintro e w3 ⟨rfl, hb3⟩
  go_wp2_with fail
  go_ret
  exact ⟨rfl, below_on (below_on hb1 hb2) hb3⟩

theorem pct_w1 {q : Int} (h : 200 < q) : 200 = (if 100 < (if q < 200 then q else 200) then (if q < 200 then q else 200) else 100) := by
  rw [if_neg (show ¬ q < 200 by omega), if_pos (by omega)]
theorem pct_w2 {q : Int} (h1 : 100 < if 200 < q then 200 else q) (h2 : q ≤ 200) : q = (if 100 < (if q < 200 then q else 200) then (if q < 200 then q else 200) else 100) := by
  rw [if_neg (by omega)] at h1
  by_cases c : q < 200
  · rw [if_pos c, if_pos h1]
  · rw [if_neg c, if_pos (by omega)]; omega
theorem pct_w3 {q : Int} (h1 : (if 200 < q then 200 else q) ≤ 100) (h2 : q ≤ 200) : 100 = (if 100 < (if q < 200 then q else 200) then (if q < 200 then q else 200) else 100) := by
  rw [if_neg (by omega)] at h1
  rw [if_pos (show q < 200 by omega), if_neg (by omega)]
theorem wrap64_id {x : Int} (h0 : -9223372036854775808 ≤ x) (h1 : x < 9223372036854775808) : wrap64 x = x := by
  unfold wrap64; omega

set_option maxHeartbeats 400000 in
/-- percent. -/
theorem percent_walk (a : Int) (w : World) (a0 : 0 ≤ a) (a1 : a < 18446744073709551616) :
    Calls Try.prog 8 #[.int .u64 a] w fun e w' => e = .returned (.int .i64 (pct a)) ∧ w = w' := by
  by_cases h : a = 0
  · subst h
    rw [pct_zero]
    go_enter Try.func8, Try.ntmps8
    go_wp2
    go_ret
    exact ⟨rfl, rfl⟩
  have hz : (a == 0) = false := by simpa using h
  by_cases h2 : 8388608 < a
  · have hq := quot_hi h2
    have e : wrap64 (838860800 / a) = 838860800 / a := wrap64_id (by omega) (by omega)
    have ep : pct a = if 50 < 838860800 / a then 838860800 / a else 50 := by unfold pct; rw [if_neg (by omega), if_pos h2]
    have HP : Hid (pct a = if 50 < 838860800 / a then 838860800 / a else 50) := ep
    clear ep hq
    go_enter Try.func8, Try.ntmps8
    go_wp2
    all_goals
      go_ret
      refine ⟨ret_int ?_, rfl⟩
      rw [HP.out]
      first | (rw [if_pos (by omega)]) | (rw [if_neg (by omega)])
  · have hq := quot_lo (a := a) (by omega) (by omega)
    have ep : pct a = (if 100 < (if 100 * (8388608 - a) / a < 200 then 100 * (8388608 - a) / a else 200) then (if 100 * (8388608 - a) / a < 200 then 100 * (8388608 - a) / a else 200) else 100) := by
      unfold pct; rw [if_neg (by omega), if_neg (by omega)]
    have HP : Hid (pct a = (if 100 < (if 100 * (8388608 - a) / a < 200 then 100 * (8388608 - a) / a else 200) then (if 100 * (8388608 - a) / a < 200 then 100 * (8388608 - a) / a else 200) else 100)) := ep
    have e : wrap64 (100 * (8388608 - a) / a) = 100 * (8388608 - a) / a := wrap64_id (by omega) (by omega)
    clear ep hq
    go_enter Try.func8, Try.ntmps8
    go_wp2
    · go_ret
      exact ⟨ret_int (by rw [HP.out]; exact pct_w1 ‹_›), rfl⟩
    · go_ret
      exact ⟨ret_int (by rw [HP.out]; exact pct_w2 ‹_› ‹_›), rfl⟩
    · go_ret
      exact ⟨ret_int (by rw [HP.out]; exact pct_w3 ‹_› ‹_›), rfl⟩

/-- ZZpercent. -/
theorem zz_walk (a : Int) (w : World) (a0 : 0 ≤ a) (a1 : a < 18446744073709551616) :
    Calls Try.prog 5 #[.int .u64 a] w fun e w' => e = .returned (.int .i64 (pct a)) ∧ w = w' := by
  go_enter Try.func5, Try.ntmps5
  go_wp2_with fail
  refine (percent_walk a _ a0 a1).mono ?_
  rintro e w1 ⟨rfl, rfl⟩
  go_wp2_with fail
  go_ret
  exact ⟨rfl, rfl⟩
end Go.Proofs.Qxb6619380a
