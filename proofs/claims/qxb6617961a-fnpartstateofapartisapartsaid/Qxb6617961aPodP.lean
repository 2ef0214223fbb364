import Derived.Test.Qxb6617961aShare
import Derived.Test.Qxb6617961aFloat3
import Derived.Laws.FloatArith
namespace Go.Proofs.Qxb6617961a
open Go.RowKit

theorem floatOfInt_pos {r : Int} (h : 0 < r) : floatOfInt .f64 r = Ieee.double.nearest false r.toNat 0 := by
  have e1 : decide (r < 0) = false := by rw [decide_eq_false_iff_not]; omega
  have e2 : r.natAbs = r.toNat := by omega
  show Ieee.double.write (.number (decide (r < 0)) r.natAbs 0) = _
  rw [e1, e2]
  rfl

/-- The share in floats, in the walk's own words. -/
theorem go_share {r m : Int} (h0 : 0 < r) (h1 : r ≤ m) (h2 : m ≤ 9223372036854775807) : ∃ (b1 b2 : Nat) (n : Int),
    floatBits .quo .f64 (floatOfInt .f64 r) (floatOfInt .f64 m) = some b1 ∧ floatBits .mul .f64 b1 4697254411347427328 = some b2 ∧ floatToIntVal .f64 b2 .u64 = some n ∧
    0 ≤ n ∧ n ≤ r * 1048576 / m + 1 ∧ r * 1048576 / m ≤ n + 1 ∧ (r < 4294967296 → n = r * 1048576 / m) ∧ 0 ≤ r * 1048576 / m ∧ r * 1048576 / m ≤ 1048576 := by
  obtain ⟨b1, b2, n, e1, e2, e3, l1, l2, l3⟩ := Fl.share_float r.toNat m.toNat (by omega) (by omega) (by omega)
  have ed : ((r.toNat * 1048576 / m.toNat : Nat) : Int) = r * 1048576 / m := by
    rw [Int.natCast_ediv]
    congr 1 <;> omega
  have d0 : 0 ≤ r * 1048576 / m := Int.ediv_nonneg (by omega) (by omega)
  have d1 : r * 1048576 / m ≤ 1048576 := by
    have a : r * 1048576 / m * m ≤ r * 1048576 := Int.ediv_mul_le _ (by omega)
    generalize r * 1048576 / m = q at *
    by_cases c : q ≤ 1048576
    · exact c
    · exfalso
      have : 1048577 * m ≤ q * m := Int.mul_le_mul_of_nonneg_right (by omega) (by omega)
      omega
  refine ⟨b1, b2, n, ?_, e2, ?_, by omega, by omega, by omega, fun h => ?_, d0, d1⟩
  · rw [floatOfInt_pos h0, floatOfInt_pos (show 0 < m by omega)]; exact e1
  · have e3' : (FloatKind.f64.decode b2).toInt .zero = some (n : Int) := e3
    unfold floatToIntVal
    rw [e3']
    have b : IntKind.u64.min ≤ (n : Int) ∧ (n : Int) ≤ IntKind.u64.max := by
      have m0 : IntKind.u64.min = 0 := by decide
      have m1 : IntKind.u64.max = 18446744073709551615 := by decide
      rw [m0, m1]
      omega
    simp only [b, and_self, if_true]
  · have := l3 (by omega)
    omega

/-- The largest scaled share of the first k requests q, over the rooms m. -/
def shareE (q m : Nat → Int) : Nat → Int
  | 0 => 0
  | k + 1 => if 0 < q k then (if shareE q m k < q k * 1048576 / m k then q k * 1048576 / m k else shareE q m k) else shareE q m k

theorem shareE_skip {q m : Nat → Int} {k : Nat} (h : ¬ 0 < q k) : shareE q m (k + 1) = shareE q m k := by show (if _ then _ else _) = _; rw [if_neg h]
theorem shareE_yes {q m : Nat → Int} {k : Nat} (h : 0 < q k) (h2 : shareE q m k < q k * 1048576 / m k) : shareE q m (k + 1) = q k * 1048576 / m k := by show (if _ then _ else _) = _; rw [if_pos h, if_pos h2]
theorem shareE_no {q m : Nat → Int} {k : Nat} (h : 0 < q k) (h2 : ¬ shareE q m k < q k * 1048576 / m k) : shareE q m (k + 1) = shareE q m k := by show (if _ then _ else _) = _; rw [if_pos h, if_neg h2]

/-- The positive ones of the first k requests are below 2^32. -/
def Exact (q : Nat → Int) (k : Nat) : Prop := ∀ j, j < k → 0 < q j → q j < 4294967296

/-- s is within one of the largest share; it is that very number where all is small. -/
def Near (q m : Nat → Int) (k : Nat) (s : Int) : Prop := 0 ≤ s ∧ s ≤ 1048577 ∧ 0 ≤ shareE q m k ∧ shareE q m k ≤ 1048576 ∧ s ≤ shareE q m k + 1 ∧ shareE q m k ≤ s + 1 ∧ (Exact q k → s = shareE q m k)

theorem Near.zero (q m : Nat → Int) : Near q m 0 0 := ⟨by omega, by omega, Int.le_refl _, by show (0 : Int) ≤ _; omega, by show (0 : Int) ≤ 0 + 1; omega, by show (0 : Int) ≤ 0 + 1; omega, fun _ => rfl⟩

theorem Near.skip {q m : Nat → Int} {k : Nat} {s : Int} (h : Near q m k s) (hq : ¬ 0 < q k) : Near q m (k + 1) s := by
  obtain ⟨a, b, c, d, e, f, g⟩ := h
  unfold Near
  rw [shareE_skip hq]
  exact ⟨a, b, c, d, e, f, fun hx => g fun j hj => hx j (by omega)⟩

theorem Near.step {q m : Nat → Int} {k : Nat} {s n : Int} (h : Near q m k s) (hq : 0 < q k) (n0 : 0 ≤ n) (n1 : n ≤ q k * 1048576 / m k + 1) (n2 : q k * 1048576 / m k ≤ n + 1) (n3 : q k < 4294967296 → n = q k * 1048576 / m k)
    (f0 : 0 ≤ q k * 1048576 / m k) (f1 : q k * 1048576 / m k ≤ 1048576) : Near q m (k + 1) (if s < n then n else s) := by
  obtain ⟨a, b, c, d, e, f, g⟩ := h
  unfold Near
  have hE : shareE q m (k + 1) = if shareE q m k < q k * 1048576 / m k then q k * 1048576 / m k else shareE q m k := by show (if _ then _ else _) = _; rw [if_pos hq]
  rw [hE]
  have hx : Exact q (k + 1) → s = shareE q m k ∧ n = q k * 1048576 / m k := fun hx => ⟨g fun j hj => hx j (by omega), n3 (hx k (by omega) hq)⟩
  generalize shareE q m k = E at *
  generalize q k * 1048576 / m k = F at *
  clear hE g n3 hq
  by_cases c1 : s < n
  · rw [if_pos c1]
    by_cases c2 : E < F
    · rw [if_pos c2]; exact ⟨by omega, by omega, by omega, by omega, by omega, by omega, fun h => (hx h).2⟩
    · rw [if_neg c2]; exact ⟨by omega, by omega, by omega, by omega, by omega, by omega, fun h => by have := hx h; omega⟩
  · rw [if_neg c1]
    by_cases c2 : E < F
    · rw [if_pos c2]; exact ⟨by omega, by omega, by omega, by omega, by omega, by omega, fun h => by have := hx h; omega⟩
    · rw [if_neg c2]; exact ⟨by omega, by omega, by omega, by omega, by omega, by omega, fun h => (hx h).1⟩

theorem room_pos (C : Nat → Nat → Int) : ∀ n k, 0 ≤ room C n k
  | 0, _ => Int.le_refl _
  | n + 1, k => by
    have := room_pos C n k
    by_cases h : room C n k < C n k
    · rw [room_yes h]; omega
    · rw [room_no h]; exact this
theorem room_le (C : Nat → Nat → Int) {k : Nat} : ∀ n, (∀ i, i < n → C i k ≤ 9223372036854775807) → room C n k ≤ 9223372036854775807
  | 0, _ => by show (0 : Int) ≤ _; omega
  | n + 1, hC => by
    have := room_le C n (fun i hi => hC i (by omega))
    by_cases h : room C n k < C n k
    · rw [room_yes h]; exact hC n (by omega)
    · rw [room_no h]; exact this
end Go.Proofs.Qxb6617961a
