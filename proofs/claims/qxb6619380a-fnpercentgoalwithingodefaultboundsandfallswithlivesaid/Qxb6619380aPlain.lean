/-
  PLAIN LAWS (no run of Go in sight): a 128-bit number in two words; the product of two words by halves; the percent and its laws.
-/
import Derived.WalkKit
namespace Go.Proofs.Qxb6619380a

/-- The high and the low word of a number. -/
def hi (V : Int) : Int := V / 18446744073709551616
def lo (V : Int) : Int := V % 18446744073709551616

theorem and32 {x : Int} (h0 : 0 ≤ x) (h1 : x < 18446744073709551616) : bits .and .u64 x 4294967295 = x % 4294967296 := by
  obtain ⟨n, rfl⟩ := Int.eq_ofNat_of_zero_le h0
  have e : bits .and .u64 (n : Int) 4294967295 = ((n &&& 4294967295 : Nat) : Int) := u64_and_nat n 4294967295 (by omega) (by omega)
  have e2 : n &&& 4294967295 = n % 4294967296 := Nat.and_two_pow_sub_one_eq_mod n 32
  rw [e, e2]
  omega

theorem or32 {x y : Int} (h0 : 0 ≤ x) (h1 : x < 4294967296) (h2 : 0 ≤ y) (h3 : y < 4294967296) : bits .or .u64 x (y * 4294967296) = x + y * 4294967296 := by
  obtain ⟨n, rfl⟩ := Int.eq_ofNat_of_zero_le h0
  obtain ⟨m, rfl⟩ := Int.eq_ofNat_of_zero_le h2
  have e : bits .or .u64 (n : Int) ((m * 4294967296 : Nat) : Int) = ((n ||| (m * 4294967296) : Nat) : Int) := u64_or_nat n (m * 4294967296) (by omega) (by omega)
  have e2 : n ||| (m * 4294967296) = n + m * 4294967296 := by
    have := Nat.two_pow_add_eq_or_of_lt (i := 32) (b := n) (by omega) m
    have p : (2 : Nat) ^ 32 = 4294967296 := by decide
    rw [p] at this
    rw [Nat.or_comm, Nat.mul_comm, ← this]
    omega
  have e3 : ((m * 4294967296 : Nat) : Int) = (m : Int) * 4294967296 := by omega
  rw [e3] at e
  rw [e, e2]
  omega

theorem wrap_id {x : Int} (h0 : 0 ≤ x) (h1 : x < 18446744073709551616) : IntKind.u64.wrap x = x := by
  have : IntKind.u64.wrap x = x % 18446744073709551616 := by simp [IntKind.wrap, IntKind.bits, IntKind.signed]
  rw [this]; omega
theorem wrap_mod (x : Int) : IntKind.u64.wrap x = x % 18446744073709551616 := by simp [IntKind.wrap, IntKind.bits, IntKind.signed]

/-- Products of halves. -/
theorem half_mul {x y : Int} (h0 : 0 ≤ x) (h1 : x < 4294967296) (h2 : 0 ≤ y) (h3 : y < 4294967296) : 0 ≤ x * y ∧ x * y ≤ 18446744065119617025 := by
  constructor
  · exact Int.mul_nonneg h0 h2
  · have a : x * y ≤ 4294967295 * y := Int.mul_le_mul_of_nonneg_right (by omega) h2
    omega

/-- What mul128 computes, as the walk writes it: the middle word, the high word, the low word. -/
def mid (a b : Int) : Int :=
  IntKind.u64.wrap (IntKind.u64.wrap (IntKind.u64.wrap (bits .and .u64 a 4294967295 * bits .and .u64 b 4294967295) / 4294967296 + bits .and .u64 (IntKind.u64.wrap (bits .and .u64 a 4294967295 * (b / 4294967296))) 4294967295)
    + bits .and .u64 (IntKind.u64.wrap (a / 4294967296 * bits .and .u64 b 4294967295)) 4294967295)
def mulHi (a b : Int) : Int :=
  IntKind.u64.wrap (IntKind.u64.wrap (IntKind.u64.wrap (IntKind.u64.wrap (a / 4294967296 * (b / 4294967296)) + IntKind.u64.wrap (bits .and .u64 a 4294967295 * (b / 4294967296)) / 4294967296)
    + IntKind.u64.wrap (a / 4294967296 * bits .and .u64 b 4294967295) / 4294967296) + mid a b / 4294967296)
def mulLo (a b : Int) : Int :=
  bits .or .u64 (bits .and .u64 (IntKind.u64.wrap (bits .and .u64 a 4294967295 * bits .and .u64 b 4294967295)) 4294967295) (IntKind.u64.wrap (mid a b * 4294967296))

theorem split_mul (a b : Int) : a * b = (a / 4294967296) * (b / 4294967296) * 18446744073709551616 + ((a % 4294967296) * (b / 4294967296) + (a / 4294967296) * (b % 4294967296)) * 4294967296 + (a % 4294967296) * (b % 4294967296) := by
  have ea := Int.mul_ediv_add_emod a 4294967296
  have eb := Int.mul_ediv_add_emod b 4294967296
  generalize a / 4294967296 = x at *
  generalize a % 4294967296 = y at *
  generalize b / 4294967296 = z at *
  generalize b % 4294967296 = t at *
  rw [← ea, ← eb, Int.add_mul, Int.mul_add, Int.mul_add]
  have e1 : 4294967296 * x * (4294967296 * z) = x * z * 18446744073709551616 := by
    rw [Int.mul_assoc, Int.mul_left_comm x, ← Int.mul_assoc, Int.mul_comm]
    rfl
  have e2 : 4294967296 * x * t = x * t * 4294967296 := by rw [Int.mul_assoc, Int.mul_comm]
  have e3 : y * (4294967296 * z) = y * z * 4294967296 := by rw [Int.mul_left_comm, Int.mul_comm]
  rw [e1, e2, e3, Int.add_mul]
  omega

/-- The arithmetic, over the four products. -/
theorem mul_arith (p00 p01 p10 p11 : Int) :
    p11 + p01 / 4294967296 + p10 / 4294967296 + (p00 / 4294967296 + p01 % 4294967296 + p10 % 4294967296) / 4294967296 = (p11 * 18446744073709551616 + (p01 + p10) * 4294967296 + p00) / 18446744073709551616 ∧
    p00 % 4294967296 + (p00 / 4294967296 + p01 % 4294967296 + p10 % 4294967296) % 4294967296 * 4294967296 = (p11 * 18446744073709551616 + (p01 + p10) * 4294967296 + p00) % 18446744073709551616 := by
  omega

theorem mul_exact {a b : Int} (a0 : 0 ≤ a) (a1 : a < 18446744073709551616) (b0 : 0 ≤ b) (b1 : b < 18446744073709551616) : mulHi a b = hi (a * b) ∧ mulLo a b = lo (a * b) := by
  have e1 := and32 a0 a1
  have e2 := and32 b0 b1
  have p00 := half_mul (x := a % 4294967296) (y := b % 4294967296) (by omega) (by omega) (by omega) (by omega)
  have p01 := half_mul (x := a % 4294967296) (y := b / 4294967296) (by omega) (by omega) (by omega) (by omega)
  have p10 := half_mul (x := a / 4294967296) (y := b % 4294967296) (by omega) (by omega) (by omega) (by omega)
  have p11 := half_mul (x := a / 4294967296) (y := b / 4294967296) (by omega) (by omega) (by omega) (by omega)
  have hs := split_mul a b
  have ha := mul_arith (a % 4294967296 * (b % 4294967296)) (a % 4294967296 * (b / 4294967296)) (a / 4294967296 * (b % 4294967296)) (a / 4294967296 * (b / 4294967296))
  unfold mulHi mulLo hi lo
  have hm : mid a b = (a % 4294967296) * (b % 4294967296) / 4294967296 + (a % 4294967296) * (b / 4294967296) % 4294967296 + (a / 4294967296) * (b % 4294967296) % 4294967296 := by
    unfold mid
    rw [e1, e2]
    generalize (a % 4294967296) * (b % 4294967296) = q00 at *
    generalize (a % 4294967296) * (b / 4294967296) = q01 at *
    generalize (a / 4294967296) * (b % 4294967296) = q10 at *
    rw [wrap_id (x := q00) (by omega) (by omega), wrap_id (x := q01) (by omega) (by omega), wrap_id (x := q10) (by omega) (by omega), and32 (x := q01) (by omega) (by omega), and32 (x := q10) (by omega) (by omega),
      wrap_id (x := q00 / 4294967296 + q01 % 4294967296) (by omega) (by omega), wrap_id (by omega) (by omega)]
  rw [e1, e2, hm, hs]
  rw [← ha.1, ← ha.2]
  generalize (a % 4294967296) * (b % 4294967296) = q00 at *
  generalize (a % 4294967296) * (b / 4294967296) = q01 at *
  generalize (a / 4294967296) * (b % 4294967296) = q10 at *
  generalize (a / 4294967296) * (b / 4294967296) = q11 at *
  clear hm hs ha e1 e2
  constructor
  · rw [wrap_id (x := q11) (by omega) (by omega), wrap_id (x := q01) (by omega) (by omega), wrap_id (x := q10) (by omega) (by omega), wrap_id (x := q11 + q01 / 4294967296) (by omega) (by omega),
      wrap_id (x := q11 + q01 / 4294967296 + q10 / 4294967296) (by omega) (by omega), wrap_id (by omega) (by omega)]
  · rw [wrap_id (x := q00) (by omega) (by omega), and32 (x := q00) (by omega) (by omega)]
    have e : IntKind.u64.wrap ((q00 / 4294967296 + q01 % 4294967296 + q10 % 4294967296) * 4294967296) = (q00 / 4294967296 + q01 % 4294967296 + q10 % 4294967296) % 4294967296 * 4294967296 := by
      rw [wrap_mod]; omega
    rw [e, or32 (by omega) (by omega) (by omega) (by omega)]

/-- Two words compared. -/
theorem le_words {U V : Int} : (hi U < hi V ∨ hi U = hi V ∧ lo U ≤ lo V) ↔ U ≤ V := by
  unfold hi lo; omega
theorem lt_words {U V : Int} (h : hi U ≠ hi V) : hi U < hi V ↔ U ≤ V := by
  unfold hi at *; omega
theorem lo_words {U V : Int} (h : hi U = hi V) : lo U ≤ lo V ↔ U ≤ V := by
  unfold hi lo at *; omega

/-- The sum of two pairs of words, as add128 computes it. -/
theorem add_lo (U V : Int) : IntKind.u64.wrap (lo U + lo V) = lo (U + V) := by
  rw [wrap_mod]; unfold lo; omega
theorem add_hi_yes {U V : Int} (u0 : 0 ≤ U) (v0 : 0 ≤ V) (h : hi U + hi V + 1 < 18446744073709551616) (c : IntKind.u64.wrap (lo U + lo V) < lo U) : IntKind.u64.wrap (IntKind.u64.wrap (hi U + hi V) + 1) = hi (U + V) := by
  rw [wrap_mod] at c
  rw [wrap_mod, wrap_mod]
  unfold hi lo at *; omega
theorem add_hi_no {U V : Int} (u0 : 0 ≤ U) (v0 : 0 ≤ V) (h : hi U + hi V + 1 < 18446744073709551616) (c : lo U ≤ IntKind.u64.wrap (lo U + lo V)) : IntKind.u64.wrap (hi U + hi V) = hi (U + V) := by
  rw [wrap_mod] at c
  rw [wrap_mod]
  unfold hi lo at *; omega

def mx (U V : Int) : Int := if U ≤ V then V else U
theorem mx_yes {U V : Int} (h : U ≤ V) : mx U V = V := if_pos h
theorem mx_no {U V : Int} (h : ¬ U ≤ V) : mx U V = U := if_neg h

/-- The target. -/
def tgt (a : Int) : Int := if a ≤ 8388608 then 8388608 * 100 else a * 100 + 8388608 * 100
theorem tgt_yes {a : Int} (h : a ≤ 8388608) : tgt a = 8388608 * 100 := if_pos h
theorem tgt_no {a : Int} (h : ¬ a ≤ 8388608) : tgt a = a * 100 + 8388608 * 100 := if_neg h
/-- The goal. -/
def gl (a g : Int) : Int := mx (a * (100 + g)) (4194304 * g)

theorem hi_small {V : Int} (h : V < 1000 * 18446744073709551616) : hi V < 1000 := by unfold hi; omega

/-- What percent computes. -/
def pct (a : Int) : Int := if a = 0 then 200 else if 8388608 < a then (if 50 < 838860800 / a then 838860800 / a else 50) else
  (if 100 < (if 100 * (8388608 - a) / a < 200 then 100 * (8388608 - a) / a else 200) then (if 100 * (8388608 - a) / a < 200 then 100 * (8388608 - a) / a else 200) else 100)

theorem quot_hi {a : Int} (h : 8388608 < a) : 0 ≤ 838860800 / a ∧ 838860800 / a ≤ 99 ∧ 838860800 / a * a ≤ 838860800 ∧ 838860800 < (838860800 / a + 1) * a := by
  have h1 : 0 ≤ 838860800 / a := Int.ediv_nonneg (by omega) (by omega)
  have h2 : 838860800 / a * a ≤ 838860800 := Int.ediv_mul_le _ (by omega)
  have h3 : 838860800 < (838860800 / a + 1) * a := Int.lt_ediv_add_one_mul_self _ (by omega)
  refine ⟨h1, ?_, h2, h3⟩
  generalize 838860800 / a = q at *
  by_cases c : q ≤ 99
  · exact c
  · have : 100 * a ≤ q * a := Int.mul_le_mul_of_nonneg_right (by omega) (by omega)
    omega
theorem quot_lo {a : Int} (h0 : 0 < a) (h : a ≤ 8388608) : 0 ≤ 100 * (8388608 - a) / a ∧ 100 * (8388608 - a) / a * a ≤ 100 * (8388608 - a) ∧ 100 * (8388608 - a) < (100 * (8388608 - a) / a + 1) * a ∧ 100 * (8388608 - a) / a ≤ 838860800 := by
  have h1 : 0 ≤ 100 * (8388608 - a) / a := Int.ediv_nonneg (by omega) (by omega)
  have h2 : 100 * (8388608 - a) / a * a ≤ 100 * (8388608 - a) := Int.ediv_mul_le _ (by omega)
  have h3 : 100 * (8388608 - a) < (100 * (8388608 - a) / a + 1) * a := Int.lt_ediv_add_one_mul_self _ (by omega)
  refine ⟨h1, h2, h3, ?_⟩
  generalize 100 * (8388608 - a) / a = q at *
  have : q * 1 ≤ q * a := Int.mul_le_mul_of_nonneg_left (by omega) h1
  omega

/-- The percent, told by what it does: for a > 0 the product a * pct a between bounds. -/
theorem pct_zero : pct 0 = 200 := by unfold pct; simp
theorem pct_hi {a : Int} (h : 8388608 < a) : 50 ≤ pct a ∧ pct a ≤ 99 ∧ (50 < pct a → a * pct a ≤ 838860800) ∧ 838860800 < a * (pct a + 1) ∧ (16777216 ≤ a → pct a = 50) := by
  obtain ⟨q0, q1, q2, q3⟩ := quot_hi h
  have e : pct a = if 50 < 838860800 / a then 838860800 / a else 50 := by unfold pct; rw [if_neg (by omega), if_pos h]
  rw [e]
  generalize 838860800 / a = q at *
  rw [Int.mul_comm] at q2 q3
  rw [Int.mul_add] at q3
  by_cases c : 50 < q
  · rw [if_pos c]
    refine ⟨by omega, by omega, fun _ => q2, by rw [Int.mul_add]; omega, fun h2 => ?_⟩
    exfalso
    have : a * 51 ≤ a * q := Int.mul_le_mul_of_nonneg_left (by omega) (by omega)
    omega
  · rw [if_neg c]
    refine ⟨by omega, by omega, fun h => by omega, ?_, fun _ => rfl⟩
    have : a * q ≤ a * 50 := Int.mul_le_mul_of_nonneg_left (by omega) (by omega)
    omega
theorem pct_lo {a : Int} (h0 : 0 < a) (h : a ≤ 8388608) : 100 ≤ pct a ∧ pct a ≤ 200 ∧ (100 < pct a → a * pct a ≤ 838860800 - 100 * a) ∧ (pct a = 200 ∨ 838860800 - 100 * a < a * (pct a + 1)) := by
  obtain ⟨q0, q2, q3, _⟩ := quot_lo h0 h
  have e : pct a = (if 100 < (if 100 * (8388608 - a) / a < 200 then 100 * (8388608 - a) / a else 200) then (if 100 * (8388608 - a) / a < 200 then 100 * (8388608 - a) / a else 200) else 100) := by
    unfold pct; rw [if_neg (by omega), if_neg (by omega)]
  rw [e]
  generalize 100 * (8388608 - a) / a = q at *
  rw [Int.mul_comm q] at q2
  rw [Int.mul_comm (q + 1), Int.mul_add] at q3
  by_cases c : q < 200
  · rw [if_pos c]
    by_cases c2 : 100 < q
    · rw [if_pos c2]
      exact ⟨by omega, by omega, fun _ => by omega, Or.inr (by rw [Int.mul_add]; omega)⟩
    · rw [if_neg c2]
      refine ⟨by omega, by omega, fun h => by omega, Or.inr ?_⟩
      have : a * q ≤ a * 100 := Int.mul_le_mul_of_nonneg_left (by omega) (by omega)
      omega
  · rw [if_neg c, if_pos (by omega)]
    refine ⟨by omega, by omega, fun _ => ?_, Or.inl rfl⟩
    have : a * 200 ≤ a * q := Int.mul_le_mul_of_nonneg_left (by omega) (by omega)
    omega

theorem pct_bd {a : Int} (h0 : 0 ≤ a) : 50 ≤ pct a ∧ pct a ≤ 200 := by
  by_cases h : a = 0
  · subst h; rw [pct_zero]; omega
  · by_cases h2 : 8388608 < a
    · have := pct_hi h2; omega
    · have := pct_lo (a := a) (by omega) (by omega); omega

theorem mx_le {U V T : Int} : mx U V ≤ T ↔ U ≤ T ∧ V ≤ T := by
  unfold mx; split <;> omega

/-- ████ THE PLAIN LAW of FnPercentIsGreatestGOGCKeepingGoalWithinTarget. -/
theorem greatest {a : Int} (h0 : 0 ≤ a) : (8388608 < a → 50 ≤ pct a) ∧ (a ≤ 8388608 → 100 ≤ pct a) ∧ ((8388608 < a → 50 < pct a) → (a ≤ 8388608 → 100 < pct a) → gl a (pct a) ≤ tgt a) ∧ ¬ gl a (pct a + 1) ≤ tgt a := by
  unfold gl
  simp only [mx_le]
  by_cases h : a = 0
  · subst h
    rw [pct_zero, tgt_yes (by omega)]
    omega
  by_cases h2 : 8388608 < a
  · obtain ⟨p1, p2, p3, p4, _⟩ := pct_hi h2
    rw [tgt_no (by omega)]
    generalize pct a = p at *
    rw [Int.mul_add] at p4
    rw [Int.mul_add, Int.mul_add, Int.mul_add]
    refine ⟨fun _ => p1, fun h => by omega, fun hp _ => ?_, fun hc => by omega⟩
    have := p3 (hp h2)
    omega
  · obtain ⟨p1, p2, p3, p4⟩ := pct_lo (a := a) (by omega) (by omega)
    rw [tgt_yes (by omega)]
    generalize pct a = p at *
    rw [Int.mul_add] at p4
    rw [Int.mul_add, Int.mul_add, Int.mul_add]
    refine ⟨fun h => by omega, fun _ => p1, fun _ hp => ?_, fun hc => ?_⟩
    · have := p3 (hp (by omega))
      omega
    · rcases p4 with h | h
      · subst h; omega
      · omega

/-- ████ THE PLAIN LAWS of FnPercentGoalWithinGoDefaultBoundsAndFallsWithLive. -/
def dflt (a : Int) : Int := mx (a * 200) 419430400
theorem bounds {a : Int} (h0 : 0 ≤ a) : gl a (pct a) ≤ dflt a + 419430400 ∧ dflt a + a * 100 ≤ gl a (pct a) + gl a (pct a) ∧ (8388608 < a → gl a (pct a) ≤ dflt a) ∧ (16777216 ≤ a → gl a (pct a) + gl a (pct a) ≤ dflt a + a * 100) := by
  have hp : ∃ y, a * (100 + pct a) = a * 100 + y ∧ y = a * pct a := ⟨_, Int.mul_add _ _ _, rfl⟩
  obtain ⟨y, hy, hy'⟩ := hp
  unfold gl dflt
  rw [hy]
  by_cases h : a = 0
  · subst h
    rw [pct_zero] at *
    have : y = 0 := by omega
    subst this
    unfold mx; split <;> split <;> omega
  by_cases h2 : 8388608 < a
  · obtain ⟨p1, p2, p3, p4, p5⟩ := pct_hi h2
    have q1 : a * 50 ≤ a * pct a := Int.mul_le_mul_of_nonneg_left p1 (by omega)
    have q2 : a * pct a ≤ a * 99 := Int.mul_le_mul_of_nonneg_left p2 (by omega)
    have q3 : 16777216 ≤ a → y = a * 50 := fun h => by rw [hy', p5 h]
    rw [← hy'] at q1 q2
    clear p3 p4 hy hy'
    generalize pct a = p at *
    unfold mx
    split <;> split <;> omega
  · obtain ⟨p1, p2, p3, p4⟩ := pct_lo (a := a) (by omega) (by omega)
    have q1 : a * 100 ≤ a * pct a := Int.mul_le_mul_of_nonneg_left p1 (by omega)
    have q2 : pct a = 100 → y = a * 100 := fun h => by rw [hy', h]
    rw [← hy'] at q1 p3
    clear p4 hy hy'
    generalize pct a = p at *
    unfold mx
    split <;> split <;> omega

theorem falls {a b : Int} (h0 : 0 ≤ a) (h : a ≤ b) : pct b ≤ pct a := by
  by_cases hb : b = a
  · subst hb; omega
  by_cases ha : a = 0
  · subst ha; rw [pct_zero]; exact (pct_bd (by omega)).2
  by_cases h2 : 8388608 < b
  · obtain ⟨p1, p2, p3, p4, p5⟩ := pct_hi h2
    by_cases h3 : 8388608 < a
    · obtain ⟨q1, q2, q3, q4, q5⟩ := pct_hi h3
      by_cases c : pct b ≤ pct a
      · exact c
      · exfalso
        have r1 := p3 (by omega)
        have r2 : a * (pct a + 1) ≤ a * pct b := Int.mul_le_mul_of_nonneg_left (by omega) (by omega)
        have r3 : a * pct b ≤ b * pct b := Int.mul_le_mul_of_nonneg_right (by omega) (by omega)
        omega
    · have := (pct_lo (a := a) (by omega) (by omega)).1
      omega
  · obtain ⟨p1, p2, p3, p4⟩ := pct_lo (a := b) (by omega) (by omega)
    obtain ⟨q1, q2, q3, q4⟩ := pct_lo (a := a) (by omega) (by omega)
    by_cases c : pct b ≤ pct a
    · exact c
    · exfalso
      have r1 := p3 (by omega)
      have r2 : a * (pct a + 1) ≤ a * pct b := Int.mul_le_mul_of_nonneg_left (by omega) (by omega)
      have r3 : a * pct b ≤ b * pct b := Int.mul_le_mul_of_nonneg_right (by omega) (by omega)
      rcases q4 with q4 | q4 <;> omega

end Go.Proofs.Qxb6619380a
