import Derived.Test.Qxb6617961aDom
namespace Go.Proofs.Qxb6617961a
open Go.RowKit

/-- Binary long division, step by step: the quotient and the remainder behind k steps. -/
def sq (r m : Int) : Nat → Int × Int
  | 0 => (r / m, r % m)
  | k + 1 => if m ≤ 2 * (sq r m k).2 then (2 * (sq r m k).1 + 1, 2 * (sq r m k).2 - m) else (2 * (sq r m k).1, 2 * (sq r m k).2)

theorem sq_inv {r m : Int} (h0 : 0 < r) (h1 : r ≤ m) : ∀ k : Nat, (sq r m k).1 * m + (sq r m k).2 = r * (2 ^ k : Nat) ∧ 0 ≤ (sq r m k).2 ∧ (sq r m k).2 < m ∧ 0 ≤ (sq r m k).1 ∧ (sq r m k).1 ≤ (2 ^ k : Nat)
  | 0 => by
    have e := Int.mul_ediv_add_emod r m
    have a := Int.emod_nonneg r (show m ≠ 0 by omega)
    have b := Int.emod_lt_of_pos r (show 0 < m by omega)
    have c : 0 ≤ r / m := Int.ediv_nonneg (by omega) (by omega)
    have d : r / m ≤ 1 := by
      have : r / m ≤ m / m := Int.ediv_le_ediv (by omega) h1
      rwa [Int.ediv_self (show m ≠ 0 by omega)] at this
    show (r / m) * m + r % m = r * ((2 ^ 0 : Nat) : Int) ∧ 0 ≤ r % m ∧ r % m < m ∧ 0 ≤ r / m ∧ r / m ≤ ((2 ^ 0 : Nat) : Int)
    rw [Int.mul_comm (r / m)]
    simp only [Nat.pow_zero]
    omega
  | k + 1 => by
    obtain ⟨a, b, c, d, e⟩ := sq_inv h0 h1 k
    have hp : ((2 ^ (k + 1) : Nat) : Int) = 2 * ((2 ^ k : Nat) : Int) := by rw [Nat.pow_succ]; omega
    have hr : r * ((2 ^ (k + 1) : Nat) : Int) = 2 * (r * ((2 ^ k : Nat) : Int)) := by rw [hp, Int.mul_left_comm]
    rw [hr, hp]
    by_cases h : m ≤ 2 * (sq r m k).2
    · have e1 : sq r m (k + 1) = (2 * (sq r m k).1 + 1, 2 * (sq r m k).2 - m) := by show (if _ then _ else _) = _; rw [if_pos h]
      rw [e1]
      have f : (sq r m k).1 + 1 ≤ ((2 ^ k : Nat) : Int) := by
        by_cases q : (sq r m k).1 + 1 ≤ ((2 ^ k : Nat) : Int)
        · exact q
        · exfalso
          have q1 : (sq r m k).1 = ((2 ^ k : Nat) : Int) := by omega
          rw [q1, Int.mul_comm] at a
          have q2 : r * ((2 ^ k : Nat) : Int) ≤ m * ((2 ^ k : Nat) : Int) := Int.mul_le_mul_of_nonneg_right h1 (by omega)
          omega
      show (2 * (sq r m k).1 + 1) * m + (2 * (sq r m k).2 - m) = _ ∧ _
      rw [← a, Int.add_mul, Int.mul_assoc]
      generalize (sq r m k).1 * m = x at *
      simp only
      omega
    · have e1 : sq r m (k + 1) = (2 * (sq r m k).1, 2 * (sq r m k).2) := by show (if _ then _ else _) = _; rw [if_neg h]
      rw [e1]
      show (2 * (sq r m k).1) * m + (2 * (sq r m k).2) = _ ∧ _
      rw [← a, Int.mul_assoc]
      generalize (sq r m k).1 * m = x at *
      simp only
      omega

theorem sq_last {r m : Int} (h0 : 0 < r) (h1 : r ≤ m) : (sq r m 20).1 = r * 1048576 / m := by
  obtain ⟨a, b, c, d, e⟩ := sq_inv h0 h1 20
  have p : ((2 ^ 20 : Nat) : Int) = 1048576 := by decide
  rw [p] at a
  rw [← a, Int.add_comm, Int.add_mul_ediv_right _ _ (by omega), Int.ediv_eq_zero_of_lt b c]
  omega

theorem or_one {q : Int} (h0 : 0 ≤ q) (h1 : q < 4294967296) : bits .or .u64 (q * 2) 1 = 2 * q + 1 := by
  obtain ⟨n, rfl⟩ := Int.eq_ofNat_of_zero_le h0
  have e : bits .or .u64 ((n * 2 : Nat) : Int) 1 = ((n * 2 ||| 1 : Nat) : Int) := u64_or_nat (n * 2) 1 (by omega) (by omega)
  have e2 : n * 2 ||| 1 = n * 2 + 1 := by
    have := Nat.two_pow_add_eq_or_of_lt (i := 1) (b := 1) (by omega) n
    rw [Nat.pow_one] at this
    rw [Nat.mul_comm, ← this]
  have e3 : ((n * 2 : Nat) : Int) = (n : Int) * 2 := by omega
  rw [e3] at e
  rw [e, e2]
  omega

theorem wrap_id {x : Int} (h0 : 0 ≤ x) (h1 : x < 18446744073709551616) : IntKind.u64.wrap x = x := by
  have : IntKind.u64.wrap x = x % 18446744073709551616 := by simp [IntKind.wrap, IntKind.bits, IntKind.signed]
  rw [this]; omega

theorem pow20 {k : Nat} (h : k ≤ 20) : ((2 ^ k : Nat) : Int) ≤ 1048576 := by
  have : 2 ^ k ≤ 2 ^ 20 := Nat.pow_le_pow_right (by omega) h
  have p : (2 : Nat) ^ 20 = 1048576 := by decide
  omega

theorem sq_yes {r m : Int} {k : Nat} (h0 : 0 < r) (h1 : r ≤ m) (h2 : m < 9223372036854775808) (hk : k ≤ 20) (h : m ≤ IntKind.u64.wrap ((sq r m k).2 * 2)) :
    bits .or .u64 (IntKind.u64.wrap ((sq r m k).1 * 2)) 1 = (sq r m (k + 1)).1 ∧ IntKind.u64.wrap (IntKind.u64.wrap ((sq r m k).2 * 2) - m) = (sq r m (k + 1)).2 := by
  obtain ⟨a, b, c, d, e⟩ := sq_inv h0 h1 k
  have p := pow20 hk
  rw [wrap_id (by omega) (by omega)] at h
  have e1 : sq r m (k + 1) = (2 * (sq r m k).1 + 1, 2 * (sq r m k).2 - m) := by show (if _ then _ else _) = _; rw [if_pos (by omega)]
  rw [e1, wrap_id (x := (sq r m k).1 * 2) (by omega) (by omega), wrap_id (x := (sq r m k).2 * 2) (by omega) (by omega), wrap_id (by omega) (by omega), or_one (by omega) (by omega)]
  exact ⟨rfl, by show _ = 2 * (sq r m k).2 - m; omega⟩

theorem sq_no {r m : Int} {k : Nat} (h0 : 0 < r) (h1 : r ≤ m) (h2 : m < 9223372036854775808) (hk : k ≤ 20) (h : IntKind.u64.wrap ((sq r m k).2 * 2) < m) :
    IntKind.u64.wrap ((sq r m k).1 * 2) = (sq r m (k + 1)).1 ∧ IntKind.u64.wrap ((sq r m k).2 * 2) = (sq r m (k + 1)).2 := by
  obtain ⟨a, b, c, d, e⟩ := sq_inv h0 h1 k
  have p := pow20 hk
  rw [wrap_id (by omega) (by omega)] at h
  have e1 : sq r m (k + 1) = (2 * (sq r m k).1, 2 * (sq r m k).2) := by show (if _ then _ else _) = _; rw [if_neg (by omega)]
  rw [e1, wrap_id (x := (sq r m k).1 * 2) (by omega) (by omega), wrap_id (x := (sq r m k).2 * 2) (by omega) (by omega)]
  exact ⟨by show _ = 2 * (sq r m k).1; omega, by show _ = 2 * (sq r m k).2; omega⟩

theorem int_eq {k : IntKind} {a b : Int} (h : a = b) : Value.int k a = .int k b := by rw [h]
theorem ret_int {k : IntKind} {a b : Int} (h : a = b) : Ending.returned (.int k a) = .returned (.int k b) := by rw [h]

set_option maxHeartbeats 400000 in
/-- scaledShare. -/
theorem scaled_walk (r m : Int) (w : World) (h0 : 0 < r) (h1 : r ≤ m) (h2 : m < 9223372036854775808) :
    Calls Try.prog 13 #[.int .u64 r, .int .u64 m] w fun e w' => e = .returned (.int .u64 (r * 1048576 / m)) ∧ w = w' := by
  have hz : (m == 0) = false := by simp; omega
  go_enter Try.func13, Try.ntmps13
  go_wp2
  go_loop [5, 6, 7] (fun q t i => ∃ k : Nat, k ≤ 20 ∧ i = .int .i64 k ∧ q = .int .u64 (sq r m k).1 ∧ t = .int .u64 (sq r m k).2) (fun _ _ i => 20 - (intOf i).toNat)
  case atStart => exact ⟨0, Nat.zero_le _, rfl, rfl, rfl⟩
  case round =>
    obtain ⟨k, hk, rfl, rfl, rfl⟩ := hrel
    by_cases hlt : k < 20
    · go_wp2
      · go_round
        case rel =>
          have hs := sq_yes h0 h1 h2 hk ‹m ≤ IntKind.u64.wrap ((sq r m k).2 * 2)›
          exact ⟨k + 1, by omega, by go_num, int_eq hs.1, int_eq hs.2⟩
        case measure => simp [intOf]; omega
      · go_round
        case rel =>
          have hs := sq_no h0 h1 h2 hk ‹IntKind.u64.wrap ((sq r m k).2 * 2) < m›
          exact ⟨k + 1, by omega, by go_num, int_eq hs.1, int_eq hs.2⟩
        case measure => simp [intOf]; omega
    · have e : k = 20 := by omega
      have HE : Hid (k = 20) := e
      clear e
      go_wp2
      go_ret
      exact ⟨ret_int (by rw [HE.out]; exact sq_last h0 h1), rfl⟩
end Go.Proofs.Qxb6617961a
