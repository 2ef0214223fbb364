/-
  PLAIN LAWS ON float64, second part: an integer as a float64; the quotient; the product with 2^20; the cut to a whole number.
-/
import Derived.Test.Qxb6617961aFloat
namespace Go.Proofs.Qxb6617961a.Fl
open Ieee

theorem pow_split (a b : Nat) (h : b ≤ a) : 2 ^ a = 2 ^ (a - b) * 2 ^ b := by
  rw [← Nat.pow_add]; congr 1; omega

/-- An integer below 2^63 as a float64: a significand M at the place E, together the whole number F, which is near n (n itself below 2^53). -/
theorem int_float (n : Nat) (h0 : 0 < n) (h : n < 9223372036854775808) : ∃ (M : Nat) (E : Int) (F : Nat),
    double.read (double.nearest false n 0) = .number false M E ∧ 4503599627370496 ≤ M ∧ M < 9007199254740992 ∧ (n.log2 : Int) - 52 ≤ E ∧ E ≤ (n.log2 : Int) - 51 ∧
    M * 2 ^ (E + 60).toNat = F * 2 ^ 60 ∧ (n < 9007199254740992 → F = n) ∧ F * 9007199254740992 ≤ n * 9007199254740993 ∧ n * 9007199254740991 ≤ F * 9007199254740992 := by
  have lo := log_lo h0
  have hi := log_hi n
  have hL : n.log2 < 63 := (Nat.log2_lt (by omega)).2 (by simpa using h)
  obtain ⟨kept, k1, k2, hr, r1, r2⟩ := read_near n 0 h0 (by omega) (by omega)
  have key : ∃ F, kept * 2 ^ (n.log2 + 8) = F * 2 ^ 60 ∧ (n < 9007199254740992 → F = n) ∧ F * 9007199254740992 ≤ n * 9007199254740993 ∧ n * 9007199254740991 ≤ F * 9007199254740992 := by
    by_cases hc : n.log2 ≤ 52
    · refine ⟨n, ?_, fun _ => rfl, by omega, by omega⟩
      rw [r1 hc, Nat.mul_assoc, ← Nat.pow_add]
      congr 2; omega
    · obtain ⟨a, b⟩ := r2 (by omega)
      refine ⟨kept * 2 ^ (n.log2 - 52), ?_, ?_, ?_, ?_⟩
      · rw [Nat.mul_assoc, ← Nat.pow_add]
        congr 2; omega
      · intro hn
        exfalso
        have : n.log2 < 53 := (Nat.log2_lt (by omega)).2 (by simpa using hn)
        omega
      · have : 4503599627370496 * 2 ^ (n.log2 - 52) ≤ n := by
          have e : (2 : Nat) ^ 52 * 2 ^ (n.log2 - 52) = 2 ^ n.log2 := by rw [← Nat.pow_add]; congr 1; omega
          have e52 : (2 : Nat) ^ 52 = 4503599627370496 := rfl
          rw [e52] at e; omega
        generalize kept * 2 ^ (n.log2 - 52) = F at *
        omega
      · have : 4503599627370496 * 2 ^ (n.log2 - 52) ≤ n := by
          have e : (2 : Nat) ^ 52 * 2 ^ (n.log2 - 52) = 2 ^ n.log2 := by rw [← Nat.pow_add]; congr 1; omega
          have e52 : (2 : Nat) ^ 52 = 4503599627370496 := rfl
          rw [e52] at e; omega
        generalize kept * 2 ^ (n.log2 - 52) = F at *
        omega
  obtain ⟨F, f1, f2, f3, f4⟩ := key
  rcases hr with ⟨hk, hr⟩ | ⟨hk, hr⟩
  · refine ⟨kept, _, F, hr, k1, hk, by omega, by omega, ?_, f2, f3, f4⟩
    have e : ((0 : Int) + (n.log2 : Int) - 52 + 60).toNat = n.log2 + 8 := by omega
    rw [e]; exact f1
  · refine ⟨4503599627370496, _, F, hr, by omega, by omega, by omega, by omega, ?_, f2, f3, f4⟩
    have e : ((0 : Int) + (n.log2 : Int) - 51 + 60).toNat = n.log2 + 8 + 1 := by omega
    rw [e, Nat.pow_succ, ← f1, hk]
    omega

theorem log52 (M : Nat) (h1 : 4503599627370496 ≤ M) (h2 : M < 9007199254740992) : M.log2 = 52 :=
  (Nat.log2_eq_iff (by omega)).2 ⟨by simpa using h1, by simpa using h2⟩

/-- The arithmetic of the rounding, over plain variables: T = Mr * 2^54. -/
theorem quot_arith (Mm D R T kept g q : Nat) (dm : Mm * D + R = T) (a : 2 * (kept * g) ≤ 2 * q + g) (b : 2 * q ≤ 2 * (kept * g) + g)
    (hg : g = 4 ∨ g = 8) (hrel : R = 0 ∧ q = 2 * D ∨ 0 < R ∧ q = 2 * D + 1) (ml : R < Mm) :
    2 * (kept * g * Mm) ≤ 4 * T + g * Mm ∧ 4 * T ≤ 2 * (kept * g * Mm) + g * Mm := by
  have n1 : Mm * (2 * (kept * g)) = 2 * (kept * g * Mm) := by rw [Nat.mul_left_comm, Nat.mul_comm Mm]
  have n2 : Mm * (4 * D + g) = 4 * (Mm * D) + g * Mm := by rw [Nat.mul_add, Nat.mul_left_comm, Nat.mul_comm Mm g]
  have n3 : Mm * (4 * D + 4) = 4 * (Mm * D) + 4 * Mm := by rw [Nat.mul_add, Nat.mul_left_comm, Nat.mul_comm Mm 4]
  have n4 : Mm * (2 * (kept * g) + g) = 2 * (kept * g * Mm) + g * Mm := by rw [Nat.mul_add, n1, Nat.mul_comm Mm g]
  have n5 : Mm * (4 * D) = 4 * (Mm * D) := by rw [Nat.mul_left_comm]
  rcases hrel with ⟨h1, h2⟩ | ⟨h1, h2⟩
  · have c1 : Mm * (2 * (kept * g)) ≤ Mm * (4 * D + g) := Nat.mul_le_mul_left _ (by omega)
    have c2 : Mm * (4 * D) ≤ Mm * (2 * (kept * g) + g) := Nat.mul_le_mul_left _ (by omega)
    rw [n1, n2] at c1
    rw [n5, n4] at c2
    omega
  · have s1 : 2 * (kept * g) ≤ 4 * D + g := by
      rcases hg with h | h <;> subst h <;> omega
    have s2 : 4 * D + 4 ≤ 2 * (kept * g) + g := by
      rcases hg with h | h <;> subst h <;> omega
    have c1 : Mm * (2 * (kept * g)) ≤ Mm * (4 * D + g) := Nat.mul_le_mul_left _ s1
    have c2 : Mm * (4 * D + 4) ≤ Mm * (2 * (kept * g) + g) := Nat.mul_le_mul_left _ s2
    rw [n1, n2] at c1
    rw [n3, n4] at c2
    omega

theorem quot_size (Mr Mm : Nat) (r1 : 4503599627370496 ≤ Mr) (r2 : Mr < 9007199254740992) (m1 : 4503599627370496 ≤ Mm) (m2 : Mm < 9007199254740992) :
    9007199254740992 ≤ Mr * 18014398509481984 / Mm ∧ Mr * 18014398509481984 / Mm < 36028797018963968 := by
  constructor
  · rw [Nat.le_div_iff_mul_le (by omega)]
    omega
  · rw [Nat.div_lt_iff_lt_mul (by omega)]
    omega

theorem quot_word (x y Mr Mm : Nat) (Er Em : Int) (hx : double.read x = .number false Mr Er) (hy : double.read y = .number false Mm Em)
    (hlr : Mr.log2 = 52) (hlm : Mm.log2 = 52) (h0 : Mm ≠ 0) :
    double.div x y = some (double.nearest false (2 * (Mr * 18014398509481984 / Mm) + (Mr * 18014398509481984 % Mm != 0).toNat) (Er - Em - 54 - 1)) := by
  have hf : double.fractionBits = 52 := rfl
  have hsh : Mr <<< (52 + 2 + 52 - 52) = Mr * 18014398509481984 := shl Mr 54
  unfold Format.div
  rw [hx, hy]
  simp only [Datum.quotient, h0, if_false, hlr, hlm, hf, hsh, Option.map_some, Format.write, Bool.xor_false]
  rfl

theorem sticky (D R : Nat) : R = 0 ∧ 2 * D + (R != 0).toNat = 2 * D ∨ 0 < R ∧ 2 * D + (R != 0).toNat = 2 * D + 1 := by
  cases R with
  | zero => exact Or.inl ⟨rfl, by simp⟩
  | succ n => exact Or.inr ⟨by omega, by simp⟩

theorem quot_core (T Mm D R q : Nat) (P : Int) (dm : Mm * D + R = T) (ml : R < Mm) (p1 : 9007199254740992 ≤ D) (p2 : D < 36028797018963968)
    (hrel : R = 0 ∧ q = 2 * D ∨ 0 < R ∧ q = 2 * D + 1) (e1 : -200 ≤ P) (e2 : P ≤ 200) :
    ∃ (kept d : Nat), 2 ≤ d ∧ d ≤ 3 ∧ 4503599627370496 ≤ kept ∧ kept ≤ 9007199254740992 ∧
      ((kept < 9007199254740992 ∧ double.read (double.nearest false q (P - 54 - 1)) = .number false kept (P - 55 + d)) ∨ (kept = 9007199254740992 ∧ double.read (double.nearest false q (P - 54 - 1)) = .number false 4503599627370496 (P - 54 + d))) ∧
      2 * (kept * 2 ^ d * Mm) ≤ 4 * T + 2 ^ d * Mm ∧ 4 * T ≤ 2 * (kept * 2 ^ d * Mm) + 2 ^ d * Mm := by
  have q1 : 18014398509481984 ≤ q := by omega
  have q2 : q < 72057594037927936 := by omega
  have hql : q.log2 = 54 ∨ q.log2 = 55 := by
    by_cases h : q < 36028797018963968
    · exact Or.inl ((Nat.log2_eq_iff (by omega)).2 ⟨by simpa using q1, by simpa using h⟩)
    · have h' : 36028797018963968 ≤ q := by omega
      exact Or.inr ((Nat.log2_eq_iff (by omega)).2 ⟨by simpa using h', by simpa using q2⟩)
  obtain ⟨kept, k1, k2, hr, _, hk⟩ := read_near q (P - 54 - 1) (by omega) (by omega) (by omega)
  obtain ⟨a, b⟩ := hk (by omega)
  refine ⟨kept, q.log2 - 52, by omega, by omega, k1, k2, ?_, ?_⟩
  · rcases hr with ⟨h1, h2⟩ | ⟨h1, h2⟩
    · refine Or.inl ⟨h1, ?_⟩
      rw [h2]; congr 1; omega
    · refine Or.inr ⟨h1, ?_⟩
      rw [h2]; congr 1; omega
  · have hg : 2 ^ (q.log2 - 52) = 4 ∨ 2 ^ (q.log2 - 52) = 8 := by
      rcases hql with h | h <;> rw [h] <;> simp
    exact quot_arith Mm D R T kept _ q dm a b hg hrel ml

/-- The quotient of two normal numbers, written: off by at most half a unit in the last place. -/
theorem quot (x y Mr Mm : Nat) (Er Em : Int) (hx : double.read x = .number false Mr Er) (hy : double.read y = .number false Mm Em)
    (r1 : 4503599627370496 ≤ Mr) (r2 : Mr < 9007199254740992) (m1 : 4503599627370496 ≤ Mm) (m2 : Mm < 9007199254740992)
    (e1 : -200 ≤ Er - Em) (e2 : Er - Em ≤ 200) :
    ∃ (b kept d : Nat), double.div x y = some b ∧ 2 ≤ d ∧ d ≤ 3 ∧ 4503599627370496 ≤ kept ∧ kept ≤ 9007199254740992 ∧
      ((kept < 9007199254740992 ∧ double.read b = .number false kept (Er - Em - 55 + d)) ∨ (kept = 9007199254740992 ∧ double.read b = .number false 4503599627370496 (Er - Em - 54 + d))) ∧
      2 * (kept * 2 ^ d * Mm) ≤ 4 * (Mr * 18014398509481984) + 2 ^ d * Mm ∧ 4 * (Mr * 18014398509481984) ≤ 2 * (kept * 2 ^ d * Mm) + 2 ^ d * Mm := by
  have hdiv := quot_word x y Mr Mm Er Em hx hy (log52 Mr r1 r2) (log52 Mm m1 m2) (by omega)
  have hp := quot_size Mr Mm r1 r2 m1 m2
  have core := quot_core (Mr * 18014398509481984) Mm (Mr * 18014398509481984 / Mm) (Mr * 18014398509481984 % Mm) (2 * (Mr * 18014398509481984 / Mm) + (Mr * 18014398509481984 % Mm != 0).toNat) (Er - Em)
    (Nat.div_add_mod _ _) (Nat.mod_lt _ (by omega)) hp.1 hp.2 (sticky _ _) e1 e2
  obtain ⟨kept, d, rest⟩ := core
  exact ⟨_, kept, d, hdiv, rest⟩

theorem scale_read : double.read 4697254411347427328 = .number false 4503599627370496 (-32) := by
  have e : 4697254411347427328 = 1042 * 4503599627370496 + 4503599627370496 := by omega
  rw [e, read_rung _ _ (by omega) (by omega) (by omega)]
  rfl

/-- Times 2^20: exact. -/
theorem scaled (b M : Nat) (E : Int) (hb : double.read b = .number false M E) (m1 : 4503599627370496 ≤ M) (m2 : M < 9007199254740992) (e1 : -500 ≤ E) (e2 : E ≤ 500) :
    ∃ b2, double.mul b 4697254411347427328 = some b2 ∧ double.read b2 = .number false M (E + 20) := by
  refine ⟨double.nearest false (M * 4503599627370496) (E + -32), ?_, ?_⟩
  · unfold Format.mul
    rw [hb, scale_read]
    rfl
  · have hl : (M * 4503599627370496).log2 = 104 := (Nat.log2_eq_iff (by omega)).2 ⟨by omega, by omega⟩
    obtain ⟨kept, k1, k2, hr, _, hk⟩ := read_near (M * 4503599627370496) (E + -32) (by omega) (by omega) (by omega)
    obtain ⟨a, b⟩ := hk (by omega)
    rw [hl] at hr a b
    have e52 : (2 : Nat) ^ (104 - 52) = 4503599627370496 := rfl
    rw [e52] at a b
    have : kept = M := by omega
    subst this
    rcases hr with ⟨h1, h2⟩ | ⟨h1, h2⟩
    · rw [h2]; congr 1; omega
    · omega

/-- Cut to a whole number. -/
theorem whole (M s : Nat) (E : Int) (hs : E = -(s : Int)) (h0 : 0 < M) : (Datum.number false M E).toInt .zero = some ((M / 2 ^ s : Nat) : Int) := by
  have hc : ∀ n : Nat, 0 < n → Toward.zero.cut false n s = n / 2 ^ s := by
    intro n hn
    unfold Toward.cut
    simp only [Bool.toNat_false, Nat.add_zero, Nat.one_shiftLeft]
    by_cases h : s ≤ n.log2 + 2
    · rw [Nat.min_eq_left h]
    · rw [Nat.min_eq_right (by omega)]
      have hi := log_hi n
      have p1 : n < 2 ^ (n.log2 + 2) := Nat.lt_of_lt_of_le hi (Nat.pow_le_pow_right (by omega) (by omega))
      have p2 : n < 2 ^ s := Nat.lt_of_lt_of_le hi (Nat.pow_le_pow_right (by omega) (by omega))
      rw [Nat.div_eq_of_lt p1, Nat.div_eq_of_lt p2]
  unfold Datum.toInt Datum.integral
  have t1 : E.toNat = 0 := by omega
  have t2 : (-E).toNat = s := by omega
  simp only [t1, t2, shl, Nat.pow_zero, Nat.mul_one]
  rw [hc _ h0]
  simp [signed, shl]

end Go.Proofs.Qxb6617961a.Fl
