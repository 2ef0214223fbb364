/-
  PLAIN LAWS ON float64 (no Go in sight): for 0 < r <= m < 2^63 the float64 expression 'float64(r)/float64(m)*2^20', cut to a whole number, is within one of floor(r * 2^20 / m), and is that very number where r < 2^32.
-/
import Derived.Laws.FloatArith
namespace Go.Proofs.Qxb6617961a.Fl
open Ieee

theorem shl (a b : Nat) : a <<< b = a * 2 ^ b := Nat.shiftLeft_eq a b

/-- Rounding to the nearest: off by at most half a unit. -/
theorem cut_even (n d : Nat) (hd : d ≤ n.log2 + 2) :
    2 * (Toward.even.cut false n d * 2 ^ d) ≤ 2 * n + 2 ^ d ∧ 2 * n ≤ 2 * (Toward.even.cut false n d * 2 ^ d) + 2 ^ d := by
  have hg : 1 <<< min d (n.log2 + 2) = 2 ^ d := by rw [Nat.one_shiftLeft, Nat.min_eq_left hd]
  have hp : 0 < 2 ^ d := Nat.two_pow_pos d
  unfold Toward.cut
  simp only [hg]
  generalize 2 ^ d = g at *
  have h1 := Nat.div_add_mod n g
  have h2 := Nat.mod_lt n hp
  generalize n / g = low at *
  generalize n % g = rest at *
  by_cases hc : (decide (g < 2 * rest) || (g == 2 * rest && low % 2 == 1)) = true
  · rw [hc]
    have : g ≤ 2 * rest := by
      simp only [Bool.or_eq_true, decide_eq_true_eq, Bool.and_eq_true, beq_iff_eq] at hc
      omega
    have e : (low + true.toNat) * g = g * low + g := by
      rw [Nat.mul_comm]; exact Nat.mul_add_one g low
    rw [e]; omega
  · have hc' := hc
    simp only [Bool.not_eq_true] at hc'
    rw [hc']
    have : 2 * rest ≤ g := by
      simp only [Bool.or_eq_true, decide_eq_true_eq, Bool.and_eq_true, beq_iff_eq] at hc
      omega
    have e : (low + false.toNat) * g = g * low := by
      simp [Nat.mul_comm]
    rw [e]; omega

theorem cut_zero (n : Nat) : Toward.even.cut false n 0 = n := by
  have := cut_even n 0 (by omega)
  simp at this
  omega

/-- How a rung of a normal number is read. -/
theorem read_rung (e k : Nat) (he : e ≤ 2040) (h1 : 4503599627370496 ≤ k) (h2 : k < 9007199254740992) :
    double.read (e * 4503599627370496 + k) = .number false k ((e : Int) - 1074) := by
  have hb : double.binade = 4503599627370496 := rfl
  have hs : double.signWeight = 9223372036854775808 := rfl
  have hi : double.infRung = 9218868437227405312 := rfl
  have hl : double.leastPlace = -1074 := rfl
  unfold Format.read
  simp only [hb, hs, hi, hl]
  have a1 : (e * 4503599627370496 + k) / 9223372036854775808 = 0 := by omega
  have a2 : (e * 4503599627370496 + k) % 9223372036854775808 = e * 4503599627370496 + k := by omega
  rw [a1, a2]
  rw [if_neg (by omega), if_pos (by omega)]
  have a3 : (e * 4503599627370496 + k) % 4503599627370496 = k - 4503599627370496 := by omega
  have a4 : (e * 4503599627370496 + k) / 4503599627370496 - 1 = e := by omega
  rw [a3, a4]
  have a5 : 4503599627370496 + (k - 4503599627370496) = k := by omega
  have a6 : (-1074 : Int) + (e : Int) = (e : Int) - 1074 := by omega
  rw [a5, a6]
  rfl

theorem wordf (x : Nat) : double.word false x = x := by unfold Format.word; exact if_neg (by decide)

theorem log_lo {n : Nat} (h : 0 < n) : 2 ^ n.log2 ≤ n := Nat.log2_self_le (by omega)
theorem log_hi (n : Nat) : n < 2 ^ (n.log2 + 1) := Nat.lt_log2_self

/-- What the nearest word of a number reads as. -/
theorem read_near (mag : Nat) (place : Int) (hm : 0 < mag) (h1 : -1022 ≤ place + mag.log2) (h2 : place + mag.log2 ≤ 900) :
    ∃ kept : Nat, 4503599627370496 ≤ kept ∧ kept ≤ 9007199254740992 ∧
      ((kept < 9007199254740992 ∧ double.read (double.nearest false mag place) = .number false kept (place + mag.log2 - 52)) ∨
       (kept = 9007199254740992 ∧ double.read (double.nearest false mag place) = .number false 4503599627370496 (place + mag.log2 - 51))) ∧
      (mag.log2 ≤ 52 → kept = mag * 2 ^ (52 - mag.log2)) ∧
      (52 ≤ mag.log2 → 2 * (kept * 2 ^ (mag.log2 - 52)) ≤ 2 * mag + 2 ^ (mag.log2 - 52) ∧ 2 * mag ≤ 2 * (kept * 2 ^ (mag.log2 - 52)) + 2 ^ (mag.log2 - 52)) := by
  have hb : double.binade = 4503599627370496 := rfl
  have hi : double.infRung = 9218868437227405312 := rfl
  have hl : double.leastPlace = -1074 := rfl
  have hf : ((double.fractionBits : Nat) : Int) = 52 := rfl
  have lo := log_lo hm
  have hi' := log_hi mag
  have key : ∃ kept : Nat, double.nearest false mag place = (place + mag.log2 + 1022).toNat * 4503599627370496 + kept ∧ 4503599627370496 ≤ kept ∧ kept ≤ 9007199254740992 ∧
      (mag.log2 ≤ 52 → kept = mag * 2 ^ (52 - mag.log2)) ∧
      (52 ≤ mag.log2 → 2 * (kept * 2 ^ (mag.log2 - 52)) ≤ 2 * mag + 2 ^ (mag.log2 - 52) ∧ 2 * mag ≤ 2 * (kept * 2 ^ (mag.log2 - 52)) + 2 ^ (mag.log2 - 52)) := by
    have hlast : max (place + (mag.log2 : Int) - 52) (-1074) = place + mag.log2 - 52 := by omega
    have hmin : ∀ kept : Nat, kept ≤ 9007199254740992 → min ((place + (mag.log2 : Int) - 52 - -1074).toNat * 4503599627370496 + kept) 9218868437227405312 = (place + mag.log2 + 1022).toNat * 4503599627370496 + kept := by
      intro kept hk
      have e : (place + (mag.log2 : Int) - 52 - -1074).toNat = (place + mag.log2 + 1022).toNat := by omega
      have e' : (place + (mag.log2 : Int) + 1022).toNat ≤ 1922 := by omega
      rw [e]
      generalize (place + (mag.log2 : Int) + 1022).toNat = E at *
      exact Nat.min_eq_left (by omega)
    by_cases hL : mag.log2 ≤ 52
    · refine ⟨mag * 2 ^ (52 - mag.log2), ?_, ?_, ?_, fun _ => rfl, ?_⟩
      · unfold Format.nearest
        rw [if_neg (by omega)]
        simp only [hb, hi, hl, hf, hlast]
        have e1 : (place - (place + (mag.log2 : Int) - 52)).toNat = 52 - mag.log2 := by omega
        have e2 : (place + (mag.log2 : Int) - 52 - place).toNat = 0 := by omega
        rw [e1, e2, cut_zero, shl]
        have : mag * 2 ^ (52 - mag.log2) ≤ 9007199254740992 := by
          have : mag * 2 ^ (52 - mag.log2) ≤ 2 ^ (mag.log2 + 1) * 2 ^ (52 - mag.log2) := Nat.mul_le_mul_right _ (by omega)
          rw [← Nat.pow_add] at this
          have e : mag.log2 + 1 + (52 - mag.log2) = 53 := by omega
          rw [e] at this
          simpa using this
        rw [hmin _ this]
        exact wordf _
      · have : 2 ^ mag.log2 * 2 ^ (52 - mag.log2) ≤ mag * 2 ^ (52 - mag.log2) := Nat.mul_le_mul_right _ lo
        rw [← Nat.pow_add] at this
        have e : mag.log2 + (52 - mag.log2) = 52 := by omega
        rw [e] at this
        simpa using this
      · have : mag * 2 ^ (52 - mag.log2) ≤ 2 ^ (mag.log2 + 1) * 2 ^ (52 - mag.log2) := Nat.mul_le_mul_right _ (by omega)
        rw [← Nat.pow_add] at this
        have e : mag.log2 + 1 + (52 - mag.log2) = 53 := by omega
        rw [e] at this
        simpa using this
      · intro h
        have e : mag.log2 = 52 := by omega
        simp [e]
    · have hd := cut_even mag (mag.log2 - 52) (by omega)
      have hp : 0 < 2 ^ (mag.log2 - 52) := Nat.two_pow_pos _
      have l2 : 4503599627370496 * 2 ^ (mag.log2 - 52) ≤ mag := by
        have : (2 : Nat) ^ 52 * 2 ^ (mag.log2 - 52) = 2 ^ mag.log2 := by rw [← Nat.pow_add]; congr 1; omega
        have e52 : (2 : Nat) ^ 52 = 4503599627370496 := rfl
        rw [e52] at this; omega
      have l3 : mag < 9007199254740992 * 2 ^ (mag.log2 - 52) := by
        have : (2 : Nat) ^ 53 * 2 ^ (mag.log2 - 52) = 2 ^ (mag.log2 + 1) := by rw [← Nat.pow_add]; congr 1; omega
        have e53 : (2 : Nat) ^ 53 = 9007199254740992 := rfl
        rw [e53] at this; omega
      have k1 : 4503599627370496 ≤ Toward.even.cut false mag (mag.log2 - 52) := by
        generalize Toward.even.cut false mag (mag.log2 - 52) = k at *
        generalize 2 ^ (mag.log2 - 52) = g at *
        by_cases h : 4503599627370496 ≤ k
        · exact h
        · exfalso
          have : (k + 1) * g ≤ 4503599627370496 * g := Nat.mul_le_mul_right _ (by omega)
          have e : (k + 1) * g = k * g + g := by rw [Nat.add_mul]; omega
          omega
      have k2 : Toward.even.cut false mag (mag.log2 - 52) ≤ 9007199254740992 := by
        generalize Toward.even.cut false mag (mag.log2 - 52) = k at *
        generalize 2 ^ (mag.log2 - 52) = g at *
        by_cases h : k ≤ 9007199254740992
        · exact h
        · exfalso
          have : (9007199254740992 + 1) * g ≤ k * g := Nat.mul_le_mul_right _ (by omega)
          omega
      refine ⟨Toward.even.cut false mag (mag.log2 - 52), ?_, k1, k2, fun h => by omega, fun _ => hd⟩
      unfold Format.nearest
      rw [if_neg (by omega)]
      simp only [hb, hi, hl, hf, hlast]
      have e1 : (place - (place + (mag.log2 : Int) - 52)).toNat = 0 := by omega
      have e2 : (place + (mag.log2 : Int) - 52 - place).toNat = mag.log2 - 52 := by omega
      rw [e1, e2, shl, Nat.pow_zero, Nat.mul_one, hmin _ k2]
      exact wordf _
  obtain ⟨kept, hn, k1, k2, r1, r2⟩ := key
  refine ⟨kept, k1, k2, ?_, r1, r2⟩
  by_cases hk : kept < 9007199254740992
  · refine Or.inl ⟨hk, ?_⟩
    rw [hn, read_rung _ _ (by omega) k1 hk]
    congr 1; omega
  · have hk' : kept = 9007199254740992 := by omega
    refine Or.inr ⟨hk', ?_⟩
    rw [hn, hk']
    have e : (place + (mag.log2 : Int) + 1022).toNat * 4503599627370496 + 9007199254740992 = (place + mag.log2 + 1023).toNat * 4503599627370496 + 4503599627370496 := by omega
    rw [e, read_rung _ _ (by omega) (by omega) (by omega)]
    congr 1; omega

end Go.Proofs.Qxb6617961a.Fl
