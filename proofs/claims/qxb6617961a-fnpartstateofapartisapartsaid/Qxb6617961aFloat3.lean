/-
  PLAIN LAWS ON float64, third part: the share, scaled by 2^20 and cut, against floor(r * 2^20 / m).
-/
import Derived.Test.Qxb6617961aFloat2
namespace Go.Proofs.Qxb6617961a.Fl
open Ieee

theorem pow_eq {a b : Nat} (h : a = b) : 2 ^ a = 2 ^ b := by rw [h]

/-- The places are taken out of the two bounds: G = 2^(Em+60), A = 2^(s+19), d2 = 2^d. -/
theorem conv (kept d2 Mr Mm Fr Fm G A : Nat) (hG : Mm * G = Fm * 1152921504606846976) (hA : Mr * (18014398509481984 * G) = Fr * 1152921504606846976 * (d2 * A)) (hd : 0 < d2)
    (h1 : 2 * (kept * d2 * Mm) ≤ 4 * (Mr * 18014398509481984) + d2 * Mm) (h2 : 4 * (Mr * 18014398509481984) ≤ 2 * (kept * d2 * Mm) + d2 * Mm) :
    2 * (kept * Fm) ≤ 4 * (Fr * A) + Fm ∧ 4 * (Fr * A) ≤ 2 * (kept * Fm) + Fm := by
  generalize 18014398509481984 = c54 at *
  have hK : 0 < 1152921504606846976 := by omega
  generalize 1152921504606846976 = K at *
  have e1 : (2 * (kept * d2 * Mm)) * G = d2 * K * (2 * (kept * Fm)) := by
    calc (2 * (kept * d2 * Mm)) * G = 2 * (kept * d2 * (Mm * G)) := by simp only [Nat.mul_assoc]
      _ = 2 * (kept * d2 * (Fm * K)) := by rw [hG]
      _ = d2 * K * (2 * (kept * Fm)) := by simp only [Nat.mul_assoc, Nat.mul_comm, Nat.mul_left_comm]
  have e2 : (4 * (Mr * c54) + d2 * Mm) * G = d2 * K * (4 * (Fr * A) + Fm) := by
    calc (4 * (Mr * c54) + d2 * Mm) * G = 4 * (Mr * (c54 * G)) + d2 * (Mm * G) := by rw [Nat.add_mul]; simp only [Nat.mul_assoc]
      _ = 4 * (Fr * K * (d2 * A)) + d2 * (Fm * K) := by rw [hG, hA]
      _ = d2 * K * (4 * (Fr * A) + Fm) := by rw [Nat.mul_add]; simp only [Nat.mul_assoc, Nat.mul_comm, Nat.mul_left_comm]
  have e3 : (4 * (Mr * c54)) * G = d2 * K * (4 * (Fr * A)) := by
    calc (4 * (Mr * c54)) * G = 4 * (Mr * (c54 * G)) := by simp only [Nat.mul_assoc]
      _ = 4 * (Fr * K * (d2 * A)) := by rw [hA]
      _ = d2 * K * (4 * (Fr * A)) := by simp only [Nat.mul_assoc, Nat.mul_comm, Nat.mul_left_comm]
  have e4 : (2 * (kept * d2 * Mm) + d2 * Mm) * G = d2 * K * (2 * (kept * Fm) + Fm) := by
    rw [Nat.add_mul, e1, Nat.mul_assoc d2 Mm G, hG, Nat.mul_add]
    simp only [Nat.mul_assoc, Nat.mul_comm, Nat.mul_left_comm]
  have hpos : 0 < d2 * K := Nat.mul_pos hd hK
  have a := Nat.mul_le_mul_right G h1
  have b := Nat.mul_le_mul_right G h2
  rw [e1, e2] at a
  rw [e3, e4] at b
  exact ⟨Nat.le_of_mul_le_mul_left a hpos, Nat.le_of_mul_le_mul_left b hpos⟩

/-- The relative error upward: n * Fm * (2^53 - 1) <= Fr * 2^20 * 2^53. -/
theorem rel_hi (Fr Fm kept Z n : Nat) (hZ : 0 < Z) (k1 : 4503599627370496 ≤ kept)
    (hn : n * Z ≤ kept) (h1 : 2 * (kept * Fm) ≤ 4 * (Fr * (Z * 524288)) + Fm) : n * Fm * 9007199254740991 ≤ Fr * 1048576 * 9007199254740992 := by
  have t0 : 4503599627370496 * Fm ≤ kept * Fm := Nat.mul_le_mul_right _ k1
  have t2 : n * Z * Fm ≤ kept * Fm := Nat.mul_le_mul_right _ hn
  have t3 : n * Z * Fm = Z * (n * Fm) := by rw [Nat.mul_comm n Z, Nat.mul_assoc]
  have t4 : Fr * (Z * 524288) = Z * (Fr * 524288) := by rw [Nat.mul_left_comm]
  rw [t3] at t2
  rw [t4] at h1
  have u1 : Z * (n * Fm * 9007199254740991) = Z * (n * Fm) * 9007199254740991 := by rw [Nat.mul_assoc Z]
  have u2 : Z * (Fr * 1048576 * 9007199254740992) = 18014398509481984 * (Z * (Fr * 524288)) := by
    have : Fr * 1048576 * 9007199254740992 = Fr * 524288 * 18014398509481984 := by omega
    rw [this, ← Nat.mul_assoc, Nat.mul_comm]
  have t5 : Z * (n * Fm * 9007199254740991) ≤ Z * (Fr * 1048576 * 9007199254740992) := by
    rw [u1, u2]
    clear u1 u2 t3 t4 hn k1
    generalize Z * (Fr * 524288) = fz at *
    generalize Z * (n * Fm) = zn at *
    generalize kept * Fm = kf at *
    omega
  exact Nat.le_of_mul_le_mul_left t5 hZ

theorem rel_lo (Fr Fm kept Z n : Nat) (hZ : 0 < Z) (k1 : 4503599627370496 ≤ kept)
    (hn : kept < (n + 1) * Z) (h2 : 4 * (Fr * (Z * 524288)) ≤ 2 * (kept * Fm) + Fm) : Fr * 1048576 * 9007199254740992 ≤ (n + 1) * Fm * 9007199254740993 := by
  have t0 : 4503599627370496 * Fm ≤ kept * Fm := Nat.mul_le_mul_right _ k1
  have t2 : kept * Fm ≤ (n + 1) * Z * Fm := Nat.mul_le_mul_right _ (by omega)
  have t3 : (n + 1) * Z * Fm = Z * ((n + 1) * Fm) := by rw [Nat.mul_comm (n + 1) Z, Nat.mul_assoc]
  have t4 : Fr * (Z * 524288) = Z * (Fr * 524288) := by rw [Nat.mul_left_comm]
  rw [t3] at t2
  rw [t4] at h2
  have u1 : Z * ((n + 1) * Fm * 9007199254740993) = Z * ((n + 1) * Fm) * 9007199254740993 := by rw [Nat.mul_assoc Z]
  have u2 : Z * (Fr * 1048576 * 9007199254740992) = 18014398509481984 * (Z * (Fr * 524288)) := by
    have : Fr * 1048576 * 9007199254740992 = Fr * 524288 * 18014398509481984 := by omega
    rw [this, ← Nat.mul_assoc, Nat.mul_comm]
  have t5 : Z * (Fr * 1048576 * 9007199254740992) ≤ Z * ((n + 1) * Fm * 9007199254740993) := by
    rw [u1, u2]
    clear u1 u2 t3 t4 hn k1
    generalize Z * (Fr * 524288) = fz at *
    generalize Z * ((n + 1) * Fm) = zn at *
    generalize kept * Fm = kf at *
    omega
  exact Nat.le_of_mul_le_mul_left t5 hZ

/-- Within one. Z = 2^s, x = n * m, y = n * Fm; A = Z * 2^19. -/
theorem near_hi (r m Fr Fm kept Z n e : Nat) (_hr : 0 < r) (hrm : r ≤ m) (hZ : 0 < Z) (k1 : 4503599627370496 ≤ kept)
    (hn : n * Z ≤ kept) (h1 : 2 * (kept * Fm) ≤ 4 * (Fr * (Z * 524288)) + Fm)
    (fr : Fr * 9007199254740992 ≤ r * 9007199254740993) (fm : m * 9007199254740991 ≤ Fm * 9007199254740992)
    (he : r * 1048576 < (e + 1) * m) : n ≤ e + 1 ∧ (9007199254740992 ≤ m → r < 4294967296 → n = 0) := by
  have a1 := rel_hi Fr Fm kept Z n hZ k1 hn h1
  clear h1 hn k1
  -- n * m * (2^53 - 1)^2 <= n * Fm * (2^53 - 1) * 2^53
  have a2 : n * m * 9007199254740991 ≤ n * Fm * 9007199254740992 := by
    have := Nat.mul_le_mul_left n fm
    rw [← Nat.mul_assoc, ← Nat.mul_assoc] at this
    exact this
  constructor
  · by_cases h : n ≤ e + 1
    · exact h
    · exfalso
      have b1 : (e + 2) * m ≤ n * m := Nat.mul_le_mul_right _ (by omega)
      have b2 : (e + 2) * m = (e + 1) * m + m := by rw [Nat.add_mul, Nat.add_mul]; omega
      generalize (e + 1) * m = em at *
      generalize n * m = x at *
      generalize n * Fm = y at *
      omega
  · intro hm hr32
    by_cases h : n = 0
    · exact h
    · exfalso
      have b1 : 1 * m ≤ n * m := Nat.mul_le_mul_right _ (by omega)
      generalize n * m = x at *
      generalize n * Fm = y at *
      omega

theorem near_lo (r m Fr Fm kept Z n e : Nat) (hrm : r ≤ m) (hm : 0 < m) (hZ : 0 < Z) (k1 : 4503599627370496 ≤ kept)
    (hn : kept < (n + 1) * Z) (h2 : 4 * (Fr * (Z * 524288)) ≤ 2 * (kept * Fm) + Fm)
    (fr : r * 9007199254740991 ≤ Fr * 9007199254740992) (fm : Fm * 9007199254740992 ≤ m * 9007199254740993)
    (he : e * m ≤ r * 1048576) (_hr : 0 < r) : e ≤ n + 1 := by
  have a1 := rel_lo Fr Fm kept Z n hZ k1 hn h2
  clear h2 hn k1
  have a2 : (n + 1) * Fm * 9007199254740992 ≤ (n + 1) * m * 9007199254740993 := by
    have := Nat.mul_le_mul_left (n + 1) fm
    rw [← Nat.mul_assoc, ← Nat.mul_assoc] at this
    exact this
  by_cases h : e ≤ n + 1
  · exact h
  · exfalso
    have b1 : (n + 1 + 1) * m ≤ e * m := Nat.mul_le_mul_right _ (by omega)
    have b2 : (n + 1 + 1) * m = (n + 1) * m + m := by rw [Nat.add_mul (n + 1)]; omega
    generalize (n + 1) * m = x at *
    generalize (n + 1) * Fm = y at *
    omega

/-- The very number, where both r and m are exact. -/
theorem exact_of (r m kept Z n e : Nat) (hm : 0 < m) (hm53 : m < 9007199254740992) (_hr : r < 4294967296) (k1 : 4503599627370496 ≤ kept)
    (hn1 : n * Z ≤ kept) (hn2 : kept < (n + 1) * Z) (h1 : 2 * (kept * m) ≤ 4 * (r * (Z * 524288)) + m) (h2 : 4 * (r * (Z * 524288)) ≤ 2 * (kept * m) + m)
    (he1 : e * m ≤ r * 1048576) (he2 : r * 1048576 < (e + 1) * m) : n = e := by
  have c : 4 * (r * (Z * 524288)) = 2 * (Z * (r * 1048576)) := by
    have : r * (Z * 524288) = Z * (r * 524288) := by rw [Nat.mul_left_comm]
    rw [this]
    have : r * 1048576 = r * 524288 * 2 := by omega
    rw [this, ← Nat.mul_assoc Z (r * 524288) 2]
    omega
  rw [c] at h1 h2
  have up : n ≤ e := by
    by_cases h : n ≤ e
    · exact h
    · exfalso
      -- (e+1) Z <= kept
      have b1 : (e + 1) * Z ≤ kept := Nat.le_trans (Nat.mul_le_mul_right _ (by omega)) hn1
      have b2 : (e + 1) * Z * m ≤ kept * m := Nat.mul_le_mul_right _ b1
      have b3 : (e + 1) * Z * m = Z * ((e + 1) * m) := by rw [Nat.mul_comm (e + 1) Z, Nat.mul_assoc]
      have b4 : Z * (r * 1048576 + 1) ≤ Z * ((e + 1) * m) := Nat.mul_le_mul_left _ he2
      have b5 : Z * (r * 1048576 + 1) = Z * (r * 1048576) + Z := Nat.mul_succ _ _
      -- so 2 Z <= m, and kept m <= Z (r 2^20) + m / 2
      rw [b3] at b2
      have b6 : 2 * Z ≤ m := by omega
      -- kept <= (e+1) Z
      by_cases hk : kept = (e + 1) * Z
      · have b8 : (e + 1) * (2 * Z) ≤ (e + 1) * m := Nat.mul_le_mul_left _ b6
        have b9 : 9007199254740992 ≤ (e + 1) * m := by
          rw [hk] at k1
          have : (e + 1) * (2 * Z) = 2 * ((e + 1) * Z) := by rw [Nat.mul_left_comm]
          omega
        have b10 : (e + 1) * m = e * m + m := by rw [Nat.add_mul]; omega
        rcases Nat.eq_zero_or_pos e with h0 | h0
        · subst h0; omega
        · have : 1 * m ≤ e * m := Nat.mul_le_mul_right _ h0
          omega
      · have b7 : ((e + 1) * Z + 1) * m ≤ kept * m := Nat.mul_le_mul_right _ (by omega)
        have b8 : ((e + 1) * Z + 1) * m = (e + 1) * Z * m + m := by rw [Nat.add_mul]; omega
        rw [b8, b3] at b7
        omega
  have down : e ≤ n := by
    by_cases h : e ≤ n
    · exact h
    · exfalso
      have b1 : (n + 1) * Z ≤ e * Z := Nat.mul_le_mul_right _ (by omega)
      have b2 : (kept + 1) * m ≤ e * Z * m := Nat.mul_le_mul_right _ (by omega)
      have b3 : e * Z * m = Z * (e * m) := by rw [Nat.mul_comm e Z, Nat.mul_assoc]
      have b4 : Z * (e * m) ≤ Z * (r * 1048576) := Nat.mul_le_mul_left _ he1
      have b5 : (kept + 1) * m = kept * m + m := by rw [Nat.add_mul]; omega
      omega
  omega

/-- ████ THE PLAIN LAW ON THE SHARE. -/
theorem share_float (r m : Nat) (hr : 0 < r) (hrm : r ≤ m) (hm : m < 9223372036854775808) :
    ∃ b1 b2 n : Nat, double.div (double.nearest false r 0) (double.nearest false m 0) = some b1 ∧ double.mul b1 4697254411347427328 = some b2 ∧
      (double.read b2).toInt .zero = some (n : Int) ∧ n ≤ r * 1048576 / m + 1 ∧ r * 1048576 / m ≤ n + 1 ∧ (r < 4294967296 → n = r * 1048576 / m) := by
  obtain ⟨Mr, Er, Fr, hxr, r1, r2, er1, er2, hFr, fr0, fr1, fr2⟩ := int_float r hr (by omega)
  obtain ⟨Mm, Em, Fm, hxm, m1, m2, em1, em2, hFm, fm0, fm1, fm2⟩ := int_float m (by omega) hm
  have hlog : r.log2 ≤ m.log2 := (Nat.le_log2 (by omega)).2 (Nat.le_trans (log_lo hr) hrm)
  have hLm : m.log2 < 63 := (Nat.log2_lt (by omega)).2 (by simpa using hm)
  obtain ⟨b, kept, d, hdiv, d1, d2, k1, k2, hrd, q1, q2⟩ := quot _ _ Mr Mm Er Em hxr hxm r1 r2 m1 m2 (by omega) (by omega)
  -- the place: E + 20 = -s
  obtain ⟨s, hs⟩ : ∃ s : Nat, (s : Int) = Em - Er + 35 - d := ⟨(Em - Er + 35 - d).toNat, by omega⟩
  have hcut : ∃ b2, double.mul b 4697254411347427328 = some b2 ∧ (double.read b2).toInt .zero = some ((kept / 2 ^ s : Nat) : Int) := by
    rcases hrd with ⟨h1, h2⟩ | ⟨h1, h2⟩
    · obtain ⟨b2, hb2, hr2⟩ := scaled b kept _ h2 k1 h1 (by omega) (by omega)
      exact ⟨b2, hb2, by rw [hr2]; exact whole kept s _ (by omega) (by omega)⟩
    · obtain ⟨b2, hb2, hr2⟩ := scaled b 4503599627370496 _ h2 (by omega) (by omega) (by omega) (by omega)
      refine ⟨b2, hb2, ?_⟩
      rw [hr2, whole 4503599627370496 (s - 1) _ (by omega) (by omega)]
      have e1 : kept = 4503599627370496 * 2 := by omega
      have e2 : 2 ^ s = 2 ^ (s - 1) * 2 := by rw [← Nat.pow_succ]; exact pow_eq (by omega)
      rw [e1, e2, Nat.mul_div_mul_right _ _ (by omega)]
  obtain ⟨b2, hb2, hw⟩ := hcut
  have hZ : 0 < 2 ^ s := Nat.two_pow_pos s
  have hGA : 2 ^ (s + 19) = 2 ^ s * 524288 := by rw [Nat.pow_add]
  have e60 : (2 : Nat) ^ 60 = 1152921504606846976 := by decide
  rw [e60] at hFr hFm
  have hp : 18014398509481984 * 2 ^ (Em + 60).toNat = 2 ^ (Er + 60).toNat * (2 ^ d * 2 ^ (s + 19)) := by
    have e54 : (18014398509481984 : Nat) = 2 ^ 54 := by decide
    rw [e54, ← Nat.pow_add, ← Nat.pow_add, ← Nat.pow_add]
    exact pow_eq (by omega)
  have hA : Mr * (18014398509481984 * 2 ^ (Em + 60).toNat) = Fr * 1152921504606846976 * (2 ^ d * 2 ^ (s + 19)) := by
    rw [hp, ← Nat.mul_assoc Mr, hFr]
  have hc := conv kept (2 ^ d) Mr Mm Fr Fm (2 ^ (Em + 60).toNat) (2 ^ (s + 19)) hFm hA (Nat.two_pow_pos d) q1 q2
  rw [hGA] at hc
  obtain ⟨c1, c2⟩ := hc
  have n1 : kept / 2 ^ s * 2 ^ s ≤ kept := Nat.div_mul_le_self _ _
  have n2 : kept < (kept / 2 ^ s + 1) * 2 ^ s := by
    have := Nat.lt_mul_div_succ kept hZ
    rwa [Nat.mul_comm] at this
  have he1 : r * 1048576 / m * m ≤ r * 1048576 := Nat.div_mul_le_self _ _
  have he2 : r * 1048576 < (r * 1048576 / m + 1) * m := by
    have := Nat.lt_mul_div_succ (r * 1048576) (show 0 < m by omega)
    rwa [Nat.mul_comm m] at this
  have hi := near_hi r m Fr Fm kept (2 ^ s) _ _ hr hrm hZ k1 n1 c1 fr1 fm2 he2
  refine ⟨b, b2, kept / 2 ^ s, hdiv, hb2, hw, hi.1, near_lo r m Fr Fm kept (2 ^ s) _ _ hrm (by omega) hZ k1 n2 c2 fr2 fm1 he1 hr, fun h32 => ?_⟩
  by_cases h53 : m < 9007199254740992
  · have a := fr0 (by omega)
    have b := fm0 h53
    rw [a, b] at c1 c2
    exact exact_of r m kept (2 ^ s) _ _ (by omega) h53 h32 k1 n1 n2 c1 c2 he1 he2
  · have h0 := hi.2 (by omega) h32
    rw [h0]
    have : r * 1048576 / m = 0 := Nat.div_eq_of_lt (by omega)
    omega

end Go.Proofs.Qxb6617961a.Fl
