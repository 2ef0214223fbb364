import Derived.Test.Qxb6618042aPlain
namespace Go.Proofs.Qxb6618042a
open Go.RowKit

theorem pre_of_all {s p : ByteArray} (hl : p.size ≤ s.size) (h : ∀ j (hj : j < p.size), p[j] = s[j]'(by omega)) : (pathOf p).isPrefixOf (pathOf s) = true := by
  rw [List.isPrefixOf_iff_prefix, List.prefix_iff_getElem]
  refine ⟨by rw [path_len, path_len]; exact hl, fun j hj => ?_⟩
  have hj' : j < p.size := by rw [← path_len]; exact hj
  exact h j hj'
theorem not_pre_len {s p : ByteArray} (hl : s.size < p.size) : (pathOf p).isPrefixOf (pathOf s) = false := by
  rw [Bool.eq_false_iff]
  intro h
  have := (List.isPrefixOf_iff_prefix.1 h).length_le
  rw [path_len, path_len] at this
  omega
theorem not_pre_at {s p : ByteArray} {k : Nat} (h1 : k < p.size) (h2 : k < s.size) (hne : p[k] ≠ s[k]) : (pathOf p).isPrefixOf (pathOf s) = false := by
  rw [Bool.eq_false_iff]
  intro h
  rw [List.isPrefixOf_iff_prefix, List.prefix_iff_getElem] at h
  obtain ⟨_, h⟩ := h
  exact hne (h k (by rw [path_len]; exact h1))

/-- p begins s. -/
def pre (p s : ByteArray) : Bool := (pathOf p).isPrefixOf (pathOf s)
theorem ov_pre (a b : ByteArray) : ov (pathOf a) (pathOf b) = (pre b a || pre a b) := rfl
def RetQ (b : Bool) (w : World) (e : Ending) (w' : World) : Prop := e = .returned (.bool b) ∧ ∃ m, w' = w.drewN m

set_option maxRecDepth 100000 in
set_option maxHeartbeats 400000 in
theorem begins_walk (s p : ByteArray) (w : World) (hs : s.size ≤ 4194304) (_hp : p.size ≤ 4194304) :
    Calls Try.prog 12 #[.string s, .string p] w fun e w' => RetQ (pre p s) w e w' := by
  by_cases hl : s.size < p.size
  · have hz : pre p s = false := not_pre_len hl
    rw [hz]
    go_enter Try.func12, Try.ntmps12
    go_wp2_with fail
    go_ret
    exact ⟨rfl, 0, rfl⟩
  go_enter Try.func12, Try.ntmps12
  go_wp2_with fail
  go_loopw [5] (fun i wr => ∃ (k m : Nat), k ≤ p.size ∧ i = .int .i64 k ∧ wr = w.drewN m ∧ Hid (∀ j (hj : j < p.size), j < k → p[j] = s[j]'(by omega))) (fun i _ => p.size - (intOf i).toNat)
  case atStart => exact ⟨0, 0, Nat.zero_le _, rfl, rfl, fun j _ hj => absurd hj (by omega)⟩
  case round =>
    obtain ⟨k, m, hk, rfl, rfl, HK⟩ := hrel
    by_cases hlt : k < p.size
    · have hlt2 : k < s.size := by omega
      by_cases he : p[k] = s[k]
      · have hd : ((s[k].toNat : Int) != (p[k].toNat : Int)) = false := by rw [he]; simp
        have HS : Hid (∀ j (hj : j < p.size), j < k + 1 → p[j] = s[j]'(by omega)) := fun j hj hjk => by
          by_cases e : j = k
          · subst e; exact he
          · exact HK.out j hj (by omega)
        clear HK he
        go_wp2_with fail
        go_quiet (fail)
        go_wp2_with fail
        go_roundw
        case rel => exact ⟨k + 1, m + nq, by omega, by go_num, rfl, HS⟩
        case measure => simp [intOf]; omega
      · have hd : ((s[k].toNat : Int) != (p[k].toNat : Int)) = true := by
          simp only [bne_iff_ne, ne_eq]
          intro e
          exact he (UInt8.toNat_inj.1 (by omega))
        have HN : Hid (pre p s = false) := not_pre_at hlt hlt2 he
        clear HK he
        go_wp2_with fail
        go_quiet (fail)
        go_wp2_with fail
        go_ret
        exact ⟨by rw [HN.out]; rfl, m + nq, World.drewN_drewN _ _ _⟩
    · have HR : Hid (pre p s = true) := pre_of_all (by omega) fun j hj => HK.out j hj (by omega)
      go_wp2_with fail
      go_ret
      exact ⟨by rw [HR.out]; rfl, m, rfl⟩

set_option maxHeartbeats 400000 in
theorem overlaps_walk (a b : ByteArray) (w : World) (ha : a.size ≤ 4194304) (hb : b.size ≤ 4194304) :
    Calls Try.prog 11 #[.string a, .string b] w fun e w' => RetQ (ov (pathOf a) (pathOf b)) w e w' := by
  cases h : pre b a with
  | true =>
    have ho : ov (pathOf a) (pathOf b) = true := by simp [ov_pre, h]
    rw [ho]
    go_enter Try.func11, Try.ntmps11
    go_wp2_with fail
    refine (begins_walk a b _ ha hb).mono ?_; rintro e w' ⟨rfl, m, rfl⟩
    rw [h]
    go_wp2_with fail
    go_ret
    exact ⟨rfl, m, rfl⟩
  | false =>
    have ho : ov (pathOf a) (pathOf b) = pre a b := by simp [ov_pre, h]
    rw [ho]
    go_enter Try.func11, Try.ntmps11
    go_wp2_with fail
    refine (begins_walk a b _ ha hb).mono ?_; rintro e w' ⟨rfl, m, rfl⟩
    rw [h]
    go_wp2_with fail
    refine (begins_walk b a _ hb ha).mono ?_; rintro e w' ⟨rfl, m2, rfl⟩
    go_wp2_with fail
    go_ret
    exact ⟨rfl, m + m2, rfl⟩
end Go.Proofs.Qxb6618042a
