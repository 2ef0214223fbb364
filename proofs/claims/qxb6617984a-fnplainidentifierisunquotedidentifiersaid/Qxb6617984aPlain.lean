import Derived.Test.Qxb6617984aWalksB
namespace Go.Proofs.Qxb6617984a

theorem plain_append {a b : ByteArray} (ha : 0 < a.size) : PlainP (a ++ b) ↔ PlainP a ∧ a.size + b.size ≤ 63 ∧ ∀ j, (h : j < b.size) → OkN 1 (b[j].toNat : Int) := by
  constructor
  · rintro ⟨h1, h2, h3⟩
    rw [ByteArray.size_append] at h1 h2
    refine ⟨⟨ha, by omega, fun j hj => ?_⟩, h2, fun j hj => ?_⟩
    · have := h3 j (by rw [ByteArray.size_append]; omega)
      rwa [ByteArray.getElem_append_left hj] at this
    · have := h3 (a.size + j) (by rw [ByteArray.size_append]; omega)
      rw [ByteArray.getElem_append_right (by omega)] at this
      simp only [Nat.add_sub_cancel_left] at this
      unfold OkN at this ⊢
      omega
  · rintro ⟨⟨_, _, h3⟩, h2, h4⟩
    refine ⟨by rw [ByteArray.size_append]; omega, by rw [ByteArray.size_append]; omega, fun j hj => ?_⟩
    rw [ByteArray.size_append] at hj
    by_cases h : j < a.size
    · rw [ByteArray.getElem_append_left h]; exact h3 j h
    · rw [ByteArray.getElem_append_right (by omega)]
      have := h4 (j - a.size) (by omega)
      unfold OkN at this ⊢
      omega

theorem plain_x (b : ByteArray) : PlainP ((⟨#[120]⟩ : ByteArray) ++ b) ↔ 1 + b.size ≤ 63 ∧ ∀ j, (h : j < b.size) → OkN 1 (b[j].toNat : Int) := by
  have hx : PlainP (⟨#[120]⟩ : ByteArray) := by
    refine ⟨by decide, by decide, fun j hj => ?_⟩
    have e : j = 0 := by
      have : (⟨#[120]⟩ : ByteArray).size = 1 := rfl
      omega
    subst e
    have e : (((⟨#[120]⟩ : ByteArray)[0]'hj).toNat : Int) = 120 := rfl
    rw [e]
    unfold OkN
    omega
  have hs : (⟨#[120]⟩ : ByteArray).size = 1 := rfl
  rw [plain_append (by decide), hs]
  exact ⟨fun h => h.2, fun h => ⟨hx, h⟩⟩

/-- THE PLAIN LAW, first part. -/
theorem plain_join {a b : ByteArray} (ha : 0 < a.size) : PlainP (a ++ b) ↔ PlainP a ∧ (b.size = 0 ∨ PlainP ((⟨#[120]⟩ : ByteArray) ++ b)) ∧ a.size + b.size ≤ 63 := by
  rw [plain_append ha, plain_x]
  constructor
  · rintro ⟨h1, h2, h3⟩
    exact ⟨h1, Or.inr ⟨by omega, h3⟩, h2⟩
  · rintro ⟨h1, h2, h3⟩
    refine ⟨h1, h3, fun j hj => ?_⟩
    rcases h2 with h | h
    · omega
    · exact h.2 j hj

theorem plain_letters {t : ByteArray} (h : ∀ j, (h : j < t.size) → 97 ≤ (t[j].toNat : Int) ∧ (t[j].toNat : Int) ≤ 122) (h0 : 0 < t.size) : PlainP t ↔ t.size ≤ 63 :=
  ⟨fun h => h.2.1, fun h' => ⟨h0, h', fun j hj => Or.inl (h j hj)⟩⟩

theorem plain_dollar (a b : ByteArray) (ha : 0 < a.size) : ¬ PlainP (a ++ (⟨#[36]⟩ : ByteArray) ++ b) := by
  intro h
  have h1 := ((plain_append (by rw [ByteArray.size_append]; omega)).1 h).1
  have h2 := ((plain_append ha).1 h1).2.2 0 (by decide)
  have e : (((⟨#[36]⟩ : ByteArray)[0]'(by decide)).toNat : Int) = 36 := rfl
  rw [e] at h2
  unfold OkN at h2
  omega
end Go.Proofs.Qxb6617984a
