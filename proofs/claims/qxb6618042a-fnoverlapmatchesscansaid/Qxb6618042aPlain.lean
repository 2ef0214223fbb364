import Derived.Test.Qxb6618042aOvl
namespace Go.Proofs.Qxb6618042a

/-- One of a and b begins the other. -/
def ov (a b : Path) : Bool := b.isPrefixOf a || a.isPrefixOf b
/-- The answer of a plain scan: the first entry that overlaps q. -/
def scanR (E : List (Path × Int)) (q : Path) : Int × Bool := match E.find? (fun d => ov d.1 q) with
  | some d => (d.2, true)
  | none => (0, false)

theorem ov_iff (a b : Path) : ov a b = true ↔ b <+: a ∨ a <+: b := by
  simp only [ov, Bool.or_eq_true, List.isPrefixOf_iff_prefix]
theorem ov_comm (a b : Path) : ov a b = ov b a := Bool.or_comm _ _

theorem find_congr {α : Type} {f g : α → Bool} : ∀ {E : List α}, (∀ d ∈ E, f d = g d) → E.find? f = E.find? g
  | [], _ => rfl
  | d :: E, h => by
    simp only [List.find?]
    rw [h d List.mem_cons_self, find_congr (E := E) fun e he => h e (List.mem_cons_of_mem _ he)]

/-- No entry overlaps another. -/
def Apart (E : List (Path × Int)) : Prop := ∀ d ∈ E, ∀ e ∈ E, ov d.1 e.1 = true → d = e

theorem scan_of_fst {E : List (Path × Int)} {q p : Path} (h : ∀ d ∈ E, p.isPrefixOf d.1 = ov d.1 q) (hp : Has E p = true) : scanR E q = (fstOf E p, true) := by
  unfold scanR fstOf
  rw [← find_congr h]
  have : (E.find? fun e => p.isPrefixOf e.1).isSome = true := by
    rw [List.find?_isSome]
    simpa [Has] using hp
  obtain ⟨y, hy⟩ := Option.isSome_iff_exists.1 this
  rw [hy]
  rfl

theorem take_of_pre {d q : Path} (h : d <+: q) : d = q.take d.length := List.prefix_iff_eq_take.1 h

theorem ovl_scan {E : List (Path × Int)} (hA : Apart E) {q : Path} {r : Int} {ok : Bool} (h : Ovl E q r ok) : scanR E q = (r, ok) := by
  have noFin : ∀ i, (∀ j, j < i → finOf E (q.take j) = false) → ∀ d ∈ E, d.1 <+: q → i ≤ d.1.length := fun i hj d hd hp => by
    rcases Nat.lt_or_ge d.1.length i with hlt | hge
    · have := hj _ hlt
      rw [← take_of_pre hp] at this
      have h2 : finOf E d.1 = true := by
        simp only [finOf, List.any_eq_true, beq_iff_eq]
        exact ⟨d, hd, rfl⟩
      rw [h2] at this
      cases this
    · exact hge
  rcases h with ⟨rfl, i, hi, hH, hF, hj, rfl⟩ | ⟨rfl, rfl, i, hi, hH, hj⟩
  · refine scan_of_fst (fun d hd => ?_) hH
    rw [Bool.eq_iff_iff, ov_iff, List.isPrefixOf_iff_prefix]
    rcases hF with hF | rfl
    · simp only [finOf, List.any_eq_true, beq_iff_eq] at hF
      obtain ⟨e, he, hee⟩ := hF
      have hq : e.1 <+: q := hee ▸ List.take_prefix i q
      rw [← hee]
      constructor
      · intro hp
        have : d = e := hA d hd e he ((ov_iff _ _).2 (Or.inl hp))
        subst this
        exact Or.inr hq
      · rintro (hp | hp)
        · exact hq.trans hp
        · have : d = e := hA d hd e he ((ov_iff _ _).2 ((List.prefix_or_prefix_of_prefix hp hq).symm))
          subst this
          exact List.prefix_refl _
    · rw [List.take_length]
      constructor
      · exact Or.inl
      · rintro (hp | hp)
        · exact hp
        · have := noFin _ hj d hd hp
          rw [take_of_pre hp, List.take_of_length_le this]
          exact List.prefix_refl _
  · have : E.find? (fun d => ov d.1 q) = none := by
      rw [List.find?_eq_none]
      intro d hd ho
      have : Has E (q.take i) = true := by
        simp only [Has, List.any_eq_true, List.isPrefixOf_iff_prefix]
        refine ⟨d, hd, ?_⟩
        rcases (ov_iff _ _).1 ho with hp | hp
        · exact (List.take_prefix i q).trans hp
        · have hle := noFin i hj d hd hp
          rw [take_of_pre hp]
          exact List.take_prefix_take_left hle
      rw [hH] at this
      cases this
    unfold scanR
    rw [this]

/-- The first k entries. -/
def ents (P : Nat → ByteArray) (X : Nat → Int) (k : Nat) : List (Path × Int) := (List.range k).map fun i => (pathOf (P i), X i)
theorem ents_succ (P : Nat → ByteArray) (X : Nat → Int) (k : Nat) : ents P X (k + 1) = ents P X k ++ [(pathOf (P k), X k)] := by
  simp [ents, List.range_succ]
theorem mem_ents {P : Nat → ByteArray} {X : Nat → Int} {k : Nat} {d : Path × Int} (h : d ∈ ents P X k) : ∃ i, i < k ∧ d = (pathOf (P i), X i) := by
  simp only [ents, List.mem_map, List.mem_range] at h
  obtain ⟨i, hi, rfl⟩ := h
  exact ⟨i, hi, rfl⟩

theorem apart_of {P : Nat → ByteArray} {X : Nat → Int} {n : Nat} (h : ∀ i j, i < j → j < n → ov (pathOf (P i)) (pathOf (P j)) = false) {k : Nat} (hk : k ≤ n) : Apart (ents P X k) := by
  intro d hd e he ho
  obtain ⟨i, hi, rfl⟩ := mem_ents hd
  obtain ⟨j, hj, rfl⟩ := mem_ents he
  rcases Nat.lt_trichotomy i j with hlt | rfl | hgt
  · have := h i j hlt (by omega)
    simp only at ho
    rw [ho] at this; cases this
  · rfl
  · have := h j i hgt (by omega)
    simp only at ho
    rw [ov_comm, ho] at this; cases this

theorem scan_snoc (E : List (Path × Int)) (p : Path) (x : Int) (q : Path) : scanR (E ++ [(p, x)]) q = if (scanR E q).2 = true then scanR E q else if ov p q then (x, true) else (0, false) := by
  unfold scanR
  rw [List.find?_append]
  cases h : E.find? (fun d => ov d.1 q) with
  | some d => simp
  | none =>
    cases h2 : ov p q <;> simp [List.find?, h2]

theorem scan_mem {E : List (Path × Int)} {q : Path} (h : (scanR E q).2 = true) : ∃ d ∈ E, d.2 = (scanR E q).1 := by
  unfold scanR at h ⊢
  cases hf : E.find? (fun d => ov d.1 q) with
  | some d => exact ⟨d, List.mem_of_find?_eq_some hf, rfl⟩
  | none => rw [hf] at h; cases h
theorem scan_no {E : List (Path × Int)} {q : Path} (h : (scanR E q).2 = false) : (scanR E q).1 = 0 := by
  unfold scanR at h ⊢
  cases hf : E.find? (fun d => ov d.1 q) with
  | some d => rw [hf] at h; cases h
  | none => rfl

/-- What the scan answers of an entry with a tail. -/
theorem scan_tail {P : Nat → ByteArray} {X : Nat → Int} {n : Nat} (h : ∀ i j, i < j → j < n → ov (pathOf (P i)) (pathOf (P j)) = false) {k : Nat} (hk : k < n) (t : Path) :
    ∀ m, m ≤ n → scanR (ents P X m) (pathOf (P k) ++ t) = if k < m then (X k, true) else (0, false)
  | 0, _ => by simp [scanR, ents]
  | m + 1, hm => by
    rw [ents_succ, scan_snoc, scan_tail h hk t m (by omega)]
    by_cases h1 : k < m
    · have h2 : k < m + 1 := by omega
      simp [h1, h2]
    · by_cases h2 : k = m
      · subst h2
        have : ov (pathOf (P k)) (pathOf (P k) ++ t) = true := (ov_iff _ _).2 (Or.inr (List.prefix_append _ _))
        simp [this]
      · have h3 : ¬ k < m + 1 := by omega
        have : ov (pathOf (P m)) (pathOf (P k) ++ t) = false := by
          cases ho : ov (pathOf (P m)) (pathOf (P k) ++ t) with
          | false => rfl
          | true =>
            have h4 := h m k (by omega) hk
            have : ov (pathOf (P m)) (pathOf (P k)) = true := by
              rcases (ov_iff _ _).1 ho with hp | hp
              · exact (ov_iff _ _).2 (Or.inl ((List.prefix_append _ _).trans hp))
              · exact (ov_iff _ _).2 ((List.prefix_or_prefix_of_prefix hp (List.prefix_append _ t)).symm)
            rw [h4] at this; cases this
        simp [h1, h3, this]
end Go.Proofs.Qxb6618042a
