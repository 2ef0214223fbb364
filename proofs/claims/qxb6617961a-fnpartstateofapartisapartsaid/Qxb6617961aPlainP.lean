import Derived.Test.Qxb6617961aStateR
namespace Go.Proofs.Qxb6617961a
open Go.RowKit

theorem look_some {y : Nat → Int} : ∀ {k : Nat} {h : Int} {i : Nat}, look y k h = some i → y i = h
  | 0, _, _, e => by cases e
  | k + 1, h, i, e => by
    rw [look] at e
    split at e
    · rename_i hh
      cases e
      exact hh.symm
    · exact look_some e

theorem look_inj {y : Nat → Int} {g i : Nat} (inj : ∀ i j, i < g → j < g → y i = y j → i = j) (hi : i < g) : ∀ k, i < k → k ≤ g → look y k (y i) = some i
  | 0, h, _ => absurd h (by omega)
  | k + 1, h, hk => by
    rw [look]
    by_cases e : y i = y k
    · rw [if_pos e, inj i k hi (by omega) e]
    · rw [if_neg e]
      have : i ≠ k := fun h => e (by rw [h])
      exact look_inj inj hi k (by omega) (by omega)

theorem rise {y : Nat → Int} {g : Nat} (h : ∀ i, i + 1 < g → y i < y (i + 1)) {i : Nat} : ∀ j, i < j → j < g → y i < y j
  | 0, h, _ => absurd h (by omega)
  | j + 1, hij, hj => by
    by_cases e : i = j
    · subst e; exact h i hj
    · have h1 := rise (i := i) (g := g) h j (by omega) (by omega)
      have h2 := h j hj
      omega
theorem rise_inj {y : Nat → Int} {g : Nat} (h : ∀ i, i + 1 < g → y i < y (i + 1)) (i j : Nat) (hi : i < g) (hj : j < g) (e : y i = y j) : i = j := by
  rcases Nat.lt_trichotomy i j with h1 | h1 | h1
  · have := rise (g := g) h j h1 hj; omega
  · exact h1
  · have := rise (g := g) h i h1 hi; omega

theorem look_comp {y1 y2 : Nat → Int} {g1 : Nat} (inj : ∀ i j, i < g1 → j < g1 → y1 i = y1 j → i = j) : ∀ k, (∀ i, i < k → 0 ≤ y2 i ∧ y2 i < g1) → ∀ h, (look y1 g1 h).bind (fun i => look y2 k (i : Int)) = look (fun i => y1 (y2 i).toNat) k h
  | 0, _, h => by cases look y1 g1 h <;> rfl
  | k + 1, hd, h => by
    have ih := look_comp inj k (fun i hi => hd i (by omega)) h
    obtain ⟨d0, d1⟩ := hd k (by omega)
    by_cases e : h = y1 (y2 k).toNat
    · have h1 : look y1 g1 h = some (y2 k).toNat := by rw [e]; exact look_inj inj (by omega) g1 (by omega) (Nat.le_refl _)
      rw [h1]
      simp only [Option.bind_some, look]
      rw [if_pos e, if_pos (by omega)]
    · rw [look, if_neg e, ← ih]
      cases hl : look y1 g1 h with
      | none => rfl
      | some i =>
        simp only [Option.bind_some, look]
        rw [if_neg]
        intro h'
        apply e
        rw [← look_some hl, ← h']
        simp

theorem aps_list (gz : Nat → Int) (gn : Nat) (az : Nat → Int) : ∀ k, aps gz gn az k = ((List.range k).map az).filterMap (look gz gn)
  | 0 => rfl
  | k + 1 => by
    rw [List.range_succ, List.map_append, List.filterMap_append, ← aps_list gz gn az k, aps]
    cases h : look gz gn (az k) <;> simp [h]

theorem range_get (L : List Nat) : (List.range L.length).map (fun j => ((L[j]?.getD 0 : Nat) : Int)) = L.map fun i : Nat => (i : Int) := by
  apply List.ext_getElem
  · simp
  · intro i h1 h2
    simp at h1 h2
    simp [h1]

theorem aps_comp {y1 y2 : Nat → Int} {g1 g2 : Nat} (inj : ∀ i j, i < g1 → j < g1 → y1 i = y1 j → i = j) (hd : ∀ i, i < g2 → 0 ≤ y2 i ∧ y2 i < g1) (z : Nat → Int) (n : Nat) :
    aps y2 g2 (fun j => (((aps y1 g1 z n)[j]?.getD 0 : Nat) : Int)) (aps y1 g1 z n).length = aps (fun i => y1 (y2 i).toNat) g2 z n := by
  rw [aps_list y2, range_get, List.filterMap_map, aps_list y1, List.filterMap_filterMap, aps_list]
  congr 1
  funext h
  exact look_comp inj g2 hd h

/-- What the groups of a part say. -/
def PartG (gn rn : Nat) (gz rz : Nat → Int) (D : Nat → GroupD) (az : Nat → Nat → Int) (bz : Nat → Nat → Bool) (D' : Nat → GroupD) : Prop :=
  ∀ i, i < gn → (D' i).req = (D (gz i).toNat).req ∧ (D' i).count = (D (gz i).toNat).count ∧ (D' i).rows.len = rn ∧ IsB (D' i).rows (fun j => bz (gz i).toNat (rz j).toNat) ∧
      (D' i).apart.len = (aps gz gn (az (gz i).toNat) (D (gz i).toNat).apart.len).length ∧ IsI (D' i).apart (fun j => (((aps gz gn (az (gz i).toNat) (D (gz i).toNat).apart.len)[j]?.getD 0 : Nat) : Int))

/-- The bools and the groups to keep apart from of a part's groups. -/
abbrev az1 (gn : Nat) (gz : Nat → Int) (D : Nat → GroupD) (az : Nat → Nat → Int) : Nat → Nat → Int := fun i j => (((aps gz gn (az (gz i).toNat) (D (gz i).toNat).apart.len)[j]?.getD 0 : Nat) : Int)
abbrev bz1 (gz rz : Nat → Int) (bz : Nat → Nat → Bool) : Nat → Nat → Bool := fun i j => bz (gz i).toNat (rz j).toNat

theorem SameI.refl {s : SL} {z : Nat → Int} (h : IsI s z) (hl : s.len ≤ 1048576) : SameI s s := ⟨rfl, hl, z, h, h⟩
theorem RowEq.refl {r : RowD} {z z' : Nat → Int} (h : IsI r.cap z) (h' : IsI r.alc z') (hf : RowFit r) : RowEq r r := ⟨rfl, rfl, rfl, SameI.refl h hf.1, SameI.refl h' hf.2⟩

/-- The part of a part is the part. -/
theorem part_of_part {g1 r1 g2 r2 gl : Nat} {y1 x1 y2 x2 : Nat → Int} {D D1 D2 D3 : Nat → GroupD} {az : Nat → Nat → Int} {bz : Nat → Nat → Bool} {Q : Nat → Nat → Int}
    (inj : ∀ i j, i < g1 → j < g1 → y1 i = y1 j → i = j) (hd1 : ∀ i, i < g1 → 0 ≤ y1 i ∧ y1 i < gl) (hd : ∀ i, i < g2 → 0 ≤ y2 i ∧ y2 i < g1)
    (hQ : ∀ i, i < gl → IsI (D i).req (Q i)) (hf : ∀ i, i < gl → GrpFit (D i)) (hr : r2 ≤ 1048576)
    (h1 : PartG g1 r1 y1 x1 D az bz D1) (h2 : PartG g2 r2 y2 x2 D1 (az1 g1 y1 D az) (bz1 y1 x1 bz) D2) (h3 : PartG g2 r2 (fun i => y1 (y2 i).toNat) (fun j => x1 (x2 j).toNat) D az bz D3) :
    ∀ i, i < g2 → GrpEq (D2 i) (D3 i) := by
  intro i hi
  obtain ⟨q0, q1⟩ := hd i hi
  have hq : (y2 i).toNat < g1 := by omega
  obtain ⟨p0, p1⟩ := hd1 _ hq
  obtain ⟨a1, a2, a3, a4, a5, a6⟩ := h1 _ hq
  obtain ⟨b1, b2, b3, b4, b5, b6⟩ := h2 i hi
  obtain ⟨c1, c2, c3, c4, c5, c6⟩ := h3 i hi
  have hg : (y1 (y2 i).toNat).toNat < gl := by omega
  have hcomp := aps_comp (y2 := y2) (g2 := g2) inj hd (az (y1 (y2 i).toNat).toNat) (D (y1 (y2 i).toNat).toNat).apart.len
  rw [a5] at b5 b6
  rw [hcomp] at b5 b6
  refine ⟨by rw [b2, a2, c2], ?_, ⟨by rw [b3, c3], by rw [b3]; exact hr, _, b4, c4⟩, ⟨by rw [b5, c5], ?_, _, b6, c6⟩⟩
  · rw [b1, a1, c1]
    exact SameI.refl (hQ _ hg) (hf _ hg).1
  · rw [b5]
    exact Nat.le_trans (aps_len _ _ _ _) (hf _ hg).2.2
end Go.Proofs.Qxb6617961a
