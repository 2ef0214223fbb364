import Derived.Test.Qxb6617961aOpts
namespace Go.Proofs.Qxb6617961a
open Go.RowKit

structure GroupD where
  req : SL
  count : Int
  rows : SL
  apart : SL

/-- A slice of groups lies in w (the elements of type Group, and those of type solve.PodGroup, alike). -/
def GroupsIn (w : World) (a : Option Addr) (len : Nat) (G : Nat → GroupD) : Prop := len = 0 ∨ ∃ b off, a = some ⟨b, off, none⟩ ∧ ∀ i, i < len →
  w.cell? ⟨b, off + i * 4, none⟩ = some (G i).req.val ∧ w.cell? ⟨b, off + i * 4 + 1, none⟩ = some (.int .i64 (G i).count) ∧ w.cell? ⟨b, off + i * 4 + 2, none⟩ = some (G i).rows.val ∧
  w.cell? ⟨b, off + i * 4 + 3, none⟩ = some (G i).apart.val ∧ (G i).req.In w ∧ (G i).rows.In w ∧ (G i).apart.In w

theorem GroupsIn.on {W w' : World} {a : Option Addr} {len : Nat} {G : Nat → GroupD} (h : GroupsIn W a len G) (hb : Below W.heap.size W w') : GroupsIn w' a len G := by
  rcases h with h | ⟨b, off, ha, hc⟩
  · exact Or.inl h
  · refine Or.inr ⟨b, off, ha, fun i hi => ?_⟩
    obtain ⟨c0, c1, c2, c3, i1, i2, i3⟩ := hc i hi
    exact ⟨cell_on hb c0, cell_on hb c1, cell_on hb c2, cell_on hb c3, i1.on hb, i2.on hb, i3.on hb⟩

/-- Two groups that say the same. -/
def GLike (o r : GroupD) : Prop := o.count = r.count ∧ o.req.len = r.req.len ∧ o.req.f = r.req.f ∧ o.rows.len = r.rows.len ∧ o.rows.f = r.rows.f ∧ o.apart.len = r.apart.len ∧ o.apart.f = r.apart.f

/-- What has been made of the groups so far: the first k of the row in block N. -/
def GrpOut (w wr : World) (N len k : Nat) (R : Nat → GroupD) : Prop :=
  Below N w wr ∧ ∃ (g : Nat → Value) (O : Nat → GroupD), wr.rowIs N 53 (len * 4) g ∧ ∀ i, i < k → GLike (O i) (R i) ∧
    g (i * 4) = (O i).req.val ∧ g (i * 4 + 1) = .int .i64 (O i).count ∧ g (i * 4 + 2) = (O i).rows.val ∧ g (i * 4 + 3) = (O i).apart.val ∧
    (O i).req.In wr ∧ (O i).rows.In wr ∧ (O i).apart.In wr ∧ (O i).req.Far N ∧ (O i).rows.Far N ∧ (O i).apart.Far N

theorem GrpOut.row {w wr : World} {N len k : Nat} {R : Nat → GroupD} (h : GrpOut w wr N len k R) : ∃ g, wr.rowIs N 53 (len * 4) g := by
  obtain ⟨_, g, _, hg, _⟩ := h; exact ⟨g, hg⟩

theorem GrpOut.drew {w wr : World} {N len k : Nat} {R : Nat → GroupD} (h : GrpOut w wr N len k R) : GrpOut w wr.drew N len k R := by
  obtain ⟨hb, g, O, hg, hO⟩ := h
  exact ⟨hb.drew, g, O, hg, hO⟩

theorem GrpOut.on {w wr w' : World} {N len k : Nat} {R : Nat → GroupD} (h : GrpOut w wr N len k R) (hb : Below wr.heap.size wr w') : GrpOut w w' N len k R := by
  obtain ⟨hB, g, O, hg, hO⟩ := h
  refine ⟨below_call hb (Nat.le_of_lt hg.lt) hB, g, O, row_on hb hg, fun i hi => ?_⟩
  obtain ⟨l, e0, e1, e2, e3, i1, i2, i3, f1, f2, f3⟩ := hO i hi
  exact ⟨l, e0, e1, e2, e3, i1.on hb, i2.on hb, i3.on hb, f1, f2, f3⟩

theorem GrpOut.set {w wr : World} {N len k : Nat} {R : Nat → GroupD} (h : GrpOut w wr N len k R) (o : Nat) (ho : k * 4 ≤ o) (v : Value) : GrpOut w (wr.setCell ⟨N, o, none⟩ v) N len k R := by
  obtain ⟨hB, g, O, hg, hO⟩ := h
  refine ⟨hB.setCell (Nat.le_refl _) v, _, O, hg.set o v, fun i hi => ?_⟩
  obtain ⟨l, e0, e1, e2, e3, i1, i2, i3, f1, f2, f3⟩ := hO i hi
  refine ⟨l, ?_, ?_, ?_, ?_, i1.set f1 _ _, i2.set f2 _ _, i3.set f3 _ _, f1, f2, f3⟩
  · rw [if_neg (by omega)]; exact e0
  · rw [if_neg (by omega)]; exact e1
  · rw [if_neg (by omega)]; exact e2
  · rw [if_neg (by omega)]; exact e3

/-- The k-th group is stored. -/
theorem GrpOut.step {w wr : World} {N len k : Nat} {R : Nat → GroupD} (h : GrpOut w wr N len k R) {o : GroupD} (hl : GLike o (R k)) (h1 : o.req.In wr) (h2 : o.rows.In wr) (h3 : o.apart.In wr) (f1 : o.req.Far N) (f2 : o.rows.Far N) (f3 : o.apart.Far N) :
    GrpOut w ((((wr.setCell ⟨N, k * 4, none⟩ o.req.val).setCell ⟨N, k * 4 + 1, none⟩ (.int .i64 o.count)).setCell ⟨N, k * 4 + 2, none⟩ o.rows.val).setCell ⟨N, k * 4 + 3, none⟩ o.apart.val) N len (k + 1) R := by
  obtain ⟨hB, g, O, hg, hO⟩ := h
  refine ⟨(((hB.setCell (Nat.le_refl _) _).setCell (Nat.le_refl _) _).setCell (Nat.le_refl _) _).setCell (Nat.le_refl _) _, _, fun i => if i = k then o else O i,
    (((hg.set _ _).set _ _).set _ _).set _ _, fun i hi => ?_⟩
  by_cases e : i = k
  · subst e
    simp only [if_true]
    refine ⟨hl, ?_, ?_, ?_, ?_, (((h1.set f1 _ _).set f1 _ _).set f1 _ _).set f1 _ _, (((h2.set f2 _ _).set f2 _ _).set f2 _ _).set f2 _ _, (((h3.set f3 _ _).set f3 _ _).set f3 _ _).set f3 _ _, f1, f2, f3⟩
    all_goals simp
  · obtain ⟨l, e0, e1, e2, e3, i1, i2, i3, q1, q2, q3⟩ := hO i (by omega)
    simp only [if_neg e]
    refine ⟨l, ?_, ?_, ?_, ?_, (((i1.set q1 _ _).set q1 _ _).set q1 _ _).set q1 _ _, (((i2.set q2 _ _).set q2 _ _).set q2 _ _).set q2 _ _, (((i3.set q3 _ _).set q3 _ _).set q3 _ _).set q3 _ _, q1, q2, q3⟩
    · simp (disch := omega) only [if_neg]; exact e0
    · simp (disch := omega) only [if_neg]; exact e1
    · simp (disch := omega) only [if_neg]; exact e2
    · simp (disch := omega) only [if_neg]; exact e3

theorem GrpOut.done {w wr : World} {N len : Nat} {R : Nat → GroupD} (h : GrpOut w wr N len len R) : ∃ O, (∀ i, i < len → GLike (O i) (R i)) ∧ GroupsIn wr (some ⟨N, 0, none⟩) len O := by
  obtain ⟨hB, g, O, hg, hO⟩ := h
  refine ⟨O, fun i hi => (hO i hi).1, Or.inr ⟨N, 0, rfl, fun i hi => ?_⟩⟩
  obtain ⟨l, e0, e1, e2, e3, i1, i2, i3, f1, f2, f3⟩ := hO i hi
  simp only [Nat.zero_add]
  refine ⟨?_, ?_, ?_, ?_, i1, i2, i3⟩
  · rw [hg.cell (by omega), e0]
  · rw [hg.cell (by omega), e1]
  · rw [hg.cell (by omega), e2]
  · rw [hg.cell (by omega), e3]

/-! ### What the region of the round is held by -/
theorem sg_draw {w W : World} {b o N len k : Nat} {R : Nat → GroupD} {v0 v1 v2 v3 : Value}
    (h : W.cell? ⟨b, o, none⟩ = some v0 ∧ W.cell? ⟨b, o + 1, none⟩ = some v1 ∧ W.cell? ⟨b, o + 2, none⟩ = some v2 ∧ W.cell? ⟨b, o + 3, none⟩ = some v3 ∧ GrpOut w W N len k R) :
    W.drew.cell? ⟨b, o, none⟩ = some v0 ∧ W.drew.cell? ⟨b, o + 1, none⟩ = some v1 ∧ W.drew.cell? ⟨b, o + 2, none⟩ = some v2 ∧ W.drew.cell? ⟨b, o + 3, none⟩ = some v3 ∧ GrpOut w W.drew N len k R := by
  obtain ⟨a, b, c, d, f⟩ := h
  exact ⟨a, b, c, d, f.drew⟩
theorem sg_call {w W w' : World} {b o N len k : Nat} {R : Nat → GroupD} {v0 v1 v2 v3 : Value} (hb : Below W.heap.size W w')
    (h : W.cell? ⟨b, o, none⟩ = some v0 ∧ W.cell? ⟨b, o + 1, none⟩ = some v1 ∧ W.cell? ⟨b, o + 2, none⟩ = some v2 ∧ W.cell? ⟨b, o + 3, none⟩ = some v3 ∧ GrpOut w W N len k R) :
    w'.cell? ⟨b, o, none⟩ = some v0 ∧ w'.cell? ⟨b, o + 1, none⟩ = some v1 ∧ w'.cell? ⟨b, o + 2, none⟩ = some v2 ∧ w'.cell? ⟨b, o + 3, none⟩ = some v3 ∧ GrpOut w w' N len k R := by
  obtain ⟨a, b, c, d, f⟩ := h
  exact ⟨cell_on hb a, cell_on hb b, cell_on hb c, cell_on hb d, f.on hb⟩
theorem sg_store {w W : World} {b o N len k : Nat} {R : Nat → GroupD} {v0 v1 v2 v3 : Value} (hn : b < N) {x0 x1 x2 x3 : Value}
    (h : W.cell? ⟨b, o, none⟩ = some v0 ∧ W.cell? ⟨b, o + 1, none⟩ = some v1 ∧ W.cell? ⟨b, o + 2, none⟩ = some v2 ∧ W.cell? ⟨b, o + 3, none⟩ = some v3 ∧ GrpOut w W N len k R) :
    ((((W.setCell ⟨N, k * 4, none⟩ x0).setCell ⟨N, k * 4 + 1, none⟩ x1).setCell ⟨N, k * 4 + 2, none⟩ x2).setCell ⟨N, k * 4 + 3, none⟩ x3).cell? ⟨b, o, none⟩ = some v0 ∧
    ((((W.setCell ⟨N, k * 4, none⟩ x0).setCell ⟨N, k * 4 + 1, none⟩ x1).setCell ⟨N, k * 4 + 2, none⟩ x2).setCell ⟨N, k * 4 + 3, none⟩ x3).cell? ⟨b, o + 1, none⟩ = some v1 ∧
    ((((W.setCell ⟨N, k * 4, none⟩ x0).setCell ⟨N, k * 4 + 1, none⟩ x1).setCell ⟨N, k * 4 + 2, none⟩ x2).setCell ⟨N, k * 4 + 3, none⟩ x3).cell? ⟨b, o + 2, none⟩ = some v2 ∧
    ((((W.setCell ⟨N, k * 4, none⟩ x0).setCell ⟨N, k * 4 + 1, none⟩ x1).setCell ⟨N, k * 4 + 2, none⟩ x2).setCell ⟨N, k * 4 + 3, none⟩ x3).cell? ⟨b, o + 3, none⟩ = some v3 ∧
    GrpOut w ((((W.setCell ⟨N, k * 4, none⟩ x0).setCell ⟨N, k * 4 + 1, none⟩ x1).setCell ⟨N, k * 4 + 2, none⟩ x2).setCell ⟨N, k * 4 + 3, none⟩ x3) N len k R := by
  obtain ⟨a, b, c, d, f⟩ := h
  refine ⟨?_, ?_, ?_, ?_, (((f.set _ (by omega) _).set _ (by omega) _).set _ (by omega) _).set _ (by omega) _⟩
  all_goals (rw [other hn, other hn, other hn, other hn]; assumption)
theorem sg_out {w W : World} {b o N len k : Nat} {R : Nat → GroupD} {v0 v1 v2 v3 : Value}
    (h : W.cell? ⟨b, o, none⟩ = some v0 ∧ W.cell? ⟨b, o + 1, none⟩ = some v1 ∧ W.cell? ⟨b, o + 2, none⟩ = some v2 ∧ W.cell? ⟨b, o + 3, none⟩ = some v3 ∧ GrpOut w W N len k R) : GrpOut w W N len k R := h.2.2.2.2
theorem sg_below {w W : World} {b o N len k : Nat} {R : Nat → GroupD} {v0 v1 v2 v3 : Value}
    (h : W.cell? ⟨b, o, none⟩ = some v0 ∧ W.cell? ⟨b, o + 1, none⟩ = some v1 ∧ W.cell? ⟨b, o + 2, none⟩ = some v2 ∧ W.cell? ⟨b, o + 3, none⟩ = some v3 ∧ GrpOut w W N len k R) : Below N w W := (sg_out h).1

/-- What toGroups answers. -/
def GrpsRes (len : Nat) (R : Nat → GroupD) (w : World) (e : Ending) (w' : World) : Prop :=
  ∃ a' cap' O, e = .returned (.slice a' len cap') ∧ (∀ i, i < len → GLike (O i) (R i)) ∧ GroupsIn w' a' len O ∧ Below w.heap.size w w'
end Go.Proofs.Qxb6617961a
