import Derived.Test.Qxb6617961aPlainP
import Derived.Test.Qxb6617961aLawA
import Derived.Test.Qxb6617961aPart1
import Derived.Test.Qxb6617961aPart3
namespace Go.Proofs.Qxb6617961a
open Go.RowKit

/-- A row in the making: the first k of y are stored in block cb. -/
def Fill (w : World) (cb n : Nat) (y : Nat → Int) (k : Nat) (wr : World) : Prop :=
  Below w.heap.size w wr ∧ w.heap.size ≤ cb ∧ wr.rowIs cb 3 n (fun i => .int .i64 (if i < k then y i else 0))

theorem Fill.start (w : World) (n : Nat) (y : Nat → Int) : Fill w w.heap.size n y 0 (w.alloc (.cells (madeCells #[.int .i64 0] n) 3)) :=
  ⟨(Below.refl _ _).alloc (Nat.le_refl _) _, Nat.le_refl _, (World.rowIs_made w (.int .i64 0) n 3).congr fun i _ => by simp⟩

theorem Fill.step {w wr : World} {cb n k : Nat} {y : Nat → Int} (h : Fill w cb n y k wr) : Fill w cb n y (k + 1) (wr.setCell ⟨cb, k, none⟩ (.int .i64 (y k))) := by
  obtain ⟨hb, hc, hr⟩ := h
  refine ⟨hb.setCell hc _, hc, (hr.set k _).congr fun i _ => ?_⟩
  by_cases e : i = k
  · subst e
    rw [if_pos rfl, if_pos (by omega)]
  · rw [if_neg e]
    by_cases h1 : i < k
    · rw [if_pos h1, if_pos (by omega)]
    · rw [if_neg h1, if_neg (by omega)]

/-- The slice over a filled row. -/
abbrev rowS (cb n : Nat) (y : Nat → Int) : SL := ⟨some ⟨cb, 0, none⟩, n, n, fun i => .int .i64 (y i)⟩
theorem Fill.done {w wr : World} {cb n : Nat} {y : Nat → Int} (h : Fill w cb n y n wr) : (rowS cb n y).In wr := by
  obtain ⟨hb, hc, hr⟩ := h
  refine Or.inr ⟨cb, 0, rfl, fun i hi => ?_⟩
  have hi : i < n := hi
  rw [Nat.zero_add]
  have := hr.cell hi
  rw [if_pos hi] at this
  exact this

/-- The cells of a problem at pb. -/
def CellsP (W : World) (pb : Nat) (ra : Option Addr) (rl rc : Nat) (ga : Option Addr) (gl gc : Nat) (bd : Bool) : Prop :=
  W.cell? ⟨pb, 0, none⟩ = some (.slice ra rl rc) ∧ W.cell? ⟨pb, 1, none⟩ = some (.slice ga gl gc) ∧ W.cell? ⟨pb, 2, none⟩ = some (.bool bd)
theorem CellsP.on {W W' : World} {pb : Nat} {ra : Option Addr} {rl rc : Nat} {ga : Option Addr} {gl gc : Nat} {bd : Bool} (h : CellsP W pb ra rl rc ga gl gc bd) (hb : Below W.heap.size W W') : CellsP W' pb ra rl rc ga gl gc bd :=
  ⟨cell_on hb h.1, cell_on hb h.2.1, cell_on hb h.2.2⟩

/-- What is known of the problem's rows and groups, apart from the world. -/
structure PF (len : Nat) (O : Nat → RowD) (C A : Nat → Nat → Int) (gl : Nat) (P : Nat → GroupD) (Q Az : Nat → Nat → Int) (Bz : Nat → Nat → Bool) : Prop where
  ll : len ≤ 1048576
  gll : gl ≤ 1048576
  row : ∀ i, i < len → IsI (O i).cap (C i) ∧ IsI (O i).alc (A i) ∧ RowFit (O i)
  req : ∀ i, i < gl → IsI (P i).req (Q i)
  bools : ∀ i, i < gl → IsB (P i).rows (Bz i)
  apart : ∀ i, i < gl → IsI (P i).apart (Az i)
  fit : ∀ i, i < gl → GrpFit (P i)

/-- What is known of the two parts. -/
structure CD (n1 m1 n2 m2 : Nat) (y1 x1 y2 x2 : Nat → Int) (rl gl : Nat) (P : Nat → GroupD) : Prop where
  r1 : ∀ j, j < m1 → 0 ≤ x1 j ∧ x1 j < rl
  g1 : ∀ i, i < n1 → 0 ≤ y1 i ∧ y1 i < gl
  up : ∀ i, i + 1 < n1 → y1 i < y1 (i + 1)
  b1 : ∀ i, i < n1 → ∀ j, j < m1 → x1 j < (P (y1 i).toNat).rows.len
  g2 : ∀ i, i < n2 → 0 ≤ y2 i ∧ y2 i < n1
  r2 : ∀ j, j < m2 → 0 ≤ x2 j ∧ x2 j < m1
  ln1 : n1 ≤ 1048576
  lm1 : m1 ≤ 1048576
  ln2 : n2 ≤ 1048576
  lm2 : m2 ≤ 1048576

variable {W : World} {pb n1 m1 n2 m2 len gl : Nat} {y1 x1 y2 x2 : Nat → Int} {O : Nat → RowD} {C A : Nat → Nat → Int} {P : Nat → GroupD} {Q Az : Nat → Nat → Int} {Bz : Nat → Nat → Bool} {bd : Bool} {ra : Option Addr} {rc : Nat} {ga : Option Addr} {gc : Nat}

theorem stin_inner {gs rs : SL} (pf : PF len O C A gl P Q Az Bz) (cd : CD gs.len rs.len n2 m2 y1 x1 y2 x2 len gl P) (hc : CellsP W pb ra len rc ga gl gc bd) (hR : RowsIn W ra len O) (hG : GroupsIn W ga gl P)
    (i1 : gs.In W) (i2 : rs.In W) (z1 : IsI gs y1) (z2 : IsI rs x1) : StIn W pb gs rs y1 x1 ra len rc O ga gl gc P Az Bz bd where
  p0 := hc.1
  p1 := hc.2.1
  p2 := hc.2.2
  gin := i1
  rin := i2
  gis := z1
  ris := z2
  gle := cd.ln1
  rle := cd.lm1
  rll := pf.ll
  gll := pf.gll
  rows := hR
  grps := hG
  rdom := cd.r1
  gdom := cd.g1
  bdom := cd.b1
  bis := fun i hi => ⟨pf.bools i hi, (pf.fit i hi).2.1⟩
  ais := fun i hi => ⟨pf.apart i hi, (pf.fit i hi).2.2⟩

theorem stin_direct {gs rs : SL} (pf : PF len O C A gl P Q Az Bz) (cd : CD n1 m1 gs.len rs.len y1 x1 y2 x2 len gl P) (hc : CellsP W pb ra len rc ga gl gc bd) (hR : RowsIn W ra len O) (hG : GroupsIn W ga gl P)
    (i1 : gs.In W) (i2 : rs.In W) (z1 : IsI gs (fun i => y1 (y2 i).toNat)) (z2 : IsI rs (fun j => x1 (x2 j).toNat)) : StIn W pb gs rs (fun i => y1 (y2 i).toNat) (fun j => x1 (x2 j).toNat) ra len rc O ga gl gc P Az Bz bd where
  p0 := hc.1
  p1 := hc.2.1
  p2 := hc.2.2
  gin := i1
  rin := i2
  gis := z1
  ris := z2
  gle := cd.ln2
  rle := cd.lm2
  rll := pf.ll
  gll := pf.gll
  rows := hR
  grps := hG
  rdom := fun j hj => by have := cd.r2 j hj; exact cd.r1 _ (by omega)
  gdom := fun i hi => by have := cd.g2 i hi; exact cd.g1 _ (by omega)
  bdom := fun i hi j hj => by have h1 := cd.g2 i hi; have h2 := cd.r2 j hj; exact cd.b1 _ (by omega) _ (by omega)
  bis := fun i hi => ⟨pf.bools i hi, (pf.fit i hi).2.1⟩
  ais := fun i hi => ⟨pf.apart i hi, (pf.fit i hi).2.2⟩

theorem stin_outer {gs rs : SL} {D1 : Nat → GroupD} (pf : PF len O C A gl P Q Az Bz) (cd : CD n1 m1 gs.len rs.len y1 x1 y2 x2 len gl P) (hc : CellsP W pb ra m1 rc ga n1 gc bd) (hR : RowsIn W ra m1 (fun j => O (x1 j).toNat)) (hG : GroupsIn W ga n1 D1)
    (hD : PartG n1 m1 y1 x1 P Az Bz D1) (i1 : gs.In W) (i2 : rs.In W) (z1 : IsI gs y2) (z2 : IsI rs x2) : StIn W pb gs rs y2 x2 ra m1 rc (fun j => O (x1 j).toNat) ga n1 gc D1 (az1 n1 y1 P Az) (bz1 y1 x1 Bz) bd where
  p0 := hc.1
  p1 := hc.2.1
  p2 := hc.2.2
  gin := i1
  rin := i2
  gis := z1
  ris := z2
  gle := cd.ln2
  rle := cd.lm2
  rll := cd.lm1
  gll := cd.ln1
  rows := hR
  grps := hG
  rdom := cd.r2
  gdom := cd.g2
  bdom := fun i hi j hj => by have h1 := cd.g2 i hi; rw [(hD _ (by omega)).2.2.1]; exact (cd.r2 j hj).2
  bis := fun i hi => ⟨(hD i hi).2.2.2.1, by rw [(hD i hi).2.2.1]; exact cd.lm1⟩
  ais := fun i hi => ⟨(hD i hi).2.2.2.2.2, by rw [(hD i hi).2.2.2.2.1]; exact Nat.le_trans (aps_len _ _ _ _) (pf.fit _ (by have := cd.g1 i hi; omega)).2.2⟩

/-- The rows of the part and the given rows say the same. -/
theorem row_same {R : Nat → RowD} (pf : PF len O C A gl P Q Az Bz) (like : ∀ i, i < len → Like (O i) (R i)) {i : Nat} (hi : i < len) : RowEq (O i) (R i) := by
  obtain ⟨l1, l2, l3, l4, l5, l6, l7⟩ := like i hi
  obtain ⟨c1, c2, c3⟩ := pf.row i hi
  exact ⟨l1, l2, l3, ⟨l4, c3.1, _, c1, c1.like l4.symm l5.symm⟩, l6, c3.2, _, c2, c2.like l6.symm l7.symm⟩

theorem req_same {G : Nat → GroupD} (pf : PF len O C A gl P Q Az Bz) (like : ∀ i, i < gl → GLike (P i) (G i)) {i : Nat} (hi : i < gl) : SameI (P i).req (G i).req := by
  obtain ⟨l1, l2, l3, l4, l5, l6, l7⟩ := like i hi
  exact ⟨l2, (pf.fit i hi).1, _, pf.req i hi, (pf.req i hi).like l2.symm l3.symm⟩

theorem pf_of {R : Nat → RowD} {G : Nat → GroupD} (like : ∀ i, i < len → Like (O i) (R i)) (glike : ∀ i, i < gl → GLike (P i) (G i)) (l1 : len ≤ 1048576) (l2 : gl ≤ 1048576)
    (hC : ∀ i, i < len → IsI (R i).cap (C i)) (hA : ∀ i, i < len → IsI (R i).alc (A i)) (hQ : ∀ i, i < gl → IsI (G i).req (Q i)) (hB : ∀ i, i < gl → IsB (G i).rows (Bz i)) (hZ : ∀ i, i < gl → IsI (G i).apart (Az i))
    (f1 : ∀ i, i < len → RowFit (R i)) (f2 : ∀ i, i < gl → GrpFit (G i)) : PF len O C A gl P Q Az Bz where
  ll := l1
  gll := l2
  row := fun i hi => by
    obtain ⟨-, -, -, l4, l5, l6, l7⟩ := like i hi
    exact ⟨(hC i hi).like l4 l5, (hA i hi).like l6 l7, by rw [l4]; exact (f1 i hi).1, by rw [l6]; exact (f1 i hi).2⟩
  req := fun i hi => (hQ i hi).like (glike i hi).2.1 (glike i hi).2.2.1
  bools := fun i hi => by
    obtain ⟨-, -, -, l4, l5, -, -⟩ := glike i hi
    intro j hj
    rw [l5]
    exact hB i hi j (by omega)
  apart := fun i hi => (hZ i hi).like (glike i hi).2.2.2.2.2.1 (glike i hi).2.2.2.2.2.2
  fit := fun i hi => by
    obtain ⟨-, l2, -, l4, -, l6, -⟩ := glike i hi
    obtain ⟨e1, e2, e3⟩ := f2 i hi
    exact ⟨by rw [l2]; exact e1, by rw [l4]; exact e2, by rw [l6]; exact e3⟩

theorem cd_of {g1 r1 g2 r2 : SL} {G : Nat → GroupD} (h : CompDom g1 r1 g2 r2 y1 x1 y2 x2 len gl G) (glike : ∀ i, i < gl → GLike (P i) (G i)) (l1 : g1.len ≤ 1048576) (l2 : r1.len ≤ 1048576) (l3 : g2.len ≤ 1048576) (l4 : r2.len ≤ 1048576) :
    CD g1.len r1.len g2.len r2.len y1 x1 y2 x2 len gl P where
  r1 := h.1.1
  g1 := h.1.2.1
  up := h.1.2.2.1
  b1 := fun i hi j hj => by
    have h1 := h.1.2.1 i hi
    rw [(glike _ (by omega)).2.2.2.1]
    exact h.1.2.2.2 i hi j hj
  g2 := h.2.1
  r2 := h.2.2
  ln1 := l1
  lm1 := l2
  ln2 := l3
  lm2 := l4
end Go.Proofs.Qxb6617961a
