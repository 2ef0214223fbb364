import Derived.Test.Qxb6617961aStateP
import Derived.Deep.CutRange
namespace Go.Proofs.Qxb6617961a
open Go.RowKit

/-- What state is handed: the problem p at block pb, the part's own cells at qb; all that p leads to lies in w0. -/
structure StIn (w0 : World) (pb : Nat) (gs rs : SL) (gz rz : Nat → Int) (ra : Option Addr) (rl rc : Nat) (O : Nat → RowD) (ga : Option Addr) (gl gc : Nat) (D : Nat → GroupD) (az : Nat → Nat → Int) (bz : Nat → Nat → Bool) (bd : Bool) : Prop where
  p0 : w0.cell? ⟨pb, 0, none⟩ = some (.slice ra rl rc)
  p1 : w0.cell? ⟨pb, 1, none⟩ = some (.slice ga gl gc)
  p2 : w0.cell? ⟨pb, 2, none⟩ = some (.bool bd)
  gin : gs.In w0
  rin : rs.In w0
  gis : IsI gs gz
  ris : IsI rs rz
  gle : gs.len ≤ 1048576
  rle : rs.len ≤ 1048576
  rll : rl ≤ 1048576
  gll : gl ≤ 1048576
  rows : RowsIn w0 ra rl O
  grps : GroupsIn w0 ga gl D
  rdom : ∀ j, j < rs.len → 0 ≤ rz j ∧ rz j < rl
  gdom : ∀ i, i < gs.len → 0 ≤ gz i ∧ gz i < gl
  bdom : ∀ i, i < gs.len → ∀ j, j < rs.len → rz j < (D (gz i).toNat).rows.len
  bis : ∀ i, i < gl → IsB (D i).rows (bz i) ∧ (D i).rows.len ≤ 1048576
  ais : ∀ i, i < gl → IsI (D i).apart (az i) ∧ (D i).apart.len ≤ 1048576

/-- What the first loop holds: k groups lie in the map. -/
def St1 (w0 : World) (qb mb : Nat) (gs rs : SL) (gz : Nat → Int) (k : Nat) (wr : World) : Prop :=
  Below w0.heap.size w0 wr ∧ MapI wr mb (look gz k) ∧ wr.rowIs qb 66 5 (stF (.slice none 0 0) (.slice none 0 0) false gs.val rs.val)

/-- What the second loop holds: k rows are appended. -/
def St2 (w0 : World) (qb mb : Nat) (gs rs : SL) (gz rz : Nat → Int) (O : Nat → RowD) (bd : Bool) (k : Nat) (wr : World) : Prop :=
  Below w0.heap.size w0 wr ∧ MapI wr mb (look gz gs.len) ∧ ∃ rv, wr.rowIs qb 66 5 (stF rv (.slice none 0 0) bd gs.val rs.val) ∧ wr.ownsRow w0.heap.size 51 5 rv k (rowsL O rz k)

theorem info51' : ∃ i z, Try.prog.info? 51 = some i ∧ i.zero = some z ∧ i.size = 5 ∧ i.bytes = 72 ∧ z.cells.size = 5 := by
  have := info51
  obtain ⟨i, hi, hz⟩ := Option.map_eq_some_iff.1 this
  simp only [Prod.mk.injEq] at hz
  exact ⟨i, _, hi, hz.1, hz.2.1, hz.2.2, rfl⟩

theorem rowL_one (r : RowD) : ∀ u ∈ rowL r, u.oneCell' = true := by
  intro u hu
  simp only [rowL, List.mem_cons, List.not_mem_nil, or_false] at hu
  rcases hu with rfl | rfl | rfl | rfl | rfl <;> rfl

theorem rowL_new (w : World) (r : RowD) : ∀ j u, (rowL r)[j]? = some u → (w.alloc (.cells #[.int .i64 r.price, r.cap.val, r.alc.val, .int .i64 r.limit, .bool r.ex] 51)).cell? ((⟨w.heap.size, 0, none⟩ : Addr).add j) = some u := by
  intro j u hj
  match j, hj with
  | 0, hj => simp [rowL] at hj; subst hj; simp [Addr.add]
  | 1, hj => simp [rowL] at hj; subst hj; simp [Addr.add]
  | 2, hj => simp [rowL] at hj; subst hj; simp [Addr.add]
  | 3, hj => simp [rowL] at hj; subst hj; simp [Addr.add]
  | 4, hj => simp [rowL] at hj; subst hj; simp [Addr.add]

/-- The group that the part has made of group g of p, in wr. -/
def GOk (w0 : World) (gn rn : Nat) (gz rz : Nat → Int) (D : Nat → GroupD) (az : Nat → Nat → Int) (bz : Nat → Nat → Bool) (g : Nat) (d : GroupD) (wr : World) : Prop :=
  d.req = (D g).req ∧ d.count = (D g).count ∧ (∃ nb, d.rows = ⟨some ⟨nb, 0, none⟩, rn, rn, fun j => .bool (bz g (rz j).toNat)⟩ ∧ wr.rowIs nb 4 rn (fun j => .bool (bz g (rz j).toNat))) ∧
  ∃ a c, d.apart = ⟨a, (aps gz gn (az g) (D g).apart.len).length, c, fun j => .int .i64 (((aps gz gn (az g) (D g).apart.len)[j]?.getD 0 : Nat) : Int)⟩ ∧
    wr.ownsRow w0.heap.size 3 1 (.slice a (aps gz gn (az g) (D g).apart.len).length c) (aps gz gn (az g) (D g).apart.len).length ((aps gz gn (az g) (D g).apart.len).map fun i : Nat => Value.int .i64 (i : Int))

/-- What the third loop holds: j groups are appended. -/
def St3 (w0 : World) (qb mb : Nat) (gs rs : SL) (gz rz : Nat → Int) (O : Nat → RowD) (D : Nat → GroupD) (az : Nat → Nat → Int) (bz : Nat → Nat → Bool) (bd : Bool) (j : Nat) (wr : World) : Prop :=
  Below w0.heap.size w0 wr ∧ MapI wr mb (look gz gs.len) ∧ ∃ rv gv D', wr.rowIs qb 66 5 (stF rv gv bd gs.val rs.val) ∧ wr.ownsRow w0.heap.size 51 5 rv rs.len (rowsL O rz rs.len) ∧ wr.ownsRow w0.heap.size 53 4 gv j (grpsL D' j) ∧
    ∀ i, i < j → GOk w0 gs.len rs.len gz rz D az bz (gz i).toNat (D' i) wr

/-- The cells of the group in the making. -/
def ownF (q : Value) (n : Int) (r a : Value) : Nat → Value := fun i => if i = 0 then q else if i = 1 then .int .i64 n else if i = 2 then r else a

/-- What the fourth loop holds: k of its rows are told. -/
def R4 (wr : World) (rn : Nat) (rz : Nat → Int) (d : GroupD) (b : Nat → Bool) (nb ob k : Nat) (wx : World) : Prop :=
  Below wr.heap.size wr wx ∧ wr.heap.size ≤ nb ∧ wr.heap.size ≤ ob ∧ wx.rowIs ob 53 4 (ownF d.req.val d.count (.slice (some ⟨nb, 0, none⟩) rn rn) (.slice none 0 0)) ∧
    wx.rowIs nb 4 rn (fun i => .bool (if i < k then b (rz i).toNat else false))

theorem ownF_at (q : Value) (n : Int) (r a : Value) (i : Nat) (hi : i < (#[q, .int .i64 n, r, a] : Array Value).size) : (#[q, .int .i64 n, r, a] : Array Value)[i]? = some (ownF q n r a i) := by
  have hi : i < 4 := hi
  match i, hi with
  | 0, _ => rfl
  | 1, _ => rfl
  | 2, _ => rfl
  | 3, _ => rfl

theorem r4_a (wr : World) (rn : Nat) (rz : Nat → Int) (d : GroupD) (b : Nat → Bool) :
    R4 wr rn rz d b wr.heap.size (wr.heap.size + 1) 0 ((wr.alloc (.cells (madeCells #[.bool false] rn) 4)).alloc (.cells #[d.req.val, .int .i64 d.count, .slice (some ⟨wr.heap.size, 0, none⟩) rn rn, .slice none 0 0] 53)).drew := by
  refine ⟨(below_two wr _ _).drew, Nat.le_refl _, by omega, ?_, ?_⟩
  · have := World.rowIs_alloc (wr.alloc (.cells (madeCells #[.bool false] rn) 4)) #[d.req.val, .int .i64 d.count, .slice (some ⟨wr.heap.size, 0, none⟩) rn rn, .slice none 0 0] 53 _ (ownF_at _ _ _ _)
    have hs : (wr.alloc (.cells (madeCells #[.bool false] rn) 4)).heap.size = wr.heap.size + 1 := by simp
    rw [hs] at this
    exact this
  · exact ((World.rowIs_made wr (.bool false) rn 4).alloc _).congr fun i _ => by simp

theorem r4_b (wr : World) (rn : Nat) (rz : Nat → Int) (d : GroupD) (b : Nat → Bool) :
    R4 wr rn rz d b (wr.heap.size + 1) wr.heap.size 0 ((wr.alloc (.cells #[d.req.val, .int .i64 d.count, .slice (some ⟨wr.heap.size + 1, 0, none⟩) rn rn, .slice none 0 0] 53)).alloc (.cells (madeCells #[.bool false] rn) 4)).drew := by
  refine ⟨(below_two wr _ _).drew, by omega, Nat.le_refl _, ?_, ?_⟩
  · exact (World.rowIs_alloc wr #[d.req.val, .int .i64 d.count, .slice (some ⟨wr.heap.size + 1, 0, none⟩) rn rn, .slice none 0 0] 53 _ (ownF_at _ _ _ _)).alloc _
  · have := World.rowIs_made (wr.alloc (.cells #[d.req.val, .int .i64 d.count, .slice (some ⟨wr.heap.size + 1, 0, none⟩) rn rn, .slice none 0 0] 53)) (.bool false) rn 4
    have hs : (wr.alloc (.cells #[d.req.val, .int .i64 d.count, .slice (some ⟨wr.heap.size + 1, 0, none⟩) rn rn, .slice none 0 0] 53)).heap.size = wr.heap.size + 1 := by simp
    rw [hs] at this
    exact this.congr fun i _ => by simp

theorem R4.step {ws wr : World} {rn nb ob k : Nat} {rz : Nat → Int} {d : GroupD} {b : Nat → Bool} (h : R4 ws rn rz d b nb ob k wr) {p : Nat} (hp : (rz k).toNat = p) : R4 ws rn rz d b nb ob (k + 1) (wr.setCell ⟨nb, k, none⟩ (.bool (b p))).drew := by
  obtain ⟨hb, hnb, hob, ho, hn⟩ := h
  refine ⟨(hb.setCell hnb _).drew, hnb, hob, (ho.setOther (rows_tag ho hn (by decide)) _), (hn.set k _).congr fun i _ => ?_⟩
  by_cases e : i = k
  · subst e
    rw [if_pos rfl, if_pos (by omega), hp]
  · rw [if_neg e]
    by_cases h1 : i < k
    · rw [if_pos h1, if_pos (by omega)]
    · rw [if_neg h1, if_neg (by omega)]

/-- What the fifth loop holds: k of the groups to keep apart from are looked up. -/
def R5 (ws : World) (rn : Nat) (rz : Nat → Int) (d : GroupD) (b : Nat → Bool) (gz : Nat → Int) (gn : Nat) (az : Nat → Int) (nb ob k : Nat) (wx : World) : Prop :=
  Below ws.heap.size ws wx ∧ ws.heap.size ≤ ob ∧ wx.rowIs nb 4 rn (fun i => .bool (b (rz i).toNat)) ∧
    ∃ av, wx.rowIs ob 53 4 (ownF d.req.val d.count (.slice (some ⟨nb, 0, none⟩) rn rn) av) ∧ wx.ownsRow ws.heap.size 3 1 av (aps gz gn az k).length ((aps gz gn az k).map fun i : Nat => Value.int .i64 (i : Int))

theorem R4.done {ws wr : World} {rn nb ob : Nat} {rz : Nat → Int} {d : GroupD} {b : Nat → Bool} (h : R4 ws rn rz d b nb ob rn wr) (gz : Nat → Int) (gn : Nat) (az : Nat → Int) : R5 ws rn rz d b gz gn az nb ob 0 wr := by
  obtain ⟨hb, hnb, hob, ho, hn⟩ := h
  exact ⟨hb, hob, hn.congr fun i hi => by rw [if_pos hi], _, ho, World.ownsRow_nil _ _ _ _⟩

theorem aps_none {gz : Nat → Int} {gn : Nat} {az : Nat → Int} {k : Nat} (h : look gz gn (az k) = none) : aps gz gn az (k + 1) = aps gz gn az k := by
  rw [aps, h]
theorem aps_some {gz : Nat → Int} {gn : Nat} {az : Nat → Int} {k i : Nat} (h : look gz gn (az k) = some i) : aps gz gn az (k + 1) = aps gz gn az k ++ [i] := by
  rw [aps, h]

theorem info3' : ∃ i z, Try.prog.info? 3 = some i ∧ i.zero = some z ∧ i.size = 1 ∧ i.bytes = 8 ∧ z.cells.size = 1 := by
  have := info3
  obtain ⟨i, hi, hz⟩ := Option.map_eq_some_iff.1 this
  simp only [Prod.mk.injEq] at hz
  exact ⟨i, _, hi, hz.1, hz.2.1, hz.2.2, rfl⟩

theorem own_mono {w : World} {base base' : Nat} {e : TypeId} {size : Nat} {v : Value} {n : Nat} {xs : List Value} (h : w.ownsRow base e size v n xs) (hb : base' ≤ base) : w.ownsRow base' e size v n xs := by
  refine ⟨h.1, ?_⟩
  rcases h.2 with h | ⟨g, cap, cur, rfl, h1, h2⟩
  · exact Or.inl h
  · exact Or.inr ⟨g, cap, cur, rfl, Nat.le_trans hb h1, h2⟩

/-- The group that the round has made. -/
abbrev newG (rn : Nat) (rz : Nat → Int) (d : GroupD) (b : Nat → Bool) (L : List Nat) (nb : Nat) (a : Option Addr) (c : Nat) : GroupD :=
  ⟨d.req, d.count, ⟨some ⟨nb, 0, none⟩, rn, rn, fun j => .bool (b (rz j).toNat)⟩, ⟨a, L.length, c, fun j => .int .i64 ((L[j]?.getD 0 : Nat) : Int)⟩⟩

/-- The round's end: the new group is appended and the slice stored. -/
theorem St3_step {w0 ws wr w' : World} {qb mb j g nb : Nat} {gs rs : SL} {gz rz : Nat → Int} {O : Nat → RowD} {D D' : Nat → GroupD} {az : Nat → Nat → Int} {bz : Nat → Nat → Bool} {bd : Bool} {rv : Value} {a0 a1 a2 : Option Addr} {c0 c1 c2 : Nat} {X : Obj}
    (hqb : w0.heap.size ≤ qb) (hB : Below w0.heap.size w0 ws) (hM : MapI ws mb (look gz gs.len)) (hq : ws.rowIs qb 66 5 (stF rv (.slice a0 j c0) bd gs.val rs.val)) (hown : ws.ownsRow w0.heap.size 51 5 rv rs.len (rowsL O rz rs.len))
    (hgv : ws.ownsRow w0.heap.size 53 4 (.slice a0 j c0) j (grpsL D' j)) (hGO : ∀ i, i < j → GOk w0 gs.len rs.len gz rz D az bz (gz i).toNat (D' i) ws)
    (hg : (gz j).toNat = g) (hb : Below ws.heap.size ws wr) (hn : wr.rowIs nb 4 rs.len (fun i => .bool (bz g (rz i).toNat)))
    (hav : wr.ownsRow ws.heap.size 3 1 (.slice a2 (aps gz gs.len (az g) (D g).apart.len).length c2) (aps gz gs.len (az g) (D g).apart.len).length ((aps gz gs.len (az g) (D g).apart.len).map fun i : Nat => Value.int .i64 (i : Int)))
    (hown' : w'.ownsRow w0.heap.size 53 4 (.slice a1 (j + 1) c1) (j + 1) (grpsL D' j ++ grpL (newG rs.len rz (D g) (bz g) (aps gz gs.len (az g) (D g).apart.len) nb a2 c2)))
    (hgrow : (wr.alloc X).drew.grownBy w' (Value.slice a0 j c0).ownBlock) :
    St3 w0 qb mb gs rs gz rz O D az bz bd (j + 1) (w'.setCell ⟨qb, 1, none⟩ (.slice a1 (j + 1) c1)) := by
  have hsw : ws.heap.size ≤ wr.heap.size := hb.size
  have hqr : wr.rowIs qb 66 5 (stF rv (.slice a0 j c0) bd gs.val rs.val) := row_on hb hq
  have hgr : wr.ownsRow w0.heap.size 53 4 (.slice a0 j c0) j (grpsL D' j) := own_on hgv fun b h => hb.block b (own_base hgv h).2
  have near : ∀ b, b < wr.heap.size → (Value.slice a0 j c0).ownBlock ≠ some b → w'.heap[b]? = wr.heap[b]? := fun b hlt hne =>
    (hgrow.block b (Nat.lt_of_lt_of_le hlt (by show wr.heap.size ≤ (wr.alloc X).heap.size; simp)) hne.symm).trans (Below.heap_alloc wr X b hlt)
  have fin : ∀ b, b < wr.heap.size → b ≠ qb → (Value.slice a0 j c0).ownBlock ≠ some b → (w'.setCell ⟨qb, 1, none⟩ (.slice a1 (j + 1) c1)).heap[b]? = wr.heap[b]? := fun b hlt h1 h2 =>
    (Below.heap_setCell _ _ _ _ h1).trans (near b hlt h2)
  have old : ∀ b, b < ws.heap.size → b ≠ qb → (Value.slice a0 j c0).ownBlock ≠ some b → (w'.setCell ⟨qb, 1, none⟩ (.slice a1 (j + 1) c1)).heap[b]? = ws.heap[b]? := fun b hlt h1 h2 =>
    (fin b (by omega) h1 h2).trans (hb.block b hlt)
  have hq' : w'.rowIs qb 66 5 (stF rv (.slice a0 j c0) bd gs.val rs.val) := hqr.of_block (near qb hqr.lt (own_ne hgr hqr (by decide)))
  have hBw : Below w0.heap.size w0 w' := ((hB.trans (hb.mono hB.size)).alloc (Nat.le_trans hB.size hsw) X).drew.grown hgrow (Nat.le_trans (Nat.le_trans hB.size hsw) (by show wr.heap.size ≤ (wr.alloc X).heap.size; simp)) fun k hk => (own_base hgr hk).1
  refine ⟨hBw.setCell hqb _, hM.of_block (old mb hM.lt (row_map hq hM).symm (own_map hgv hM)), rv, .slice a1 (j + 1) c1, fun i => if i = j then newG rs.len rz (D g) (bz g) (aps gz gs.len (az g) (D g).apart.len) nb a2 c2 else D' i, ?_, ?_, ?_, fun i hi => ?_⟩
  · exact (hq'.set 1 _).congr fun i hi => by
      match i, hi with
      | 0, _ => rfl
      | 1, _ => rfl
      | 2, _ => rfl
      | 3, _ => rfl
      | 4, _ => rfl
  · exact own_on hown fun b h => old b (own_base hown h).2 (fun e => own_ne hown hq (by decide) (e ▸ h)) (own_own hown hgv (by decide) h)
  · have e1 : grpsL (fun i => if i = j then newG rs.len rz (D g) (bz g) (aps gz gs.len (az g) (D g).apart.len) nb a2 c2 else D' i) (j + 1) = grpsL D' j ++ grpL (newG rs.len rz (D g) (bz g) (aps gz gs.len (az g) (D g).apart.len) nb a2 c2) := by
      rw [grpsL, if_pos rfl]
      congr 1
      exact grpsL_congr fun i hi => by rw [if_neg (by omega)]
    rw [e1]
    exact own_set hown' hq' (by decide) _ _
  · by_cases e : i = j
    · subst e
      simp only [if_true]
      rw [hg]
      refine ⟨rfl, rfl, ⟨nb, rfl, hn.of_block (fin nb hn.lt (rows_tag hn hqr (by decide)) (own_ne hgr hn (by decide)))⟩, a2, c2, rfl, ?_⟩
      exact own_mono (own_on hav fun b h => fin b (own_base hav h).2 (fun e => own_ne hav hqr (by decide) (e ▸ h)) (own_own hav hgr (by decide) h)) hB.size
    · simp only [if_neg e]
      obtain ⟨g1, g2, ⟨nb', g3, g4⟩, a', c', g5, g6⟩ := hGO i (by omega)
      refine ⟨g1, g2, ⟨nb', g3, g4.of_block (old nb' g4.lt (rows_tag g4 hq (by decide)) (own_ne hgv g4 (by decide)))⟩, a', c', g5, ?_⟩
      exact own_on g6 fun b h => old b (own_base g6 h).2 (fun e => own_ne g6 hq (by decide) (e ▸ h)) (own_own g6 hgv (by decide) h)

theorem info53' : ∃ i z, Try.prog.info? 53 = some i ∧ i.zero = some z ∧ i.size = 4 ∧ i.bytes = 80 ∧ z.cells.size = 4 := by
  have := info53
  obtain ⟨i, hi, hz⟩ := Option.map_eq_some_iff.1 this
  simp only [Prod.mk.injEq] at hz
  exact ⟨i, _, hi, hz.1, hz.2.1, hz.2.2, rfl⟩

def StRes (w0 : World) (qb : Nat) (gs rs : SL) (gz rz : Nat → Int) (O : Nat → RowD) (D : Nat → GroupD) (az : Nat → Nat → Int) (bz : Nat → Nat → Bool) (bd : Bool) (e : Ending) (w' : World) : Prop :=
  e = .returned (.tuple #[]) ∧ Below w0.heap.size w0 w' ∧ ∃ ra rc ga gc D', w'.rowIs qb 66 5 (stF (.slice ra rs.len rc) (.slice ga gs.len gc) bd gs.val rs.val) ∧ RowsIn w' ra rs.len (fun j => O (rz j).toNat) ∧ GroupsIn w' ga gs.len D' ∧
    ∀ i, i < gs.len → (D' i).req = (D (gz i).toNat).req ∧ (D' i).count = (D (gz i).toNat).count ∧ (D' i).rows.len = rs.len ∧ IsB (D' i).rows (fun j => bz (gz i).toNat (rz j).toNat) ∧
      (D' i).apart.len = (aps gz gs.len (az (gz i).toNat) (D (gz i).toNat).apart.len).length ∧ IsI (D' i).apart (fun j => (((aps gz gs.len (az (gz i).toNat) (D (gz i).toNat).apart.len)[j]?.getD 0 : Nat) : Int))

end Go.Proofs.Qxb6617961a
