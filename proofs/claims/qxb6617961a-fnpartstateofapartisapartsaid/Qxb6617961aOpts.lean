import Derived.Test.Qxb6617961aClone
import Derived.Deep.RegionHeld3
namespace Go.Proofs.Qxb6617961a
open Go.RowKit

/-- A cell that is there stays behind a call. -/
theorem cell_on {W w' : World} (hb : Below W.heap.size W w') {b o : Nat} {v : Value} (h : W.cell? ⟨b, o, none⟩ = some v) : w'.cell? ⟨b, o, none⟩ = some v :=
  (hb.cell (p := ⟨b, o, none⟩) (World.block_lt_of_cell? W ⟨b, o, none⟩ h)).trans h
theorem below_call {w W w1 : World} {B : Nat} (hb : Below W.heap.size W w1) (hB : B ≤ W.heap.size) (h1 : Below B w W) : Below B w w1 := h1.trans (hb.mono hB)
theorem below_on {W w1 w2 : World} (h1 : Below W.heap.size W w1) (h2 : Below w1.heap.size w1 w2) : Below W.heap.size W w2 := h1.trans (h2.mono h1.size)
theorem row_on {W w' : World} (hb : Below W.heap.size W w') {b : Nat} {t : TypeId} {n : Nat} {f : Nat → Value} (h : W.rowIs b t n f) : w'.rowIs b t n f := h.of_block (hb.block b h.lt)

theorem SL.In.on {s : SL} {W w' : World} (h : s.In W) (hb : Below W.heap.size W w') : s.In w' := by
  rcases h with h | ⟨b, off, ha, hc⟩
  · exact Or.inl h
  · exact Or.inr ⟨b, off, ha, fun i hi => cell_on hb (hc i hi)⟩
theorem SL.In.drew {s : SL} {W : World} (h : s.In W) : s.In W.drew := h
/-- The slice lies behind block N. -/
def SL.Far (s : SL) (N : Nat) : Prop := ∀ x, s.a = some x → N < x.block
theorem SL.In.set {s : SL} {W : World} {N : Nat} (h : s.In W) (hf : s.Far N) (o : Nat) (v : Value) : s.In (W.setCell ⟨N, o, none⟩ v) := by
  rcases h with h | ⟨b, off, ha, hc⟩
  · exact Or.inl h
  · refine Or.inr ⟨b, off, ha, fun i hi => ?_⟩
    have hb := hf _ ha
    rw [World.cell?_setCell_other _ _ _ _ (by intro e; cases e; exact Nat.lt_irrefl _ hb)]
    exact hc i hi

theorem RowsIn.on {W w' : World} {a : Option Addr} {len : Nat} {R : Nat → RowD} (h : RowsIn W a len R) (hb : Below W.heap.size W w') : RowsIn w' a len R := by
  rcases h with h | ⟨b, off, ha, hc⟩
  · exact Or.inl h
  · refine Or.inr ⟨b, off, ha, fun i hi => ?_⟩
    obtain ⟨c0, c1, c2, c3, c4, i1, i2⟩ := hc i hi
    exact ⟨cell_on hb c0, cell_on hb c1, cell_on hb c2, cell_on hb c3, cell_on hb c4, i1.on hb, i2.on hb⟩

/-- Two rows that say the same. -/
def Like (o r : RowD) : Prop := o.price = r.price ∧ o.limit = r.limit ∧ o.ex = r.ex ∧ o.cap.len = r.cap.len ∧ o.cap.f = r.cap.f ∧ o.alc.len = r.alc.len ∧ o.alc.f = r.alc.f

/-- What has been made of the options so far: the first k of the row in block N. -/
def OptOut (w wr : World) (N len k : Nat) (R : Nat → RowD) : Prop :=
  Below N w wr ∧ ∃ (g : Nat → Value) (O : Nat → RowD), wr.rowIs N 51 (len * 5) g ∧ ∀ i, i < k → Like (O i) (R i) ∧
    g (i * 5) = .int .i64 (O i).price ∧ g (i * 5 + 1) = (O i).cap.val ∧ g (i * 5 + 2) = (O i).alc.val ∧ g (i * 5 + 3) = .int .i64 (O i).limit ∧ g (i * 5 + 4) = .bool (O i).ex ∧
    (O i).cap.In wr ∧ (O i).alc.In wr ∧ (O i).cap.Far N ∧ (O i).alc.Far N

theorem OptOut.row {w wr : World} {N len k : Nat} {R : Nat → RowD} (h : OptOut w wr N len k R) : ∃ g, wr.rowIs N 51 (len * 5) g := by
  obtain ⟨_, g, _, hg, _⟩ := h; exact ⟨g, hg⟩

theorem OptOut.drew {w wr : World} {N len k : Nat} {R : Nat → RowD} (h : OptOut w wr N len k R) : OptOut w wr.drew N len k R := by
  obtain ⟨hb, g, O, hg, hO⟩ := h
  exact ⟨hb.drew, g, O, hg, hO⟩

theorem OptOut.on {w wr w' : World} {N len k : Nat} {R : Nat → RowD} (h : OptOut w wr N len k R) (hb : Below wr.heap.size wr w') : OptOut w w' N len k R := by
  obtain ⟨hB, g, O, hg, hO⟩ := h
  refine ⟨below_call hb (Nat.le_of_lt hg.lt) hB, g, O, row_on hb hg, fun i hi => ?_⟩
  obtain ⟨l, e0, e1, e2, e3, e4, i1, i2, f1, f2⟩ := hO i hi
  exact ⟨l, e0, e1, e2, e3, e4, i1.on hb, i2.on hb, f1, f2⟩

theorem OptOut.set {w wr : World} {N len k : Nat} {R : Nat → RowD} (h : OptOut w wr N len k R) (o : Nat) (ho : k * 5 ≤ o) (v : Value) : OptOut w (wr.setCell ⟨N, o, none⟩ v) N len k R := by
  obtain ⟨hB, g, O, hg, hO⟩ := h
  refine ⟨hB.setCell (Nat.le_refl _) v, _, O, hg.set o v, fun i hi => ?_⟩
  obtain ⟨l, e0, e1, e2, e3, e4, i1, i2, f1, f2⟩ := hO i hi
  refine ⟨l, ?_, ?_, ?_, ?_, ?_, i1.set f1 _ _, i2.set f2 _ _, f1, f2⟩
  · rw [if_neg (by omega)]; exact e0
  · rw [if_neg (by omega)]; exact e1
  · rw [if_neg (by omega)]; exact e2
  · rw [if_neg (by omega)]; exact e3
  · rw [if_neg (by omega)]; exact e4

/-- The k-th option is stored. -/
theorem OptOut.step {w wr : World} {N len k : Nat} {R : Nat → RowD} (h : OptOut w wr N len k R) {o : RowD} (hl : Like o (R k)) (h1 : o.cap.In wr) (h2 : o.alc.In wr) (f1 : o.cap.Far N) (f2 : o.alc.Far N) :
    OptOut w (((((wr.setCell ⟨N, k * 5, none⟩ (.int .i64 o.price)).setCell ⟨N, k * 5 + 1, none⟩ o.cap.val).setCell ⟨N, k * 5 + 2, none⟩ o.alc.val).setCell ⟨N, k * 5 + 3, none⟩ (.int .i64 o.limit)).setCell ⟨N, k * 5 + 4, none⟩ (.bool o.ex)) N len (k + 1) R := by
  obtain ⟨hB, g, O, hg, hO⟩ := h
  refine ⟨((((hB.setCell (Nat.le_refl _) _).setCell (Nat.le_refl _) _).setCell (Nat.le_refl _) _).setCell (Nat.le_refl _) _).setCell (Nat.le_refl _) _, _, fun i => if i = k then o else O i,
    ((((hg.set _ _).set _ _).set _ _).set _ _).set _ _, fun i hi => ?_⟩
  by_cases e : i = k
  · subst e
    simp only [if_true]
    refine ⟨hl, ?_, ?_, ?_, ?_, ?_, ((((h1.set f1 _ _).set f1 _ _).set f1 _ _).set f1 _ _).set f1 _ _, ((((h2.set f2 _ _).set f2 _ _).set f2 _ _).set f2 _ _).set f2 _ _, f1, f2⟩
    all_goals simp
  · obtain ⟨l, e0, e1, e2, e3, e4, i1, i2, q1, q2⟩ := hO i (by omega)
    simp only [if_neg e]
    refine ⟨l, ?_, ?_, ?_, ?_, ?_, ((((i1.set q1 _ _).set q1 _ _).set q1 _ _).set q1 _ _).set q1 _ _, ((((i2.set q2 _ _).set q2 _ _).set q2 _ _).set q2 _ _).set q2 _ _, q1, q2⟩
    · simp (disch := omega) only [if_neg]; exact e0
    · simp (disch := omega) only [if_neg]; exact e1
    · simp (disch := omega) only [if_neg]; exact e2
    · simp (disch := omega) only [if_neg]; exact e3
    · simp (disch := omega) only [if_neg]; exact e4

theorem OptOut.done {w wr : World} {N len : Nat} {R : Nat → RowD} (h : OptOut w wr N len len R) : ∃ O, (∀ i, i < len → Like (O i) (R i)) ∧ RowsIn wr (some ⟨N, 0, none⟩) len O := by
  obtain ⟨hB, g, O, hg, hO⟩ := h
  refine ⟨O, fun i hi => (hO i hi).1, Or.inr ⟨N, 0, rfl, fun i hi => ?_⟩⟩
  obtain ⟨l, e0, e1, e2, e3, e4, i1, i2, f1, f2⟩ := hO i hi
  simp only [Nat.zero_add]
  refine ⟨?_, ?_, ?_, ?_, ?_, i1, i2⟩
  · rw [hg.cell (by omega), e0]
  · rw [hg.cell (by omega), e1]
  · rw [hg.cell (by omega), e2]
  · rw [hg.cell (by omega), e3]
  · rw [hg.cell (by omega), e4]

/-! ### What the region of the round is held by -/
theorem so_draw {w W : World} {b o N len k : Nat} {R : Nat → RowD} {v0 v1 v2 v3 v4 : Value}
    (h : W.cell? ⟨b, o, none⟩ = some v0 ∧ W.cell? ⟨b, o + 1, none⟩ = some v1 ∧ W.cell? ⟨b, o + 2, none⟩ = some v2 ∧ W.cell? ⟨b, o + 3, none⟩ = some v3 ∧ W.cell? ⟨b, o + 4, none⟩ = some v4 ∧ OptOut w W N len k R) :
    W.drew.cell? ⟨b, o, none⟩ = some v0 ∧ W.drew.cell? ⟨b, o + 1, none⟩ = some v1 ∧ W.drew.cell? ⟨b, o + 2, none⟩ = some v2 ∧ W.drew.cell? ⟨b, o + 3, none⟩ = some v3 ∧ W.drew.cell? ⟨b, o + 4, none⟩ = some v4 ∧ OptOut w W.drew N len k R := by
  obtain ⟨a, b, c, d, e, f⟩ := h
  exact ⟨a, b, c, d, e, f.drew⟩
theorem so_call {w W w' : World} {b o N len k : Nat} {R : Nat → RowD} {v0 v1 v2 v3 v4 : Value} (hb : Below W.heap.size W w')
    (h : W.cell? ⟨b, o, none⟩ = some v0 ∧ W.cell? ⟨b, o + 1, none⟩ = some v1 ∧ W.cell? ⟨b, o + 2, none⟩ = some v2 ∧ W.cell? ⟨b, o + 3, none⟩ = some v3 ∧ W.cell? ⟨b, o + 4, none⟩ = some v4 ∧ OptOut w W N len k R) :
    w'.cell? ⟨b, o, none⟩ = some v0 ∧ w'.cell? ⟨b, o + 1, none⟩ = some v1 ∧ w'.cell? ⟨b, o + 2, none⟩ = some v2 ∧ w'.cell? ⟨b, o + 3, none⟩ = some v3 ∧ w'.cell? ⟨b, o + 4, none⟩ = some v4 ∧ OptOut w w' N len k R := by
  obtain ⟨a, b, c, d, e, f⟩ := h
  exact ⟨cell_on hb a, cell_on hb b, cell_on hb c, cell_on hb d, cell_on hb e, f.on hb⟩
theorem other {V : World} {b N : Nat} (hn : b < N) (o q : Nat) (x : Value) : (V.setCell ⟨N, q, none⟩ x).cell? ⟨b, o, none⟩ = V.cell? ⟨b, o, none⟩ :=
  World.cell?_setCell_other _ _ _ _ (by intro e; cases e; exact Nat.lt_irrefl _ hn)
theorem so_store {w W : World} {b o N len k : Nat} {R : Nat → RowD} {v0 v1 v2 v3 v4 : Value} (hn : b < N) {x0 x1 x2 x3 x4 : Value}
    (h : W.cell? ⟨b, o, none⟩ = some v0 ∧ W.cell? ⟨b, o + 1, none⟩ = some v1 ∧ W.cell? ⟨b, o + 2, none⟩ = some v2 ∧ W.cell? ⟨b, o + 3, none⟩ = some v3 ∧ W.cell? ⟨b, o + 4, none⟩ = some v4 ∧ OptOut w W N len k R) :
    (((((W.setCell ⟨N, k * 5, none⟩ x0).setCell ⟨N, k * 5 + 1, none⟩ x1).setCell ⟨N, k * 5 + 2, none⟩ x2).setCell ⟨N, k * 5 + 3, none⟩ x3).setCell ⟨N, k * 5 + 4, none⟩ x4).cell? ⟨b, o, none⟩ = some v0 ∧
    (((((W.setCell ⟨N, k * 5, none⟩ x0).setCell ⟨N, k * 5 + 1, none⟩ x1).setCell ⟨N, k * 5 + 2, none⟩ x2).setCell ⟨N, k * 5 + 3, none⟩ x3).setCell ⟨N, k * 5 + 4, none⟩ x4).cell? ⟨b, o + 1, none⟩ = some v1 ∧
    (((((W.setCell ⟨N, k * 5, none⟩ x0).setCell ⟨N, k * 5 + 1, none⟩ x1).setCell ⟨N, k * 5 + 2, none⟩ x2).setCell ⟨N, k * 5 + 3, none⟩ x3).setCell ⟨N, k * 5 + 4, none⟩ x4).cell? ⟨b, o + 2, none⟩ = some v2 ∧
    (((((W.setCell ⟨N, k * 5, none⟩ x0).setCell ⟨N, k * 5 + 1, none⟩ x1).setCell ⟨N, k * 5 + 2, none⟩ x2).setCell ⟨N, k * 5 + 3, none⟩ x3).setCell ⟨N, k * 5 + 4, none⟩ x4).cell? ⟨b, o + 3, none⟩ = some v3 ∧
    (((((W.setCell ⟨N, k * 5, none⟩ x0).setCell ⟨N, k * 5 + 1, none⟩ x1).setCell ⟨N, k * 5 + 2, none⟩ x2).setCell ⟨N, k * 5 + 3, none⟩ x3).setCell ⟨N, k * 5 + 4, none⟩ x4).cell? ⟨b, o + 4, none⟩ = some v4 ∧
    OptOut w (((((W.setCell ⟨N, k * 5, none⟩ x0).setCell ⟨N, k * 5 + 1, none⟩ x1).setCell ⟨N, k * 5 + 2, none⟩ x2).setCell ⟨N, k * 5 + 3, none⟩ x3).setCell ⟨N, k * 5 + 4, none⟩ x4) N len k R := by
  obtain ⟨a, b, c, d, e, f⟩ := h
  refine ⟨?_, ?_, ?_, ?_, ?_, ((((f.set _ (by omega) _).set _ (by omega) _).set _ (by omega) _).set _ (by omega) _).set _ (by omega) _⟩
  all_goals (rw [other hn, other hn, other hn, other hn, other hn]; assumption)

theorem info51 : (Try.prog.info? 51).map (fun i => (i.zero, i.size, i.bytes)) = some (some (.agg #[.int .i64 0, .slice none 0 0, .slice none 0 0, .int .i64 0, .bool false]), 5, 72) := by kernel_rfl
theorem info53 : (Try.prog.info? 53).map (fun i => (i.zero, i.size, i.bytes)) = some (some (.agg #[.slice none 0 0, .int .i64 0, .slice none 0 0, .slice none 0 0]), 4, 80) := by kernel_rfl

/-- make of a slice of structs. -/
theorem run_make_agg (t e : TypeId) (z : Value) (size bytes : Nat) (ht : Try.prog.underlying t = some (.slice e)) (hinfo : (Try.prog.info? e).map (fun i => (i.zero, i.size, i.bytes)) = some (some z, size, bytes))
    (n : Nat) (hbytes : bytes * n ≤ 281474976710656) (h63 : n ≤ 9223372036854775807) (w : World) :
    (Instr.makeSlice t (.int .i64 (n : Int)) (.int .i64 (n : Int))).run Try.prog w = .ok (.slice (some ⟨w.heap.size, 0, none⟩) n n) (w.alloc (.cells (madeCells z.cells (n * size)) e)) := by
  obtain ⟨i, hi, hzz⟩ := Option.map_eq_some_iff.1 hinfo
  simp only [Prod.mk.injEq] at hzz
  obtain ⟨hz, hs, hb⟩ := hzz
  subst hs hb
  have hb' : (i.bytes : Int) * (n : Int) ≤ 281474976710656 := by
    have h : ((i.bytes * n : Nat) : Int) ≤ 281474976710656 := by omega
    rwa [Int.natCast_mul] at h
  have hr := run_make (P := Try.prog) w t e i z ht hi hz .i64 .i64 n n (by omega) (Int.le_refl _) hb' (by omega)
  simpa only [Int.toNat_natCast] using hr

theorem rowIs_make (w : World) (z : Array Value) (n : Nat) (t : TypeId) : ∃ g, (w.alloc (.cells (madeCells z n) t)).rowIs w.heap.size t n g := by
  refine ⟨fun i => (madeCells z n)[i]?.getD undef, ?_⟩
  have := World.rowIs_alloc w (madeCells z n) t (fun i => (madeCells z n)[i]?.getD undef) (fun i hi => by simp [hi])
  rwa [size_madeCells] at this

theorem so_out {w W : World} {b o N len k : Nat} {R : Nat → RowD} {v0 v1 v2 v3 v4 : Value}
    (h : W.cell? ⟨b, o, none⟩ = some v0 ∧ W.cell? ⟨b, o + 1, none⟩ = some v1 ∧ W.cell? ⟨b, o + 2, none⟩ = some v2 ∧ W.cell? ⟨b, o + 3, none⟩ = some v3 ∧ W.cell? ⟨b, o + 4, none⟩ = some v4 ∧ OptOut w W N len k R) : OptOut w W N len k R := h.2.2.2.2.2
theorem so_below {w W : World} {b o N len k : Nat} {R : Nat → RowD} {v0 v1 v2 v3 v4 : Value}
    (h : W.cell? ⟨b, o, none⟩ = some v0 ∧ W.cell? ⟨b, o + 1, none⟩ = some v1 ∧ W.cell? ⟨b, o + 2, none⟩ = some v2 ∧ W.cell? ⟨b, o + 3, none⟩ = some v3 ∧ W.cell? ⟨b, o + 4, none⟩ = some v4 ∧ OptOut w W N len k R) : Below N w W := (so_out h).1

theorem cloneS64 (s : SL) (w : World) (hI : s.In w) (hl : s.len ≤ 1048576) (h1 : ∀ i, i < s.len → (s.f i).oneCell' = true) : Calls Try.prog 23 #[s.val] w fun e w' => Cloned s.len s.f w e w' := clone64 s.a s.len s.cap s.f w hl hI h1
theorem cloneSBools (s : SL) (w : World) (hI : s.In w) (hl : s.len ≤ 1048576) (h1 : ∀ i, i < s.len → (s.f i).oneCell' = true) : Calls Try.prog 24 #[s.val] w fun e w' => Cloned s.len s.f w e w' := cloneBools s.a s.len s.cap s.f w hl hI h1
theorem cloneSInts (s : SL) (w : World) (hI : s.In w) (hl : s.len ≤ 1048576) (h1 : ∀ i, i < s.len → (s.f i).oneCell' = true) : Calls Try.prog 18 #[s.val] w fun e w' => Cloned s.len s.f w e w' := cloneInts s.a s.len s.cap s.f w hl hI h1

/-- What toOptions answers. -/
def OptsRes (len : Nat) (R : Nat → RowD) (w : World) (e : Ending) (w' : World) : Prop :=
  ∃ a' cap' O, e = .returned (.slice a' len cap') ∧ (∀ i, i < len → Like (O i) (R i)) ∧ RowsIn w' a' len O ∧ Below w.heap.size w w'

/-- The element values of the slices of a row are of one cell each. -/
def OneCells (s : SL) : Prop := s.len ≤ 1048576 ∧ ∀ i, i < s.len → (s.f i).oneCell' = true

end Go.Proofs.Qxb6617961a
