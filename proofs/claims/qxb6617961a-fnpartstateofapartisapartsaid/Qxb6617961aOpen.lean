import Derived.Test.Qxb6617961aDom
import Derived.Deep.Slices
import Derived.ProofKit
namespace Go.Proofs.Qxb6617961a
open Go.ChangeShapes Go.WideShapes Go.Deep

variable {H : Type} {enc : TypeId × Value → H} {w : World} {base : Nat} {spare : Nat → Bool} {held : Bool}

theorem cells2 : Try.prog.cellsOf 2 = 1 := by kernel_rfl
theorem cells3 : Try.prog.cellsOf 3 = 1 := by kernel_rfl
theorem cells4 : Try.prog.cellsOf 4 = 1 := by kernel_rfl
theorem cells27 : Try.prog.cellsOf 27 = 1 := by kernel_rfl
theorem cells39 : Try.prog.cellsOf 39 = 1 := by kernel_rfl
theorem cells40 : Try.prog.cellsOf 40 = 1 := by kernel_rfl
theorem cells52 : Try.prog.cellsOf 52 = 5 := by kernel_rfl
theorem cells42 : Try.prog.cellsOf 42 = 4 := by kernel_rfl

/-- The elements of the slice are bools. -/
def IsB (s : SL) (z : Nat → Bool) : Prop := ∀ i, i < s.len → s.f i = .bool (z i)

theorem wf64 {n : Int} (h : (Lit.int .i64 n).wf = true) : -9223372036854775808 ≤ n ∧ n ≤ 9223372036854775807 := by
  simp [Lit.wf, IntKind.min, IntKind.max, IntKind.bits, IntKind.signed] at h; omega

theorem in_of_cells {a : Addr} {len cap : Nat} {f : Nat → Value} (hc : ∀ i, i < len → w.cell? (a.add i) = some (f i)) : SL.In ⟨some a, len, cap, f⟩ w := by
  by_cases h0 : len = 0
  · exact Or.inl h0
  · right
    obtain ⟨b, off, spot⟩ := a
    have h := hc 0 (by omega)
    have hspot : spot = none := by simpa [Addr.add] using World.cell?_spot h
    subst hspot
    exact ⟨b, off, rfl, fun i hi => by rw [← addr_add]; exact hc i hi⟩

/-- A slice of int64 (int). -/
theorem open_I {t e : TypeId} {fuel : Nat} {v : Value} {x : DataW H × List MemPlace} (ht : Try.prog.underlying t = some (.slice e)) (he : Try.prog.underlying e = some (.int .i64)) (hc : Try.prog.cellsOf e = 1)
    (h : DataW.trod enc Try.prog w base spare held fuel t [v] = some x) : ∃ s : SL, v = s.val ∧ s.In w ∧ s.len ≤ maxLen ∧ ∃ z, IsI s z := by
  rcases open_ints ht he hc h with ⟨hcs, _⟩ | ⟨a, len, cap, zs, hcs, _, hl, hm, hz, _, hcell, hwz⟩
  · refine ⟨⟨none, 0, 0, fun _ => undef⟩, by simpa using hcs, Or.inl rfl, Nat.zero_le _, fun _ => 0, fun i hi => absurd hi (Nat.not_lt_zero _)⟩
  · have hlz : len ≤ zs.length := by rw [hz]; split <;> omega
    refine ⟨⟨some a, len, cap, fun i => .int .i64 (zs.getD i 0)⟩, by simpa using hcs, in_of_cells fun i hi => hcell i (by omega), Nat.le_trans hl hm, fun i => zs.getD i 0, fun i hi => ⟨rfl, ?_⟩⟩
    have hi : i < len := hi
    have : zs.getD i 0 = zs[i]'(by omega) := by simp [List.getD, List.getElem?_eq_getElem (show i < zs.length by omega)]
    show -9223372036854775808 ≤ zs.getD i 0 ∧ zs.getD i 0 ≤ 9223372036854775807
    rw [this]
    exact wf64 (hwz _ (List.getElem_mem _))

/-- A slice of bool. -/
theorem open_B {t e : TypeId} {fuel : Nat} {v : Value} {x : DataW H × List MemPlace} (ht : Try.prog.underlying t = some (.slice e)) (he : Try.prog.underlying e = some .bool) (hc : Try.prog.cellsOf e = 1)
    (h : DataW.trod enc Try.prog w base spare held fuel t [v] = some x) : ∃ s : SL, v = s.val ∧ s.In w ∧ s.len ≤ maxLen ∧ ∃ z, IsB s z := by
  rcases open_slice1 ht hc h with ⟨hcs, _⟩ | ⟨a, len, cap, m, n, V, D, Pl, hcs, _, hl, hm, hmm, _, hx⟩
  · refine ⟨⟨none, 0, 0, fun _ => undef⟩, by simpa using hcs, Or.inl rfl, Nat.zero_le _, fun _ => false, fun i hi => absurd hi (Nat.not_lt_zero _)⟩
  · have hlm : len ≤ m := by rw [hmm]; split <;> omega
    obtain ⟨z, hz⟩ := choose_lt (α := Bool) (n := len) (p := fun i b => V i = .bool b) (fun i hi => by
      obtain ⟨b, hb, _⟩ := DataW.trod_bool he (hx i (by omega)).2
      exact ⟨b, by simpa using hb⟩)
    exact ⟨⟨some a, len, cap, V⟩, by simpa using hcs, in_of_cells fun i hi => (hx i (by omega)).1, Nat.le_trans hl hm, z, fun i hi => hz i hi⟩

/-- What is known of a row that came in. -/
def RowOk (w : World) (r : RowD) : Prop := r.cap.In w ∧ r.alc.In w ∧ r.cap.len ≤ maxLen ∧ r.alc.len ≤ maxLen ∧ (∃ z, IsI r.cap z) ∧ (∃ z, IsI r.alc z)
def GrpOk (w : World) (g : GroupD) : Prop := g.req.In w ∧ g.rows.In w ∧ g.apart.In w ∧ g.req.len ≤ maxLen ∧ g.rows.len ≤ maxLen ∧ g.apart.len ≤ maxLen ∧ (∃ z, IsI g.req z) ∧ (∃ z, IsB g.rows z) ∧ (∃ z, IsI g.apart z)

theorem add_at (a : Addr) (i j : Nat) (n : Nat) : ((a.add (i * n)).add j) = a.add (i * n + j) := add_add a (i * n) j

/-- A slice of rows that came in. -/
theorem open_rows {fuel : Nat} {a : Option Addr} {len cap : Nat} {x : DataW H × List MemPlace} (h : DataW.trod enc Try.prog w base spare held fuel 22 [.slice a len cap] = some x) :
    len ≤ maxLen ∧ ∃ R : Nat → RowD, RowsIn w a len R ∧ ∀ i, i < len → RowOk w (R i) := by
  rcases open_slice Try.underlying22 h with ⟨hcs, _⟩ | ⟨ad, len', cap', m, n, D, Pl, hcs, _, hl, hm, hmm, _, hx⟩
  · simp at hcs
    obtain ⟨rfl, rfl, rfl⟩ := hcs
    exact ⟨Nat.zero_le _, fun _ => ⟨0, ⟨none, 0, 0, fun _ => undef⟩, ⟨none, 0, 0, fun _ => undef⟩, 0, false⟩, Or.inl rfl, fun i hi => absurd hi (Nat.not_lt_zero _)⟩
  · simp at hcs
    obtain ⟨rfl, rfl, rfl⟩ := hcs
    have hlm : len ≤ m := by rw [hmm]; split <;> omega
    have each : ∀ i, i < len → ∃ r : RowD, w.cell? (ad.add (i * 5)) = some (.int .i64 r.price) ∧ w.cell? (ad.add (i * 5 + 1)) = some r.cap.val ∧ w.cell? (ad.add (i * 5 + 2)) = some r.alc.val ∧ w.cell? (ad.add (i * 5 + 3)) = some (.int .i64 r.limit) ∧ w.cell? (ad.add (i * 5 + 4)) = some (.bool r.ex) ∧ RowOk w r := by
      intro i hi
      obtain ⟨cs', h1, h2⟩ := hx i (by omega)
      rw [cells52] at h1
      obtain ⟨_, hlen, hcell⟩ := World.cells?_some h1
      obtain ⟨xs, k, hk, hxy, _, hxl, hf⟩ := DataW.trod_struct Try.underlying52 h2
      match xs, hxl, cs', hlen with
      | [y0, y1, y2, y3, y4], _, [v0, v1, v2, v3, v4], _ =>
        have g0 := hf 0 _ rfl
        have g1 := hf 1 _ rfl
        have g2 := hf 2 _ rfl
        have g3 := hf 3 _ rfl
        have g4 := hf 4 _ rfl
        simp [cells2, cells3, cells4, cells27] at g0 g1 g2 g3 g4
        have e0 := hcell 0 (by omega)
        have e1 := hcell 1 (by omega)
        have e2 := hcell 2 (by omega)
        have e3 := hcell 3 (by omega)
        have e4 := hcell 4 (by omega)
        rw [add_add] at e0 e1 e2 e3 e4
        obtain ⟨p, hp, _⟩ := DataW.trod_int Try.underlying2 g0
        obtain ⟨s1, hs1, in1, m1, z1⟩ := open_I Try.underlying27 Try.underlying2 cells2 g1
        obtain ⟨s2, hs2, in2, m2, z2⟩ := open_I Try.underlying27 Try.underlying2 cells2 g2
        obtain ⟨l, hl', _⟩ := DataW.trod_int Try.underlying3 g3
        obtain ⟨b, hb, _⟩ := DataW.trod_bool Try.underlying4 g4
        simp at hp hl' hb
        subst hp hl' hb hs1 hs2
        exact ⟨⟨p, s1, s2, l, b⟩, by simpa using e0, by simpa using e1, by simpa using e2, by simpa using e3, by simpa using e4, in1, in2, m1, m2, z1, z2⟩
    have hinh : Inhabited RowD := ⟨⟨0, ⟨none, 0, 0, fun _ => undef⟩, ⟨none, 0, 0, fun _ => undef⟩, 0, false⟩⟩
    obtain ⟨R, hR⟩ := choose_lt each
    refine ⟨Nat.le_trans hl hm, R, ?_, fun i hi => (hR i hi).2.2.2.2.2⟩
    by_cases h0 : len = 0
    · exact Or.inl h0
    · right
      obtain ⟨b, off, spot⟩ := ad
      have hc := (hR 0 (by omega)).1
      have hspot : spot = none := by simpa [Addr.add] using World.cell?_spot hc
      subst hspot
      refine ⟨b, off, rfl, fun i hi => ?_⟩
      obtain ⟨c0, c1, c2, c3, c4, ok⟩ := hR i hi
      rw [addr_add] at c0 c1 c2 c3 c4
      exact ⟨c0, c1, c2, c3, c4, ok.1, ok.2.1⟩

/-- A slice of groups that came in. -/
theorem open_groups {fuel : Nat} {a : Option Addr} {len cap : Nat} {x : DataW H × List MemPlace} (h : DataW.trod enc Try.prog w base spare held fuel 23 [.slice a len cap] = some x) :
    len ≤ maxLen ∧ ∃ G : Nat → GroupD, GroupsIn w a len G ∧ ∀ i, i < len → GrpOk w (G i) := by
  rcases open_slice Try.underlying23 h with ⟨hcs, _⟩ | ⟨ad, len', cap', m, n, D, Pl, hcs, _, hl, hm, hmm, _, hx⟩
  · simp at hcs
    obtain ⟨rfl, rfl, rfl⟩ := hcs
    exact ⟨Nat.zero_le _, fun _ => ⟨⟨none, 0, 0, fun _ => undef⟩, 0, ⟨none, 0, 0, fun _ => undef⟩, ⟨none, 0, 0, fun _ => undef⟩⟩, Or.inl rfl, fun i hi => absurd hi (Nat.not_lt_zero _)⟩
  · simp at hcs
    obtain ⟨rfl, rfl, rfl⟩ := hcs
    have hlm : len ≤ m := by rw [hmm]; split <;> omega
    have each : ∀ i, i < len → ∃ g : GroupD, w.cell? (ad.add (i * 4)) = some g.req.val ∧ w.cell? (ad.add (i * 4 + 1)) = some (.int .i64 g.count) ∧ w.cell? (ad.add (i * 4 + 2)) = some g.rows.val ∧ w.cell? (ad.add (i * 4 + 3)) = some g.apart.val ∧ GrpOk w g := by
      intro i hi
      obtain ⟨cs', h1, h2⟩ := hx i (by omega)
      rw [cells42] at h1
      obtain ⟨_, hlen, hcell⟩ := World.cells?_some h1
      obtain ⟨xs, k, hk, hxy, _, hxl, hf⟩ := DataW.trod_struct Try.underlying42 h2
      match xs, hxl, cs', hlen with
      | [y0, y1, y2, y3], _, [v0, v1, v2, v3], _ =>
        have g0 := hf 0 _ rfl
        have g1 := hf 1 _ rfl
        have g2 := hf 2 _ rfl
        have g3 := hf 3 _ rfl
        simp [cells3, cells27, cells39, cells40] at g0 g1 g2 g3
        have e0 := hcell 0 (by omega)
        have e1 := hcell 1 (by omega)
        have e2 := hcell 2 (by omega)
        have e3 := hcell 3 (by omega)
        rw [add_add] at e0 e1 e2 e3
        obtain ⟨s0, hs0, in0, m0, z0⟩ := open_I Try.underlying27 Try.underlying2 cells2 g0
        obtain ⟨p, hp, _⟩ := DataW.trod_int Try.underlying3 g1
        obtain ⟨s2, hs2, in2, m2, z2⟩ := open_B Try.underlying39 Try.underlying4 cells4 g2
        obtain ⟨s3, hs3, in3, m3, z3⟩ := open_I Try.underlying40 Try.underlying3 cells3 g3
        simp at hp
        subst hp hs0 hs2 hs3
        exact ⟨⟨s0, p, s2, s3⟩, by simpa using e0, by simpa using e1, by simpa using e2, by simpa using e3, in0, in2, in3, m0, m2, m3, z0, z2, z3⟩
    have hinh : Inhabited GroupD := ⟨⟨⟨none, 0, 0, fun _ => undef⟩, 0, ⟨none, 0, 0, fun _ => undef⟩, ⟨none, 0, 0, fun _ => undef⟩⟩⟩
    obtain ⟨G, hG⟩ := choose_lt each
    refine ⟨Nat.le_trans hl hm, G, ?_, fun i hi => (hG i hi).2.2.2.2⟩
    by_cases h0 : len = 0
    · exact Or.inl h0
    · right
      obtain ⟨b, off, spot⟩ := ad
      have hc := (hG 0 (by omega)).1
      have hspot : spot = none := by simpa [Addr.add] using World.cell?_spot hc
      subst hspot
      refine ⟨b, off, rfl, fun i hi => ?_⟩
      obtain ⟨c0, c1, c2, c3, ok⟩ := hG i hi
      rw [addr_add] at c0 c1 c2 c3
      exact ⟨c0, c1, c2, c3, ok.1, ok.2.1, ok.2.2.1⟩
end Go.Proofs.Qxb6617961a
