import Derived.Test.Qxb6618042aEnts
import Derived.Deep.Slices
import Derived.ProofKit
namespace Go.Proofs.Qxb6618042a
open Go.ChangeShapes Go.WideShapes Go.Deep

variable {H : Type} {enc : TypeId × Value → H} {w : World} {base : Nat} {spare : Nat → Bool} {held : Bool}

theorem cells3 : Try.prog.cellsOf 3 = 1 := by kernel_rfl
theorem cells9 : Try.prog.cellsOf 9 = 1 := by kernel_rfl
theorem cells25 : Try.prog.cellsOf 25 = 2 := by kernel_rfl

theorem addr_add (b off i : Nat) : (⟨b, off, none⟩ : Addr).add i = ⟨b, off + i, none⟩ := by unfold Addr.add; split <;> simp_all

/-- A slice of entries that came in. -/
theorem open_ents {fuel : Nat} {a : Option Addr} {len cap : Nat} {x : DataW H × List MemPlace} (h : DataW.trod enc Try.prog w base spare held fuel 22 [.slice a len cap] = some x) :
    len ≤ maxLen ∧ ∃ (P : Nat → ByteArray) (X : Nat → Int), EntsIn w a len P X ∧ ∀ i, i < len → (P i).size ≤ maxLen := by
  rcases open_slice Try.underlying22 h with ⟨hcs, _⟩ | ⟨ad, len', cap', m, n, D, Pl, hcs, _, hl, hm, hmm, _, hx⟩
  · simp at hcs
    obtain ⟨rfl, rfl, rfl⟩ := hcs
    exact ⟨Nat.zero_le _, fun _ => ByteArray.empty, fun _ => 0, Or.inl rfl, fun i hi => absurd hi (Nat.not_lt_zero _)⟩
  · simp at hcs
    obtain ⟨rfl, rfl, rfl⟩ := hcs
    have hlm : len ≤ m := by rw [hmm]; split <;> omega
    have each : ∀ i, i < len → ∃ r : ByteArray × Int, w.cell? (ad.add (i * 2)) = some (.string r.1) ∧ w.cell? (ad.add (i * 2 + 1)) = some (.int .i64 r.2) ∧ r.1.size ≤ maxLen := by
      intro i hi
      obtain ⟨cs', h1, h2⟩ := hx i (by omega)
      rw [cells25] at h1
      obtain ⟨_, hlen, hcell⟩ := World.cells?_some h1
      obtain ⟨xs, k, hk, hxy, _, hxl, hf⟩ := DataW.trod_struct Try.underlying25 h2
      match xs, hxl, cs', hlen with
      | [y0, y1], _, [v0, v1], _ =>
        have g0 := hf 0 _ rfl
        have g1 := hf 1 _ rfl
        simp [cells3, cells9] at g0 g1
        have e0 := hcell 0 (by omega)
        have e1 := hcell 1 (by omega)
        rw [add_add] at e0 e1
        obtain ⟨s, hs, hsz⟩ := DataW.trod_string Try.underlying9 g0
        obtain ⟨l, hl', _⟩ := DataW.trod_int Try.underlying3 g1
        simp at hs hl'
        subst hs hl'
        exact ⟨(s, l), by simpa using e0, by simpa using e1, hsz.2⟩
    have hinh : Inhabited (ByteArray × Int) := ⟨(ByteArray.empty, 0)⟩
    obtain ⟨R, hR⟩ := choose_lt each
    refine ⟨Nat.le_trans hl hm, fun i => (R i).1, fun i => (R i).2, ?_, fun i hi => (hR i hi).2.2⟩
    by_cases h0 : len = 0
    · exact Or.inl h0
    · right
      obtain ⟨b, off, spot⟩ := ad
      have hc := (hR 0 (by omega)).1
      have hspot : spot = none := by simpa [Addr.add] using World.cell?_spot hc
      subst hspot
      refine ⟨b, off, rfl, fun i hi => ?_⟩
      obtain ⟨c0, c1, ok⟩ := hR i hi
      rw [addr_add] at c0 c1
      exact ⟨c0, c1⟩
end Go.Proofs.Qxb6618042a
