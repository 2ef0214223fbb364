import Derived.Test.Qxb6617961aStateQ
namespace Go.Proofs.Qxb6617961a
open Go.RowKit

theorem look_lt {gz : Nat → Int} : ∀ {k : Nat} {h : Int} {i : Nat}, look gz k h = some i → i < k
  | 0, _, _, h => by cases h
  | k + 1, h, i, e => by
    rw [look] at e
    split at e
    · cases e; omega
    · have := look_lt e; omega

theorem aps_lt (gz : Nat → Int) (gn : Nat) (az : Nat → Int) : ∀ k, ∀ i ∈ aps gz gn az k, i < gn
  | 0, i, hi => by cases hi
  | k + 1, i, hi => by
    rw [aps] at hi
    split at hi
    · rename_i q hq
      rcases List.mem_append.1 hi with h | h
      · exact aps_lt gz gn az k i h
      · rw [List.mem_singleton] at h
        subst h
        exact look_lt hq
    · exact aps_lt gz gn az k i hi

theorem aps_get_lt {gz : Nat → Int} {gn : Nat} {az : Nat → Int} {k j : Nat} (hj : j < (aps gz gn az k).length) : (aps gz gn az k)[j]?.getD 0 < gn := by
  rw [List.getElem?_eq_getElem hj]
  exact aps_lt gz gn az k _ (List.getElem_mem hj)

/-- The slice of an owned row is some slice with no offset. -/
theorem own_addr {w : World} {base : Nat} {e : TypeId} {size n c : Nat} {a : Option Addr} {xs : List Value} (h : w.ownsRow base e size (.slice a n c) n xs) (hn : 0 < n) : ∃ b, a = some ⟨b, 0, none⟩ := by
  rcases h.2 with ⟨h0, h1⟩ | ⟨g, cap, cur, hv, _⟩
  · omega
  · cases hv
    exact ⟨g, rfl⟩

/-- What state answers. -/
def StEnd (w0 : World) (qb : Nat) (gs rs : SL) (gz rz : Nat → Int) (O : Nat → RowD) (D : Nat → GroupD) (az : Nat → Nat → Int) (bz : Nat → Nat → Bool) (bd : Bool) (e : Ending) (w' : World) : Prop :=
  e = .returned (.tuple #[]) ∧ ∃ mb, St3 w0 qb mb gs rs gz rz O D az bz bd gs.len w'
end Go.Proofs.Qxb6617961a
