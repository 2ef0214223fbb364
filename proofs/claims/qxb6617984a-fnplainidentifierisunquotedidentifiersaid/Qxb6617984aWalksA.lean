import Derived.Test.Qxb6617984aRows
import Derived.WalkKit
import Derived.WalkSpells
import Derived.WalkLawsBesides
import Derived.RowKit3
namespace Go.Proofs.Qxb6617984a
open Go.RowKit

/-- A byte that may stand at place j of a plain identifier. -/
def OkN (j : Nat) (c : Int) : Prop := (97 ≤ c ∧ c ≤ 122) ∨ (65 ≤ c ∧ c ≤ 90) ∨ (0 < j ∧ ((48 ≤ c ∧ c ≤ 57) ∨ c = 95))

/-- A plain identifier: 1 to 63 bytes, each fit for its place. -/
def PlainP (s : ByteArray) : Prop := 0 < s.size ∧ s.size ≤ 63 ∧ ∀ j, (h : j < s.size) → OkN j (s[j].toNat : Int)

/-- What a quiet call answers: a bool that says p; the world is as it was. -/
def RetB (p : Prop) (w : World) (e : Ending) (w' : World) : Prop := ∃ b : Bool, e = .returned (.bool b) ∧ (b = true ↔ p) ∧ w = w'

theorem size_of_isEmpty (s : ByteArray) : s.toList.isEmpty = decide (s.size = 0) := by
  rw [Bool.eq_iff_iff]
  simp [toList_nil_iff_emptyBytes]

theorem ok_step {s : ByteArray} {k : Nat} (hlt : k < s.size) (h : ∀ j, (h : j < s.size) → j < k → OkN j (s[j].toNat : Int)) (hk : OkN k (s[k].toNat : Int)) :
    ∀ j, (h : j < s.size) → j < k + 1 → OkN j (s[j].toNat : Int) := by
  intro j hj hjk
  by_cases e : j = k
  · subst e; exact hk
  · exact h j hj (by omega)

theorem not_plain {s : ByteArray} {k : Nat} (hlt : k < s.size) (hk : ¬ OkN k (s[k].toNat : Int)) (w : World) : RetB (PlainP s) w (.returned (.bool false)) w :=
  ⟨false, rfl, ⟨fun h => absurd h (by decide), fun h => absurd (h.2.2 k hlt) hk⟩, rfl⟩

set_option maxHeartbeats 400000 in
theorem plain_walk (s : ByteArray) (w : World) (hs : s.size ≤ maxLen) :
    Calls Try.prog 11 #[.string s] w fun e w' => RetB (PlainP s) w e w' := by
  unfold maxLen at hs
  have hE := size_of_isEmpty s
  by_cases h0 : s.size = 0
  · have he : s.toList.isEmpty = true := by rw [hE]; simpa using h0
    clear hE
    go_enter Try.func11, Try.ntmps11
    go_wp2
    go_ret
    exact ⟨false, rfl, by simp [PlainP, h0], rfl⟩
  have he : s.toList.isEmpty = false := by rw [hE]; simpa using h0
  clear hE
  by_cases h63 : 63 < s.size
  · go_enter Try.func11, Try.ntmps11
    go_wp2
    go_ret
    exact ⟨false, rfl, by simp [PlainP]; omega, rfl⟩
  go_enter Try.func11, Try.ntmps11
  go_wp2
  go_loop [3] (fun i => ∃ k : Nat, k ≤ s.size ∧ i = .int .i64 k ∧ Hid (∀ j, (h : j < s.size) → j < k → OkN j (s[j].toNat : Int))) (fun i => s.size - (intOf i).toNat)
  case atStart => exact ⟨0, Nat.zero_le _, rfl, fun j _ h => absurd h (by omega)⟩
  case round =>
    obtain ⟨k, hk, rfl, HK⟩ := hrel
    by_cases hlt : k < s.size
    · go_wp2
      all_goals
        first
          | (go_round
             case rel => exact ⟨k + 1, by omega, by go_num, ok_step hlt HK.out (by unfold OkN; first | omega | (simp only [beq_iff_eq] at *; omega))⟩
             case measure => simp [intOf]; omega)
          | (go_ret
             exact not_plain hlt (by unfold OkN; first | omega | (simp only [beq_eq_false_iff_ne] at *; omega)) _)
    · go_wp2
      go_ret
      exact ⟨true, rfl, ⟨fun _ => ⟨by omega, by omega, fun j hj => HK.out j hj (by omega)⟩, fun _ => rfl⟩, rfl⟩
end Go.Proofs.Qxb6617984a
