import Derived.Test.Qxb6617984aWalksA
import Derived.Deep.OwnRows
namespace Go.Proofs.Qxb6617984a
open Go.RowKit

theorem info5 : (Try.prog.info? 5).map (fun i => (i.zero, i.size, i.bytes)) = some (some (.int .u8 0), 1, 1) := by kernel_rfl

/-- The text that a row of bytes spells: its size and its bytes. -/
theorem spelt (n : Nat) (L : Nat → Int) (hL : ∀ j, j < n → 0 ≤ L j ∧ L j ≤ 255) :
    (strOfNums ((List.range n).map L)).size = n ∧ ∀ j, (h : j < (strOfNums ((List.range n).map L)).size) → ((strOfNums ((List.range n).map L))[j].toNat : Int) = L j := by
  have hsz : (strOfNums ((List.range n).map L)).size = n := by rw [strOfNums_size]; simp
  refine ⟨hsz, fun j h => ?_⟩
  have hj : j < n := by omega
  have e : (strOfNums ((List.range n).map L))[j] = UInt8.ofNat (L j).toNat := by
    simp [strOfNums, ByteArray.getElem_eq_getElem_data]
  rw [e]
  have := hL j hj
  simp only [UInt8.toNat_ofNat']
  omega

theorem byte_lt (c : UInt8) : c.toNat < 256 := c.toNat_lt

/-- A row's content, one place of it new. -/
def putAt (k : Nat) (v : Int) (L : Nat → Int) (j : Nat) : Int := if j = k then v else L j

theorem letters_step {k : Nat} {L : Nat → Int} {v : Int} (h : ∀ j, j < k → 97 ≤ L j ∧ L j ≤ 122) (hv : 97 ≤ v ∧ v ≤ 122) : Hid (∀ j, j < k + 1 → 97 ≤ putAt k v L j ∧ putAt k v L j ≤ 122) := by
  intro j hj
  unfold putAt
  by_cases e : j = k
  · rw [if_pos e]; exact hv
  · rw [if_neg e]; exact h j (by omega)

theorem row_put {w : World} {b : Nat} {t : TypeId} {n : Nat} {kd : IntKind} {L : Nat → Int} (h : w.rowIs b t n fun j => .int kd (L j)) (k : Nat) (v : Int) :
    (w.setCell ⟨b, k, none⟩ (.int kd v)).rowIs b t n fun j => .int kd (putAt k v L j) := by
  refine (h.set k _).congr fun i _ => ?_
  unfold putAt
  by_cases e : i = k
  · simp [e]
  · simp [e]

set_option maxHeartbeats 400000 in
theorem letters_walk (s : ByteArray) (w : World) (hs : s.size ≤ 65536) :
    Calls Try.prog 10 #[.string s] w fun e w' => ∃ t : ByteArray, e = .returned (.string t) ∧ t.size = s.size ∧ (∀ j, (h : j < t.size) → 97 ≤ (t[j].toNat : Int) ∧ (t[j].toNat : Int) ≤ 122) ∧ Below w.heap.size w w' := by
  have hmk := run_make_row' (P := Try.prog) 26 5 (.int .u8 0) 1 Try.underlying26 info5 rfl .i64 .i64 s.size (by omega) (by omega)
  go_enter Try.func10, Try.ntmps10
  go_wp2
  go_loopw [4] (fun i wr => ∃ (k : Nat) (L : Nat → Int), k ≤ s.size ∧ i = .int .i64 k ∧ wr.rowIs w.heap.size 5 s.size (fun j => .int .u8 (L j)) ∧ Below w.heap.size w wr ∧ Hid (∀ j, j < k → 97 ≤ L j ∧ L j ≤ 122)) (fun i _ => s.size - (intOf i).toNat)
  case atStart => exact ⟨0, fun _ => 0, Nat.zero_le _, rfl, World.rowIs_made _ _ _ _, (Below.refl _ _).alloc (Nat.le_refl _) _, fun j h => absurd h (by omega)⟩
  case round =>
    obtain ⟨k, L, hk, rfl, hrow, hb, HK⟩ := hrel
    by_cases hlt : k < s.size
    · have hcell := hrow.cell hlt
      have hfz := hrow.frozen k
      go_wp2
      go_roundw
      case rel =>
        exact ⟨k + 1, putAt k (97 + (s[k].toNat : Int) % 26) L, by omega, by go_num, row_put hrow k _, hb.setCell (Nat.le_refl _) _, letters_step HK.out (by omega)⟩
      case measure => simp [intOf]; omega
    · have hall : ∀ j, j < s.size → 97 ≤ L j ∧ L j ≤ 122 := fun j hj => HK.out j (by omega)
      have hcv := run_convert_bytes_arg (P := Try.prog) wr 26 5 Try.underlying26 Try.underlying5 w.heap.size 0 s.size s.size ((List.range s.size).map L) (by simp)
        (fun i hi => by rw [Nat.zero_add, hrow.cell hi]; simp [hi]) 9 Try.underlying9
      have HA : Hid (∀ j, j < s.size → 97 ≤ L j ∧ L j ≤ 122) := hall
      clear hall
      go_wp2
      go_ret
      have hsp := spelt s.size L (fun j hj => by have := HA.out j hj; omega)
      refine ⟨_, rfl, hsp.1, fun j hj => ?_, hb⟩
      rw [hsp.2 j hj]
      exact HA.out j (by rw [hsp.1] at hj; exact hj)

/-- internal/core.ZZplainIdentifier. -/
theorem zz_walk (s : ByteArray) (w : World) (hs : s.size ≤ maxLen) :
    Calls Try.prog 6 #[.string s] w fun e w' => RetB (PlainP s) w e w' := by
  go_enter Try.func6, Try.ntmps6
  go_wp2_with (go_at_call 11; refine (plain_walk s _ hs).mono ?_; rintro e w' ⟨b, rfl, hb, rfl⟩)
  go_ret
  exact ⟨b, rfl, hb, rfl⟩
end Go.Proofs.Qxb6617984a
