import Derived.Test.Qxb6617961aPodP
import Derived.Deep.RegionHeld3
namespace Go.Proofs.Qxb6617961a
open Go.RowKit

set_option maxHeartbeats 400000 in
/-- Largest. -/
theorem largest_walk (a : Option Addr) (len cap : Nat) (O : Nat → RowD) (C : Nat → Nat → Int) (k : Nat) (w : World) (hl : len ≤ 1048576) (hR : RowsIn w a len O) (hC : ∀ i, i < len → IsI (O i).cap (C i))
    (hk : ∀ i, i < len → k < (O i).cap.len ∧ (O i).cap.len ≤ 1048576) :
    Calls Try.prog 25 #[.slice a len cap, .int .i64 k] w fun e w' => e = .returned (.int .i64 (room C len k)) ∧ Below w.heap.size w w' := by
  go_enter Try.func25, Try.ntmps25
  go_wp2
  go_loopw [5, 10] (fun m t wr => ∃ i : Nat, i ≤ len ∧ t = .int .i64 i ∧ m = .int .i64 (room C i k) ∧ Below w.heap.size w wr) (fun _ t _ => len - (intOf t).toNat)
  case atStart => exact ⟨0, Nat.zero_le _, rfl, rfl, Below.refl _ _⟩
  case round =>
    obtain ⟨i, hi, rfl, rfl, hB⟩ := hrel
    by_cases hlt : i < len
    · obtain h0 | ⟨b, off, rfl, hcell⟩ := hR
      · omega
      obtain ⟨c0, c1, c2, c3, c4, i1, i2⟩ := hcell i hlt
      obtain ⟨hki, hcl⟩ := hk i hlt
      obtain ⟨b2, off2, ha2, e2⟩ := i1.at (hC i hlt) hki
      rw [SL.val_of ha2] at c1
      have hbN := World.block_lt_of_cell? w _ c0
      have d0 := (hB.cell (p := ⟨b, off + i * 5, none⟩) hbN).trans c0
      have d1 := (hB.cell (p := ⟨b, off + i * 5 + 1, none⟩) hbN).trans c1
      have d2 := (hB.cell (p := ⟨b, off + i * 5 + 2, none⟩) hbN).trans c2
      have d3 := (hB.cell (p := ⟨b, off + i * 5 + 3, none⟩) hbN).trans c3
      have d4 := (hB.cell (p := ⟨b, off + i * 5 + 4, none⟩) hbN).trans c4
      have d5 := (hB.cell (p := ⟨b2, off2 + k, none⟩) (World.block_lt_of_cell? w _ e2)).trans e2
      have hb2 : b2 < wr.heap.size := Nat.lt_of_lt_of_le (World.block_lt_of_cell? w _ e2) hB.size
      clear c0 c1 c2 c3 c4 e2 i1 i2 hcell
      by_cases ht : room C i k < C i k
      · have HR : Hid (room C (i + 1) k = C i k) := room_yes ht
        go_wp2
        go_roundw
        case rel => exact ⟨i + 1, by omega, by go_num, by rw [HR.out], hB.alloc hB.size _⟩
        case measure => simp [intOf]; omega
      · have HR : Hid (room C (i + 1) k = room C i k) := room_no ht
        go_wp2
        go_roundw
        case rel => exact ⟨i + 1, by omega, by go_num, by rw [HR.out], hB.alloc hB.size _⟩
        case measure => simp [intOf]; omega
    · have e : i = len := by omega
      subst e
      go_wp2
      go_ret
      exact ⟨rfl, hB⟩
end Go.Proofs.Qxb6617961a
