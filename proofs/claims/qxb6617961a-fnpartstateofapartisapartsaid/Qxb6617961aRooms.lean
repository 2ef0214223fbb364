import Derived.Test.Qxb6617961aGrps
import Derived.Deep.QuietTactic
import Derived.BigQuiet
namespace Go.Proofs.Qxb6617961a
open Go.RowKit

/-- The elements of the slice are the int64 numbers z. -/
def IsI (s : SL) (z : Nat → Int) : Prop := ∀ i, i < s.len → s.f i = .int .i64 (z i) ∧ -9223372036854775808 ≤ z i ∧ z i ≤ 9223372036854775807

/-- The most that the first n rows offer of resource k, at least 0. -/
def room (C : Nat → Nat → Int) : Nat → Nat → Int
  | 0, _ => 0
  | n + 1, k => if room C n k < C n k then C n k else room C n k

theorem room_yes {C : Nat → Nat → Int} {n k : Nat} (h : room C n k < C n k) : room C (n + 1) k = C n k := by show (if _ then _ else _) = _; rw [if_pos h]
theorem room_no {C : Nat → Nat → Int} {n k : Nat} (h : ¬ room C n k < C n k) : room C (n + 1) k = room C n k := by show (if _ then _ else _) = _; rw [if_neg h]

/-- The row of rooms while it is made: done before k; at k over the first i rows; 0 behind. -/
def rc (C : Nat → Nat → Int) (len k i j : Nat) : Int := if j < k then room C len j else if j = k then room C i j else 0
theorem rc_at (C : Nat → Nat → Int) (len k i : Nat) : rc C len k i k = room C i k := by unfold rc; rw [if_neg (by omega), if_pos rfl]
theorem rc_next (C : Nat → Nat → Int) (len k j : Nat) : rc C len (k + 1) 0 j = rc C len k len j := by
  unfold rc
  by_cases h : j < k
  · rw [if_pos (by omega), if_pos h]
  · by_cases e : j = k
    · subst e; rw [if_pos (by omega), if_neg (by omega), if_pos rfl]
    · rw [if_neg (by omega), if_neg h, if_neg e]
      by_cases e2 : j = k + 1
      · rw [if_pos e2]; rfl
      · rw [if_neg e2]
theorem rc_no {C : Nat → Nat → Int} {len k i : Nat} (h : ¬ room C i k < C i k) (j : Nat) : rc C len k (i + 1) j = rc C len k i j := by
  unfold rc
  by_cases h1 : j < k
  · rw [if_pos h1, if_pos h1]
  · by_cases e : j = k
    · subst e; rw [if_neg h1, if_pos rfl, if_neg h1, if_pos rfl, room_no h]
    · rw [if_neg h1, if_neg e, if_neg h1, if_neg e]
theorem rc_yes {C : Nat → Nat → Int} {len k i : Nat} (h : room C i k < C i k) (j : Nat) : rc C len k (i + 1) j = if j = k then C i k else rc C len k i j := by
  unfold rc
  by_cases e : j = k
  · subst e; rw [if_neg (by omega), if_pos rfl, if_pos rfl, room_yes h]
  · rw [if_neg e, if_neg e, if_neg e]

/-- One element of a slice, in a later world. -/
theorem SL.In.at {s : SL} {w : World} (h : s.In w) {z : Nat → Int} (hz : IsI s z) {k : Nat} (hk : k < s.len) :
    ∃ b off, s.a = some ⟨b, off, none⟩ ∧ w.cell? ⟨b, off + k, none⟩ = some (.int .i64 (z k)) := by
  rcases h with h | ⟨b, off, ha, hc⟩
  · omega
  · exact ⟨b, off, ha, by rw [hc k hk, (hz k hk).1]⟩

theorem row_draw {w : World} {b : Nat} {t : TypeId} {n : Nat} {f : Nat → Value} (h : w.rowIs b t n f) (q : Nat) : (w.drewN q).rowIs b t n f := h

set_option maxHeartbeats 1000000 in
/-- roomsOf. -/
theorem roomsOf_walk (b off len cap : Nat) (R : Nat → RowD) (C : Nat → Nat → Int) (w : World) (h0 : 0 < len) (hl : len ≤ 1048576) (hR : RowsIn w (some ⟨b, off, none⟩) len R)
    (hC : ∀ i, i < len → IsI (R i).cap (C i)) (hn : (R 0).cap.len ≤ 1048576) (hle : ∀ i, i < len → (R 0).cap.len ≤ (R i).cap.len) :
    Calls Try.prog 9 #[.slice (some ⟨b, off, none⟩) len cap] w fun e w' => e = .returned (.slice (some ⟨w.heap.size, 0, none⟩) (R 0).cap.len (R 0).cap.len) ∧
      w'.rowIs w.heap.size 2 (R 0).cap.len (fun k => .int .i64 (room C len k)) ∧ Below w.heap.size w w' := by
  have hmk := run_make_row' (P := Try.prog) 27 2 (.int .i64 0) 8 Try.underlying27 info2 rfl .i64 .i64 (R 0).cap.len (by omega) (by omega)
  obtain h0' | ⟨b', off', hx, hcell⟩ := hR
  · omega
  cases hx
  obtain ⟨-, z1, -⟩ := hcell 0 h0
  rw [Nat.zero_mul, Nat.add_zero] at z1
  go_enter Try.func9, Try.ntmps9
  go_wp2
  go_loopw [14] (fun t wr => ∃ k : Nat, k ≤ (R 0).cap.len ∧ t = .int .i64 k ∧ wr.rowIs w.heap.size 2 (R 0).cap.len (fun j => .int .i64 (rc C len k 0 j)) ∧ Below w.heap.size w wr) (fun t _ => (R 0).cap.len - (intOf t).toNat)
  case atStart =>
    refine ⟨0, Nat.zero_le _, rfl, (World.rowIs_made _ _ _ _).congr fun j hj => ?_, (Below.refl _ _).alloc (Nat.le_refl _) _⟩
    unfold rc
    rw [if_neg (by omega)]
    by_cases e : j = 0
    · rw [if_pos e]; rfl
    · rw [if_neg e]
  case round =>
    obtain ⟨k, hk, rfl, hrow, hB⟩ := hrel
    by_cases hlt : k < (R 0).cap.len
    · go_wp2
      go_loopw [19] (fun t wr => ∃ i : Nat, i ≤ len ∧ t = .int .i64 i ∧ wr.rowIs w.heap.size 2 (R 0).cap.len (fun j => .int .i64 (rc C len k i j)) ∧ Below w.heap.size w wr) (fun t _ => len - (intOf t).toNat)
      case atStart => exact ⟨0, Nat.zero_le _, rfl, hrow, hB⟩
      case round =>
        clear hrow hB
        obtain ⟨i, hi, rfl, hrow, hB⟩ := hrel
        by_cases hlt2 : i < len
        · obtain ⟨-, c1, -, -, -, i1, -⟩ := hcell i hlt2
          have hki : k < (R i).cap.len := Nat.lt_of_lt_of_le hlt (hle i hlt2)
          obtain ⟨b2, off2, ha2, c2⟩ := i1.at (hC i hlt2) hki
          have d1 := (hB.cell (p := ⟨b, off + i * 5 + 1, none⟩) (World.block_lt_of_cell? w _ c1)).trans c1
          have d2 := (hB.cell (p := ⟨b2, off2 + k, none⟩) (World.block_lt_of_cell? w _ c2)).trans c2
          have ev : (R i).cap.val = .slice (some ⟨b2, off2, none⟩) (R i).cap.len (R i).cap.cap := by show Value.slice _ _ _ = _; rw [ha2]
          rw [ev] at d1
          have d3 := hrow.cell hlt
          rw [rc_at] at d3
          have d4 := hrow.frozen k
          clear c1 c2 i1 ev ha2
          by_cases ht : room C i k < C i k
          · go_wp2
            go_quiet (fail)
            go_wp2
            go_roundw
            case rel =>
              refine ⟨i + 1, by omega, by go_num, ((row_draw hrow _).set k _).congr fun j hj => ?_, (below_drewN hB _).setCell (Nat.le_refl _) _⟩
              rw [rc_yes ht]
              by_cases e : j = k
              · rw [if_pos e, if_pos e]
              · rw [if_neg e, if_neg e]
            case measure => simp [intOf]; omega
          · go_wp2
            go_quiet (fail)
            go_wp2
            go_roundw
            case rel => exact ⟨i + 1, by omega, by go_num, (row_draw hrow _).congr fun j hj => by rw [rc_no (Int.not_lt.2 ht)], below_drewN hB _⟩
            case measure => simp [intOf]; omega
        · have e : i = len := by omega
          subst e
          go_wp2
          go_roundw
          case rel => exact ⟨k + 1, by omega, by go_num, hrow.congr fun j hj => by rw [rc_next], hB⟩
          case measure => simp [intOf]; omega
    · have e : k = (R 0).cap.len := by omega
      go_wp2
      go_ret
      refine ⟨rfl, hrow.congr fun j hj => ?_, hB⟩
      unfold rc
      rw [if_pos (by omega)]
end Go.Proofs.Qxb6617961a
