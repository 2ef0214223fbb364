import Derived.Test.Qxb6617961aOpen
namespace Go.Proofs.Qxb6617961a
open Go.RowKit

theorem SL.In.atB {s : SL} {w : World} (h : s.In w) {z : Nat → Bool} (hz : IsB s z) {k : Nat} (hk : k < s.len) :
    ∃ b off, s.a = some ⟨b, off, none⟩ ∧ w.cell? ⟨b, off + k, none⟩ = some (.bool (z k)) := by
  rcases h with h | ⟨b, off, ha, hc⟩
  · omega
  · exact ⟨b, off, ha, by rw [hc k hk, hz k hk]⟩

/-- A call that answers true and only reads. -/
def Yes (w : World) (e : Ending) (w' : World) : Prop := e = .returned (.bool true) ∧ ∃ m, w' = w.drewN m

set_option maxRecDepth 100000 in
set_option maxHeartbeats 400000 in
theorem eqI64_yes (s t : SL) (z : Nat → Int) (w : World) (hs : s.In w) (ht : t.In w) (is : IsI s z) (it : IsI t z) (hl : s.len = t.len) (hb : s.len ≤ 1048576) :
    Calls Try.prog 20 #[s.val, t.val] w fun e w' => Yes w e w' := by
  have hne : ((s.len : Int) != (t.len : Int)) = false := by rw [hl]; simp
  go_enter Try.func20, Try.ntmps20
  go_wp2_with fail
  go_loopw [13] (fun i wr => ∃ (k m : Nat), k ≤ s.len ∧ i = .int .i64 k ∧ wr = w.drewN m) (fun i _ => s.len - (intOf i).toNat)
  case atStart => exact ⟨0, 0, Nat.zero_le _, rfl, rfl⟩
  case round =>
    obtain ⟨k, m, hk, rfl, rfl⟩ := hrel
    by_cases hlt : k < s.len
    · obtain ⟨b, off, ha, hc⟩ := hs.at is hlt
      have hlt2 : k < t.len := by omega
      obtain ⟨b', off', ha', hc'⟩ := ht.at it hlt2
      rw [SL.val_of ha, SL.val_of ha']
      go_wp2_with fail
      go_quiet (fail)
      go_wp2_with fail
      go_roundw
      case rel => exact ⟨k + 1, m + nq, by omega, by go_num, rfl⟩
      case measure => simp [intOf]; omega
    · go_wp2_with fail
      go_ret
      exact ⟨rfl, m, rfl⟩

set_option maxRecDepth 100000 in
set_option maxHeartbeats 400000 in
theorem eqInts_yes (s t : SL) (z : Nat → Int) (w : World) (hs : s.In w) (ht : t.In w) (is : IsI s z) (it : IsI t z) (hl : s.len = t.len) (hb : s.len ≤ 1048576) :
    Calls Try.prog 29 #[s.val, t.val] w fun e w' => Yes w e w' := by
  have hne : ((s.len : Int) != (t.len : Int)) = false := by rw [hl]; simp
  go_enter Try.func29, Try.ntmps29
  go_wp2_with fail
  go_loopw [13] (fun i wr => ∃ (k m : Nat), k ≤ s.len ∧ i = .int .i64 k ∧ wr = w.drewN m) (fun i _ => s.len - (intOf i).toNat)
  case atStart => exact ⟨0, 0, Nat.zero_le _, rfl, rfl⟩
  case round =>
    obtain ⟨k, m, hk, rfl, rfl⟩ := hrel
    by_cases hlt : k < s.len
    · obtain ⟨b, off, ha, hc⟩ := hs.at is hlt
      have hlt2 : k < t.len := by omega
      obtain ⟨b', off', ha', hc'⟩ := ht.at it hlt2
      rw [SL.val_of ha, SL.val_of ha']
      go_wp2_with fail
      go_quiet (fail)
      go_wp2_with fail
      go_roundw
      case rel => exact ⟨k + 1, m + nq, by omega, by go_num, rfl⟩
      case measure => simp [intOf]; omega
    · go_wp2_with fail
      go_ret
      exact ⟨rfl, m, rfl⟩

set_option maxRecDepth 100000 in
set_option maxHeartbeats 400000 in
theorem eqBools_yes (s t : SL) (z : Nat → Bool) (w : World) (hs : s.In w) (ht : t.In w) (is : IsB s z) (it : IsB t z) (hl : s.len = t.len) (hb : s.len ≤ 1048576) :
    Calls Try.prog 28 #[s.val, t.val] w fun e w' => Yes w e w' := by
  have hne : ((s.len : Int) != (t.len : Int)) = false := by rw [hl]; simp
  go_enter Try.func28, Try.ntmps28
  go_wp2_with fail
  go_loopw [13] (fun i wr => ∃ (k m : Nat), k ≤ s.len ∧ i = .int .i64 k ∧ wr = w.drewN m) (fun i _ => s.len - (intOf i).toNat)
  case atStart => exact ⟨0, 0, Nat.zero_le _, rfl, rfl⟩
  case round =>
    obtain ⟨k, m, hk, rfl, rfl⟩ := hrel
    by_cases hlt : k < s.len
    · obtain ⟨b, off, ha, hc⟩ := hs.atB is hlt
      have hlt2 : k < t.len := by omega
      obtain ⟨b', off', ha', hc'⟩ := ht.atB it hlt2
      rw [SL.val_of ha, SL.val_of ha']
      go_wp2_with fail
      go_quiet (fail)
      go_wp2_with fail
      go_roundw
      case rel => exact ⟨k + 1, m + nq, by omega, by go_num, rfl⟩
      case measure => simp [intOf]; omega
    · go_wp2_with fail
      go_ret
      exact ⟨rfl, m, rfl⟩
end Go.Proofs.Qxb6617961a
