import Derived.Test.Qxb6617961aGuard
namespace Go.Proofs.Qxb6617961a
open Go.RowKit

theorem SL.val_of {s : SL} {x : Addr} (h : s.a = some x) : s.val = .slice (some x) s.len s.cap := by show Value.slice _ _ _ = _; rw [h]

/-- The domain of PodSizes. -/
def Dom (len : Nat) (R : Nat → RowD) (C : Nat → Nat → Int) (gl : Nat) (G : Nat → GroupD) (Q : Nat → Nat → Int) : Prop :=
  0 < len ∧ (∀ i, i < len → (R 0).cap.len ≤ (R i).cap.len) ∧ ∀ g, g < gl → ∀ k, k < (G g).req.len → 0 < Q g k → k < (R 0).cap.len ∧ Q g k ≤ room C len k

/-- A call that answers a bool of which 'true' tells p, and makes new memory alone. -/
def RetN (p : Prop) (w : World) (e : Ending) (w' : World) : Prop := ∃ b : Bool, e = .returned (.bool b) ∧ (b = true → p) ∧ Below w.heap.size w w'
theorem RetN.no {p : Prop} {w w' : World} (h : Below w.heap.size w w') : RetN p w (.returned (.bool false)) w' := ⟨false, rfl, fun h => absurd h (by decide), h⟩

set_option maxRecDepth 100000 in
set_option maxHeartbeats 1000000 in
/-- podSizesIn. -/
theorem podIn_walk (a : Option Addr) (len cap : Nat) (R : Nat → RowD) (C : Nat → Nat → Int) (ga : Option Addr) (gl gc : Nat) (G : Nat → GroupD) (Q : Nat → Nat → Int) (w : World) (hl : len ≤ 1048576) (hgl : gl ≤ 1048576)
    (hR : RowsIn w a len R) (hG : GroupsIn w ga gl G) (hC : ∀ i, i < len → IsI (R i).cap (C i)) (hQ : ∀ g, g < gl → IsI (G g).req (Q g)) (hf : ∀ i, i < len → RowFit (R i)) (hfg : ∀ i, i < gl → GrpFit (G i)) :
    Calls Try.prog 8 #[.slice a len cap, .slice ga gl gc] w fun e w' => RetN (Dom len R C gl G Q) w e w' := by
  go_enter Try.func8, Try.ntmps8
  go_wp2_with fail
  refine (rowsBytes_walk a len cap R _ _ hl hR).mono ?_; rintro e w' ⟨r0, rfl, rfl⟩
  go_wp2_with fail
  refine (groupsBytes_walk ga gl gc G _ _ hgl hG).mono ?_; rintro e w' ⟨r1, rfl, rfl⟩
  by_cases hr : 1048576 < r1
  · go_wp2_with fail
    go_ret
    exact RetN.no (Below.refl _ _)
  by_cases h0 : len = 0
  · have hz : ((len : Int) == 0) = true := by simpa using h0
    go_wp2_with fail
    go_ret
    exact RetN.no (Below.refl _ _)
  have hz : ((len : Int) == 0) = false := by simpa using h0
  obtain h0' | ⟨b, off, rfl, hcell⟩ := hR
  · omega
  obtain ⟨-, z1, -⟩ := hcell 0 (by omega)
  rw [Nat.zero_mul, Nat.add_zero] at z1
  have f0 := (hf 0 (by omega)).1
  go_wp2_with fail
  go_loopw [20] (fun t wr => ∃ k : Nat, k ≤ len ∧ t = .int .i64 k ∧ Below w.heap.size w wr ∧ Hid (∀ i, i < k → (R 0).cap.len ≤ (R i).cap.len)) (fun t _ => len - (intOf t).toNat)
  case atStart => exact ⟨0, Nat.zero_le _, rfl, Below.refl _ _, fun i hi => absurd hi (by omega)⟩
  case round =>
    obtain ⟨k, hk, rfl, hB, HK⟩ := hrel
    have z2 := (hB.cell (p := ⟨b, off + 1, none⟩) (World.block_lt_of_cell? w _ z1)).trans z1
    by_cases hlt : k < len
    · obtain ⟨-, c1, -⟩ := hcell k hlt
      have d1 := (hB.cell (p := ⟨b, off + k * 5 + 1, none⟩) (World.block_lt_of_cell? w _ c1)).trans c1
      have fk := (hf k hlt).1
      clear hcell c1 z1
      by_cases ht : (R k).cap.len < (R 0).cap.len
      · go_wp2_with fail
        go_quiet (fail)
        go_wp2_with fail
        go_ret
        exact RetN.no (below_drewN hB _)
      · go_wp2_with fail
        go_quiet (fail)
        go_wp2_with fail
        go_roundw
        case rel =>
          refine ⟨k + 1, by omega, by go_num, below_drewN hB _, fun i hi => ?_⟩
          by_cases e : i = k
          · subst e; omega
          · exact HK.out i (by omega)
        case measure => simp [intOf]; omega
    · have HL : Hid (∀ i, i < len → (R 0).cap.len ≤ (R i).cap.len) := fun i hi => HK.out i (by omega)
      have hR' : RowsIn wr (some ⟨b, off, none⟩) len R := RowsIn.on (W := w) (Or.inr ⟨b, off, rfl, hcell⟩) hB
      clear HK
      go_wp2_with fail
      refine (roomsOf_walk b off len cap R C _ (by omega) hl hR' hC f0 HL.out).mono ?_
      rintro e w1 ⟨rfl, hrow, hb1⟩
      have hB1 : Below w.heap.size w w1 := below_call hb1 hB.size hB
      have hG1 := hG.on hB1
      have HB1 : Hid (Below w.heap.size w w1) := hB1
      clear hR' hb1 hB hB1 z2 z1 hcell hG
      go_wp2_with fail
      go_loop [40] (fun t => ∃ g : Nat, g ≤ gl ∧ t = .int .i64 g ∧ Hid (∀ i, i < g → ∀ k, k < (G i).req.len → 0 < Q i k → k < (R 0).cap.len ∧ Q i k ≤ room C len k)) (fun t => gl - (intOf t).toNat)
      case atStart => exact ⟨0, Nat.zero_le _, rfl, fun i hi => absurd hi (by omega)⟩
      case round =>
        obtain ⟨g, hg, rfl, HG⟩ := hrel
        by_cases hlg : g < gl
        · obtain h0' | ⟨gb, goff, rfl, hgcell⟩ := hG1
          · omega
          obtain ⟨c0, -, -, -, i1, -⟩ := hgcell g hlg
          have fg := (hfg g hlg).1
          go_wp2_with fail
          go_loop [49] (fun t => ∃ k : Nat, k ≤ (G g).req.len ∧ t = .int .i64 k ∧ Hid (∀ j, j < k → 0 < Q g j → j < (R 0).cap.len ∧ Q g j ≤ room C len j)) (fun t => (G g).req.len - (intOf t).toNat)
          case atStart => exact ⟨0, Nat.zero_le _, rfl, fun i hi => absurd hi (by omega)⟩
          case round =>
            obtain ⟨k, hkr, rfl, HKr⟩ := hrel
            by_cases hlk : k < (G g).req.len
            · obtain ⟨b2, off2, ha2, c2⟩ := i1.at (hQ g hlg) hlk
              have step : ∀ (_ : 0 < Q g k → k < (R 0).cap.len ∧ Q g k ≤ room C len k), Hid (∀ j, j < k + 1 → 0 < Q g j → j < (R 0).cap.len ∧ Q g j ≤ room C len j) := fun hs j hj => by
                by_cases e : j = k
                · subst e; exact hs
                · exact HKr.out j (by omega)
              have HST : Hid ((0 < Q g k → k < (R 0).cap.len ∧ Q g k ≤ room C len k) → Hid (∀ j, j < k + 1 → 0 < Q g j → j < (R 0).cap.len ∧ Q g j ≤ room C len j)) := step
              clear step
              rw [SL.val_of ha2]
              by_cases hp : 0 < Q g k
              · by_cases hk2 : k < (R 0).cap.len
                · have d3 := hrow.cell hk2
                  by_cases hq : room C len k < Q g k
                  · go_wp2_with fail
                    go_ret
                    exact RetN.no HB1.out
                  · go_wp2_with fail
                    go_round
                    case rel => exact ⟨k + 1, by omega, by go_num, HST.out (fun _ => ⟨hk2, by omega⟩)⟩
                    case measure => simp [intOf]; omega
                · go_wp2_with fail
                  go_ret
                  exact RetN.no HB1.out
              · have hd : decide (0 < Q g k) = false := by simpa using hp
                go_wp2_with fail
                go_round
                case rel => exact ⟨k + 1, by omega, by go_num, HST.out (fun h => by omega)⟩
                case measure => simp [intOf]; omega
            · go_wp2_with fail
              go_round
              case rel =>
                refine ⟨g + 1, by omega, by go_num, fun i hi k hk => ?_⟩
                by_cases e : i = g
                · subst e; exact HKr.out k (by omega)
                · exact HG.out i (by omega) k hk
              case measure => simp [intOf]; omega
        · go_wp2_with fail
          go_ret
          exact ⟨true, rfl, fun _ => ⟨by omega, HL.out, fun i hi => HG.out i (by omega)⟩, HB1.out⟩
end Go.Proofs.Qxb6617961a
