import Derived.Test.Qxb6617961aRooms
namespace Go.Proofs.Qxb6617961a
open Go.RowKit

set_option maxHeartbeats 400000 in
theorem groupsBytes_walk (a : Option Addr) (len cap : Nat) (G : Nat → GroupD) (acc : Int) (w : World) (hl : len ≤ 1048576) (hR : GroupsIn w a len G) :
    Calls Try.prog 6 #[.slice a len cap, .int .i64 acc] w fun e w' => RetI w e w' := by
  go_enter Try.func6, Try.ntmps6
  go_wp2_with fail
  refine (grow_walk _ _ _ _).mono ?_; rintro e w' ⟨r0, rfl, rfl⟩
  go_wp2_with fail
  go_loop [1, 5] (fun c i => ∃ (k : Nat) (r : Int), k ≤ len ∧ i = .int .i64 k ∧ c = .int .i64 r) (fun _ i => len - (intOf i).toNat)
  case atStart => exact ⟨0, _, Nat.zero_le _, rfl, rfl⟩
  case round =>
    obtain ⟨k, r, hk, rfl, rfl⟩ := hrel
    by_cases hlt : k < len
    · obtain h0 | ⟨b, off, rfl, hcell⟩ := hR
      · omega
      obtain ⟨c0, c1, c2, c3, i1, i2, i3⟩ := hcell k hlt
      clear hcell
      by_cases hr : r ≤ 1048576
      · go_wp2_with fail
        refine (grow_walk _ _ _ _).mono ?_; rintro e w' ⟨r1, rfl, rfl⟩
        go_wp2_with fail
        refine (grow_walk _ _ _ _).mono ?_; rintro e w' ⟨r2, rfl, rfl⟩
        go_wp2_with fail
        refine (grow_walk _ _ _ _).mono ?_; rintro e w' ⟨r3, rfl, rfl⟩
        go_wp2_with fail
        go_round
        case rel => exact ⟨k + 1, r3, by omega, by go_num, rfl⟩
        case measure => simp [intOf]; omega
      · have hd : decide (r ≤ 1048576) = false := by simpa using hr
        go_wp2_with fail
        go_ret
        exact ⟨_, rfl, rfl⟩
    · go_wp2_with fail
      go_ret
      exact ⟨_, rfl, rfl⟩

/-- A quiet call that answers a bool of which 'true' tells p. -/
def RetT (p : Prop) (w : World) (e : Ending) (w' : World) : Prop := ∃ b : Bool, e = .returned (.bool b) ∧ (b = true → p) ∧ w = w'
theorem RetT.no (p : Prop) (w : World) : RetT p w (.returned (.bool false)) w := ⟨false, rfl, fun h => absurd h (by decide), rfl⟩

/-- What the size guard tells. -/
def RowFit (r : RowD) : Prop := r.cap.len ≤ 1048576 ∧ r.alc.len ≤ 1048576
def GrpFit (g : GroupD) : Prop := g.req.len ≤ 1048576 ∧ g.rows.len ≤ 1048576 ∧ g.apart.len ≤ 1048576

set_option maxHeartbeats 1000000 in
set_option maxRecDepth 100000 in
/-- zzBytes_FnPodSizesIsLargestShareScaled. -/
theorem zzPod_walk (a : Option Addr) (len cap : Nat) (R : Nat → RowD) (ga : Option Addr) (gl gc : Nat) (G : Nat → GroupD) (w : World) (hm : len ≤ maxLen) (hm2 : gl ≤ maxLen) (hR : RowsIn w a len R) (hG : GroupsIn w ga gl G)
    (hm3 : ∀ i, i < len → (R i).cap.len ≤ maxLen ∧ (R i).alc.len ≤ maxLen) (hm4 : ∀ i, i < gl → (G i).req.len ≤ maxLen ∧ (G i).rows.len ≤ maxLen ∧ (G i).apart.len ≤ maxLen) :
    Calls Try.prog 5 #[.slice a len cap, .slice ga gl gc] w fun e w' => RetT (len ≤ 1048576 ∧ gl ≤ 1048576 ∧ (∀ i, i < len → RowFit (R i)) ∧ (∀ i, i < gl → GrpFit (G i))) w e w' := by
  unfold maxLen at hm hm2 hm3 hm4
  by_cases hl : 1048576 < len
  · go_enter Try.func5, Try.ntmps5
    go_wp2
    go_ret
    exact RetT.no _ _
  go_enter Try.func5, Try.ntmps5
  go_wp2
  go_loop [5, 6] (fun c t => ∃ (k : Nat) (n : Int), k ≤ len ∧ t = .int .i64 k ∧ c = .int .i64 n ∧ 0 ≤ n ∧ n ≤ 1048576 ∧ Hid (∀ i, i < k → RowFit (R i))) (fun _ t => len - (intOf t).toNat)
  case atStart => exact ⟨0, _, Nat.zero_le _, rfl, rfl, by omega, by omega, fun i hi => absurd hi (by omega)⟩
  case round =>
    obtain ⟨k, n, hk, rfl, rfl, n0, n1, HK⟩ := hrel
    by_cases hlt : k < len
    · obtain h0 | ⟨b, off, rfl, hcell⟩ := hR
      · omega
      obtain ⟨c0, c1, c2, c3, c4, i1, i2⟩ := hcell k hlt
      obtain ⟨m1, m2⟩ := hm3 k hlt
      clear hcell hm3 hm4 c0 c3 c4
      go_wp2
      all_goals
        first
          | (go_round
             case rel => exact ⟨k + 1, _, by omega, by go_num, rfl, by omega, by omega, fun i hi => by
                 by_cases e : i = k
                 · subst e; exact ⟨by omega, by omega⟩
                 · exact HK.out i (by omega)⟩
             case measure => simp [intOf]; omega)
          | (go_ret
             exact RetT.no _ _)
    · have HK2 : Hid (∀ i, i < len → RowFit (R i)) := fun i hi => HK.out i (by omega)
      clear HK
      by_cases hl2 : 1048576 < gl
      · go_wp2
        go_ret
        exact RetT.no _ _
      by_cases hl3 : 1048576 < n + (gl : Int)
      · go_wp2
        go_ret
        exact RetT.no _ _
      go_wp2
      go_loop [5, 7] (fun c t => ∃ (k : Nat) (n : Int), k ≤ gl ∧ t = .int .i64 k ∧ c = .int .i64 n ∧ 0 ≤ n ∧ n ≤ 1048576 ∧ Hid (∀ i, i < k → GrpFit (G i))) (fun _ t => gl - (intOf t).toNat)
      case atStart => exact ⟨0, _, Nat.zero_le _, rfl, rfl, by omega, by omega, fun i hi => absurd hi (by omega)⟩
      case round =>
        clear n0 n1
        obtain ⟨j, n, hj, rfl, rfl, n0, n1, HJ⟩ := hrel
        by_cases hltj : j < gl
        · obtain h0 | ⟨b, off, rfl, hcell⟩ := hG
          · omega
          obtain ⟨c0, c1, c2, c3, i1, i2, i3⟩ := hcell j hltj
          obtain ⟨m1, m2, m3⟩ := hm4 j hltj
          clear hcell hm3 hm4 c1
          go_wp2
          all_goals
            first
              | (go_round
                 case rel => exact ⟨j + 1, _, by omega, by go_num, rfl, by omega, by omega, fun i hi => by
                     by_cases e : i = j
                     · subst e; exact ⟨by omega, by omega, by omega⟩
                     · exact HJ.out i (by omega)⟩
                 case measure => simp [intOf]; omega)
              | (go_ret
                 exact RetT.no _ _)
        · go_wp2
          go_ret
          exact ⟨true, rfl, fun _ => ⟨by omega, by omega, HK2.out, fun i hi => HJ.out i (by omega)⟩, rfl⟩
end Go.Proofs.Qxb6617961a
