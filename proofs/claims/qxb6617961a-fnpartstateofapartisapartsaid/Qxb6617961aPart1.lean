import Derived.Test.Qxb6617961aDom
namespace Go.Proofs.Qxb6617961a
open Go.RowKit

set_option maxRecDepth 100000 in
set_option maxHeartbeats 2000000 in
/-- zzBytes_FnPartStateOfAPartIsAPart. -/
theorem zzPart_walk (a : Option Addr) (len cap : Nat) (R : Nat → RowD) (ga : Option Addr) (gl gc : Nat) (G : Nat → GroupD) (bd : Bool) (x1 x2 x3 x4 : Option Addr) (n1 n2 n3 n4 c1 c2 c3 c4 : Nat) (w : World)
    (hm : len ≤ maxLen) (hm2 : gl ≤ maxLen) (hR : RowsIn w a len R) (hG : GroupsIn w ga gl G)
    (hm3 : ∀ i, i < len → (R i).cap.len ≤ maxLen ∧ (R i).alc.len ≤ maxLen) (hm4 : ∀ i, i < gl → (G i).req.len ≤ maxLen ∧ (G i).rows.len ≤ maxLen ∧ (G i).apart.len ≤ maxLen)
    (k1 : n1 ≤ maxLen) (k2 : n2 ≤ maxLen) (k3 : n3 ≤ maxLen) (k4 : n4 ≤ maxLen) :
    Calls Try.prog 14 #[.slice a len cap, .slice ga gl gc, .bool bd, .slice x1 n1 c1, .slice x2 n2 c2, .slice x3 n3 c3, .slice x4 n4 c4] w fun e w' =>
      RetT (len ≤ 1048576 ∧ gl ≤ 1048576 ∧ (∀ i, i < len → RowFit (R i)) ∧ (∀ i, i < gl → GrpFit (G i)) ∧ n1 ≤ 1048576 ∧ n2 ≤ 1048576 ∧ n3 ≤ 1048576 ∧ n4 ≤ 1048576) w e w' := by
  unfold maxLen at hm hm2 hm3 hm4 k1 k2 k3 k4
  by_cases hl : 1048576 < len
  · go_enter Try.func14, Try.ntmps14
    go_wp2
    go_ret
    exact RetT.no _ _
  go_enter Try.func14, Try.ntmps14
  go_wp2
  go_loop [15, 16] (fun c t => ∃ (k : Nat) (n : Int), k ≤ len ∧ t = .int .i64 k ∧ c = .int .i64 n ∧ 0 ≤ n ∧ n ≤ 1048576 ∧ Hid (∀ i, i < k → RowFit (R i))) (fun _ t => len - (intOf t).toNat)
  case atStart => exact ⟨0, _, Nat.zero_le _, rfl, rfl, by omega, by omega, fun i hi => absurd hi (by omega)⟩
  case round =>
    obtain ⟨k, n, hk, rfl, rfl, n0, n1b, HK⟩ := hrel
    by_cases hlt : k < len
    · obtain h0 | ⟨b, off, rfl, hcell⟩ := hR
      · omega
      obtain ⟨c0, c1, c2, c3, c4, i1, i2⟩ := hcell k hlt
      obtain ⟨m1, m2⟩ := hm3 k hlt
      clear hcell hm3 hm4 c0 c3 c4
      go_wp2
      all_goals
        first
          | (go_round
             case rel => exact ⟨k + 1, _, by omega, by go_num, rfl, by omega, by omega, fun i hi => by
                 by_cases e : i = k
                 · subst e; exact ⟨by omega, by omega⟩
                 · exact HK.out i (by omega)⟩
             case measure => simp [intOf]; omega)
          | (go_ret
             exact RetT.no _ _)
    · have HK2 : Hid (∀ i, i < len → RowFit (R i)) := fun i hi => HK.out i (by omega)
      clear HK
      by_cases hl2 : 1048576 < gl
      · go_wp2
        go_ret
        exact RetT.no _ _
      by_cases hl3 : 1048576 < n + (gl : Int)
      · go_wp2
        go_ret
        exact RetT.no _ _
      go_wp2
      go_loop [15, 17] (fun c t => ∃ (k : Nat) (n : Int), k ≤ gl ∧ t = .int .i64 k ∧ c = .int .i64 n ∧ 0 ≤ n ∧ n ≤ 1048576 ∧ Hid (∀ i, i < k → GrpFit (G i))) (fun _ t => gl - (intOf t).toNat)
      case atStart => exact ⟨0, _, Nat.zero_le _, rfl, rfl, by omega, by omega, fun i hi => absurd hi (by omega)⟩
      case round =>
        clear n0 n1b hl3
        obtain ⟨j, n, hj, rfl, rfl, n0, n1b, HJ⟩ := hrel
        by_cases hltj : j < gl
        · obtain h0 | ⟨b, off, rfl, hcell⟩ := hG
          · omega
          obtain ⟨c0, c1, c2, c3, i1, i2, i3⟩ := hcell j hltj
          obtain ⟨m1, m2, m3⟩ := hm4 j hltj
          clear hcell hm3 hm4 c1
          go_wp2
          all_goals
            first
              | (go_round
                 case rel => exact ⟨j + 1, _, by omega, by go_num, rfl, by omega, by omega, fun i hi => by
                     by_cases e : i = j
                     · subst e; exact ⟨by omega, by omega, by omega⟩
                     · exact HJ.out i (by omega)⟩
                 case measure => simp [intOf]; omega)
              | (go_ret
                 exact RetT.no _ _)
        · have HJ2 : Hid (∀ i, i < gl → GrpFit (G i)) := fun i hi => HJ.out i (by omega)
          clear HJ hm3 hm4
          go_wp2
          all_goals
            go_ret
            first
              | exact RetT.no _ _
              | exact ⟨true, rfl, fun _ => ⟨by omega, by omega, HK2.out, HJ2.out, by omega, by omega, by omega, by omega⟩, rfl⟩

set_option maxHeartbeats 400000 in
/-- compBytes. -/
theorem compBytes_walk (a : Option Addr) (len cap : Nat) (R : Nat → RowD) (ga : Option Addr) (gl gc : Nat) (G : Nat → GroupD) (x1 x2 x3 x4 : Option Addr) (n1 n2 n3 n4 c1 c2 c3 c4 : Nat) (w : World)
    (hl : len ≤ 1048576) (hl2 : gl ≤ 1048576) (hR : RowsIn w a len R) (hG : GroupsIn w ga gl G) :
    Calls Try.prog 15 #[.slice a len cap, .slice ga gl gc, .slice x1 n1 c1, .slice x2 n2 c2, .slice x3 n3 c3, .slice x4 n4 c4] w fun e w' => RetI w e w' := by
  go_enter Try.func15, Try.ntmps15
  go_wp2_with fail
  refine (rowsBytes_walk a len cap R _ _ hl hR).mono ?_; rintro e w' ⟨r0, rfl, rfl⟩
  go_wp2_with fail
  refine (groupsBytes_walk ga gl gc G _ _ hl2 hG).mono ?_; rintro e w' ⟨r1, rfl, rfl⟩
  go_wp2_with fail
  refine (grow_walk _ _ _ _).mono ?_; rintro e w' ⟨r2, rfl, rfl⟩
  go_wp2_with fail
  refine (grow_walk _ _ _ _).mono ?_; rintro e w' ⟨r3, rfl, rfl⟩
  go_wp2_with fail
  refine (grow_walk _ _ _ _).mono ?_; rintro e w' ⟨r4, rfl, rfl⟩
  go_wp2_with fail
  refine (grow_walk _ _ _ _).mono ?_; rintro e w' ⟨r5, rfl, rfl⟩
  go_wp2_with fail
  go_ret
  exact ⟨_, rfl, rfl⟩
end Go.Proofs.Qxb6617961a
