import Derived.Test.Qxb6617961aDom
namespace Go.Proofs.Qxb6617961a
open Go.RowKit

/-- The domain of state: the part's rows and groups index p's; the groups rise strictly; every chosen group says something of every chosen row. -/
def PartDom (gs rs : SL) (gz rz : Nat → Int) (rl gl : Nat) (G : Nat → GroupD) : Prop :=
  (∀ j, j < rs.len → 0 ≤ rz j ∧ rz j < rl) ∧ (∀ i, i < gs.len → 0 ≤ gz i ∧ gz i < gl) ∧ (∀ i, i + 1 < gs.len → gz i < gz (i + 1)) ∧
  ∀ i, i < gs.len → ∀ j, j < rs.len → rz j < (G (gz i).toNat).rows.len

set_option maxRecDepth 100000 in
set_option maxHeartbeats 1000000 in
/-- partIn. -/
theorem partIn_walk (gs rs : SL) (gz rz : Nat → Int) (a : Option Addr) (len cap : Nat) (R : Nat → RowD) (ga : Option Addr) (gl gc : Nat) (G : Nat → GroupD) (w : World)
    (hgs : gs.In w) (hrs : rs.In w) (igs : IsI gs gz) (irs : IsI rs rz) (l1 : gs.len ≤ 1048576) (l2 : rs.len ≤ 1048576) (hl : len ≤ 1048576)
    (hR : RowsIn w a len R) (hG : GroupsIn w ga gl G) (f1 : ∀ i, i < len → RowFit (R i)) (f2 : ∀ i, i < gl → GrpFit (G i)) :
    Calls Try.prog 26 #[gs.val, rs.val, .slice a len cap, .slice ga gl gc] w fun e w' => RetN (PartDom gs rs gz rz len gl G) w e w' := by
  go_enter Try.func26, Try.ntmps26
  go_wp2_with fail
  go_loop [9, 19] (fun m t => ∃ (k : Nat) (mr : Int), k ≤ rs.len ∧ t = .int .i64 k ∧ m = .int .i64 mr ∧ -1 ≤ mr ∧ mr < 1048576 ∧ Hid (∀ j, j < k → 0 ≤ rz j ∧ rz j < len ∧ rz j ≤ mr)) (fun _ t => rs.len - (intOf t).toNat)
  case atStart => exact ⟨0, -1, Nat.zero_le _, rfl, rfl, by omega, by omega, fun j hj => absurd hj (by omega)⟩
  case round =>
    obtain ⟨k, mr, hk, rfl, rfl, m0, m1, HK⟩ := hrel
    by_cases hlt : k < rs.len
    · obtain ⟨b, off, ha, hc⟩ := hrs.at irs hlt
      obtain ⟨-, z0, z1⟩ := irs k hlt
      rw [SL.val_of ha]
      by_cases q0 : rz k < 0
      · go_wp2_with fail
        go_ret
        exact RetN.no (Below.refl _ _)
      by_cases q1 : (len : Int) ≤ rz k
      · have hd : decide (rz k < 0) = false := by simpa using q0
        go_wp2_with fail
        go_ret
        exact RetN.no (Below.refl _ _)
      have hd : decide (rz k < 0) = false := by simpa using q0
      by_cases q2 : mr < rz k
      · go_wp2_with fail
        go_round
        case rel =>
          refine ⟨k + 1, rz k, by omega, by go_num, rfl, by omega, by omega, fun j hj => ?_⟩
          by_cases e : j = k
          · subst e; omega
          · have := HK.out j (by omega); omega
        case measure => simp [intOf]; omega
      · go_wp2_with fail
        go_round
        case rel =>
          refine ⟨k + 1, mr, by omega, by go_num, rfl, by omega, by omega, fun j hj => ?_⟩
          by_cases e : j = k
          · subst e; omega
          · have := HK.out j (by omega); omega
        case measure => simp [intOf]; omega
    · have HR : Hid (∀ j, j < rs.len → 0 ≤ rz j ∧ rz j < len ∧ rz j ≤ mr) := fun j hj => HK.out j (by omega)
      clear HK
      go_wp2_with fail
      go_loop [38] (fun t => ∃ k : Nat, k ≤ gs.len ∧ t = .int .i64 k ∧ Hid (∀ i, i < k → 0 ≤ gz i ∧ gz i < gl ∧ mr < (G (gz i).toNat).rows.len) ∧ Hid (∀ i, i + 1 < k → gz i < gz (i + 1))) (fun t => gs.len - (intOf t).toNat)
      case atStart => exact ⟨0, Nat.zero_le _, rfl, fun j hj => absurd hj (by omega), fun j hj => absurd hj (by omega)⟩
      case round =>
        obtain ⟨i, hi, rfl, HI, HJ⟩ := hrel
        by_cases hlti : i < gs.len
        · obtain ⟨b, off, ha, hc⟩ := hgs.at igs hlti
          obtain ⟨-, z0, z1⟩ := igs i hlti
          rw [SL.val_of ha]
          by_cases q0 : gz i < 0
          · go_wp2_with fail
            go_ret
            exact RetN.no (Below.refl _ _)
          have hd : decide (gz i < 0) = false := by simpa using q0
          by_cases q1 : (gl : Int) ≤ gz i
          · go_wp2_with fail
            go_ret
            exact RetN.no (Below.refl _ _)
          obtain h0 | ⟨gb, goff, rfl, hgc⟩ := hG
          · omega
          obtain ⟨n, hn⟩ : ∃ n : Nat, gz i = n := ⟨(gz i).toNat, by omega⟩
          have HN : Hid (gz i = n) := hn
          rw [hn] at hc q0 q1 hd
          obtain ⟨-, -, c2, -⟩ := hgc n (by omega)
          have fg := (f2 n (by omega)).2.1
          have close : ∀ (_ : mr < ((G n).rows.len : Int)) (_ : ∀ j, j + 1 = i → gz j < gz i), Hid (∀ j, j < i + 1 → 0 ≤ gz j ∧ gz j < gl ∧ mr < (G (gz j).toNat).rows.len) ∧ Hid (∀ j, j + 1 < i + 1 → gz j < gz (j + 1)) := fun hm hs => ⟨fun j hj => by
              by_cases e : j = i
              · subst e
                refine ⟨by omega, by omega, ?_⟩
                have : (gz j).toNat = n := by omega
                rw [this]; exact hm
              · exact HI.out j (by omega), fun j hj => by
              by_cases e : j + 1 = i
              · subst e; exact hs j rfl
              · exact HJ.out j (by omega)⟩
          have CL : Hid (∀ (_ : mr < ((G n).rows.len : Int)) (_ : ∀ j, j + 1 = i → gz j < gz i), Hid (∀ j, j < i + 1 → 0 ≤ gz j ∧ gz j < gl ∧ mr < (G (gz j).toNat).rows.len) ∧ Hid (∀ j, j + 1 < i + 1 → gz j < gz (j + 1))) := close
          clear close hn
          by_cases hi0 : 0 < i
          · obtain ⟨p, hp⟩ : ∃ p, p + 1 = i := ⟨i - 1, by omega⟩
            have hpl : p < gs.len := by omega
            have hcp : w.cell? ⟨b, off + p, none⟩ = some (.int .i64 (gz p)) := by
              obtain ⟨b', off', ha', hc'⟩ := hgs.at igs hpl
              rw [ha] at ha'
              cases ha'
              exact hc'
            have ei : ((i : Int) - 1) = (p : Int) := by omega
            by_cases hs : (n : Int) ≤ gz p
            · subst hp
              go_wp2_with fail
              go_ret
              exact RetN.no (Below.refl _ _)
            · have HS : Hid (∀ j, j + 1 = i → gz j < gz i) := fun j hj => by
                obtain rfl : j = p := by omega
                rw [HN.out]; omega
              subst hp
              by_cases hm : ((G n).rows.len : Int) ≤ mr
              · go_wp2_with fail
                go_ret
                exact RetN.no (Below.refl _ _)
              · go_wp2_with fail
                go_round
                case rel =>
                  have := CL.out (by omega) HS.out
                  exact ⟨_, by omega, by go_num, this.1, this.2⟩
                case measure => simp [intOf]; omega
          · have hd2 : decide ((0 : Int) < (i : Int)) = false := by simp; omega
            have HS : Hid (∀ j, j + 1 = i → gz j < gz i) := fun j hj => by omega
            by_cases hm : ((G n).rows.len : Int) ≤ mr
            · go_wp2_with fail
              go_ret
              exact RetN.no (Below.refl _ _)
            · go_wp2_with fail
              go_round
              case rel =>
                have := CL.out (by omega) HS.out
                exact ⟨i + 1, by omega, by go_num, this.1, this.2⟩
              case measure => simp [intOf]; omega
        · have HP : Hid (PartDom gs rs gz rz len gl G) := ⟨fun j hj => ⟨(HR.out j hj).1, (HR.out j hj).2.1⟩, fun i' hi' => ⟨(HI.out i' (by omega)).1, (HI.out i' (by omega)).2.1⟩, fun i' hi' => HJ.out i' (by omega), fun i' hi' j hj => by
            have h1 := HI.out i' (by omega)
            have h2 := HR.out j hj
            omega⟩
          clear HI HJ
          go_wp2_with fail
          · go_ret
            exact RetN.no (Below.refl _ _)
          go_loopw [14, 79] (fun c t wr => ∃ (k : Nat) (n : Int), k ≤ rs.len ∧ t = .int .i64 k ∧ c = .int .i64 n ∧ 0 ≤ n ∧ n ≤ 16777216 ∧ Below w.heap.size w wr) (fun _ t _ => rs.len - (intOf t).toNat)
          case atStart => exact ⟨0, 0, Nat.zero_le _, rfl, rfl, by omega, by omega, Below.refl _ _⟩
          case round =>
            obtain ⟨q, n, hq, rfl, rfl, n0, n1, hB⟩ := hrel
            by_cases hlq : q < rs.len
            · obtain ⟨b, off, ha, hc⟩ := hrs.at irs hlq
              obtain ⟨z0, z1, -⟩ := HR.out q hlq
              obtain h0 | ⟨rb, roff, rfl, hrc⟩ := hR
              · omega
              obtain ⟨p, hp⟩ : ∃ p : Nat, rz q = p := ⟨(rz q).toNat, by omega⟩
              rw [hp] at hc
              obtain ⟨-, c1, c2, -⟩ := hrc p (by omega)
              obtain ⟨g1, g2⟩ := f1 p (by omega)
              have hc := (hB.cell (p := ⟨b, off + q, none⟩) (World.block_lt_of_cell? w _ hc)).trans hc
              have c1 := (hB.cell (p := ⟨rb, roff + p * 5 + 1, none⟩) (World.block_lt_of_cell? w _ c1)).trans c1
              have c2 := (hB.cell (p := ⟨rb, roff + p * 5 + 2, none⟩) (World.block_lt_of_cell? w _ c2)).trans c2
              have hpl : p < len := by omega
              clear hrc hG z0 z1 hp
              rw [SL.val_of ha]
              by_cases ht : 16777216 < n + ((R p).cap.len + (R p).alc.len : Int)
              · go_wp2_with fail
                go_quiet (fail)
                go_wp2_with fail
                go_ret
                exact RetN.no (below_drewN hB _)
              · go_wp2_with fail
                go_quiet (fail)
                go_wp2_with fail
                go_roundw
                case rel => exact ⟨q + 1, _, by omega, by go_num, rfl, by omega, by omega, below_drewN hB _⟩
                case measure => simp [intOf]; omega
            · go_wp2_with fail
              go_ret
              exact ⟨true, rfl, fun _ => HP.out, hB⟩
end Go.Proofs.Qxb6617961a
