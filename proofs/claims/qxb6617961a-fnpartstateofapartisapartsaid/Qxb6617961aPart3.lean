import Derived.Test.Qxb6617961aPart2
import Derived.Test.Qxb6617961aOpen
namespace Go.Proofs.Qxb6617961a
open Go.RowKit

/-- The second part lies in the first. -/
def CompDom (g1 r1 g2 r2 : SL) (y1 x1 y2 x2 : Nat → Int) (rl gl : Nat) (G : Nat → GroupD) : Prop :=
  PartDom g1 r1 y1 x1 rl gl G ∧ (∀ i, i < g2.len → 0 ≤ y2 i ∧ y2 i < g1.len) ∧ ∀ j, j < r2.len → 0 ≤ x2 j ∧ x2 j < r1.len

set_option maxRecDepth 100000 in
set_option maxHeartbeats 2000000 in
/-- compIn. -/
theorem compIn_walk (a : Option Addr) (len cap : Nat) (R : Nat → RowD) (ga : Option Addr) (gl gc : Nat) (G : Nat → GroupD) (g1 r1 g2 r2 : SL) (y1 x1 y2 x2 : Nat → Int) (w : World)
    (i1 : g1.In w) (i2 : r1.In w) (i3 : g2.In w) (i4 : r2.In w) (z1 : IsI g1 y1) (z2 : IsI r1 x1) (z3 : IsI g2 y2) (z4 : IsI r2 x2)
    (l1 : g1.len ≤ 1048576) (l2 : r1.len ≤ 1048576) (l3 : g2.len ≤ 1048576) (l4 : r2.len ≤ 1048576) (hl : len ≤ 1048576)
    (hR : RowsIn w a len R) (hG : GroupsIn w ga gl G) (f1 : ∀ i, i < len → RowFit (R i)) (f2 : ∀ i, i < gl → GrpFit (G i)) :
    Calls Try.prog 16 #[.slice a len cap, .slice ga gl gc, g1.val, r1.val, g2.val, r2.val] w fun e w' => RetN (CompDom g1 r1 g2 r2 y1 x1 y2 x2 len gl G) w e w' := by
  go_enter Try.func16, Try.ntmps16
  go_wp2_with fail
  refine (partIn_walk g1 r1 y1 x1 a len cap R ga gl gc G _ i1 i2 z1 z2 l1 l2 hl hR hG f1 f2).mono ?_; rintro e w1 ⟨bb, rfl, hD, hb1⟩
  cases bb with
  | false =>
    go_wp2_with fail
    go_ret
    exact RetN.no hb1
  | true =>
  have HD : Hid (PartDom g1 r1 y1 x1 len gl G) := hD rfl
  clear hD
  have hR1 := hR.on hb1
  have hG1 := hG.on hb1
  have j1 := i1.on hb1
  have j2 := i2.on hb1
  have j3 := i3.on hb1
  have j4 := i4.on hb1
  have HB1 : Hid (Below w.heap.size w w1) := hb1
  clear hR hG i1 i2 i3 i4 hb1
  go_wp2_with fail
  go_loop [30] (fun t => ∃ k : Nat, k ≤ g2.len ∧ t = .int .i64 k ∧ Hid (∀ i, i < k → 0 ≤ y2 i ∧ y2 i < g1.len)) (fun t => g2.len - (intOf t).toNat)
  case atStart => exact ⟨0, Nat.zero_le _, rfl, fun j hj => absurd hj (by omega)⟩
  case round =>
    obtain ⟨k, hk, rfl, HK⟩ := hrel
    by_cases hlt : k < g2.len
    · obtain ⟨b, off, ha, hc⟩ := j3.at z3 hlt
      obtain ⟨-, b0, b1⟩ := z3 k hlt
      rw [SL.val_of ha]
      by_cases q0 : y2 k < 0
      · go_wp2_with fail
        go_ret
        exact RetN.no HB1.out
      have hd : decide (y2 k < 0) = false := by simpa using q0
      by_cases q1 : (g1.len : Int) ≤ y2 k
      · go_wp2_with fail
        go_ret
        exact RetN.no HB1.out
      · go_wp2_with fail
        go_round
        case rel =>
          refine ⟨k + 1, by omega, by go_num, fun j hj => ?_⟩
          by_cases e : j = k
          · subst e; omega
          · exact HK.out j (by omega)
        case measure => simp [intOf]; omega
    · have HY : Hid (∀ i, i < g2.len → 0 ≤ y2 i ∧ y2 i < g1.len) := fun i hi => HK.out i (by omega)
      clear HK
      go_wp2_with fail
      go_loop [45] (fun t => ∃ k : Nat, k ≤ r2.len ∧ t = .int .i64 k ∧ Hid (∀ i, i < k → 0 ≤ x2 i ∧ x2 i < r1.len)) (fun t => r2.len - (intOf t).toNat)
      case atStart => exact ⟨0, Nat.zero_le _, rfl, fun j hj => absurd hj (by omega)⟩
      case round =>
        obtain ⟨j, hj, rfl, HJ⟩ := hrel
        by_cases hltj : j < r2.len
        · obtain ⟨b, off, ha, hc⟩ := j4.at z4 hltj
          obtain ⟨-, b0, b1⟩ := z4 j hltj
          rw [SL.val_of ha]
          by_cases q0 : x2 j < 0
          · go_wp2_with fail
            go_ret
            exact RetN.no HB1.out
          have hd : decide (x2 j < 0) = false := by simpa using q0
          by_cases q1 : (r1.len : Int) ≤ x2 j
          · go_wp2_with fail
            go_ret
            exact RetN.no HB1.out
          · go_wp2_with fail
            go_round
            case rel =>
              refine ⟨j + 1, by omega, by go_num, fun i hi => ?_⟩
              by_cases e : i = j
              · subst e; omega
              · exact HJ.out i (by omega)
            case measure => simp [intOf]; omega
        · have HC : Hid (CompDom g1 r1 g2 r2 y1 x1 y2 x2 len gl G) := ⟨HD.out, HY.out, fun i hi => HJ.out i (by omega)⟩
          have HX : Hid (∀ i, i < r2.len → 0 ≤ x2 i ∧ x2 i < r1.len) := fun i hi => HJ.out i (by omega)
          clear HJ
          go_wp2_with fail
          · go_ret
            exact RetN.no HB1.out
          go_loopw [17, 66] (fun c t wr => ∃ (k : Nat) (n : Int), k ≤ r2.len ∧ t = .int .i64 k ∧ c = .int .i64 n ∧ 0 ≤ n ∧ n ≤ 16777216 ∧ Below w1.heap.size w1 wr) (fun _ t _ => r2.len - (intOf t).toNat)
          case atStart => exact ⟨0, 0, Nat.zero_le _, rfl, rfl, by omega, by omega, Below.refl _ _⟩
          case round =>
            obtain ⟨q, n, hq, rfl, rfl, n0, n1, hB⟩ := hrel
            by_cases hlq : q < r2.len
            · obtain ⟨b, off, ha, hc⟩ := j4.at z4 hlq
              obtain ⟨u0, u1⟩ := HX.out q hlq
              obtain ⟨p, hp⟩ : ∃ p : Nat, x2 q = p := ⟨(x2 q).toNat, by omega⟩
              rw [hp] at hc u1
              have hpl : p < r1.len := by omega
              obtain ⟨b', off', ha', hc'⟩ := j2.at z2 hpl
              obtain ⟨v0, v1⟩ := HD.out.1 p hpl
              obtain ⟨s, hs⟩ : ∃ s : Nat, x1 p = s := ⟨(x1 p).toNat, by omega⟩
              rw [hs] at hc' v1
              have hsl : s < len := by omega
              obtain h0 | ⟨rb, roff, rfl, hrc⟩ := hR1
              · omega
              obtain ⟨-, c1, c2, -⟩ := hrc s hsl
              obtain ⟨t1, t2⟩ := f1 s hsl
              have hc := (hB.cell (p := ⟨b, off + q, none⟩) (World.block_lt_of_cell? w1 _ hc)).trans hc
              have hc' := (hB.cell (p := ⟨b', off' + p, none⟩) (World.block_lt_of_cell? w1 _ hc')).trans hc'
              have c1 := (hB.cell (p := ⟨rb, roff + s * 5 + 1, none⟩) (World.block_lt_of_cell? w1 _ c1)).trans c1
              have c2 := (hB.cell (p := ⟨rb, roff + s * 5 + 2, none⟩) (World.block_lt_of_cell? w1 _ c2)).trans c2
              clear hrc hG1 u0 u1 v0 v1 hp hs
              rw [SL.val_of ha, SL.val_of ha']
              by_cases ht : 16777216 < n + ((R s).cap.len + (R s).alc.len : Int)
              · go_wp2_with fail
                go_quiet (fail)
                go_wp2_with fail
                go_ret
                exact RetN.no (below_on HB1.out (below_drewN hB _))
              · go_wp2_with fail
                go_quiet (fail)
                go_wp2_with fail
                go_roundw
                case rel => exact ⟨q + 1, _, by omega, by go_num, rfl, by omega, by omega, below_drewN hB _⟩
                case measure => simp [intOf]; omega
            · go_wp2_with fail
              clear hlq hq
              go_loopw [17, 96] (fun c t wr => ∃ (k : Nat) (n : Int), k ≤ g2.len ∧ t = .int .i64 k ∧ c = .int .i64 n ∧ 0 ≤ n ∧ n ≤ 16777216 ∧ Below w1.heap.size w1 wr) (fun _ t _ => g2.len - (intOf t).toNat)
              case atStart => exact ⟨0, n, Nat.zero_le _, rfl, rfl, by omega, by omega, hB⟩
              case round =>
                clear hB n0 n1
                obtain ⟨q, n, hq, rfl, rfl, n0, n1, hB⟩ := hrel
                by_cases hlq : q < g2.len
                · obtain ⟨b, off, ha, hc⟩ := j3.at z3 hlq
                  obtain ⟨u0, u1⟩ := HY.out q hlq
                  obtain ⟨p, hp⟩ : ∃ p : Nat, y2 q = p := ⟨(y2 q).toNat, by omega⟩
                  rw [hp] at hc u1
                  have hpl : p < g1.len := by omega
                  obtain ⟨b', off', ha', hc'⟩ := j1.at z1 hpl
                  obtain ⟨v0, v1⟩ := HD.out.2.1 p hpl
                  obtain ⟨s, hs⟩ : ∃ s : Nat, y1 p = s := ⟨(y1 p).toNat, by omega⟩
                  rw [hs] at hc' v1
                  have hsl : s < gl := by omega
                  obtain h0 | ⟨gb, goff, rfl, hgc⟩ := hG1
                  · omega
                  obtain ⟨c1, -, -, c2, -⟩ := hgc s hsl
                  obtain ⟨t1, -, t2⟩ := f2 s hsl
                  have hc := (hB.cell (p := ⟨b, off + q, none⟩) (World.block_lt_of_cell? w1 _ hc)).trans hc
                  have hc' := (hB.cell (p := ⟨b', off' + p, none⟩) (World.block_lt_of_cell? w1 _ hc')).trans hc'
                  have c1 := (hB.cell (p := ⟨gb, goff + s * 4, none⟩) (World.block_lt_of_cell? w1 _ c1)).trans c1
                  have c2 := (hB.cell (p := ⟨gb, goff + s * 4 + 3, none⟩) (World.block_lt_of_cell? w1 _ c2)).trans c2
                  clear hgc hR1 u0 u1 v0 v1 hp hs
                  rw [SL.val_of ha, SL.val_of ha']
                  by_cases ht : 16777216 < n + ((G s).req.len + (G s).apart.len : Int)
                  · go_wp2_with fail
                    go_quiet (fail)
                    go_wp2_with fail
                    go_ret
                    exact RetN.no (below_on HB1.out (below_drewN hB _))
                  · go_wp2_with fail
                    go_quiet (fail)
                    go_wp2_with fail
                    go_roundw
                    case rel => exact ⟨q + 1, _, by omega, by go_num, rfl, by omega, by omega, below_drewN hB _⟩
                    case measure => simp [intOf]; omega
                · go_wp2_with fail
                  go_ret
                  exact ⟨true, rfl, fun _ => HC.out, below_on HB1.out hB⟩
end Go.Proofs.Qxb6617961a
