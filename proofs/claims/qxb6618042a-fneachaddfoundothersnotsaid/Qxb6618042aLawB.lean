import Derived.Test.Qxb6618042aLawA
namespace Go.Proofs.Qxb6618042a
open Go.RowKit

theorem path_append (a b : ByteArray) : pathOf (a ++ b) = pathOf a ++ pathOf b := by simp [pathOf]

set_option maxRecDepth 100000 in
set_option maxHeartbeats 2000000 in
theorem law4_walk (a : Option Addr) (len cap : Nat) (P : Nat → ByteArray) (X : Nat → Int) (q : ByteArray) (w : World) (hm : len ≤ maxLen) (hm2 : ∀ i, i < len → (P i).size ≤ maxLen) (hm3 : q.size ≤ maxLen) (hE : EntsIn w a len P X) :
    Calls Try.prog 4 #[.slice a len cap, .string q] w fun e w' => RetL w e w' := by
  go_enter Try.func4, Try.ntmps4
  go_wp2_with fail
  refine (bytes10_walk a len cap P X q _ hm hm2 hm3 hE).mono ?_; rintro e w' ⟨bb, rfl, hF, rfl⟩
  cases bb with
  | false =>
    go_wp2_with fail
    go_ret
    exact ⟨rfl, Below.refl _ _⟩
  | true =>
  obtain ⟨hl, hP, hq⟩ := hF rfl
  clear hF hm hm2 hm3
  by_cases h4 : 256 < len
  · go_wp2_with fail
    go_ret
    exact ⟨rfl, Below.refl _ _⟩
  have hd : decide ((256 : Int) < (len : Int)) = false := by rw [decide_eq_false_iff_not]; omega
  go_wp2_with fail
  go_loop [5, 6] (fun c t => ∃ (k : Nat) (n : Int), k ≤ len ∧ t = .int .i64 k ∧ c = .int .i64 n ∧ 0 ≤ n ∧ n ≤ 1048576) (fun _ t => len - (intOf t).toNat)
  case atStart => exact ⟨0, _, Nat.zero_le _, rfl, rfl, by omega, by omega⟩
  case round =>
    obtain ⟨k, n, hk, rfl, rfl, n0, n1⟩ := hrel
    by_cases hlt : k < len
    · obtain h0 | ⟨b, off, rfl, hc⟩ := hE
      · omega
      obtain ⟨c0, -⟩ := hc k hlt
      have m1 := hP k hlt
      clear hc hP
      by_cases ht : 1048576 < n + (16 + ((P k).size : Int) + (q.size : Int))
      · go_wp2_with fail
        go_ret
        exact ⟨rfl, Below.refl _ _⟩
      · go_wp2_with fail
        go_round
        case rel => exact ⟨k + 1, _, by omega, by go_num, rfl, by omega, by omega⟩
        case measure => simp [intOf]; omega
    · go_wp2_with fail
      refine (premise_walk a len cap P X _ hl hE (fun i hi => Nat.le_trans (hP i hi) (by omega))).mono ?_; rintro e w1 ⟨bp, rfl, hPr, hb1⟩
      cases bp with
      | false =>
        go_wp2_with fail
        go_ret
        exact ⟨rfl, hb1⟩
      | true =>
      have hR := hPr rfl
      clear hPr
      have hG0 : Grown w.heap.size w1.heap.size (ents P X 0) w (w1.alloc (.cells #[.pointer none] 29)) := ⟨tree_nil _ _ hb1.size, hb1.alloc hb1.size _⟩
      obtain ⟨tb, htb⟩ : ∃ tb, tb = w1.heap.size := ⟨_, rfl⟩
      rw [← htb] at hG0
      go_wp2_with fail
      rw [← htb]
      clear htb
      go_loopw [8] (fun t wr => ∃ j : Nat, j ≤ len ∧ t = .int .i64 j ∧ Grown w.heap.size tb (ents P X j) w wr) (fun t _ => len - (intOf t).toNat)
      case atStart => exact ⟨0, Nat.zero_le _, rfl, hG0⟩
      case round =>
        clear hG0
        obtain ⟨j, hj, rfl, hT, hB⟩ := hrel
        by_cases hjl : j < len
        · obtain h0 | ⟨b, off, rfl, hc⟩ := hE
          · omega
          have c0 := (hB.cell (p := ⟨b, off + j * 2, none⟩) (World.block_lt_of_cell? w _ (hc j hjl).1)).trans (hc j hjl).1
          have c1 := (hB.cell (p := ⟨b, off + j * 2 + 1, none⟩) (World.block_lt_of_cell? w _ (hc j hjl).2)).trans (hc j hjl).2
          have HC : Hid (∀ i, i < len → w.cell? ⟨b, off + i * 2, none⟩ = some (.string (P i)) ∧ w.cell? ⟨b, off + i * 2 + 1, none⟩ = some (.int .i64 (X i))) := hc
          have m1 := hP j hjl
          have hsz := hB.size
          clear hc
          go_wp2_with fail
          go_region_with (go_at_call 7; refine (add_walk w.heap.size tb (ents P X j) (P j) (X j) _ ?_ ?_ ?_).mono ?_; (omega); (exact hsz); (exact hT.same rfl); rintro e w2 ⟨rfl, hT2, hb2⟩)
          all_goals
            have hI : Grown w.heap.size tb (ents P X (j + 1)) w w2 := ⟨by rw [ents_succ]; exact hT2, hB.drew.trans hb2⟩
            clear hT2 hb2 hT hB c0 c1 hsz
            go_wp2_with fail
            go_loopw [9] (fun t wr => ∃ i : Nat, i ≤ len ∧ t = .int .i64 i ∧ Grown w.heap.size tb (ents P X (j + 1)) w wr) (fun t _ => len - (intOf t).toNat)
            case atStart => exact ⟨0, Nat.zero_le _, rfl, hI⟩
            case round =>
              clear hI
              obtain ⟨i, hi, rfl, hT, hB⟩ := hrel
              by_cases hil : i < len
              · have c0 := (hB.cell (p := ⟨b, off + i * 2, none⟩) (World.block_lt_of_cell? w _ (HC.out i hil).1)).trans (HC.out i hil).1
                have m2 := hP i hil
                go_wp2_with fail
                refine (overlap_walk w.heap.size tb (ents P X (j + 1)) (P i ++ q) _ (by rw [ByteArray.size_append]; omega) hT).mono ?_; rintro e w3 ⟨r, ok, rfl, hO, hb3⟩
                have hs := ovl_scan (apart_of hR.1 (by omega)) hO
                rw [path_append, scan_tail hR.1 hil _ (j + 1) (by omega)] at hs
                have hI3 : Grown w.heap.size tb (ents P X (j + 1)) w w3 := ⟨hT.below hb3, hB.trans (hb3.mono hB.size)⟩
                have c1 := (hI3.2.cell (p := ⟨b, off + i * 2 + 1, none⟩) (World.block_lt_of_cell? w _ (HC.out i hil).2)).trans (HC.out i hil).2
                clear hT hB hb3 hO c0
                by_cases hij : i < j + 1
                · rw [if_pos hij] at hs
                  obtain ⟨hs1, hs2⟩ := Prod.mk.inj hs
                  subst hs1 hs2
                  clear hs
                  have hle : i ≤ j := by omega
                  go_wp2_with fail
                  go_roundw
                  case rel => exact ⟨i + 1, by omega, by go_num, hI3⟩
                  case measure => simp [intOf]; omega
                · rw [if_neg hij] at hs
                  obtain ⟨hs1, hs2⟩ := Prod.mk.inj hs
                  subst hs1 hs2
                  clear hs
                  have hgt : j < i := by omega
                  go_wp2_with fail
                  go_roundw
                  case rel => exact ⟨i + 1, by omega, by go_num, hI3⟩
                  case measure => simp [intOf]; omega
              · go_wp2_with fail
                go_roundw
                case rel => exact ⟨j + 1, by omega, by go_num, hT, hB⟩
                case measure => simp [intOf]; omega
        · go_wp2_with fail
          go_ret
          exact ⟨rfl, hB⟩
end Go.Proofs.Qxb6618042a
