import Derived.Test.Qxb6618042aEnts
namespace Go.Proofs.Qxb6618042a
open Go.RowKit

/-- What the bounds on lengths tell. -/
def Fits (len : Nat) (P : Nat → ByteArray) (q : ByteArray) : Prop := len ≤ 1048576 ∧ (∀ i, i < len → (P i).size ≤ 1048576) ∧ q.size ≤ 1048576
def RetT (p : Prop) (w : World) (e : Ending) (w' : World) : Prop := ∃ b : Bool, e = .returned (.bool b) ∧ (b = true → p) ∧ w = w'
theorem RetT.no (p : Prop) (w : World) : RetT p w (.returned (.bool false)) w := ⟨false, rfl, fun h => absurd h (by decide), rfl⟩

set_option maxRecDepth 100000 in
set_option maxHeartbeats 1000000 in
theorem bytes5_walk (a : Option Addr) (len cap : Nat) (P : Nat → ByteArray) (X : Nat → Int) (q : ByteArray) (w : World) (hm : len ≤ maxLen) (hm2 : ∀ i, i < len → (P i).size ≤ maxLen) (hm3 : q.size ≤ maxLen) (hE : EntsIn w a len P X) :
    Calls Try.prog 5 #[.slice a len cap, .string q] w fun e w' => RetT (Fits len P q) w e w' := by
  unfold maxLen at hm hm2 hm3
  by_cases hl : 1048576 < len
  · go_enter Try.func5, Try.ntmps5
    go_wp2
    go_ret
    exact RetT.no _ _
  go_enter Try.func5, Try.ntmps5
  go_wp2
  go_loop [5, 6] (fun c t => ∃ (k : Nat) (n : Int), k ≤ len ∧ t = .int .i64 k ∧ c = .int .i64 n ∧ 0 ≤ n ∧ n ≤ 1048576 ∧ Hid (∀ i, i < k → (P i).size ≤ 1048576)) (fun _ t => len - (intOf t).toNat)
  case atStart => exact ⟨0, _, Nat.zero_le _, rfl, rfl, by omega, by omega, fun i hi => absurd hi (by omega)⟩
  case round =>
    obtain ⟨k, n, hk, rfl, rfl, n0, n1, HK⟩ := hrel
    by_cases hlt : k < len
    · obtain h0 | ⟨b, off, rfl, hc⟩ := hE
      · omega
      obtain ⟨c0, -⟩ := hc k hlt
      have m1 := hm2 k hlt
      clear hc hm2
      go_wp2
      all_goals
        first
          | (go_round
             case rel => exact ⟨k + 1, _, by omega, by go_num, rfl, by omega, by omega, fun i hi => by
                 by_cases e : i = k
                 · subst e; omega
                 · exact HK.out i (by omega)⟩
             case measure => simp [intOf]; omega)
          | (go_ret
             exact RetT.no _ _)
    · have HK2 : Hid (∀ i, i < len → (P i).size ≤ 1048576) := fun i hi => HK.out i (by omega)
      clear HK hm2
      go_wp2
      all_goals
        go_ret
        first
          | exact RetT.no _ _
          | exact ⟨true, rfl, fun _ => ⟨by omega, HK2.out, by omega⟩, rfl⟩

set_option maxRecDepth 100000 in
set_option maxHeartbeats 1000000 in
theorem bytes10_walk (a : Option Addr) (len cap : Nat) (P : Nat → ByteArray) (X : Nat → Int) (q : ByteArray) (w : World) (hm : len ≤ maxLen) (hm2 : ∀ i, i < len → (P i).size ≤ maxLen) (hm3 : q.size ≤ maxLen) (hE : EntsIn w a len P X) :
    Calls Try.prog 10 #[.slice a len cap, .string q] w fun e w' => RetT (Fits len P q) w e w' := by
  unfold maxLen at hm hm2 hm3
  by_cases hl : 1048576 < len
  · go_enter Try.func10, Try.ntmps10
    go_wp2
    go_ret
    exact RetT.no _ _
  go_enter Try.func10, Try.ntmps10
  go_wp2
  go_loop [5, 6] (fun c t => ∃ (k : Nat) (n : Int), k ≤ len ∧ t = .int .i64 k ∧ c = .int .i64 n ∧ 0 ≤ n ∧ n ≤ 1048576 ∧ Hid (∀ i, i < k → (P i).size ≤ 1048576)) (fun _ t => len - (intOf t).toNat)
  case atStart => exact ⟨0, _, Nat.zero_le _, rfl, rfl, by omega, by omega, fun i hi => absurd hi (by omega)⟩
  case round =>
    obtain ⟨k, n, hk, rfl, rfl, n0, n1, HK⟩ := hrel
    by_cases hlt : k < len
    · obtain h0 | ⟨b, off, rfl, hc⟩ := hE
      · omega
      obtain ⟨c0, -⟩ := hc k hlt
      have m1 := hm2 k hlt
      clear hc hm2
      go_wp2
      all_goals
        first
          | (go_round
             case rel => exact ⟨k + 1, _, by omega, by go_num, rfl, by omega, by omega, fun i hi => by
                 by_cases e : i = k
                 · subst e; omega
                 · exact HK.out i (by omega)⟩
             case measure => simp [intOf]; omega)
          | (go_ret
             exact RetT.no _ _)
    · have HK2 : Hid (∀ i, i < len → (P i).size ≤ 1048576) := fun i hi => HK.out i (by omega)
      clear HK hm2
      go_wp2
      all_goals
        go_ret
        first
          | exact RetT.no _ _
          | exact ⟨true, rfl, fun _ => ⟨by omega, HK2.out, by omega⟩, rfl⟩

def ScanRes (E : List (Path × Int)) (q : Path) (w : World) (e : Ending) (w' : World) : Prop :=
  e = .returned (.tuple #[.int .i64 (scanR E q).1, .bool (scanR E q).2]) ∧ Below w.heap.size w w'

set_option maxRecDepth 100000 in
set_option maxHeartbeats 1000000 in
theorem scan_walk (a : Option Addr) (len cap : Nat) (P : Nat → ByteArray) (X : Nat → Int) (q : ByteArray) (w : World) (hl : len ≤ 1048576) (hq : q.size ≤ 4194304) (hP : ∀ i, i < len → (P i).size ≤ 4194304) (hE : EntsIn w a len P X) (hR : Prem len P X) :
    Calls Try.prog 9 #[.slice a len cap, .string q] w fun e w' => ScanRes (ents P X len) (pathOf q) w e w' := by
  go_enter Try.func9, Try.ntmps9
  go_wp2_with fail
  go_loopw [6, 7, 8] (fun r f t wr => ∃ k : Nat, k ≤ len ∧ t = .int .i64 k ∧ r = .int .i64 (scanR (ents P X k) (pathOf q)).1 ∧ f = .bool (scanR (ents P X k) (pathOf q)).2 ∧ Below w.heap.size w wr) (fun _ _ t _ => len - (intOf t).toNat)
  case atStart => exact ⟨0, Nat.zero_le _, rfl, rfl, rfl, Below.refl _ _⟩
  case round =>
    obtain ⟨k, hk, rfl, rfl, rfl, hB⟩ := hrel
    by_cases hlt : k < len
    · obtain h0 | ⟨b, off, rfl, hc⟩ := hE
      · omega
      have hst := scan_snoc (ents P X k) (pathOf (P k)) (X k) (pathOf q)
      rw [← ents_succ] at hst
      have hmem : (scanR (ents P X k) (pathOf q)).2 = true → (scanR (ents P X k) (pathOf q)).1 < X k := fun h => by
        obtain ⟨d, hd, hx⟩ := scan_mem h
        obtain ⟨i, hi, rfl⟩ := mem_ents hd
        rw [← hx]
        exact hR.rises hi hlt
      have p1 := hP k hlt
      have c0 := (hB.cell (p := ⟨b, off + k * 2, none⟩) (World.block_lt_of_cell? w _ (hc k hlt).1)).trans (hc k hlt).1
      cases ho : ov (pathOf (P k)) (pathOf q) with
      | false =>
        have hst2 : scanR (ents P X (k + 1)) (pathOf q) = scanR (ents P X k) (pathOf q) := by
          rw [hst, ho]
          cases hf : (scanR (ents P X k) (pathOf q)).2 with
          | true => simp
          | false =>
            have := scan_no hf
            simp only [Bool.false_eq_true, if_false]
            exact Prod.ext this.symm hf.symm
        clear hc hst hmem
        go_wp2_with fail
        refine (overlaps_walk (P k) q _ p1 hq).mono ?_; rintro e w' ⟨rfl, m, rfl⟩
        rw [ho]
        go_wp2_with fail
        go_roundw
        case rel => exact ⟨k + 1, by omega, by go_num, by rw [hst2], by rw [hst2], below_drewN hB _⟩
        case measure => simp [intOf]; omega
      | true =>
        cases hf : (scanR (ents P X k) (pathOf q)).2 with
        | true =>
          have hst2 : scanR (ents P X (k + 1)) (pathOf q) = scanR (ents P X k) (pathOf q) := by
            rw [hst, hf]; simp
          have c1 := (hB.cell (p := ⟨b, off + k * 2 + 1, none⟩) (World.block_lt_of_cell? w _ (hc k hlt).2)).trans (hc k hlt).2
          have hlt2 := hmem hf
          have hd : decide (X k < (scanR (ents P X k) (pathOf q)).1) = false := by rw [decide_eq_false_iff_not]; omega
          have HF : Hid ((scanR (ents P X k) (pathOf q)).2 = true) := hf
          clear hc hst hmem hf
          go_wp2_with fail
          refine (overlaps_walk (P k) q _ p1 hq).mono ?_; rintro e w' ⟨rfl, m, rfl⟩
          rw [ho]
          go_wp2_with fail
          go_roundw
          case rel => exact ⟨k + 1, by omega, by go_num, by rw [hst2], by rw [hst2, HF.out], below_drewN hB _⟩
          case measure => simp [intOf]; omega
        | false =>
          have hst2 : scanR (ents P X (k + 1)) (pathOf q) = (X k, true) := by
            rw [hst, hf, ho]; simp
          have c1 := (hB.cell (p := ⟨b, off + k * 2 + 1, none⟩) (World.block_lt_of_cell? w _ (hc k hlt).2)).trans (hc k hlt).2
          clear hc hst hmem hf
          go_wp2_with fail
          refine (overlaps_walk (P k) q _ p1 hq).mono ?_; rintro e w' ⟨rfl, m, rfl⟩
          rw [ho]
          go_wp2_with fail
          go_roundw
          case rel => exact ⟨k + 1, by omega, by go_num, by rw [hst2], by rw [hst2], below_drewN hB _⟩
          case measure => simp [intOf]; omega
    · obtain rfl : k = len := by omega
      go_wp2_with fail
      go_ret2
      exact ⟨rfl, hB⟩
end Go.Proofs.Qxb6618042a
