import Derived.Test.Qxb6618042aScan
import Derived.Test.Qxb6618042aAdd
import Derived.Deep.RegionWith
namespace Go.Proofs.Qxb6618042a
open Go.RowKit

def RetL (w : World) (e : Ending) (w' : World) : Prop := e = .returned (.bool true) ∧ Below w.heap.size w w'

/-- The empty tree. -/
theorem tree_nil (B : Nat) (w : World) (hB : B ≤ w.heap.size) : TreeOf B w.heap.size (w.alloc (.cells #[.pointer none] 29)) [] := by
  refine ⟨fun _ => none, fun _ => none, hB, ?_, fun p => rfl, fun p b h => (nomatch h), fun p b m h => (nomatch h), fun p b h => (nomatch h), fun p q b h => (nomatch h), fun p q b b' m h => (nomatch h)⟩
  exact World.rowIs_alloc w #[.pointer none] 29 _ fun i hi => by
    have hi : i < 1 := hi
    have : i = 0 := by omega
    subst this; rfl

theorem TreeOf.same {B tb : Nat} {w w' : World} {E : List (Path × Int)} (h : TreeOf B tb w E) (e : w'.heap = w.heap) : TreeOf B tb w' E := by
  obtain ⟨nd, mp, hG⟩ := h
  exact ⟨nd, mp, hG.on fun k _ => by rw [e]⟩
theorem TreeOf.below {B tb : Nat} {w w' : World} {E : List (Path × Int)} (h : TreeOf B tb w E) (hb : Below w.heap.size w w') : TreeOf B tb w' E := by
  obtain ⟨nd, mp, hG⟩ := h
  exact ⟨nd, mp, hG.below hb⟩

/-- What the second loop holds. -/
def Grown (B tb : Nat) (E : List (Path × Int)) (w wr : World) : Prop := TreeOf B tb wr E ∧ Below B w wr

set_option maxRecDepth 100000 in
set_option maxHeartbeats 2000000 in
theorem law3_walk (a : Option Addr) (len cap : Nat) (P : Nat → ByteArray) (X : Nat → Int) (q : ByteArray) (w : World) (hm : len ≤ maxLen) (hm2 : ∀ i, i < len → (P i).size ≤ maxLen) (hm3 : q.size ≤ maxLen) (hE : EntsIn w a len P X) :
    Calls Try.prog 3 #[.slice a len cap, .string q] w fun e w' => RetL w e w' := by
  go_enter Try.func3, Try.ntmps3
  go_wp2_with fail
  refine (bytes5_walk a len cap P X q _ hm hm2 hm3 hE).mono ?_; rintro e w' ⟨bb, rfl, hF, rfl⟩
  cases bb with
  | false =>
    go_wp2_with fail
    go_ret
    exact ⟨rfl, Below.refl _ _⟩
  | true =>
  obtain ⟨hl, hP, hq⟩ := hF rfl
  clear hF hm hm2 hm3
  by_cases h4 : 4096 < len
  · go_wp2_with fail
    go_ret
    exact ⟨rfl, Below.refl _ _⟩
  have hd : decide ((4096 : Int) < (len : Int)) = false := by rw [decide_eq_false_iff_not]; omega
  go_wp2_with fail
  go_loop [5, 6] (fun c t => ∃ (k : Nat) (n : Int), k ≤ len ∧ t = .int .i64 k ∧ c = .int .i64 n ∧ 0 ≤ n ∧ n ≤ 1048576) (fun _ t => len - (intOf t).toNat)
  case atStart => exact ⟨0, _, Nat.zero_le _, rfl, rfl, by omega, by omega⟩
  case round =>
    obtain ⟨k, n, hk, rfl, rfl, n0, n1⟩ := hrel
    by_cases hlt : k < len
    · obtain h0 | ⟨b, off, rfl, hc⟩ := hE
      · omega
      obtain ⟨c0, -⟩ := hc k hlt
      have m1 := hP k hlt
      clear hc hP
      by_cases ht : 1048576 < n + (16 + ((P k).size : Int))
      · go_wp2_with fail
        go_ret
        exact ⟨rfl, Below.refl _ _⟩
      · go_wp2_with fail
        go_round
        case rel => exact ⟨k + 1, _, by omega, by go_num, rfl, by omega, by omega⟩
        case measure => simp [intOf]; omega
    · go_wp2_with fail
      refine (premise_walk a len cap P X _ hl hE (fun i hi => Nat.le_trans (hP i hi) (by omega))).mono ?_; rintro e w1 ⟨bp, rfl, hPr, hb1⟩
      cases bp with
      | false =>
        go_wp2_with fail
        go_ret
        exact ⟨rfl, hb1⟩
      | true =>
      have hR := hPr rfl
      clear hPr
      have hG0 : Grown w.heap.size w1.heap.size (ents P X 0) w (w1.alloc (.cells #[.pointer none] 29)) := ⟨tree_nil _ _ hb1.size, hb1.alloc hb1.size _⟩
      obtain ⟨tb, htb⟩ : ∃ tb, tb = w1.heap.size := ⟨_, rfl⟩
      rw [← htb] at hG0
      go_wp2_with fail
      rw [← htb]
      clear htb
      go_loopw [8] (fun t wr => ∃ j : Nat, j ≤ len ∧ t = .int .i64 j ∧ Grown w.heap.size tb (ents P X j) w wr) (fun t _ => len - (intOf t).toNat)
      case atStart => exact ⟨0, Nat.zero_le _, rfl, hG0⟩
      case round =>
        clear hG0
        obtain ⟨j, hj, rfl, hT, hB⟩ := hrel
        by_cases hjl : j < len
        · obtain h0 | ⟨b, off, rfl, hc⟩ := hE.on hB
          · omega
          obtain ⟨c0, c1⟩ := hc j hjl
          have m1 := hP j hjl
          have hsz := hB.size
          clear hc
          go_wp2_with fail
          go_region_with (go_at_call 7; refine (add_walk w.heap.size tb (ents P X j) (P j) (X j) _ ?_ ?_ ?_).mono ?_; (omega); (exact hsz); (exact hT.same rfl); rintro e w2 ⟨rfl, hT2, hb2⟩)
          all_goals
            go_wp2_with fail
            go_roundw
            case rel => exact ⟨j + 1, by omega, by go_num, by rw [ents_succ]; exact hT2, hB.drew.trans hb2⟩
            case measure => simp [intOf]; omega
        · obtain rfl : j = len := by omega
          have hE1 := hE.on hB
          go_wp2_with fail
          refine (overlap_walk w.heap.size tb (ents P X j) q _ (by omega) hT).mono ?_; rintro e w2 ⟨r, ok, rfl, hO, hb2⟩
          have hs := ovl_scan (apart_of hR.1 (Nat.le_refl _)) hO
          have hB2 : Below w.heap.size w w2 := hB.trans (hb2.mono hB.size)
          go_wp2_with fail
          refine (scan_walk a j cap P X q _ hl (by omega) (fun i hi => Nat.le_trans (hP i hi) (by omega)) (hE.on hB2) hR).mono ?_; rintro e w3 ⟨rfl, hb3⟩
          rw [hs]
          have hB3 : Below w.heap.size w w3 := hB2.trans (hb3.mono hB2.size)
          go_wp2_with fail
          go_ret
          exact ⟨rfl, hB3⟩
end Go.Proofs.Qxb6618042a
