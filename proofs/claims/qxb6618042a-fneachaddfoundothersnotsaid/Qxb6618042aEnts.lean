import Derived.Test.Qxb6618042aPrem
namespace Go.Proofs.Qxb6618042a
open Go.RowKit

/-- The entries lie in w. -/
def EntsIn (w : World) (a : Option Addr) (len : Nat) (P : Nat → ByteArray) (X : Nat → Int) : Prop := len = 0 ∨ ∃ b off, a = some ⟨b, off, none⟩ ∧ ∀ i, i < len →
  w.cell? ⟨b, off + i * 2, none⟩ = some (.string (P i)) ∧ w.cell? ⟨b, off + i * 2 + 1, none⟩ = some (.int .i64 (X i))

theorem cell_on {W w' : World} (hb : Below W.heap.size W w') {b o : Nat} {v : Value} (h : W.cell? ⟨b, o, none⟩ = some v) : w'.cell? ⟨b, o, none⟩ = some v :=
  (hb.cell (p := ⟨b, o, none⟩) (World.block_lt_of_cell? W ⟨b, o, none⟩ h)).trans h

theorem EntsIn.on {W w' : World} {a : Option Addr} {len : Nat} {P : Nat → ByteArray} {X : Nat → Int} (h : EntsIn W a len P X) (hb : Below W.heap.size W w') : EntsIn w' a len P X := by
  rcases h with h | ⟨b, off, ha, hc⟩
  · exact Or.inl h
  · exact Or.inr ⟨b, off, ha, fun i hi => ⟨cell_on hb (hc i hi).1, cell_on hb (hc i hi).2⟩⟩

/-- Add's domain. -/
def Prem (len : Nat) (P : Nat → ByteArray) (X : Nat → Int) : Prop :=
  (∀ i j, i < j → j < len → ov (pathOf (P i)) (pathOf (P j)) = false) ∧ ∀ i, i + 1 < len → X i < X (i + 1)

theorem Prem.rises {len : Nat} {P : Nat → ByteArray} {X : Nat → Int} (h : Prem len P X) {i : Nat} : ∀ {j : Nat}, i < j → j < len → X i < X j
  | 0, h0, _ => absurd h0 (by omega)
  | j + 1, hj, hl => by
    by_cases e : i = j
    · subst e; exact h.2 i hl
    · have := h.rises (i := i) (j := j) (by omega) (by omega)
      have := h.2 j hl
      omega

/-- A call that answers a bool of which 'true' tells p, and leaves all as it was. -/
def RetN (p : Prop) (w : World) (e : Ending) (w' : World) : Prop := ∃ b : Bool, e = .returned (.bool b) ∧ (b = true → p) ∧ Below w.heap.size w w'
theorem RetN.no {p : Prop} {w w' : World} (h : Below w.heap.size w w') : RetN p w (.returned (.bool false)) w' := ⟨false, rfl, fun h => absurd h (by decide), h⟩

set_option maxRecDepth 100000 in
set_option maxHeartbeats 1000000 in
theorem premise_walk (a : Option Addr) (len cap : Nat) (P : Nat → ByteArray) (X : Nat → Int) (w : World) (hl : len ≤ 1048576) (hE : EntsIn w a len P X) (hP : ∀ i, i < len → (P i).size ≤ 4194304) :
    Calls Try.prog 6 #[.slice a len cap] w fun e w' => RetN (Prem len P X) w e w' := by
  go_enter Try.func6, Try.ntmps6
  go_wp2_with fail
  go_loopw [3] (fun t wr => ∃ k : Nat, k ≤ len ∧ t = .int .i64 k ∧ Below w.heap.size w wr ∧ Hid (∀ i, i < k → ∀ j, i < j → j < len → ov (pathOf (P i)) (pathOf (P j)) = false) ∧ Hid (∀ i, i + 1 < k → X i < X (i + 1))) (fun t _ => len - (intOf t).toNat)
  case atStart => exact ⟨0, Nat.zero_le _, rfl, Below.refl _ _, fun i hi => absurd hi (by omega), fun i hi => absurd hi (by omega)⟩
  case round =>
    obtain ⟨k, hk, rfl, hB, HO, HX⟩ := hrel
    by_cases hlt : k < len
    · go_wp2_with fail
      go_loopw [4] (fun t wr => ∃ j : Nat, k < j ∧ j ≤ len ∧ t = .int .i64 j ∧ Below w.heap.size w wr ∧ Hid (∀ i, k < i → i < j → ov (pathOf (P k)) (pathOf (P i)) = false)) (fun t _ => len - (intOf t).toNat)
      case atStart => exact ⟨k + 1, by omega, by omega, by go_num, hB, fun i h1 h2 => absurd h1 (by omega)⟩
      case round =>
        obtain ⟨j, hkj, hj, rfl, hB2, HJ⟩ := hrel
        obtain h0 | ⟨b, off, rfl, hc⟩ := hE.on hB2
        · omega
        by_cases hjl : j < len
        · have c1 := (hc k hlt).1
          have c2 := (hc j hjl).1
          have p1 := hP k hlt
          have p2 := hP j hjl
          clear hc
          cases ho : ov (pathOf (P k)) (pathOf (P j)) with
          | true =>
            have HV : ∀ w, Calls Try.prog 11 #[.string (P k), .string (P j)] w fun e w' => e = .returned (.bool true) ∧ ∃ m, w' = w.drewN m := fun w => by
              have := overlaps_walk (P k) (P j) w p1 p2
              rw [ho] at this
              exact this
            go_wp2_with fail
            go_quiet ((refine Calls.quiet_of (HV _)))
            go_wp2_with fail
            go_ret
            exact RetN.no (below_drewN hB2 _)
          | false =>
            have HV : ∀ w, Calls Try.prog 11 #[.string (P k), .string (P j)] w fun e w' => e = .returned (.bool false) ∧ ∃ m, w' = w.drewN m := fun w => by
              have := overlaps_walk (P k) (P j) w p1 p2
              rw [ho] at this
              exact this
            go_wp2_with fail
            go_quiet ((refine Calls.quiet_of (HV _)))
            go_wp2_with fail
            go_roundw
            case rel =>
              refine ⟨j + 1, by omega, by omega, by go_num, below_drewN hB2 _, fun i h1 h2 => ?_⟩
              by_cases e : i = j
              · subst e; exact ho
              · exact HJ.out i h1 (by omega)
            case measure => simp [intOf]; omega
        · have HO2 : Hid (∀ i, i < k + 1 → ∀ j, i < j → j < len → ov (pathOf (P i)) (pathOf (P j)) = false) := fun i hi j' h1 h2 => by
            by_cases e : i = k
            · subst e; exact HJ.out j' h1 (by omega)
            · exact HO.out i (by omega) j' h1 h2
          clear HO HJ
          by_cases hk0 : 0 < k
          · obtain ⟨p, rfl⟩ : ∃ p, k = p + 1 := ⟨k - 1, by omega⟩
            have c1 := (hc p (by omega)).2
            have c2 := (hc (p + 1) hlt).2
            clear hc
            by_cases hx : X (p + 1) ≤ X p
            · go_wp2_with fail
              go_quiet (fail)
              go_wp2_with fail
              go_ret
              exact RetN.no (below_drewN hB2 _)
            · have HX2 : Hid (∀ i, i + 1 < p + 1 + 1 → X i < X (i + 1)) := fun i hi => by
                by_cases e : i = p
                · subst e; omega
                · exact HX.out i (by omega)
              clear HX
              go_wp2_with fail
              go_quiet (fail)
              go_wp2_with fail
              go_roundw
              case rel => exact ⟨p + 1 + 1, by omega, by go_num, below_drewN hB2 _, HO2, HX2⟩
              case measure => simp [intOf]; omega
          · have hd : decide ((0 : Int) < (k : Int)) = false := by simp; omega
            have HX2 : Hid (∀ i, i + 1 < k + 1 → X i < X (i + 1)) := fun i hi => absurd hi (by omega)
            clear HX hc
            go_wp2_with fail
            go_quiet (fail)
            go_wp2_with fail
            go_roundw
            case rel => exact ⟨k + 1, by omega, by go_num, below_drewN hB2 _, HO2, HX2⟩
            case measure => simp [intOf]; omega
    · have HH : Hid (Prem len P X) := ⟨fun i j h1 h2 => HO.out i (by omega) j h1 h2, fun i hi => HX.out i (by omega)⟩
      go_wp2_with fail
      go_ret
      exact ⟨true, rfl, fun _ => HH.out, hB⟩
end Go.Proofs.Qxb6618042a
