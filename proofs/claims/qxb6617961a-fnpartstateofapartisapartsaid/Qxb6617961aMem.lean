import Derived.Test.Qxb6617961aRows
import Derived.WalkKit
import Derived.WalkSpells
import Derived.WalkLawsBesides
import Derived.RowKit3
import Derived.Deep.OwnRows
namespace Go.Proofs.Qxb6617961a
open Go.RowKit

/-- A slice of one-cell elements: its address, length, capacity, and what element i holds. -/
structure SL where
  a : Option Addr
  len : Nat
  cap : Nat
  f : Nat → Value
abbrev SL.val (s : SL) : Value := .slice s.a s.len s.cap

/-- The elements of the slice lie in w. -/
def SL.In (s : SL) (w : World) : Prop := s.len = 0 ∨ ∃ b off, s.a = some ⟨b, off, none⟩ ∧ ∀ i, i < s.len → w.cell? ⟨b, off + i, none⟩ = some (s.f i)

structure RowD where
  price : Int
  cap : SL
  alc : SL
  limit : Int
  ex : Bool

/-- A slice of rows lies in w (the elements of type Row, and those of type solve.Option, alike). -/
def RowsIn (w : World) (a : Option Addr) (len : Nat) (R : Nat → RowD) : Prop := len = 0 ∨ ∃ b off, a = some ⟨b, off, none⟩ ∧ ∀ i, i < len →
  w.cell? ⟨b, off + i * 5, none⟩ = some (.int .i64 (R i).price) ∧ w.cell? ⟨b, off + i * 5 + 1, none⟩ = some (R i).cap.val ∧ w.cell? ⟨b, off + i * 5 + 2, none⟩ = some (R i).alc.val ∧
  w.cell? ⟨b, off + i * 5 + 3, none⟩ = some (.int .i64 (R i).limit) ∧ w.cell? ⟨b, off + i * 5 + 4, none⟩ = some (.bool (R i).ex) ∧ (R i).cap.In w ∧ (R i).alc.In w

/-- A quiet call that answers some int. -/
def RetI (w : World) (e : Ending) (w' : World) : Prop := ∃ r : Int, e = .returned (.int .i64 r) ∧ w = w'

theorem grow_walk (acc n k : Int) (w : World) :
    Calls Try.prog 22 #[.int .i64 acc, .int .i64 n, .int .i64 k] w fun e w' => RetI w e w' := by
  by_cases h1 : 1048576 < acc
  · go_enter Try.func22, Try.ntmps22
    go_wp2
    go_ret
    exact ⟨_, rfl, rfl⟩
  · have hd : decide (1048576 < acc) = false := by simpa using h1
    by_cases h2 : 1048576 < n
    · go_enter Try.func22, Try.ntmps22
      go_wp2
      go_ret
      exact ⟨_, rfl, rfl⟩
    · go_enter Try.func22, Try.ntmps22
      go_wp2
      go_ret
      exact ⟨_, rfl, rfl⟩

set_option maxHeartbeats 400000 in
theorem rowsBytes_walk (a : Option Addr) (len cap : Nat) (R : Nat → RowD) (acc : Int) (w : World) (hl : len ≤ 1048576) (hR : RowsIn w a len R) :
    Calls Try.prog 7 #[.slice a len cap, .int .i64 acc] w fun e w' => RetI w e w' := by
  go_enter Try.func7, Try.ntmps7
  go_wp2_with fail
  refine (grow_walk _ _ _ _).mono ?_; rintro e w' ⟨r0, rfl, rfl⟩
  go_wp2_with fail
  go_loop [1, 5] (fun c i => ∃ (k : Nat) (r : Int), k ≤ len ∧ i = .int .i64 k ∧ c = .int .i64 r) (fun _ i => len - (intOf i).toNat)
  case atStart => exact ⟨0, _, Nat.zero_le _, rfl, rfl⟩
  case round =>
    obtain ⟨k, r, hk, rfl, rfl⟩ := hrel
    by_cases hlt : k < len
    · obtain h0 | ⟨b, off, rfl, hcell⟩ := hR
      · omega
      obtain ⟨c0, c1, c2, c3, c4, i1, i2⟩ := hcell k hlt
      clear hcell
      by_cases hr : r ≤ 1048576
      · go_wp2_with fail
        refine (grow_walk _ _ _ _).mono ?_; rintro e w' ⟨r1, rfl, rfl⟩
        go_wp2_with fail
        refine (grow_walk _ _ _ _).mono ?_; rintro e w' ⟨r2, rfl, rfl⟩
        go_wp2_with fail
        go_round
        case rel => exact ⟨k + 1, r2, by omega, by go_num, rfl⟩
        case measure => simp [intOf]; omega
      · have hd : decide (r ≤ 1048576) = false := by simpa using hr
        go_wp2_with fail
        go_ret
        exact ⟨_, rfl, rfl⟩
    · go_wp2_with fail
      go_ret
      exact ⟨_, rfl, rfl⟩
end Go.Proofs.Qxb6617961a
