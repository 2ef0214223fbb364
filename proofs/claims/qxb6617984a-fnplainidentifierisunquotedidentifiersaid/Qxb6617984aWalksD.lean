import Derived.Test.Qxb6617984aWalksC
namespace Go.Proofs.Qxb6617984a
open Go.RowKit

/-- An ASCII letter. -/
def IsL (c : Int) : Prop := (97 ≤ c ∧ c ≤ 122) ∨ (65 ≤ c ∧ c ≤ 90)
/-- A byte of a word. -/
def IsW (c : Int) : Prop := IsL c ∨ (48 ≤ c ∧ c ≤ 57) ∨ c = 95

theorem ok_zero (c : Int) : OkN 0 c ↔ IsL c := by unfold OkN IsL; omega
theorem ok_pos {j : Nat} (h : 0 < j) (c : Int) : OkN j c ↔ IsW c := by unfold OkN IsW IsL; omega

theorem or_table : ∀ n : Fin 256, (97 ≤ (n.val ||| 32) ∧ (n.val ||| 32) ≤ 122) ↔ ((97 ≤ n.val ∧ n.val ≤ 122) ∨ (65 ≤ n.val ∧ n.val ≤ 90)) := by decide +kernel
theorem xor_table : ∀ n : Fin 256, ((97 ≤ n.val ∧ n.val ≤ 122) ∨ (65 ≤ n.val ∧ n.val ≤ 90)) → ((97 ≤ (n.val ^^^ 32) ∧ (n.val ^^^ 32) ≤ 122) ∨ (65 ≤ (n.val ^^^ 32) ∧ (n.val ^^^ 32) ≤ 90)) := by decide +kernel

theorem or_letter (c : Int) (h0 : 0 ≤ c) (h1 : c ≤ 255) : (97 ≤ bits .or .u8 c 32 ∧ bits .or .u8 c 32 ≤ 122) ↔ IsL c := by
  obtain ⟨n, rfl⟩ := Int.eq_ofNat_of_zero_le h0
  have e := u8_or_nat n 32 (by omega) (by omega)
  have t := or_table ⟨n, by omega⟩
  have e' : bits .or .u8 (n : Int) 32 = ((n ||| 32 : Nat) : Int) := e
  rw [e']
  unfold IsL
  simp only at t
  generalize n ||| 32 = m at *
  constructor
  · intro h
    have := t.1 (by omega)
    omega
  · intro h
    have := t.2 (by omega)
    omega

theorem xor_letter (c : Int) (h0 : 0 ≤ c) (h1 : c ≤ 255) (h : IsL c) : IsL (bits .xor .u8 c 32) := by
  obtain ⟨n, rfl⟩ := Int.eq_ofNat_of_zero_le h0
  have e := u8_xor_nat n 32 (by omega) (by omega)
  have t := xor_table ⟨n, by omega⟩
  have e' : bits .xor .u8 (n : Int) 32 = ((n ^^^ 32 : Nat) : Int) := e
  rw [e']
  unfold IsL at h ⊢
  simp only at t
  generalize n ^^^ 32 = m at *
  have := t (by omega)
  omega

theorem letter_walk (c : Int) (w : World) (h0 : 0 ≤ c) (h1 : c ≤ 255) :
    Calls Try.prog 12 #[.int .u8 c] w fun e w' => RetB (IsL c) w e w' := by
  have ht := or_letter c h0 h1
  have HT : Hid ((97 ≤ bits .or .u8 c 32 ∧ bits .or .u8 c 32 ≤ 122) ↔ IsL c) := ht
  clear ht
  go_enter Try.func12, Try.ntmps12
  go_wp2
  · go_ret
    refine ⟨_, rfl, ?_, rfl⟩
    rw [← HT.out, decide_eq_true_eq]
    exact ⟨fun h => ⟨‹_›, h⟩, fun h => h.2⟩
  · go_ret
    refine ⟨_, rfl, ?_, rfl⟩
    rw [← HT.out]
    exact ⟨fun h => absurd h (by decide), fun h => by omega⟩

theorem letter_yes {c : Int} (h0 : 0 ≤ c) (h1 : c ≤ 255) (h : IsL c) (w : World) : Calls Try.prog 12 #[.int .u8 c] w fun e w' => e = .returned (.bool true) ∧ w = w' :=
  (letter_walk c w h0 h1).mono fun e w' ⟨b, he, hb, hw⟩ => ⟨by rw [he, hb.2 h], hw⟩
theorem letter_no {c : Int} (h0 : 0 ≤ c) (h1 : c ≤ 255) (h : ¬ IsL c) (w : World) : Calls Try.prog 12 #[.int .u8 c] w fun e w' => e = .returned (.bool false) ∧ w = w' :=
  (letter_walk c w h0 h1).mono fun e w' ⟨b, he, hb, hw⟩ => ⟨by cases b with | false => exact he | true => exact absurd (hb.1 rfl) h, hw⟩

theorem word_walk (c : Int) (w : World) (h0 : 0 ≤ c) (h1 : c ≤ 255) :
    Calls Try.prog 13 #[.int .u8 c] w fun e w' => RetB (IsW c) w e w' := by
  by_cases hL : IsL c
  · go_enter Try.func13, Try.ntmps13
    go_wp2_with (go_at_call 12; refine (letter_yes h0 h1 hL _).mono ?_; rintro e w' ⟨rfl, rfl⟩)
    go_ret
    exact ⟨true, rfl, ⟨fun _ => Or.inl hL, fun _ => rfl⟩, rfl⟩
  · go_enter Try.func13, Try.ntmps13
    go_wp2_with (go_at_call 12; refine (letter_no h0 h1 hL _).mono ?_; rintro e w' ⟨rfl, rfl⟩)
    all_goals
      go_ret
      refine ⟨_, rfl, ?_, rfl⟩
      unfold IsW
      simp only [hL, false_or, Bool.or_eq_true, decide_eq_true_eq, beq_iff_eq, true_iff]
      omega

theorem word_yes {c : Int} (h0 : 0 ≤ c) (h1 : c ≤ 255) (h : IsW c) (w : World) : Calls Try.prog 13 #[.int .u8 c] w fun e w' => e = .returned (.bool true) ∧ w = w' :=
  (word_walk c w h0 h1).mono fun e w' ⟨b, he, hb, hw⟩ => ⟨by rw [he, hb.2 h], hw⟩
theorem word_no {c : Int} (h0 : 0 ≤ c) (h1 : c ≤ 255) (h : ¬ IsW c) (w : World) : Calls Try.prog 13 #[.int .u8 c] w fun e w' => e = .returned (.bool false) ∧ w = w' :=
  (word_walk c w h0 h1).mono fun e w' ⟨b, he, hb, hw⟩ => ⟨by cases b with | false => exact he | true => exact absurd (hb.1 rfl) h, hw⟩

theorem byte_hi (s : ByteArray) (k : Nat) (h : k < s.size) : (s[k].toNat : Int) ≤ 255 := by have := byte_lt s[k]; omega

set_option maxHeartbeats 400000 in
/-- zzIsIdent. -/
theorem ident_walk (s : ByteArray) (w : World) (hs : s.size ≤ maxLen) :
    Calls Try.prog 7 #[.string s] w fun e w' => RetB (PlainP s) w e w' := by
  unfold maxLen at hs
  by_cases h0 : s.size < 1
  · go_enter Try.func7, Try.ntmps7
    go_wp2
    go_ret
    exact ⟨false, rfl, by simp [PlainP]; omega, rfl⟩
  by_cases h63 : 63 < s.size
  · go_enter Try.func7, Try.ntmps7
    go_wp2
    go_ret
    exact ⟨false, rfl, by simp [PlainP]; omega, rfl⟩
  have hp : 0 < s.size := by omega
  by_cases hL : IsL (s[0].toNat : Int)
  · have HL : Hid (IsL (s[0].toNat : Int)) := hL
    clear hL
    go_enter Try.func7, Try.ntmps7
    go_wp2_with fail
    refine (letter_yes (by omega) (byte_hi s 0 hp) HL.out _).mono ?_; rintro e w' ⟨rfl, rfl⟩
    go_wp2_with fail
    go_loop [4] (fun i => ∃ k : Nat, k ≤ s.size ∧ i = .int .i64 k ∧ Hid (∀ j, (h : j < s.size) → j < k → IsW (s[j].toNat : Int))) (fun i => s.size - (intOf i).toNat)
    case atStart => exact ⟨0, Nat.zero_le _, rfl, fun j _ h => absurd h (by omega)⟩
    case round =>
      obtain ⟨k, hk, rfl, HK⟩ := hrel
      by_cases hlt : k < s.size
      · by_cases hW : IsW (s[k].toNat : Int)
        · have HW : Hid (IsW (s[k].toNat : Int)) := hW
          clear hW
          go_wp2_with (go_at_call 13; refine (word_yes (by omega) (byte_hi s k hlt) HW.out _).mono ?_; rintro e w' ⟨rfl, rfl⟩)
          go_round
          case rel =>
            refine ⟨k + 1, by omega, by go_num, fun j hj hjk => ?_⟩
            by_cases e : j = k
            · subst e; exact HW.out
            · exact HK.out j hj (by omega)
          case measure => simp [intOf]; omega
        · have HW : Hid (¬ IsW (s[k].toNat : Int)) := hW
          clear hW
          have hne : ((k : Int) == (s.size : Int)) = false := by simp; omega
          go_wp2_with (go_at_call 13; refine (word_no (by omega) (byte_hi s k hlt) HW.out _).mono ?_; rintro e w' ⟨rfl, rfl⟩)
          go_ret
          refine ⟨false, rfl, ⟨fun h => absurd h (by decide), fun h => ?_⟩, rfl⟩
          have := h.2.2 k hlt
          exfalso
          apply HW.out
          unfold OkN at this
          unfold IsW IsL
          omega
      · have heq : ((k : Int) == (s.size : Int)) = true := by simp; omega
        go_wp2_with fail
        go_ret
        refine ⟨true, rfl, ⟨fun _ => ⟨by omega, by omega, fun j hj => ?_⟩, fun _ => rfl⟩, rfl⟩
        by_cases e : j = 0
        · subst e; exact (ok_zero _).2 HL.out
        · exact (ok_pos (by omega) _).2 (HK.out j hj (by omega))
  · have HL : Hid (¬ IsL (s[0].toNat : Int)) := hL
    clear hL
    go_enter Try.func7, Try.ntmps7
    go_wp2_with fail
    refine (letter_no (by omega) (byte_hi s 0 hp) HL.out _).mono ?_; rintro e w' ⟨rfl, rfl⟩
    go_wp2_with fail
    go_ret
    exact ⟨false, rfl, ⟨fun h => absurd h (by decide), fun h => absurd ((ok_zero _).1 (h.2.2 0 hp)) HL.out⟩, rfl⟩

/-- What zzSwapCase makes of a byte. -/
def Sw (c d : Int) : Prop := (IsL c ↔ IsL d) ∧ (¬ IsL c → d = c) ∧ 0 ≤ d ∧ d ≤ 255

theorem sw_ok {c d : Int} (h : Sw c d) (j : Nat) : OkN j c ↔ OkN j d := by
  obtain ⟨h1, h2, _, _⟩ := h
  unfold IsL at h1 h2
  unfold OkN
  omega

theorem sw_plain {s t : ByteArray} (hsz : t.size = s.size) (h : ∀ j, (h1 : j < s.size) → (h2 : j < t.size) → Sw (s[j].toNat : Int) (t[j].toNat : Int)) : PlainP t ↔ PlainP s := by
  constructor
  · rintro ⟨a, b, c⟩
    exact ⟨by omega, by omega, fun j hj => (sw_ok (h j hj (by omega)) j).2 (c j (by omega))⟩
  · rintro ⟨a, b, c⟩
    exact ⟨by omega, by omega, fun j hj => (sw_ok (h j (by omega) hj) j).1 (c j (by omega))⟩

theorem sw_yes {c : Int} (h0 : 0 ≤ c) (h1 : c ≤ 255) (h : IsL c) : Sw c (bits .xor .u8 c 32) := by
  have := xor_letter c h0 h1 h
  refine ⟨⟨fun _ => this, fun _ => h⟩, fun n => absurd h n, ?_, ?_⟩
  · unfold IsL at this; omega
  · unfold IsL at this; omega
theorem sw_no {c : Int} (h0 : 0 ≤ c) (h1 : c ≤ 255) : Sw c c := ⟨Iff.rfl, fun _ => rfl, h0, h1⟩

theorem sw_step {s : ByteArray} {k : Nat} {L : Nat → Int} {v : Int} (hlt : k < s.size) (h : ∀ j, (h : j < s.size) → j < k → Sw (s[j].toNat : Int) (L j)) (hv : Sw (s[k].toNat : Int) v) :
    Hid (∀ j, (h : j < s.size) → j < k + 1 → Sw (s[j].toNat : Int) (putAt k v L j)) := by
  intro j hj hjk
  unfold putAt
  by_cases e : j = k
  · subst e; rw [if_pos rfl]; exact hv
  · rw [if_neg e]; exact h j hj (by omega)

set_option maxHeartbeats 400000 in
/-- zzSwapCase. -/
theorem swap_walk (s : ByteArray) (w : World) (hs : s.size ≤ 65536) :
    Calls Try.prog 8 #[.string s] w fun e w' => ∃ t : ByteArray, e = .returned (.string t) ∧ t.size = s.size ∧ (PlainP t ↔ PlainP s) ∧ Below w.heap.size w w' := by
  have hmk := run_make_row' (P := Try.prog) 26 5 (.int .u8 0) 1 Try.underlying26 info5 rfl .i64 .i64 s.size (by omega) (by omega)
  go_enter Try.func8, Try.ntmps8
  go_wp2_with fail
  go_loopw [4] (fun i wr => ∃ (k : Nat) (L : Nat → Int), k ≤ s.size ∧ i = .int .i64 k ∧ wr.rowIs w.heap.size 5 s.size (fun j => .int .u8 (L j)) ∧ Below w.heap.size w wr ∧ Hid (∀ j, (h : j < s.size) → j < k → Sw (s[j].toNat : Int) (L j))) (fun i _ => s.size - (intOf i).toNat)
  case atStart => exact ⟨0, fun _ => 0, Nat.zero_le _, rfl, World.rowIs_made _ _ _ _, (Below.refl _ _).alloc (Nat.le_refl _) _, fun j _ h => absurd h (by omega)⟩
  case round =>
    obtain ⟨k, L, hk, rfl, hrow, hb, HK⟩ := hrel
    by_cases hlt : k < s.size
    · have hcell := hrow.cell hlt
      have hfz := hrow.frozen k
      by_cases hL : IsL (s[k].toNat : Int)
      · have HL : Hid (IsL (s[k].toNat : Int)) := hL
        clear hL
        go_wp2_with (go_at_call 12; refine (letter_yes (by omega) (byte_hi s k hlt) HL.out _).mono ?_; rintro e w' ⟨rfl, rfl⟩)
        go_roundw
        case rel =>
          exact ⟨k + 1, putAt k (bits .xor .u8 (s[k].toNat : Int) 32) L, by omega, by go_num, row_put hrow k _, hb.setCell (Nat.le_refl _) _, sw_step hlt HK.out (sw_yes (by omega) (byte_hi s k hlt) HL.out)⟩
        case measure => simp [intOf]; omega
      · have HL : Hid (¬ IsL (s[k].toNat : Int)) := hL
        clear hL
        go_wp2_with (go_at_call 12; refine (letter_no (by omega) (byte_hi s k hlt) HL.out _).mono ?_; rintro e w' ⟨rfl, rfl⟩)
        go_roundw
        case rel =>
          exact ⟨k + 1, putAt k (s[k].toNat : Int) L, by omega, by go_num, row_put hrow k _, hb.setCell (Nat.le_refl _) _, sw_step hlt HK.out (sw_no (by omega) (byte_hi s k hlt))⟩
        case measure => simp [intOf]; omega
    · have hcv := run_convert_bytes_arg (P := Try.prog) wr 26 5 Try.underlying26 Try.underlying5 w.heap.size 0 s.size s.size ((List.range s.size).map L) (by simp)
        (fun i hi => by rw [Nat.zero_add, hrow.cell hi]; simp [hi]) 9 Try.underlying9
      go_wp2_with fail
      go_ret
      have hsp := spelt s.size L (fun j hj => by have := HK.out j hj (by omega); exact this.2.2)
      refine ⟨_, rfl, hsp.1, sw_plain hsp.1 (fun j h1 h2 => ?_), hb⟩
      rw [hsp.2 j h2]
      exact HK.out j h1 (by omega)
end Go.Proofs.Qxb6617984a
