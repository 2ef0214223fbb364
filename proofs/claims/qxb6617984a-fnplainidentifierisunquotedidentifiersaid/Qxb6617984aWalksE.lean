import Derived.Test.Qxb6617984aWalksD
namespace Go.Proofs.Qxb6617984a
open Go.RowKit

/-- zzBytes_FnPlainIdentifierIsUnquotedIdentifier. -/
theorem bytes5_yes {a : ByteArray} (ha : a.size ≤ 1048576) (w : World) : Calls Try.prog 5 #[.string a] w fun e w' => e = .returned (.bool true) ∧ w = w' := by
  go_enter Try.func5, Try.ntmps5
  go_wp2
  go_ret
  exact ⟨rfl, rfl⟩
theorem bytes5_no {a : ByteArray} (ha : 1048576 < a.size) (hm : a.size ≤ maxLen) (w : World) : Calls Try.prog 5 #[.string a] w fun e w' => e = .returned (.bool false) ∧ w = w' := by
  unfold maxLen at hm
  go_enter Try.func5, Try.ntmps5
  go_wp2
  go_ret
  exact ⟨rfl, rfl⟩

theorem ident_yes {s : ByteArray} (h : PlainP s) (hs : s.size ≤ maxLen) (w : World) : Calls Try.prog 7 #[.string s] w fun e w' => e = .returned (.bool true) ∧ w = w' :=
  (ident_walk s w hs).mono fun e w' ⟨b, he, hb, hw⟩ => ⟨by rw [he, hb.2 h], hw⟩
theorem ident_no {s : ByteArray} (h : ¬ PlainP s) (hs : s.size ≤ maxLen) (w : World) : Calls Try.prog 7 #[.string s] w fun e w' => e = .returned (.bool false) ∧ w = w' :=
  (ident_walk s w hs).mono fun e w' ⟨b, he, hb, hw⟩ => ⟨by cases b with | false => exact he | true => exact absurd (hb.1 rfl) h, hw⟩

set_option maxHeartbeats 400000 in
/-- ████ FnPlainIdentifierIsUnquotedIdentifier, every road. -/
theorem unquoted_walk (a : ByteArray) (w : World) (hm : a.size ≤ maxLen) :
    Calls Try.prog 3 #[.string a] w fun e w' => e = .returned (.bool true) ∧ Below w.heap.size w w' := by
  by_cases h1 : 1048576 < a.size
  · go_enter Try.func3, Try.ntmps3
    go_wp2_with fail
    refine (bytes5_no h1 hm _).mono ?_; rintro e w' ⟨rfl, rfl⟩
    go_wp2_with fail
    go_ret
    exact ⟨rfl, Below.refl _ _⟩
  by_cases h2 : 65536 < a.size
  · unfold maxLen at hm
    go_enter Try.func3, Try.ntmps3
    go_wp2_with fail
    refine (bytes5_yes (by omega) _).mono ?_; rintro e w' ⟨rfl, rfl⟩
    go_wp2_with fail
    go_ret
    exact ⟨rfl, Below.refl _ _⟩
  have ha : a.size ≤ 65536 := by omega
  clear hm h1
  by_cases hp : PlainP a
  · go_enter Try.func3, Try.ntmps3
    go_wp2_with fail
    refine (bytes5_yes (by omega) _).mono ?_; rintro e w' ⟨rfl, rfl⟩
    go_wp2_with fail
    refine (zz_yes hp (fits (by omega)) _).mono ?_; rintro e w' ⟨rfl, rfl⟩
    go_wp2_with fail
    refine (ident_yes hp (fits (by omega)) _).mono ?_; rintro e w' ⟨rfl, rfl⟩
    go_wp2_with fail
    refine (swap_walk a _ ha).mono ?_; rintro e w1 ⟨t, rfl, ht, hpt, hb1⟩
    have Ht : Hid (t.size = a.size) := ht; clear ht
    have HP : Hid (PlainP t ↔ PlainP a) := hpt; clear hpt
    go_wp2_with fail
    refine (zz_yes (HP.out.2 hp) (fits (by rw [Ht.out]; omega)) _).mono ?_; rintro e w' ⟨rfl, rfl⟩
    go_wp2_with fail
    go_ret
    exact ⟨rfl, hb1⟩
  · go_enter Try.func3, Try.ntmps3
    go_wp2_with fail
    refine (bytes5_yes (by omega) _).mono ?_; rintro e w' ⟨rfl, rfl⟩
    go_wp2_with fail
    refine (zz_no hp (fits (by omega)) _).mono ?_; rintro e w' ⟨rfl, rfl⟩
    go_wp2_with fail
    refine (ident_no hp (fits (by omega)) _).mono ?_; rintro e w' ⟨rfl, rfl⟩
    go_wp2_with fail
    refine (swap_walk a _ ha).mono ?_; rintro e w1 ⟨t, rfl, ht, hpt, hb1⟩
    have Ht : Hid (t.size = a.size) := ht; clear ht
    have HP : Hid (PlainP t ↔ PlainP a) := hpt; clear hpt
    go_wp2_with fail
    refine (zz_no (fun h => hp (HP.out.1 h)) (fits (by rw [Ht.out]; omega)) _).mono ?_; rintro e w' ⟨rfl, rfl⟩
    go_wp2_with fail
    go_ret
    exact ⟨rfl, hb1⟩
end Go.Proofs.Qxb6617984a
