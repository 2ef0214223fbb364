import Derived.Test.Qxb6617984aPlain
namespace Go.Proofs.Qxb6617984a
open Go.RowKit

theorem zz_yes {s : ByteArray} (h : PlainP s) (hs : s.size ≤ maxLen) (w : World) : Calls Try.prog 6 #[.string s] w fun e w' => e = .returned (.bool true) ∧ w = w' :=
  (zz_walk s w hs).mono fun e w' ⟨b, he, hb, hw⟩ => ⟨by rw [he, hb.2 h], hw⟩
theorem zz_no {s : ByteArray} (h : ¬ PlainP s) (hs : s.size ≤ maxLen) (w : World) : Calls Try.prog 6 #[.string s] w fun e w' => e = .returned (.bool false) ∧ w = w' :=
  (zz_walk s w hs).mono fun e w' ⟨b, he, hb, hw⟩ => ⟨by cases b with | false => exact he | true => exact absurd (hb.1 rfl) h, hw⟩

/-- zzBytes_FnPlainIdentifierJoinAtAnyCut: whatever it answers, the world is as it was. -/
theorem bytes9 (a b : ByteArray) (w : World) (ha : a.size ≤ maxLen) (hb : b.size ≤ maxLen) :
    Calls Try.prog 9 #[.string a, .string b] w fun e w' => RetB (a.size + b.size ≤ 1048576) w e w' := by
  unfold maxLen at ha hb
  by_cases h1 : 1048576 < a.size
  · go_enter Try.func9, Try.ntmps9
    go_wp2
    go_ret
    exact ⟨false, rfl, by simp; omega, rfl⟩
  by_cases h2 : 1048576 < b.size
  · go_enter Try.func9, Try.ntmps9
    go_wp2
    go_ret
    exact ⟨false, rfl, by simp; omega, rfl⟩
  by_cases h3 : a.size + b.size ≤ 1048576
  · go_enter Try.func9, Try.ntmps9
    go_wp2
    go_ret
    exact ⟨true, rfl, by simp; omega, rfl⟩
  · go_enter Try.func9, Try.ntmps9
    go_wp2
    go_ret
    exact ⟨false, rfl, by simp; omega, rfl⟩
theorem bytes9_yes {a b : ByteArray} (ha : a.size ≤ 65536) (hb : b.size ≤ 65536) (w : World) : Calls Try.prog 9 #[.string a, .string b] w fun e w' => e = .returned (.bool true) ∧ w = w' :=
  (bytes9 a b w (by unfold maxLen; omega) (by unfold maxLen; omega)).mono fun e w' ⟨b, he, hb, hw⟩ => ⟨by rw [he, hb.2 (by omega)], hw⟩

theorem fits {s : ByteArray} (h : s.size ≤ 200000) : s.size ≤ maxLen := by unfold maxLen; omega
theorem size3 {a b : ByteArray} (ha : a.size ≤ 65536) (hb : b.size ≤ 65536) : (a ++ (⟨#[36]⟩ : ByteArray) ++ b).size ≤ 200000 := by
  rw [ByteArray.size_append, ByteArray.size_append]
  have : (⟨#[36]⟩ : ByteArray).size = 1 := rfl
  omega
theorem sizex {b : ByteArray} (hb : b.size ≤ 65536) : ((⟨#[120]⟩ : ByteArray) ++ b).size ≤ 200000 := by
  rw [ByteArray.size_append]
  have : (⟨#[120]⟩ : ByteArray).size = 1 := rfl
  omega
theorem size2 {a b : ByteArray} (ha : a.size ≤ 65536) (hb : b.size ≤ 65536) : (a ++ b).size ≤ 200000 := by
  rw [ByteArray.size_append]; omega

/-- ZZplainIdentifier over the letters of a: at most 63 of them ¦ more. -/
theorem zz_letters_yes {a t : ByteArray} (ht : t.size = a.size) (hL : ∀ j, (h : j < t.size) → 97 ≤ (t[j].toNat : Int) ∧ (t[j].toNat : Int) ≤ 122) (h0 : 0 < a.size) (h63 : a.size ≤ 63) (w : World) :
    Calls Try.prog 6 #[.string t] w fun e w' => e = .returned (.bool true) ∧ w = w' :=
  zz_yes ((plain_letters hL (by omega)).2 (by omega)) (fits (by omega)) w
theorem zz_letters_no {a t : ByteArray} (ht : t.size = a.size) (h63 : 63 < a.size) (ha : a.size ≤ 65536) (w : World) :
    Calls Try.prog 6 #[.string t] w fun e w' => e = .returned (.bool false) ∧ w = w' :=
  zz_no (fun h => by have := h.2.1; omega) (fits (by omega)) w

set_option maxHeartbeats 400000 in
/-- a+b is plain, b is empty. -/
theorem join_1 (a b : ByteArray) (w : World) (ha : a.size ≤ 65536) (hb : b.size ≤ 65536) (ha0 : 0 < a.size) (hE : a.toList.isEmpty = false) (HD : ¬PlainP (a ++ (⟨#[36]⟩ : ByteArray) ++ b))
    (hp : PlainP (a ++ b)) (h1 : PlainP a) (hF : b.toList.isEmpty = true) (hd : decide ((a.size : Int) + b.size ≤ 63) = true) (hd2 : decide ((a.size : Int) ≤ 63) = true) :
    Calls Try.prog 4 #[.string a, .string b] w fun e w' => e = .returned (.bool true) ∧ Below w.heap.size w w' := by
  go_enter Try.func4, Try.ntmps4
  go_wp2_with fail
  refine (bytes9_yes ha hb _).mono ?_; rintro e w' ⟨rfl, rfl⟩
  go_wp2_with fail
  refine (zz_yes hp (fits (size2 ha hb)) _).mono ?_; rintro e w' ⟨rfl, rfl⟩
  go_wp2_with fail
  refine (zz_yes h1 (fits (by omega)) _).mono ?_; rintro e w' ⟨rfl, rfl⟩
  go_wp2_with fail
  refine (letters_walk a _ ha).mono ?_; rintro e w1 ⟨t, rfl, ht, hL, hb1⟩
  have Ht : Hid (t.size = a.size) := ht; clear ht
  have HL : Hid (∀ j, (h : j < t.size) → 97 ≤ (t[j].toNat : Int) ∧ (t[j].toNat : Int) ≤ 122) := hL; clear hL
  go_wp2_with fail
  refine (zz_letters_yes Ht.out HL.out ha0 (by simp at hd2; omega) _).mono ?_; rintro e w' ⟨rfl, rfl⟩
  go_wp2_with fail
  refine (zz_no HD (fits (size3 ha hb)) _).mono ?_; rintro e w' ⟨rfl, rfl⟩
  go_wp2_with fail
  go_ret
  exact ⟨rfl, hb1⟩

set_option maxHeartbeats 400000 in
/-- a+b is plain, b is not empty. -/
theorem join_2 (a b : ByteArray) (w : World) (ha : a.size ≤ 65536) (hb : b.size ≤ 65536) (ha0 : 0 < a.size) (hE : a.toList.isEmpty = false) (HD : ¬PlainP (a ++ (⟨#[36]⟩ : ByteArray) ++ b))
    (hp : PlainP (a ++ b)) (h1 : PlainP a) (hF : b.toList.isEmpty = false) (h2 : PlainP ((⟨#[120]⟩ : ByteArray) ++ b)) (hd : decide ((a.size : Int) + b.size ≤ 63) = true) (hd2 : decide ((a.size : Int) ≤ 63) = true) :
    Calls Try.prog 4 #[.string a, .string b] w fun e w' => e = .returned (.bool true) ∧ Below w.heap.size w w' := by
  go_enter Try.func4, Try.ntmps4
  go_wp2_with fail
  refine (bytes9_yes ha hb _).mono ?_; rintro e w' ⟨rfl, rfl⟩
  go_wp2_with fail
  refine (zz_yes hp (fits (size2 ha hb)) _).mono ?_; rintro e w' ⟨rfl, rfl⟩
  go_wp2_with fail
  refine (zz_yes h1 (fits (by omega)) _).mono ?_; rintro e w' ⟨rfl, rfl⟩
  go_wp2_with fail
  refine (zz_yes h2 (fits (sizex hb)) _).mono ?_; rintro e w' ⟨rfl, rfl⟩
  go_wp2_with fail
  refine (letters_walk a _ ha).mono ?_; rintro e w1 ⟨t, rfl, ht, hL, hb1⟩
  have Ht : Hid (t.size = a.size) := ht; clear ht
  have HL : Hid (∀ j, (h : j < t.size) → 97 ≤ (t[j].toNat : Int) ∧ (t[j].toNat : Int) ≤ 122) := hL; clear hL
  go_wp2_with fail
  refine (zz_letters_yes Ht.out HL.out ha0 (by simp at hd2; omega) _).mono ?_; rintro e w' ⟨rfl, rfl⟩
  go_wp2_with fail
  refine (zz_no HD (fits (size3 ha hb)) _).mono ?_; rintro e w' ⟨rfl, rfl⟩
  go_wp2_with fail
  go_ret
  exact ⟨rfl, hb1⟩

set_option maxHeartbeats 400000 in
/-- a is not plain, and short. -/
theorem join_3 (a b : ByteArray) (w : World) (ha : a.size ≤ 65536) (hb : b.size ≤ 65536) (ha0 : 0 < a.size) (hE : a.toList.isEmpty = false) (HD : ¬PlainP (a ++ (⟨#[36]⟩ : ByteArray) ++ b))
    (hp : ¬ PlainP (a ++ b)) (h1 : ¬ PlainP a) (hd2 : decide ((a.size : Int) ≤ 63) = true) :
    Calls Try.prog 4 #[.string a, .string b] w fun e w' => e = .returned (.bool true) ∧ Below w.heap.size w w' := by
  go_enter Try.func4, Try.ntmps4
  go_wp2_with fail
  refine (bytes9_yes ha hb _).mono ?_; rintro e w' ⟨rfl, rfl⟩
  go_wp2_with fail
  refine (zz_no hp (fits (size2 ha hb)) _).mono ?_; rintro e w' ⟨rfl, rfl⟩
  go_wp2_with fail
  refine (zz_no h1 (fits (by omega)) _).mono ?_; rintro e w' ⟨rfl, rfl⟩
  go_wp2_with fail
  refine (letters_walk a _ ha).mono ?_; rintro e w1 ⟨t, rfl, ht, hL, hb1⟩
  have Ht : Hid (t.size = a.size) := ht; clear ht
  have HL : Hid (∀ j, (h : j < t.size) → 97 ≤ (t[j].toNat : Int) ∧ (t[j].toNat : Int) ≤ 122) := hL; clear hL
  go_wp2_with fail
  refine (zz_letters_yes Ht.out HL.out ha0 (by simp at hd2; omega) _).mono ?_; rintro e w' ⟨rfl, rfl⟩
  go_wp2_with fail
  refine (zz_no HD (fits (size3 ha hb)) _).mono ?_; rintro e w' ⟨rfl, rfl⟩
  go_wp2_with fail
  go_ret
  exact ⟨rfl, hb1⟩

set_option maxHeartbeats 400000 in
/-- a is not plain, and long. -/
theorem join_4 (a b : ByteArray) (w : World) (ha : a.size ≤ 65536) (hb : b.size ≤ 65536) (ha0 : 0 < a.size) (hE : a.toList.isEmpty = false) (HD : ¬PlainP (a ++ (⟨#[36]⟩ : ByteArray) ++ b))
    (hp : ¬ PlainP (a ++ b)) (h1 : ¬ PlainP a) (hd2 : decide ((a.size : Int) ≤ 63) = false) :
    Calls Try.prog 4 #[.string a, .string b] w fun e w' => e = .returned (.bool true) ∧ Below w.heap.size w w' := by
  go_enter Try.func4, Try.ntmps4
  go_wp2_with fail
  refine (bytes9_yes ha hb _).mono ?_; rintro e w' ⟨rfl, rfl⟩
  go_wp2_with fail
  refine (zz_no hp (fits (size2 ha hb)) _).mono ?_; rintro e w' ⟨rfl, rfl⟩
  go_wp2_with fail
  refine (zz_no h1 (fits (by omega)) _).mono ?_; rintro e w' ⟨rfl, rfl⟩
  go_wp2_with fail
  refine (letters_walk a _ ha).mono ?_; rintro e w1 ⟨t, rfl, ht, hL, hb1⟩
  have Ht : Hid (t.size = a.size) := ht; clear ht
  have HL : Hid (∀ j, (h : j < t.size) → 97 ≤ (t[j].toNat : Int) ∧ (t[j].toNat : Int) ≤ 122) := hL; clear hL
  go_wp2_with fail
  refine (zz_letters_no Ht.out (by simp at hd2; omega) ha _).mono ?_; rintro e w' ⟨rfl, rfl⟩
  go_wp2_with fail
  refine (zz_no HD (fits (size3 ha hb)) _).mono ?_; rintro e w' ⟨rfl, rfl⟩
  go_wp2_with fail
  go_ret
  exact ⟨rfl, hb1⟩

set_option maxHeartbeats 400000 in
/-- b spoils it. -/
theorem join_5 (a b : ByteArray) (w : World) (ha : a.size ≤ 65536) (hb : b.size ≤ 65536) (ha0 : 0 < a.size) (hE : a.toList.isEmpty = false) (HD : ¬PlainP (a ++ (⟨#[36]⟩ : ByteArray) ++ b))
    (hp : ¬ PlainP (a ++ b)) (h1 : PlainP a) (hF : b.toList.isEmpty = false) (h2 : ¬ PlainP ((⟨#[120]⟩ : ByteArray) ++ b)) (hd2 : decide ((a.size : Int) ≤ 63) = true) :
    Calls Try.prog 4 #[.string a, .string b] w fun e w' => e = .returned (.bool true) ∧ Below w.heap.size w w' := by
  go_enter Try.func4, Try.ntmps4
  go_wp2_with fail
  refine (bytes9_yes ha hb _).mono ?_; rintro e w' ⟨rfl, rfl⟩
  go_wp2_with fail
  refine (zz_no hp (fits (size2 ha hb)) _).mono ?_; rintro e w' ⟨rfl, rfl⟩
  go_wp2_with fail
  refine (zz_yes h1 (fits (by omega)) _).mono ?_; rintro e w' ⟨rfl, rfl⟩
  go_wp2_with fail
  refine (zz_no h2 (fits (sizex hb)) _).mono ?_; rintro e w' ⟨rfl, rfl⟩
  go_wp2_with fail
  refine (letters_walk a _ ha).mono ?_; rintro e w1 ⟨t, rfl, ht, hL, hb1⟩
  have Ht : Hid (t.size = a.size) := ht; clear ht
  have HL : Hid (∀ j, (h : j < t.size) → 97 ≤ (t[j].toNat : Int) ∧ (t[j].toNat : Int) ≤ 122) := hL; clear hL
  go_wp2_with fail
  refine (zz_letters_yes Ht.out HL.out ha0 (by simp at hd2; omega) _).mono ?_; rintro e w' ⟨rfl, rfl⟩
  go_wp2_with fail
  refine (zz_no HD (fits (size3 ha hb)) _).mono ?_; rintro e w' ⟨rfl, rfl⟩
  go_wp2_with fail
  go_ret
  exact ⟨rfl, hb1⟩

set_option maxHeartbeats 400000 in
/-- too long together. -/
theorem join_6 (a b : ByteArray) (w : World) (ha : a.size ≤ 65536) (hb : b.size ≤ 65536) (ha0 : 0 < a.size) (hE : a.toList.isEmpty = false) (HD : ¬PlainP (a ++ (⟨#[36]⟩ : ByteArray) ++ b))
    (hp : ¬ PlainP (a ++ b)) (h1 : PlainP a) (hF : b.toList.isEmpty = false) (h2 : PlainP ((⟨#[120]⟩ : ByteArray) ++ b)) (hd : decide ((a.size : Int) + b.size ≤ 63) = false) (hd2 : decide ((a.size : Int) ≤ 63) = true) :
    Calls Try.prog 4 #[.string a, .string b] w fun e w' => e = .returned (.bool true) ∧ Below w.heap.size w w' := by
  go_enter Try.func4, Try.ntmps4
  go_wp2_with fail
  refine (bytes9_yes ha hb _).mono ?_; rintro e w' ⟨rfl, rfl⟩
  go_wp2_with fail
  refine (zz_no hp (fits (size2 ha hb)) _).mono ?_; rintro e w' ⟨rfl, rfl⟩
  go_wp2_with fail
  refine (zz_yes h1 (fits (by omega)) _).mono ?_; rintro e w' ⟨rfl, rfl⟩
  go_wp2_with fail
  refine (zz_yes h2 (fits (sizex hb)) _).mono ?_; rintro e w' ⟨rfl, rfl⟩
  go_wp2_with fail
  refine (letters_walk a _ ha).mono ?_; rintro e w1 ⟨t, rfl, ht, hL, hb1⟩
  have Ht : Hid (t.size = a.size) := ht; clear ht
  have HL : Hid (∀ j, (h : j < t.size) → 97 ≤ (t[j].toNat : Int) ∧ (t[j].toNat : Int) ≤ 122) := hL; clear hL
  go_wp2_with fail
  refine (zz_letters_yes Ht.out HL.out ha0 (by simp at hd2; omega) _).mono ?_; rintro e w' ⟨rfl, rfl⟩
  go_wp2_with fail
  refine (zz_no HD (fits (size3 ha hb)) _).mono ?_; rintro e w' ⟨rfl, rfl⟩
  go_wp2_with fail
  go_ret
  exact ⟨rfl, hb1⟩

theorem join_main (a b : ByteArray) (w : World) (ha : a.size ≤ 65536) (hb : b.size ≤ 65536) (ha0 : 0 < a.size) :
    Calls Try.prog 4 #[.string a, .string b] w fun e w' => e = .returned (.bool true) ∧ Below w.heap.size w w' := by
  have hE : a.toList.isEmpty = false := by rw [size_of_isEmpty, decide_eq_false_iff_not]; omega
  have HD := plain_dollar a b ha0
  have hj := plain_join (a := a) (b := b) ha0
  have hdy : ∀ h : a.size ≤ 63, decide ((a.size : Int) ≤ 63) = true := fun h => by rw [decide_eq_true_eq]; omega
  by_cases hp : PlainP (a ++ b)
  · obtain ⟨h1, h2, h3⟩ := hj.1 hp
    have hd : decide ((a.size : Int) + b.size ≤ 63) = true := by rw [decide_eq_true_eq]; omega
    have hd2 := hdy (by omega)
    by_cases hb0 : b.size = 0
    · exact join_1 a b w ha hb ha0 hE HD hp h1 (by rw [size_of_isEmpty, decide_eq_true_eq]; exact hb0) hd hd2
    · exact join_2 a b w ha hb ha0 hE HD hp h1 (by rw [size_of_isEmpty, decide_eq_false_iff_not]; exact hb0) (h2.resolve_left hb0) hd hd2
  by_cases h1 : PlainP a
  · have hd2 := hdy h1.2.1
    have hb0 : b.size ≠ 0 := fun h0 => hp (hj.2 ⟨h1, Or.inl h0, by have := h1.2.1; omega⟩)
    have hF : b.toList.isEmpty = false := by rw [size_of_isEmpty, decide_eq_false_iff_not]; exact hb0
    by_cases h2 : PlainP ((⟨#[120]⟩ : ByteArray) ++ b)
    · exact join_6 a b w ha hb ha0 hE HD hp h1 hF h2 (by rw [decide_eq_false_iff_not]; intro h; exact hp (hj.2 ⟨h1, Or.inr h2, by omega⟩)) hd2
    · exact join_5 a b w ha hb ha0 hE HD hp h1 hF h2 hd2
  · by_cases h63 : a.size ≤ 63
    · exact join_3 a b w ha hb ha0 hE HD hp h1 (hdy h63)
    · exact join_4 a b w ha hb ha0 hE HD hp h1 (by rw [decide_eq_false_iff_not]; omega)

set_option maxHeartbeats 400000 in
/-- ████ FnPlainIdentifierJoinAtAnyCut, every road. -/
theorem join_walk (a b : ByteArray) (w : World) (ha : a.size ≤ maxLen) (hb : b.size ≤ maxLen) :
    Calls Try.prog 4 #[.string a, .string b] w fun e w' => e = .returned (.bool true) ∧ Below w.heap.size w w' := by
  by_cases h1 : a.size ≤ 65536 ∧ b.size ≤ 65536 ∧ 0 < a.size
  · exact join_main a b w h1.1 h1.2.1 h1.2.2
  have hb9 := bytes9 a b
  unfold maxLen at ha hb
  by_cases h2 : a.size + b.size ≤ 1048576
  · have hy : ∀ w, Calls Try.prog 9 #[.string a, .string b] w fun e w' => e = .returned (.bool true) ∧ w = w' := fun w =>
      (hb9 w ha hb).mono fun e w' ⟨b, he, hb, hw⟩ => ⟨by rw [he, hb.2 h2], hw⟩
    have HY : Hid (∀ w, Calls Try.prog 9 #[.string a, .string b] w fun e w' => e = .returned (.bool true) ∧ w = w') := hy
    clear hy hb9
    by_cases h3 : 65536 < a.size
    · go_enter Try.func4, Try.ntmps4
      go_wp2_with fail
      refine (HY.out _).mono ?_; rintro e w' ⟨rfl, rfl⟩
      go_wp2_with fail
      go_ret
      exact ⟨rfl, Below.refl _ _⟩
    by_cases h4 : 65536 < b.size
    · go_enter Try.func4, Try.ntmps4
      go_wp2_with fail
      refine (HY.out _).mono ?_; rintro e w' ⟨rfl, rfl⟩
      go_wp2_with fail
      go_ret
      exact ⟨rfl, Below.refl _ _⟩
    · have hE : a.toList.isEmpty = true := by rw [size_of_isEmpty, decide_eq_true_eq]; omega
      go_enter Try.func4, Try.ntmps4
      go_wp2_with fail
      refine (HY.out _).mono ?_; rintro e w' ⟨rfl, rfl⟩
      go_wp2_with fail
      go_ret
      exact ⟨rfl, Below.refl _ _⟩
  · have hn : ∀ w, Calls Try.prog 9 #[.string a, .string b] w fun e w' => e = .returned (.bool false) ∧ w = w' := fun w =>
      (hb9 w ha hb).mono fun e w' ⟨c, he, hc, hw⟩ => ⟨by cases c with | false => exact he | true => exact absurd (hc.1 rfl) h2, hw⟩
    have HN : Hid (∀ w, Calls Try.prog 9 #[.string a, .string b] w fun e w' => e = .returned (.bool false) ∧ w = w') := hn
    clear hn hb9
    go_enter Try.func4, Try.ntmps4
    go_wp2_with fail
    refine (HN.out _).mono ?_; rintro e w' ⟨rfl, rfl⟩
    go_wp2_with fail
    go_ret
    exact ⟨rfl, Below.refl _ _⟩
end Go.Proofs.Qxb6617984a
