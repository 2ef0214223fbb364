import Derived.Test.Qxb6617961aPodX
import Derived.Test.Qxb6617961aOptsW
import Derived.Test.Qxb6617961aGrpsW
namespace Go.Proofs.Qxb6617961a
open Go.RowKit

theorem RetT.split {p : Prop} {w : World} {e : Ending} {w' : World} (h : RetT p w e w') : (e = .returned (.bool false) ∧ w = w') ∨ (e = .returned (.bool true) ∧ w = w' ∧ p) := by
  obtain ⟨b, he, hp, hw⟩ := h
  cases b with
  | false => exact Or.inl ⟨he, hw⟩
  | true => exact Or.inr ⟨he, hw, hp rfl⟩
theorem RetN.split {p : Prop} {w : World} {e : Ending} {w' : World} (h : RetN p w e w') : (e = .returned (.bool false) ∧ Below w.heap.size w w') ∨ (e = .returned (.bool true) ∧ Below w.heap.size w w' ∧ p) := by
  obtain ⟨b, he, hp, hw⟩ := h
  cases b with
  | false => exact Or.inl ⟨he, hw⟩
  | true => exact Or.inr ⟨he, hw, hp rfl⟩

theorem IsI.like {s t : SL} {z : Nat → Int} (h : IsI s z) (hl : t.len = s.len) (hf : t.f = s.f) : IsI t z := by
  intro i hi
  rw [hf]
  exact h i (by omega)
theorem IsI.one {s : SL} {z : Nat → Int} (h : IsI s z) : ∀ i, i < s.len → (s.f i).oneCell' = true := fun i hi => by rw [(h i hi).1]; rfl

/-- What PodSizes wants, out of what the law has made. -/
theorem pre_of {w4 : World} {len gl c3 c4 : Nat} {a3 a4 : Option Addr} {R O : Nat → RowD} {C : Nat → Nat → Int} {G P : Nat → GroupD} {Q : Nat → Nat → Int} (hR : RowsIn w4 a3 len O) (hG : GroupsIn w4 a4 gl P)
    (like3 : ∀ i, i < len → Like (O i) (R i)) (like4 : ∀ i, i < gl → GLike (P i) (G i)) (l1 : len ≤ 1048576) (l2 : gl ≤ 1048576) (hC : ∀ i, i < len → IsI (R i).cap (C i)) (hQ : ∀ g, g < gl → IsI (G g).req (Q g))
    (f1 : ∀ i, i < len → RowFit (R i)) (f2 : ∀ i, i < gl → GrpFit (G i)) (dom : Dom len R C gl G Q) :
    PodPre (w4.alloc (.cells #[.slice a3 len c3, .slice a4 gl c4, .bool false] 34)) w4.heap.size a3 len c3 O C a4 gl c4 P Q := by
  have hb : Below w4.heap.size w4 (w4.alloc (.cells #[.slice a3 len c3, .slice a4 gl c4, .bool false] 34)) := (Below.refl _ _).alloc (Nat.le_refl _) _
  obtain ⟨d0, d1, d2⟩ := dom
  have e3 : ∀ i, i < len → (O i).cap.len = (R i).cap.len := fun i hi => (like3 i hi).2.2.2.1
  have e4 : ∀ i, i < gl → (P i).req.len = (G i).req.len := fun i hi => (like4 i hi).2.1
  exact {
    c0 := by simp [go_sem]
    c1 := by simp [go_sem]
    r := hR.on hb
    g := hG.on hb
    l1 := l1
    l2 := l2
    i1 := fun i hi => (hC i hi).like (e3 i hi) (like3 i hi).2.2.2.2.1
    i2 := fun i hi => (hQ i hi).like (e4 i hi) (like4 i hi).2.2.1
    f1 := fun i hi => by rw [e3 i hi]; exact (f1 i hi).1
    f2 := fun i hi => by rw [e4 i hi]; exact (f2 i hi).1
    d0 := d0
    d1 := fun i hi => by rw [e3 0 d0, e3 i hi]; exact d1 i hi
    d2 := fun g hg k hk hq => by rw [e4 g hg] at hk; rw [e3 0 d0]; exact d2 g hg k hk hq }

theorem Exact.next {q : Nat → Int} {k : Nat} (h : Exact q k) (hk : 0 < q k → q k < 4294967296) : Exact q (k + 1) := fun j hj => by
  by_cases e : j = k
  · subst e; exact hk
  · exact h j (by omega)

set_option maxRecDepth 100000 in
set_option maxHeartbeats 1000000 in
theorem law_walk (a : Option Addr) (len cap : Nat) (R : Nat → RowD) (C : Nat → Nat → Int) (ga : Option Addr) (gl gc : Nat) (G : Nat → GroupD) (Q : Nat → Nat → Int) (w : World) (hm : len ≤ maxLen) (hm2 : gl ≤ maxLen)
    (hR : RowsIn w a len R) (hG : GroupsIn w ga gl G) (hC : ∀ i, i < len → IsI (R i).cap (C i)) (hQ : ∀ g, g < gl → IsI (G g).req (Q g))
    (o1 : ∀ i, i < len → ∀ j, j < (R i).alc.len → ((R i).alc.f j).oneCell' = true) (o2 : ∀ i, i < gl → ∀ j, j < (G i).rows.len → ((G i).rows.f j).oneCell' = true) (o3 : ∀ i, i < gl → ∀ j, j < (G i).apart.len → ((G i).apart.f j).oneCell' = true)
    (hm3 : ∀ i, i < len → (R i).cap.len ≤ maxLen ∧ (R i).alc.len ≤ maxLen) (hm4 : ∀ i, i < gl → (G i).req.len ≤ maxLen ∧ (G i).rows.len ≤ maxLen ∧ (G i).apart.len ≤ maxLen) :
    Calls Try.prog 3 #[.slice a len cap, .slice ga gl gc] w fun e w' => e = .returned (.bool true) ∧ Below w.heap.size w w' := by
  go_enter Try.func3, Try.ntmps3
  go_wp2_with fail
  refine (zzPod_walk a len cap R ga gl gc G _ hm hm2 hR hG hm3 hm4).mono ?_
  intro e w' hz
  rcases hz.split with ⟨rfl, rfl⟩ | ⟨rfl, rfl, l1, l2, f1, f2⟩
  · go_wp2_with fail
    go_ret
    exact ⟨rfl, Below.refl _ _⟩
  clear hz hm hm2 hm3 hm4
  go_wp2_with fail
  refine (rowsBytes_walk a len cap R _ _ l1 hR).mono ?_; rintro e w' ⟨r0, rfl, rfl⟩
  go_wp2_with fail
  refine (groupsBytes_walk ga gl gc G _ _ l2 hG).mono ?_; rintro e w' ⟨r1, rfl, rfl⟩
  by_cases hr : 1048576 < r1
  · go_wp2_with fail
    go_ret
    exact ⟨rfl, Below.refl _ _⟩
  go_wp2_with fail
  refine (podIn_walk a len cap R C ga gl gc G Q _ l1 l2 hR hG hC hQ f1 f2).mono ?_
  intro e w1 hz
  rcases hz.split with ⟨rfl, hb1⟩ | ⟨rfl, hb1, dom⟩
  · go_wp2_with fail
    go_ret
    exact ⟨rfl, hb1⟩
  clear hz
  have DOM : Hid (Dom len R C gl G Q) := dom
  obtain ⟨d0, d1, d2⟩ := dom
  obtain h0' | ⟨b, off, rfl, hcell⟩ := hR
  · omega
  have hR1 : RowsIn w1 (some ⟨b, off, none⟩) len R := RowsIn.on (W := w) (Or.inr ⟨b, off, rfl, hcell⟩) hb1
  have hG1 := hG.on hb1
  go_wp2_with fail
  refine (roomsOf_walk b off len cap R C _ d0 l1 hR1 hC (f1 0 d0).1 d1).mono ?_
  rintro e w2 ⟨rfl, hrow, hb2⟩
  have hR2 := hR1.on hb2
  have hG2 := hG1.on hb2
  have hB2 := below_on hb1 hb2
  clear hR1 hG1 hb1 hb2 hcell
  go_wp2_with fail
  refine (toOptions_walk _ len cap R _ l1 hR2 (fun i hi => ⟨⟨(f1 i hi).1, (hC i hi).one⟩, (f1 i hi).2, o1 i hi⟩)).mono ?_
  rintro e w3 ⟨a3, c3, O, rfl, like3, hR3, hb3⟩
  have hG3 := hG2.on hb3
  have hrow3 := row_on hb3 hrow
  have hB3 := below_on hB2 hb3
  clear hR2 hG2 hB2 hrow hb3
  go_wp2_with fail
  refine (toGroups_walk _ gl gc G _ l2 hG3 (fun i hi => ⟨⟨(f2 i hi).1, (hQ i hi).one⟩, ⟨(f2 i hi).2.1, o2 i hi⟩, (f2 i hi).2.2, o3 i hi⟩)).mono ?_
  rintro e w4 ⟨a4, c4, P, rfl, like4, hG4, hb4⟩
  have hR4 := hR3.on hb4
  have hrow4 := row_on hb4 hrow3
  have hB4 := below_on hB3 hb4
  clear hG3 hR3 hB3 hrow3 hb4
  have PRE := pre_of (c3 := c3) (c4 := c4) hR4 hG4 like3 like4 l1 l2 hC hQ f1 f2 DOM.out
  have HGw : Hid (GroupsIn w ga gl G) := hG
  clear hR4 hG4 hG
  go_wp2_with fail
  refine (podSizes_walk _ _ _ _ _ _ _ _ _ _ _ _ PRE).mono ?_
  rintro e w6 ⟨SB, Sz, rfl, hsz, near, hb6⟩
  have hB6 : Below w.heap.size w w6 := below_call hb6 (by have := hB4.size; simp; omega) (hB4.alloc hB4.size _)
  have hG6 := HGw.out.on hB6
  have hrow6 : w6.rowIs w1.heap.size 2 (R 0).cap.len (fun k => .int .i64 (room C len k)) := row_on hb6 (hrow4.alloc _)
  have NEAR : Hid (∀ j, j < gl → Near (Q j) (room C len) (G j).req.len (Sz j)) := fun j hj => by have := near j hj; rwa [(like4 j hj).2.1] at this
  have HB6 : Hid (Below w.heap.size w w6) := hB6
  clear hb6 hrow4 PRE hB4 hB6 HGw near like3 like4
  generalize w1.heap.size = N1 at *
  have hne : ((gl : Int) != (gl : Int)) = false := by simp
  go_wp2_with fail
  go_loop [43] (fun t => ∃ g : Nat, g ≤ gl ∧ t = .int .i64 g) (fun t => gl - (intOf t).toNat)
  case atStart => exact ⟨0, Nat.zero_le _, rfl⟩
  case round =>
    obtain ⟨g, hgl, rfl⟩ := hrel
    by_cases hlg : g < gl
    · obtain h0' | ⟨gb, goff, rfl, hgcell⟩ := hG6
      · omega
      obtain ⟨q0, -, -, -, iq, -, -⟩ := hgcell g hlg
      have fq := (f2 g hlg).1
      have y1 := hsz.cell hlg
      have nr := NEAR.out g hlg
      have NR : Hid (Near (Q g) (room C len) (G g).req.len (Sz g)) := nr
      clear nr hgcell
      go_wp2_with fail
      go_loop [9, 10, 52] (fun e x t => ∃ (k : Nat) (bx : Bool), k ≤ (G g).req.len ∧ t = .int .i64 k ∧ e = .int .u64 (shareE (Q g) (room C len) k) ∧ x = .bool bx ∧ Hid (bx = true → Exact (Q g) k) ∧ 0 ≤ shareE (Q g) (room C len) k ∧ shareE (Q g) (room C len) k ≤ 1048576) (fun _ _ t => (G g).req.len - (intOf t).toNat)
      case atStart => exact ⟨0, true, Nat.zero_le _, rfl, rfl, rfl, fun _ j hj => absurd hj (by omega), Int.le_refl _, by show (0 : Int) ≤ _; omega⟩
      case round =>
        obtain ⟨k, bx, hk, rfl, rfl, rfl, HX, E0, E1⟩ := hrel
        by_cases hlk : k < (G g).req.len
        · obtain ⟨b2, off2, ha2, v2⟩ := iq.at (hQ g hlg) hlk
          obtain ⟨-, w1b, w2b⟩ := hQ g hlg k hlk
          rw [SL.val_of ha2]
          by_cases hp : 0 < Q g k
          · obtain ⟨kn, qr⟩ := d2 g hlg k hlk hp
            have x5 := hrow6.cell kn
            have rl := room_le C (k := k) len (fun i hi => (hC i hi k (Nat.lt_of_lt_of_le kn (d1 i hi))).2.2)
            obtain ⟨_, _, _, _, _, _, _, _, _, _, F0, F1⟩ := go_share hp qr rl
            by_cases c1 : shareE (Q g) (room C len) k < Q g k * 1048576 / room C len k
            · by_cases c2 : 4294967296 ≤ Q g k
              · have HE : Hid (shareE (Q g) (room C len) (k + 1) = Q g k * 1048576 / room C len k) := shareE_yes hp c1
                go_wp2_with fail
                refine (scaled_walk (Q g k) (room C len k) _ hp qr (by omega)).mono ?_; rintro e w' ⟨rfl, rfl⟩
                go_wp2_with fail
                go_round
                case rel => exact ⟨k + 1, false, by omega, by go_num, by rw [HE.out], rfl, fun h => absurd h (by decide), by rw [HE.out]; exact F0, by rw [HE.out]; exact F1⟩
                case measure => simp [intOf]; omega
              · have HE : Hid (shareE (Q g) (room C len) (k + 1) = Q g k * 1048576 / room C len k) := shareE_yes hp c1
                go_wp2_with fail
                refine (scaled_walk (Q g k) (room C len k) _ hp qr (by omega)).mono ?_; rintro e w' ⟨rfl, rfl⟩
                go_wp2_with fail
                go_round
                case rel => exact ⟨k + 1, bx, by omega, by go_num, by rw [HE.out], rfl, fun h => (HX.out h).next (fun _ => by omega), by rw [HE.out]; exact F0, by rw [HE.out]; exact F1⟩
                case measure => simp [intOf]; omega
            · by_cases c2 : 4294967296 ≤ Q g k
              · have HE : Hid (shareE (Q g) (room C len) (k + 1) = shareE (Q g) (room C len) k) := shareE_no hp c1
                go_wp2_with fail
                refine (scaled_walk (Q g k) (room C len k) _ hp qr (by omega)).mono ?_; rintro e w' ⟨rfl, rfl⟩
                go_wp2_with fail
                go_round
                case rel => exact ⟨k + 1, false, by omega, by go_num, by rw [HE.out], rfl, fun h => absurd h (by decide), by rw [HE.out]; exact E0, by rw [HE.out]; exact E1⟩
                case measure => simp [intOf]; omega
              · have HE : Hid (shareE (Q g) (room C len) (k + 1) = shareE (Q g) (room C len) k) := shareE_no hp c1
                go_wp2_with fail
                refine (scaled_walk (Q g k) (room C len k) _ hp qr (by omega)).mono ?_; rintro e w' ⟨rfl, rfl⟩
                go_wp2_with fail
                go_round
                case rel => exact ⟨k + 1, bx, by omega, by go_num, by rw [HE.out], rfl, fun h => (HX.out h).next (fun _ => by omega), by rw [HE.out]; exact E0, by rw [HE.out]; exact E1⟩
                case measure => simp [intOf]; omega
          · have HE : Hid (shareE (Q g) (room C len) (k + 1) = shareE (Q g) (room C len) k) := shareE_skip hp
            go_wp2_with fail
            go_round
            case rel => exact ⟨k + 1, bx, by omega, by go_num, by rw [HE.out], rfl, fun h => (HX.out h).next (fun h' => absurd h' (by omega)), by rw [HE.out]; exact E0, by rw [HE.out]; exact E1⟩
            case measure => simp [intOf]; omega
        · have e : k = (G g).req.len := by omega
          obtain ⟨n1, n2, n3, n4, n5, n6, n7⟩ := NR.out
          have HN7 : Hid (Exact (Q g) (G g).req.len → Sz g = shareE (Q g) (room C len) (G g).req.len) := n7
          rw [← e] at n3 n4 n5 n6
          have HE : Hid (k = (G g).req.len) := e
          clear e n7
          cases bx with
          | true =>
            have he : Sz g = shareE (Q g) (room C len) k := by rw [HE.out]; exact HN7.out (by have := HX.out rfl; rwa [HE.out] at this)
            have hne2 : (Sz g != shareE (Q g) (room C len) k) = false := by rw [he]; simp
            clear he
            go_wp2_with fail
            go_round
            case rel => exact ⟨g + 1, by omega, by go_num⟩
            case measure => simp [intOf]; omega
          | false =>
            go_wp2_with fail
            go_round
            case rel => exact ⟨g + 1, by omega, by go_num⟩
            case measure => simp [intOf]; omega
    · go_wp2_with fail
      go_ret
      exact ⟨rfl, HB6.out⟩
end Go.Proofs.Qxb6617961a
