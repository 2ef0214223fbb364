import Derived.Test.Qxb6617961aPart4
namespace Go.Proofs.Qxb6617961a
open Go.RowKit

/-- Two slices of ints (bools) that say the same. -/
def SameI (s t : SL) : Prop := s.len = t.len ∧ s.len ≤ 1048576 ∧ ∃ z, IsI s z ∧ IsI t z
def SameB (s t : SL) : Prop := s.len = t.len ∧ s.len ≤ 1048576 ∧ ∃ z, IsB s z ∧ IsB t z
def RowEq (o r : RowD) : Prop := o.price = r.price ∧ o.limit = r.limit ∧ o.ex = r.ex ∧ SameI o.cap r.cap ∧ SameI o.alc r.alc
def GrpEq (o r : GroupD) : Prop := o.count = r.count ∧ SameI o.req r.req ∧ SameB o.rows r.rows ∧ SameI o.apart r.apart

theorem eqI64_same (s t : SL) (w : World) (h : SameI s t) (hs : s.In w) (ht : t.In w) : Calls Try.prog 20 #[s.val, t.val] w fun e w' => Yes w e w' := by
  obtain ⟨hl, hb, z, h1, h2⟩ := h
  exact eqI64_yes s t z w hs ht h1 h2 hl hb
theorem eqInts_same (s t : SL) (w : World) (h : SameI s t) (hs : s.In w) (ht : t.In w) : Calls Try.prog 29 #[s.val, t.val] w fun e w' => Yes w e w' := by
  obtain ⟨hl, hb, z, h1, h2⟩ := h
  exact eqInts_yes s t z w hs ht h1 h2 hl hb
theorem eqBools_same (s t : SL) (w : World) (h : SameB s t) (hs : s.In w) (ht : t.In w) : Calls Try.prog 28 #[s.val, t.val] w fun e w' => Yes w e w' := by
  obtain ⟨hl, hb, z, h1, h2⟩ := h
  exact eqBools_yes s t z w hs ht h1 h2 hl hb

/-- A call that answers true and makes new memory alone. -/
def YesN (w : World) (e : Ending) (w' : World) : Prop := e = .returned (.bool true) ∧ Below w.heap.size w w'
abbrev RowD.agg (r : RowD) : Value := .agg #[.int .i64 r.price, r.cap.val, r.alc.val, .int .i64 r.limit, .bool r.ex]

theorem below_two (w : World) (X Y : Obj) : Below w.heap.size w ((w.alloc X).alloc Y) := ((Below.refl _ _).alloc (Nat.le_refl _) _).alloc (by simp) _

set_option maxRecDepth 100000 in
set_option maxHeartbeats 1000000 in
theorem optionIsRow_yes (o r : RowD) (w : World) (h : RowEq o r) (o1 : o.cap.In w) (o2 : o.alc.In w) (r1 : r.cap.In w) (r2 : r.alc.In w) :
    Calls Try.prog 19 #[o.agg, r.agg] w fun e w' => YesN w e w' := by
  obtain ⟨pr, oc, oa, li, ex⟩ := o
  obtain ⟨pr', rc, ra, li', ex'⟩ := r
  obtain ⟨p1, p2, p3, h1, h2⟩ := h
  simp only at p1 p2 p3 h1 h2 o1 o2 r1 r2
  subst p1 p2 p3
  have hB := below_two w (.cells #[.int .i64 pr, oc.val, oa.val, .int .i64 li, .bool ex] 51) (.cells #[.int .i64 pr, rc.val, ra.val, .int .i64 li, .bool ex] 52)
  have HB : Hid (Below w.heap.size w ((w.alloc (.cells #[.int .i64 pr, oc.val, oa.val, .int .i64 li, .bool ex] 51)).alloc (.cells #[.int .i64 pr, rc.val, ra.val, .int .i64 li, .bool ex] 52))) := hB
  have i1 := o1.on hB
  have i2 := o2.on hB
  have i3 := r1.on hB
  have i4 := r2.on hB
  clear hB o1 o2 r1 r2
  go_enter Try.func19, Try.ntmps19
  go_wp2_with fail
  refine (eqI64_same oc rc _ h1 i1 i3).mono ?_; rintro e w' ⟨rfl, m, rfl⟩
  go_wp2_with fail
  refine (eqI64_same oa ra _ h2 (i2.on (below_drewN (Below.refl _ _) _)) (i4.on (below_drewN (Below.refl _ _) _))).mono ?_; rintro e w' ⟨rfl, m2, rfl⟩
  go_wp2_with fail
  go_ret
  exact ⟨by simp, below_drewN HB.out _⟩

/-- The cells of a Problem. -/
abbrev prob (a : Option Addr) (n c : Nat) (ga : Option Addr) (gn gc : Nat) (bd : Bool) : Value := .agg #[.slice a n c, .slice ga gn gc, .bool bd]

set_option maxRecDepth 100000 in
set_option maxHeartbeats 2000000 in
theorem problemsAgree_yes (a a' : Option Addr) (n c c' : Nat) (O O' : Nat → RowD) (ga ga' : Option Addr) (gn gc gc' : Nat) (D D' : Nat → GroupD) (bd : Bool) (w : World)
    (hn : n ≤ 1048576) (hgn : gn ≤ 1048576) (hO : RowsIn w a n O) (hO' : RowsIn w a' n O') (hD : GroupsIn w ga gn D) (hD' : GroupsIn w ga' gn D')
    (eO : ∀ i, i < n → RowEq (O i) (O' i)) (eD : ∀ i, i < gn → GrpEq (D i) (D' i)) :
    Calls Try.prog 21 #[prob a n c ga gn gc bd, prob a' n c' ga' gn gc' bd] w fun e w' => YesN w e w' := by
  have hB := below_two w (.cells #[.slice a n c, .slice ga gn gc, .bool bd] 34) (.cells #[.slice a' n c', .slice ga' gn gc', .bool bd] 34)
  obtain ⟨W, hW⟩ : ∃ W, W = (w.alloc (.cells #[.slice a n c, .slice ga gn gc, .bool bd] 34)).alloc (.cells #[.slice a' n c', .slice ga' gn gc', .bool bd] 34) := ⟨_, rfl⟩
  have CA0 : W.cell? ⟨w.heap.size, 0, none⟩ = some (.slice a n c) := by rw [hW]; simp
  have CA1 : W.cell? ⟨w.heap.size, 1, none⟩ = some (.slice ga gn gc) := by rw [hW]; simp
  have CB0 : W.cell? ⟨w.heap.size + 1, 0, none⟩ = some (.slice a' n c') := by rw [hW]; simp
  have CB1 : W.cell? ⟨w.heap.size + 1, 1, none⟩ = some (.slice ga' gn gc') := by rw [hW]; simp
  rw [← hW] at hB
  have HB : Hid (Below w.heap.size w W) := hB
  replace hO := hO.on hB
  replace hO' := hO'.on hB
  replace hD := hD.on hB
  replace hD' := hD'.on hB
  clear hB
  go_enter Try.func21, Try.ntmps21
  go_wp2_with fail
  rw [← hW]
  clear hW
  go_loopw [37] (fun t wr => ∃ k : Nat, k ≤ n ∧ t = .int .i64 k ∧ Below W.heap.size W wr) (fun t _ => n - (intOf t).toNat)
  case atStart => exact ⟨0, Nat.zero_le _, rfl, Below.refl _ _⟩
  case round =>
    obtain ⟨k, hk, rfl, hB⟩ := hrel
    have ca0 := cell_on hB CA0
    have cb0 := cell_on hB CB0
    have ca1 := cell_on hB CA1
    have cb1 := cell_on hB CB1
    by_cases hlt : k < n
    · obtain h0 | ⟨b, off, rfl, hc⟩ := hO.on hB
      · omega
      obtain h0 | ⟨b', off', rfl, hc'⟩ := hO'.on hB
      · omega
      obtain ⟨d0, d1, d2, d3, d4, s1, s2⟩ := hc k hlt
      obtain ⟨d0', d1', d2', d3', d4', s1', s2'⟩ := hc' k hlt
      obtain ⟨p1, p2, p3, h1, h2⟩ := eO k hlt
      rw [p1] at d0
      rw [p2] at d3
      rw [p3] at d4
      have hX : Below wr.heap.size wr (wr.alloc (.cells #[.int .i64 (O' k).price, .slice (O k).cap.a (O k).cap.len (O k).cap.cap, .slice (O k).alc.a (O k).alc.len (O k).alc.cap, .int .i64 (O' k).limit, .bool (O' k).ex] 51)) := (Below.refl _ _).alloc (Nat.le_refl _) _
      have cb0 := cell_on hX cb0
      have d0' := cell_on hX d0'
      have d1' := cell_on hX d1'
      have d2' := cell_on hX d2'
      have d3' := cell_on hX d3'
      have d4' := cell_on hX d4'
      have hXY := below_two wr (.cells #[.int .i64 (O' k).price, .slice (O k).cap.a (O k).cap.len (O k).cap.cap, .slice (O k).alc.a (O k).alc.len (O k).alc.cap, .int .i64 (O' k).limit, .bool (O' k).ex] 51) (.cells #[.int .i64 (O' k).price, .slice (O' k).cap.a (O' k).cap.len (O' k).cap.cap, .slice (O' k).alc.a (O' k).alc.len (O' k).alc.cap, .int .i64 (O' k).limit, .bool (O' k).ex] 51)
      have HXY : Hid (Below wr.heap.size wr ((wr.alloc (.cells #[.int .i64 (O' k).price, .slice (O k).cap.a (O k).cap.len (O k).cap.cap, .slice (O k).alc.a (O k).alc.len (O k).alc.cap, .int .i64 (O' k).limit, .bool (O' k).ex] 51)).alloc (.cells #[.int .i64 (O' k).price, .slice (O' k).cap.a (O' k).cap.len (O' k).cap.cap, .slice (O' k).alc.a (O' k).alc.len (O' k).alc.cap, .int .i64 (O' k).limit, .bool (O' k).ex] 51))) := hXY
      have s1 := s1.on hXY
      have s2 := s2.on hXY
      have s1' := s1'.on hXY
      have s2' := s2'.on hXY
      clear p1 p2 p3 hc hc' hD hD' eO eD hX hXY ca1 cb1
      go_wp2_with fail
      refine (eqI64_same _ _ _ h1 s1 s1').mono ?_; rintro e w' ⟨rfl, m, rfl⟩
      go_wp2_with fail
      refine (eqI64_same _ _ _ h2 (s2.on (below_drewN (Below.refl _ _) _)) (s2'.on (below_drewN (Below.refl _ _) _))).mono ?_; rintro e w' ⟨rfl, m2, rfl⟩
      go_wp2_with fail
      go_roundw
      case rel => exact ⟨k + 1, by omega, by go_num, below_drewN (below_on hB HXY.out) _⟩
      case measure => simp [intOf]; omega
    · clear hO hO' eO
      go_wp2_with fail
      clear ca0 cb0 ca1 cb1 hlt hk
      go_loopw [89] (fun t wr => ∃ k : Nat, k ≤ gn ∧ t = .int .i64 k ∧ Below W.heap.size W wr) (fun t _ => gn - (intOf t).toNat)
      case atStart => exact ⟨0, Nat.zero_le _, rfl, hB⟩
      case round =>
        clear hB
        obtain ⟨k, hk, rfl, hB⟩ := hrel
        have ca1 := cell_on hB CA1
        have cb1 := cell_on hB CB1
        by_cases hlt : k < gn
        · obtain h0 | ⟨b, off, rfl, hc⟩ := hD.on hB
          · omega
          obtain h0 | ⟨b', off', rfl, hc'⟩ := hD'.on hB
          · omega
          obtain ⟨d0, d1, d2, d3, s1, s2, s3⟩ := hc k hlt
          obtain ⟨d0', d1', d2', d3', s1', s2', s3'⟩ := hc' k hlt
          obtain ⟨p1, h1, h2, h3⟩ := eD k hlt
          rw [p1] at d1
          have hX : Below wr.heap.size wr (wr.alloc (.cells #[.slice (D k).req.a (D k).req.len (D k).req.cap, .int .i64 (D' k).count, .slice (D k).rows.a (D k).rows.len (D k).rows.cap, .slice (D k).apart.a (D k).apart.len (D k).apart.cap] 53)) := (Below.refl _ _).alloc (Nat.le_refl _) _
          have cb1 := cell_on hX cb1
          have d0' := cell_on hX d0'
          have d1' := cell_on hX d1'
          have d2' := cell_on hX d2'
          have d3' := cell_on hX d3'
          have hXY := below_two wr (.cells #[.slice (D k).req.a (D k).req.len (D k).req.cap, .int .i64 (D' k).count, .slice (D k).rows.a (D k).rows.len (D k).rows.cap, .slice (D k).apart.a (D k).apart.len (D k).apart.cap] 53) (.cells #[.slice (D' k).req.a (D' k).req.len (D' k).req.cap, .int .i64 (D' k).count, .slice (D' k).rows.a (D' k).rows.len (D' k).rows.cap, .slice (D' k).apart.a (D' k).apart.len (D' k).apart.cap] 53)
          have HXY : Hid (Below wr.heap.size wr ((wr.alloc (.cells #[.slice (D k).req.a (D k).req.len (D k).req.cap, .int .i64 (D' k).count, .slice (D k).rows.a (D k).rows.len (D k).rows.cap, .slice (D k).apart.a (D k).apart.len (D k).apart.cap] 53)).alloc (.cells #[.slice (D' k).req.a (D' k).req.len (D' k).req.cap, .int .i64 (D' k).count, .slice (D' k).rows.a (D' k).rows.len (D' k).rows.cap, .slice (D' k).apart.a (D' k).apart.len (D' k).apart.cap] 53))) := hXY
          have s1 := s1.on hXY
          have s2 := s2.on hXY
          have s3 := s3.on hXY
          have s1' := s1'.on hXY
          have s2' := s2'.on hXY
          have s3' := s3'.on hXY
          clear p1 hc hc' eD hX hXY
          go_wp2_with fail
          refine (eqI64_same _ _ _ h1 s1 s1').mono ?_; rintro e w' ⟨rfl, m, rfl⟩
          go_wp2_with fail
          refine (eqBools_same _ _ _ h2 (s2.on (below_drewN (Below.refl _ _) _)) (s2'.on (below_drewN (Below.refl _ _) _))).mono ?_; rintro e w' ⟨rfl, m2, rfl⟩
          go_wp2_with fail
          refine (eqInts_same _ _ _ h3 (s3.on (below_drewN (Below.refl _ _) _)) (s3'.on (below_drewN (Below.refl _ _) _))).mono ?_; rintro e w' ⟨rfl, m3, rfl⟩
          go_wp2_with fail
          go_roundw
          case rel => exact ⟨k + 1, by omega, by go_num, below_drewN (below_on hB HXY.out) _⟩
          case measure => simp [intOf]; omega
        · go_wp2_with fail
          go_ret
          exact ⟨rfl, below_on HB.out hB⟩
end Go.Proofs.Qxb6617961a
