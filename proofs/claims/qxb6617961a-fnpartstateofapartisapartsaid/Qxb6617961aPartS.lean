import Derived.Test.Qxb6617961aStateW
import Derived.Test.Qxb6617961aPlainP
namespace Go.Proofs.Qxb6617961a
open Go.RowKit

/-- What stands in a world that is the state's but for a Problem's block. -/
theorem st3_off {w0 wr w2 : World} {rb : Nat} {fb : Nat → Value} {gs rs : SL} {gz rz : Nat → Int} {ra : Option Addr} {rl : Nat} {O : Nat → RowD} {ga : Option Addr} {gl : Nat} {D D' : Nat → GroupD} {az : Nat → Nat → Int} {bz : Nat → Nat → Bool} {a0 a1 : Option Addr} {c0 c1 : Nat}
    (hown : wr.ownsRow w0.heap.size 51 5 (.slice a0 rs.len c0) rs.len (rowsL O rz rs.len)) (hgv : wr.ownsRow w0.heap.size 53 4 (.slice a1 gs.len c1) gs.len (grpsL D' gs.len)) (hGO : ∀ i, i < gs.len → GOk w0 gs.len rs.len gz rz D az bz (gz i).toNat (D' i) wr)
    (hrb : wr.rowIs rb 34 3 fb) (off : ∀ b, b ≠ rb → w2.heap[b]? = wr.heap[b]?) (hR : RowsIn w2 ra rl O) (hG : GroupsIn w2 ga gl D) (gle : gs.len ≤ 1048576)
    (rdom : ∀ j, j < rs.len → 0 ≤ rz j ∧ rz j < rl) (gdom : ∀ i, i < gs.len → 0 ≤ gz i ∧ gz i < gl) :
    RowsIn w2 a0 rs.len (fun j => O (rz j).toNat) ∧ GroupsIn w2 a1 gs.len D' ∧ PartG gs.len rs.len gz rz D az bz D' := by
  have away : ∀ {e : TypeId} {size : Nat} {v : Value} {n : Nat} {xs : List Value}, wr.ownsRow w0.heap.size e size v n xs → e ≠ 34 → w2.ownsRow w0.heap.size e size v n xs := fun h he =>
    own_on h fun b hb => off b fun e => own_ne h hrb he (e ▸ hb)
  replace hown := away hown (by decide)
  replace hgv := away hgv (by decide)
  refine ⟨?_, ?_, fun i hi => ?_⟩
  · by_cases h0 : rs.len = 0
    · exact Or.inl h0
    obtain ⟨b, rfl⟩ := own_addr hown (by omega)
    refine Or.inr ⟨b, 0, rfl, fun k hk => ?_⟩
    have at' : ∀ i, i < 5 → ∀ u, (rowL (O (rz k).toNat))[i]? = some u → w2.cell? ⟨b, k * 5 + i, none⟩ = some u := fun i hi u hu => (own_cell hown (by rw [rowsL_at O rz hk hi]; exact hu)).1
    obtain ⟨z0, z1⟩ := rdom k hk
    obtain h0 | ⟨ob, oo, rfl, hrc⟩ := hR
    · omega
    obtain ⟨-, -, -, -, -, s1, s2⟩ := hrc (rz k).toNat (by omega)
    have e0 : (0 : Nat) + k * 5 = k * 5 + 0 := by omega
    have e1 : (0 : Nat) + k * 5 + 1 = k * 5 + 1 := by omega
    have e2 : (0 : Nat) + k * 5 + 2 = k * 5 + 2 := by omega
    have e3 : (0 : Nat) + k * 5 + 3 = k * 5 + 3 := by omega
    have e4 : (0 : Nat) + k * 5 + 4 = k * 5 + 4 := by omega
    rw [e1, e2, e3, e4, e0]
    exact ⟨at' 0 (by omega) _ rfl, at' 1 (by omega) _ rfl, at' 2 (by omega) _ rfl, at' 3 (by omega) _ rfl, at' 4 (by omega) _ rfl, s1, s2⟩
  · by_cases h0 : gs.len = 0
    · exact Or.inl h0
    obtain ⟨b, rfl⟩ := own_addr hgv (by omega)
    refine Or.inr ⟨b, 0, rfl, fun k hk => ?_⟩
    have at' : ∀ i, i < 4 → ∀ u, (grpL (D' k))[i]? = some u → w2.cell? ⟨b, k * 4 + i, none⟩ = some u := fun i hi u hu => (own_cell hgv (by rw [grpsL_at D' hk hi]; exact hu)).1
    obtain ⟨z0, z1⟩ := gdom k hk
    obtain h0 | ⟨ob, oo, rfl, hgc⟩ := hG
    · omega
    obtain ⟨-, -, -, -, s1, -⟩ := hgc (gz k).toNat (by omega)
    obtain ⟨g1, g2, ⟨nb', g3, g4⟩, a', c', g5, g6⟩ := hGO k hk
    replace g4 := g4.of_block (off nb' (rows_tag g4 hrb (by decide)))
    replace g6 := away g6 (by decide)
    have e0 : (0 : Nat) + k * 4 = k * 4 + 0 := by omega
    have e1 : (0 : Nat) + k * 4 + 1 = k * 4 + 1 := by omega
    have e2 : (0 : Nat) + k * 4 + 2 = k * 4 + 2 := by omega
    have e3 : (0 : Nat) + k * 4 + 3 = k * 4 + 3 := by omega
    rw [e1, e2, e3, e0]
    refine ⟨at' 0 (by omega) _ rfl, at' 1 (by omega) _ rfl, at' 2 (by omega) _ rfl, at' 3 (by omega) _ rfl, ?_, ?_, ?_⟩
    · rw [g1]; exact s1
    · rw [g3]
      exact Or.inr ⟨nb', 0, rfl, fun i hi => by rw [Nat.zero_add]; exact g4.cell hi⟩
    · rw [g5]
      by_cases hz : (aps gz gs.len (az (gz k).toNat) (D (gz k).toNat).apart.len).length = 0
      · exact Or.inl hz
      obtain ⟨b2, rfl⟩ := own_addr g6 (by omega)
      refine Or.inr ⟨b2, 0, rfl, fun i hi => ?_⟩
      rw [Nat.zero_add]
      refine (own_cell g6 ?_).1
      have hi' : i < (aps gz gs.len (az (gz k).toNat) (D (gz k).toNat).apart.len).length := hi
      show _ = some (Value.int .i64 (((aps gz gs.len (az (gz k).toNat) (D (gz k).toNat).apart.len)[i]?.getD 0 : Nat) : Int))
      rw [List.getElem?_map, List.getElem?_eq_getElem hi']
      rfl
  · obtain ⟨g1, g2, ⟨nb', g3, g4⟩, a', c', g5, g6⟩ := hGO i hi
    refine ⟨g1, g2, by rw [g3], by rw [g3]; exact fun _ _ => rfl, by rw [g5], ?_⟩
    rw [g5]
    intro j hj
    have := aps_get_lt (show j < (aps gz gs.len (az (gz i).toNat) (D (gz i).toNat).apart.len).length from hj)
    refine ⟨rfl, ?_, ?_⟩
    · show (-9223372036854775808 : Int) ≤ (((aps gz gs.len (az (gz i).toNat) (D (gz i).toNat).apart.len)[j]?.getD 0 : Nat) : Int)
      omega
    · show (((aps gz gs.len (az (gz i).toNat) (D (gz i).toNat).apart.len)[j]?.getD 0 : Nat) : Int) ≤ (9223372036854775807 : Int)
      omega

theorem StIn.on {W W' : World} {pb : Nat} {gs rs : SL} {gz rz : Nat → Int} {ra : Option Addr} {rl rc : Nat} {O : Nat → RowD} {ga : Option Addr} {gl gc : Nat} {D : Nat → GroupD} {az : Nat → Nat → Int} {bz : Nat → Nat → Bool} {bd : Bool}
    (S : StIn W pb gs rs gz rz ra rl rc O ga gl gc D az bz bd) (hb : Below W.heap.size W W') : StIn W' pb gs rs gz rz ra rl rc O ga gl gc D az bz bd :=
  { S with p0 := cell_on hb S.p0, p1 := cell_on hb S.p1, p2 := cell_on hb S.p2, gin := S.gin.on hb, rin := S.rin.on hb, rows := S.rows.on hb, grps := S.grps.on hb }

/-- What ZZPartState answers. -/
def PartRes (gs rs : SL) (gz rz : Nat → Int) (O : Nat → RowD) (D : Nat → GroupD) (az : Nat → Nat → Int) (bz : Nat → Nat → Bool) (bd : Bool) (w : World) (e : Ending) (w' : World) : Prop :=
  ∃ ra rc ga gc D', e = .returned (prob ra rs.len rc ga gs.len gc bd) ∧ Below w.heap.size w w' ∧ RowsIn w' ra rs.len (fun j => O (rz j).toNat) ∧ GroupsIn w' ga gs.len D' ∧ PartG gs.len rs.len gz rz D az bz D'

/-- The cells of an empty Problem. -/
def zeroF : Nat → Value := fun i => if i = 0 then .slice none 0 0 else if i = 1 then .slice none 0 0 else .bool false

set_option maxRecDepth 100000 in
set_option maxHeartbeats 1000000 in
theorem partState_walk (w : World) (pb : Nat) (gs rs : SL) (gz rz : Nat → Int) (ra : Option Addr) (rl rc : Nat) (O : Nat → RowD) (ga : Option Addr) (gl gc : Nat) (D : Nat → GroupD) (az : Nat → Nat → Int) (bz : Nat → Nat → Bool) (bd : Bool)
    (S : StIn w pb gs rs gz rz ra rl rc O ga gl gc D az bz bd) :
    Calls Try.prog 17 #[.agg #[.slice none 0 0, .slice none 0 0, .bool false], gs.val, rs.val, .pointer (some ⟨pb, 0, none⟩)] w fun e w' => PartRes gs rs gz rz O D az bz bd w e w' := by
  have hw2 := below_two w (.cells #[.slice none 0 0, .slice none 0 0, .bool false] 34) (.cells #[.slice none 0 0, .slice none 0 0, .bool false] 34)
  have hr2 : ((w.alloc (.cells #[.slice none 0 0, .slice none 0 0, .bool false] 34)).alloc (.cells #[.slice none 0 0, .slice none 0 0, .bool false] 34)).rowIs (w.heap.size + 1) 34 3 zeroF := by
    have := World.rowIs_alloc (w.alloc (.cells #[.slice none 0 0, .slice none 0 0, .bool false] 34)) #[.slice none 0 0, .slice none 0 0, .bool false] 34 zeroF (fun i hi => by
      have hi : i < 3 := hi
      match i, hi with
      | 0, _ => rfl
      | 1, _ => rfl
      | 2, _ => rfl)
    have hs : (w.alloc (.cells #[.slice none 0 0, .slice none 0 0, .bool false] 34)).heap.size = w.heap.size + 1 := by simp
    rw [hs] at this
    exact this
  have hsz : ((w.alloc (.cells #[.slice none 0 0, .slice none 0 0, .bool false] 34)).alloc (.cells #[.slice none 0 0, .slice none 0 0, .bool false] 34)).heap.size = w.heap.size + 1 + 1 := by simp
  go_enter Try.func17, Try.ntmps17
  go_wp2_with fail
  generalize (w.alloc (.cells #[.slice none 0 0, .slice none 0 0, .bool false] 34)).alloc (.cells #[.slice none 0 0, .slice none 0 0, .bool false] 34) = w2 at *
  have hq3 : (w2.alloc (.cells #[.slice none 0 0, .slice none 0 0, .bool false, gs.val, rs.val] 66)).rowIs (w.heap.size + 1 + 1) 66 5 (stF (.slice none 0 0) (.slice none 0 0) false gs.val rs.val) := by
    have := World.rowIs_alloc w2 #[.slice none 0 0, .slice none 0 0, .bool false, gs.val, rs.val] 66 (stF (.slice none 0 0) (.slice none 0 0) false gs.val rs.val) (fun i hi => by
      have hi : i < 5 := hi
      match i, hi with
      | 0, _ => rfl
      | 1, _ => rfl
      | 2, _ => rfl
      | 3, _ => rfl
      | 4, _ => rfl)
    rw [hsz] at this
    exact this
  refine (state_walk w2 _ (w.heap.size + 1 + 1) pb gs rs gz rz ra rl rc O ga gl gc D az bz bd (S.on hw2) ((Below.refl _ _).alloc (Nat.le_refl _) _) (by omega) hq3).mono ?_
  rintro e w' ⟨rfl, mb, hB, hM, rv, gv, D', hq, hown, hgv, hGO⟩
  obtain ⟨a0, c0, rfl⟩ := own_form hown
  obtain ⟨a1, c1, rfl⟩ := own_form hgv
  have hrb := row_on hB hr2
  have hBw := below_on hw2 hB
  have q0 : w'.cell? ⟨w.heap.size + 1 + 1, 0, none⟩ = some (.slice a0 rs.len c0) := hq.cell (i := 0) (by omega)
  have q1 : w'.cell? ⟨w.heap.size + 1 + 1, 1, none⟩ = some (.slice a1 gs.len c1) := hq.cell (i := 1) (by omega)
  have q2 : w'.cell? ⟨w.heap.size + 1 + 1, 2, none⟩ = some (.bool bd) := hq.cell (i := 2) (by omega)
  have HB : Hid (Below w.heap.size w w') := hBw
  have Hown : Hid (w'.ownsRow w2.heap.size 51 5 (.slice a0 rs.len c0) rs.len (rowsL O rz rs.len)) := hown
  have Hgv : Hid (w'.ownsRow w2.heap.size 53 4 (.slice a1 gs.len c1) gs.len (grpsL D' gs.len)) := hgv
  have HGO : Hid (∀ i, i < gs.len → GOk w2 gs.len rs.len gz rz D az bz (gz i).toNat (D' i) w') := hGO
  have b0 := hrb.cell (i := 0) (by omega)
  have b1 := hrb.cell (i := 1) (by omega)
  have b2 := hrb.cell (i := 2) (by omega)
  have f0 := hrb.frozen 0
  have f1 := hrb.frozen 1
  have f2 := hrb.frozen 2
  have HRB : Hid (w'.rowIs (w.heap.size + 1) 34 3 zeroF) := hrb
  clear hB hM hq hown hgv hGO hq3 hBw hrb hw2 hr2 hsz
  go_wp2_with fail
  have h3 := ((HRB.out.set 0 (.slice a0 rs.len c0)).set 1 (.slice a1 gs.len c1)).set 2 (.bool bd)
  have off : ∀ b, b ≠ w.heap.size + 1 → (((w'.setCell ⟨w.heap.size + 1, 0, none⟩ (.slice a0 rs.len c0)).setCell ⟨w.heap.size + 1, 1, none⟩ (.slice a1 gs.len c1)).setCell ⟨w.heap.size + 1, 2, none⟩ (.bool bd)).heap[b]? = w'.heap[b]? := fun b hb =>
    (Below.heap_setCell _ _ _ _ hb).trans ((Below.heap_setCell _ _ _ _ hb).trans (Below.heap_setCell _ _ _ _ hb))
  have bel : Below w.heap.size w (((w'.setCell ⟨w.heap.size + 1, 0, none⟩ (.slice a0 rs.len c0)).setCell ⟨w.heap.size + 1, 1, none⟩ (.slice a1 gs.len c1)).setCell ⟨w.heap.size + 1, 2, none⟩ (.bool bd)) := ((HB.out.setCell (Nat.le_succ _) _).setCell (Nat.le_succ _) _).setCell (Nat.le_succ _) _
  have e0 := h3.cell (i := 0) (by omega)
  have e1 := h3.cell (i := 1) (by omega)
  have e2 := h3.cell (i := 2) (by omega)
  simp only [show (0 : Nat) ≠ 2 by omega, show (1 : Nat) ≠ 2 by omega, show (0 : Nat) ≠ 1 by omega, if_true, if_false] at e0 e1 e2
  obtain ⟨hR, hG, hP⟩ := st3_off Hown.out Hgv.out HGO.out HRB.out off (S.rows.on bel) (S.grps.on bel) S.gle S.rdom S.gdom
  exact bodyPost_ret (v := prob a0 rs.len c0 a1 gs.len c1 bd) (by simp [results, Try.results17, go_sem, e0, e1, e2]) rfl ⟨a0, c0, a1, c1, D', rfl, bel, hR, hG, hP⟩
end Go.Proofs.Qxb6617961a
