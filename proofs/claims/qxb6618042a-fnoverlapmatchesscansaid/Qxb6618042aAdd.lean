import Derived.Test.Qxb6618042aOvl
namespace Go.Proofs.Qxb6618042a
open Go.RowKit

theorem putMap_drew (w : World) (m : Nat) (c : UInt8) (b : Nat) : putMap w.drew m c b = (putMap w m c b).drew := by
  unfold putMap
  have h : w.drew.heap = w.heap := rfl
  rw [h]
  split <;> rfl

def AddRes (B tb : Nat) (E : List (Path × Int)) (q : Path) (x : Int) (w : World) (e : Ending) (w' : World) : Prop :=
  e = .returned (.tuple #[]) ∧ TreeOf B tb w' (E ++ [(q, x)]) ∧ Below B w w'

/-- What the loop of Add holds. -/
def AddInv (B tb : Nat) (E : List (Path × Int)) (q : Path) (x : Int) (w wr : World) (b : Nat) : Prop :=
  (∃ nd mp, TreeG B tb wr (E ++ [(q, x)]) E nd mp ∧ nd q = some b) ∧ Below B w wr

set_option maxRecDepth 100000 in
set_option maxHeartbeats 1000000 in
theorem add_walk (B tb : Nat) (E : List (Path × Int)) (s : ByteArray) (x : Int) (w : World) (hs : s.size ≤ 4194304) (hBw : B ≤ w.heap.size) (hT : TreeOf B tb w E) :
    Calls Try.prog 7 #[.pointer (some ⟨tb, 0, none⟩), .string s, .int .i64 x] w fun e w' => AddRes B tb E (pathOf s) x w e w' := by
  have hmm := @run_makeMap Try.prog
  have heq := fun (w : World) (r : Option Nat) => run_eql_map_nil w _ _ _ r Try.underlying36
  obtain ⟨nd, mp, hG⟩ := hT
  have c0 := hG.root.cell (i := 0) (by omega)
  have f0 := hG.root.frozen 0
  go_enter Try.func7, Try.ntmps7
  cases hn : nd [] with
  | none =>
    rw [hn] at c0
    have hA := hG.root.alloc (.cells #[.int .i64 x, .bool false, .map none] 38)
    have c1 := hA.cell (i := 0) (by omega)
    have f1 := hA.frozen 0
    have hA2 := hA.set 0 (pOf w.heap.size)
    have c2 := hA2.cell (i := 0) (by omega)
    rw [if_pos rfl] at c2
    have hI : AddInv B tb E ((pathOf s).take 0) x w ((w.alloc (.cells #[.int .i64 x, .bool false, .map none] 38)).setCell ⟨tb, 0, none⟩ (pOf w.heap.size)) w.heap.size :=
      ⟨⟨_, _, hG.start_none hn x hBw, by simp⟩, ((Below.refl _ _).alloc hBw _).setCell hG.btb _⟩
    clear hA hA2
    go_wp2_with fail
    go_loopw [6, 26] (fun n i wr => ∃ (k b : Nat), k ≤ s.size ∧ i = .int .i64 k ∧ n = pOf b ∧ AddInv B tb E ((pathOf s).take k) x w wr b) (fun _ i _ => s.size - (intOf i).toNat)
    case atStart => exact ⟨0, _, Nat.zero_le _, rfl, rfl, hI⟩
    case round =>
      clear hI c0 f0 hG
      obtain ⟨k, b, hk, rfl, rfl, hI⟩ := hrel
      obtain ⟨⟨nd, mp, hG, hb⟩, hB⟩ := hI
      obtain ⟨hBb, hrow⟩ := hG.node _ b hb
      by_cases hlt : k < s.size
      · have d2 : wr.cell? ⟨b, 2, none⟩ = some (.map (mp ((pathOf s).take k))) := hrow.cell (i := 2) (by omega)
        have hl : ∀ n, (Instr.lookup 36 (.map (mp ((pathOf s).take k))) (.int .u8 (s[k].toNat : Int)) false).run Try.prog (wr.drewN n) = .ok (.pointer ((nd ((pathOf s).take (k + 1))).map fun b => ⟨b, 0, none⟩)) (wr.drewN n) := fun n => by
          rw [← path_snoc s hlt]
          cases hm : mp ((pathOf s).take k) with
          | none => rw [hG.bare _ b hb hm]; exact run_look_nil _ s[k]
          | some m => exact run_look (w := wr.drewN n) ((hG.map _ b m hb hm).2.of_block rfl) s[k]
        cases hn : nd ((pathOf s).take (k + 1)) with
        | some b2 =>
          rw [hn] at hl
          generalize hmk : mp ((pathOf s).take k) = mk at hl d2
          go_wp2_with fail
          go_quiet (fail)
          go_wp2_with fail
          go_roundw
          case rel => exact ⟨k + 1, b2, by omega, by go_num, rfl, ⟨nd, mp, by
            rw [← path_snoc s hlt] at hn ⊢
            exact (hG.on (w' := wr.drewN nq) fun _ _ => rfl).step_some hn, hn⟩, below_drewN hB _⟩
          case measure => simp [intOf]; omega
        | none =>
          rw [hn] at hl
          cases hm : mp ((pathOf s).take k) with
          | some m =>
            rw [hm] at hl d2
            go_wp2_with fail
            go_quiet (fail)
            obtain ⟨wq, hwq⟩ : ∃ wq, wq = wr.drewN nq := ⟨_, rfl⟩
            rw [← hwq]
            have hGq : TreeG B tb wq (E ++ [((pathOf s).take k, x)]) E nd mp := by rw [hwq]; exact hG.on (w' := wr.drewN nq) fun _ _ => rfl
            have hBq : Below B w wq := by rw [hwq]; exact below_drewN hB _
            have d3 : wq.cell? ⟨b, 2, none⟩ = some (.map (some m)) := by rw [hwq]; exact d2
            have hrow3 := (hGq.node _ b hb).2.alloc (.cells #[.int .i64 x, .bool false, .map none] 38)
            have d4 : (wq.alloc (.cells #[.int .i64 x, .bool false, .map none] 38)).cell? ⟨b, 2, none⟩ = some (.map (mp ((pathOf s).take k))) := hrow3.cell (i := 2) (by omega)
            rw [hm] at d4
            have hM := (hGq.map _ b m hb hm).2
            have hM2 : MapIs (wq.alloc (.cells #[.int .i64 x, .bool false, .map none] 38)) m (fun c => nd ((pathOf s).take k ++ [c])) := hM.of_block (Below.heap_alloc _ _ _ hM.lt)
            have hnn : nd ((pathOf s).take k ++ [s[k]]) = none := by rw [path_snoc]; exact hn
            have hu : (Instr.mapUpdate 36 (.map (some m)) (.int .u8 (s[k].toNat : Int)) (.pointer (some ⟨wq.heap.size, 0, none⟩))).run Try.prog (wq.alloc (.cells #[.int .i64 x, .bool false, .map none] 38)).drew = .ok () (putMap (wq.alloc (.cells #[.int .i64 x, .bool false, .map none] 38)) m s[k] wq.heap.size).drew := by
              rw [← putMap_drew]
              exact run_upd (w := (wq.alloc (.cells #[.int .i64 x, .bool false, .map none] 38)).drew) (hM2.of_block rfl) hnn _
            clear hwq d2 hl hrow hrow3
            go_wp2_with fail
            go_region
            all_goals
              go_wp2_with fail
              go_roundw
              case rel => exact ⟨k + 1, wq.heap.size, by omega, by go_num, rfl, ⟨_, _, by
                rw [← path_snoc s hlt]
                exact (hGq.step_none hb hm hnn (Nat.le_trans hBw hBq.size)).on fun _ _ => rfl, by rw [← path_snoc s hlt]; simp⟩, (putMap_below (hBq.alloc (Nat.le_trans hBw hBq.size) _) m (hGq.map _ b m hb hm).1 _ _).drew⟩
              case measure => simp [intOf]; omega
          | none =>
            rw [hm] at hl d2
            go_wp2_with fail
            go_quiet (fail)
            obtain ⟨wq, hwq⟩ : ∃ wq, wq = wr.drewN nq := ⟨_, rfl⟩
            rw [← hwq]
            have hGq : TreeG B tb wq (E ++ [((pathOf s).take k, x)]) E nd mp := by rw [hwq]; exact hG.on (w' := wr.drewN nq) fun _ _ => rfl
            have hBq : Below B w wq := by rw [hwq]; exact below_drewN hB _
            have d3 : wq.cell? ⟨b, 2, none⟩ = some (.map none) := by rw [hwq]; exact d2
            have hr2 := (hGq.node _ b hb).2.alloc (.map #[] 0)
            have d5 : (wq.alloc (.map #[] 0)).cell? ⟨b, 2, none⟩ = some (.map (mp ((pathOf s).take k))) := hr2.cell (i := 2) (by omega)
            have f5 := hr2.frozen 2
            have hsz : ((wq.alloc (.map #[] 0)).setCell ⟨b, 2, none⟩ (.map (some wq.heap.size))).heap.size = wq.heap.size + 1 := by rw [World.size_setCell]; simp
            have hBs : B ≤ wq.heap.size := Nat.le_trans hBw hBq.size
            obtain ⟨mp2, hmp2⟩ : ∃ mp2 : Path → Option Nat, mp2 = fun p => if p = (pathOf s).take k then some wq.heap.size else mp p := ⟨_, rfl⟩
            have hGm : TreeG B tb ((wq.alloc (.map #[] 0)).setCell ⟨b, 2, none⟩ (.map (some wq.heap.size))) (E ++ [((pathOf s).take k, x)]) E nd mp2 := by rw [hmp2]; exact hGq.mapped hb hm hBs
            have hBm : Below B w ((wq.alloc (.map #[] 0)).setCell ⟨b, 2, none⟩ (.map (some wq.heap.size))) := (hBq.alloc hBs _).setCell hBb _
            have hm' : mp2 ((pathOf s).take k) = some wq.heap.size := by rw [hmp2]; simp
            clear hmp2
            have hr3 := (hGm.node _ b hb).2.alloc (.cells #[.int .i64 x, .bool false, .map none] 38)
            have d4 : (((wq.alloc (.map #[] 0)).setCell ⟨b, 2, none⟩ (.map (some wq.heap.size))).alloc (.cells #[.int .i64 x, .bool false, .map none] 38)).cell? ⟨b, 2, none⟩ = some (.map (some wq.heap.size)) := by
              rw [hr3.cell (i := 2) (by omega)]; simp [nodeF, hm']
            have hM := (hGm.map _ b _ hb hm').2
            have hM2 : MapIs (((wq.alloc (.map #[] 0)).setCell ⟨b, 2, none⟩ (.map (some wq.heap.size))).alloc (.cells #[.int .i64 x, .bool false, .map none] 38)) wq.heap.size (fun c => nd ((pathOf s).take k ++ [c])) := hM.of_block (Below.heap_alloc _ _ _ hM.lt)
            have hnn : nd ((pathOf s).take k ++ [s[k]]) = none := by rw [path_snoc]; exact hn
            have hu : (Instr.mapUpdate 36 (.map (some wq.heap.size)) (.int .u8 (s[k].toNat : Int)) (.pointer (some ⟨wq.heap.size + 1, 0, none⟩))).run Try.prog (((wq.alloc (.map #[] 0)).setCell ⟨b, 2, none⟩ (.map (some wq.heap.size))).alloc (.cells #[.int .i64 x, .bool false, .map none] 38)).drew = .ok () (putMap (((wq.alloc (.map #[] 0)).setCell ⟨b, 2, none⟩ (.map (some wq.heap.size))).alloc (.cells #[.int .i64 x, .bool false, .map none] 38)) wq.heap.size s[k] (wq.heap.size + 1)).drew := by
              rw [← putMap_drew]
              exact run_upd (w := (((wq.alloc (.map #[] 0)).setCell ⟨b, 2, none⟩ (.map (some wq.heap.size))).alloc (.cells #[.int .i64 x, .bool false, .map none] 38)).drew) (hM2.of_block rfl) hnn _
            clear hwq d2 hl hrow hr2 hr3
            go_wp2_with fail
            go_region
            all_goals
              go_wp2_with fail
              go_roundw
              case rel => exact ⟨k + 1, wq.heap.size + 1, by omega, by go_num, rfl, ⟨_, _, by
                rw [← path_snoc s hlt]
                have := hGm.step_none hb hm' hnn (by rw [hsz]; omega)
                rw [hsz] at this
                exact this.on fun _ _ => rfl, by rw [← path_snoc s hlt]; simp⟩, (putMap_below (hBm.alloc (by rw [hsz]; omega) _) _ hBs _ _).drew⟩
              case measure => simp [intOf]; omega
      · have f1 := hrow.frozen 1
        have d1 := hrow.cell (i := 1) (by omega)
        have hks : (pathOf s).take k = pathOf s := List.take_of_length_le (by rw [path_len]; omega)
        have hR : AddRes B tb E (pathOf s) x w (.returned (.tuple #[])) (wr.setCell ⟨b, 1, none⟩ (.bool true)) := by
          rw [hks] at hG hb
          exact ⟨rfl, ⟨_, _, hG.marked hb⟩, hB.setCell hBb _⟩
        clear hks hrow hG
        go_wp2_with fail
        go_end0
        exact hR
  | some b =>
    rw [hn] at c0
    have hI : AddInv B tb E ((pathOf s).take 0) x w w b := ⟨⟨_, _, hG.start_some hn x, hn⟩, Below.refl _ _⟩
    go_wp2_with fail
    go_loopw [6, 26] (fun n i wr => ∃ (k b : Nat), k ≤ s.size ∧ i = .int .i64 k ∧ n = pOf b ∧ AddInv B tb E ((pathOf s).take k) x w wr b) (fun _ i _ => s.size - (intOf i).toNat)
    case atStart => exact ⟨0, _, Nat.zero_le _, rfl, rfl, hI⟩
    case round =>
      clear hI c0 f0 hG
      obtain ⟨k, b, hk, rfl, rfl, hI⟩ := hrel
      obtain ⟨⟨nd, mp, hG, hb⟩, hB⟩ := hI
      obtain ⟨hBb, hrow⟩ := hG.node _ b hb
      by_cases hlt : k < s.size
      · have d2 : wr.cell? ⟨b, 2, none⟩ = some (.map (mp ((pathOf s).take k))) := hrow.cell (i := 2) (by omega)
        have hl : ∀ n, (Instr.lookup 36 (.map (mp ((pathOf s).take k))) (.int .u8 (s[k].toNat : Int)) false).run Try.prog (wr.drewN n) = .ok (.pointer ((nd ((pathOf s).take (k + 1))).map fun b => ⟨b, 0, none⟩)) (wr.drewN n) := fun n => by
          rw [← path_snoc s hlt]
          cases hm : mp ((pathOf s).take k) with
          | none => rw [hG.bare _ b hb hm]; exact run_look_nil _ s[k]
          | some m => exact run_look (w := wr.drewN n) ((hG.map _ b m hb hm).2.of_block rfl) s[k]
        cases hn : nd ((pathOf s).take (k + 1)) with
        | some b2 =>
          rw [hn] at hl
          generalize hmk : mp ((pathOf s).take k) = mk at hl d2
          go_wp2_with fail
          go_quiet (fail)
          go_wp2_with fail
          go_roundw
          case rel => exact ⟨k + 1, b2, by omega, by go_num, rfl, ⟨nd, mp, by
            rw [← path_snoc s hlt] at hn ⊢
            exact (hG.on (w' := wr.drewN nq) fun _ _ => rfl).step_some hn, hn⟩, below_drewN hB _⟩
          case measure => simp [intOf]; omega
        | none =>
          rw [hn] at hl
          cases hm : mp ((pathOf s).take k) with
          | some m =>
            rw [hm] at hl d2
            go_wp2_with fail
            go_quiet (fail)
            obtain ⟨wq, hwq⟩ : ∃ wq, wq = wr.drewN nq := ⟨_, rfl⟩
            rw [← hwq]
            have hGq : TreeG B tb wq (E ++ [((pathOf s).take k, x)]) E nd mp := by rw [hwq]; exact hG.on (w' := wr.drewN nq) fun _ _ => rfl
            have hBq : Below B w wq := by rw [hwq]; exact below_drewN hB _
            have d3 : wq.cell? ⟨b, 2, none⟩ = some (.map (some m)) := by rw [hwq]; exact d2
            have hrow3 := (hGq.node _ b hb).2.alloc (.cells #[.int .i64 x, .bool false, .map none] 38)
            have d4 : (wq.alloc (.cells #[.int .i64 x, .bool false, .map none] 38)).cell? ⟨b, 2, none⟩ = some (.map (mp ((pathOf s).take k))) := hrow3.cell (i := 2) (by omega)
            rw [hm] at d4
            have hM := (hGq.map _ b m hb hm).2
            have hM2 : MapIs (wq.alloc (.cells #[.int .i64 x, .bool false, .map none] 38)) m (fun c => nd ((pathOf s).take k ++ [c])) := hM.of_block (Below.heap_alloc _ _ _ hM.lt)
            have hnn : nd ((pathOf s).take k ++ [s[k]]) = none := by rw [path_snoc]; exact hn
            have hu : (Instr.mapUpdate 36 (.map (some m)) (.int .u8 (s[k].toNat : Int)) (.pointer (some ⟨wq.heap.size, 0, none⟩))).run Try.prog (wq.alloc (.cells #[.int .i64 x, .bool false, .map none] 38)).drew = .ok () (putMap (wq.alloc (.cells #[.int .i64 x, .bool false, .map none] 38)) m s[k] wq.heap.size).drew := by
              rw [← putMap_drew]
              exact run_upd (w := (wq.alloc (.cells #[.int .i64 x, .bool false, .map none] 38)).drew) (hM2.of_block rfl) hnn _
            clear hwq d2 hl hrow hrow3
            go_wp2_with fail
            go_region
            all_goals
              go_wp2_with fail
              go_roundw
              case rel => exact ⟨k + 1, wq.heap.size, by omega, by go_num, rfl, ⟨_, _, by
                rw [← path_snoc s hlt]
                exact (hGq.step_none hb hm hnn (Nat.le_trans hBw hBq.size)).on fun _ _ => rfl, by rw [← path_snoc s hlt]; simp⟩, (putMap_below (hBq.alloc (Nat.le_trans hBw hBq.size) _) m (hGq.map _ b m hb hm).1 _ _).drew⟩
              case measure => simp [intOf]; omega
          | none =>
            rw [hm] at hl d2
            go_wp2_with fail
            go_quiet (fail)
            obtain ⟨wq, hwq⟩ : ∃ wq, wq = wr.drewN nq := ⟨_, rfl⟩
            rw [← hwq]
            have hGq : TreeG B tb wq (E ++ [((pathOf s).take k, x)]) E nd mp := by rw [hwq]; exact hG.on (w' := wr.drewN nq) fun _ _ => rfl
            have hBq : Below B w wq := by rw [hwq]; exact below_drewN hB _
            have d3 : wq.cell? ⟨b, 2, none⟩ = some (.map none) := by rw [hwq]; exact d2
            have hr2 := (hGq.node _ b hb).2.alloc (.map #[] 0)
            have d5 : (wq.alloc (.map #[] 0)).cell? ⟨b, 2, none⟩ = some (.map (mp ((pathOf s).take k))) := hr2.cell (i := 2) (by omega)
            have f5 := hr2.frozen 2
            have hsz : ((wq.alloc (.map #[] 0)).setCell ⟨b, 2, none⟩ (.map (some wq.heap.size))).heap.size = wq.heap.size + 1 := by rw [World.size_setCell]; simp
            have hBs : B ≤ wq.heap.size := Nat.le_trans hBw hBq.size
            obtain ⟨mp2, hmp2⟩ : ∃ mp2 : Path → Option Nat, mp2 = fun p => if p = (pathOf s).take k then some wq.heap.size else mp p := ⟨_, rfl⟩
            have hGm : TreeG B tb ((wq.alloc (.map #[] 0)).setCell ⟨b, 2, none⟩ (.map (some wq.heap.size))) (E ++ [((pathOf s).take k, x)]) E nd mp2 := by rw [hmp2]; exact hGq.mapped hb hm hBs
            have hBm : Below B w ((wq.alloc (.map #[] 0)).setCell ⟨b, 2, none⟩ (.map (some wq.heap.size))) := (hBq.alloc hBs _).setCell hBb _
            have hm' : mp2 ((pathOf s).take k) = some wq.heap.size := by rw [hmp2]; simp
            clear hmp2
            have hr3 := (hGm.node _ b hb).2.alloc (.cells #[.int .i64 x, .bool false, .map none] 38)
            have d4 : (((wq.alloc (.map #[] 0)).setCell ⟨b, 2, none⟩ (.map (some wq.heap.size))).alloc (.cells #[.int .i64 x, .bool false, .map none] 38)).cell? ⟨b, 2, none⟩ = some (.map (some wq.heap.size)) := by
              rw [hr3.cell (i := 2) (by omega)]; simp [nodeF, hm']
            have hM := (hGm.map _ b _ hb hm').2
            have hM2 : MapIs (((wq.alloc (.map #[] 0)).setCell ⟨b, 2, none⟩ (.map (some wq.heap.size))).alloc (.cells #[.int .i64 x, .bool false, .map none] 38)) wq.heap.size (fun c => nd ((pathOf s).take k ++ [c])) := hM.of_block (Below.heap_alloc _ _ _ hM.lt)
            have hnn : nd ((pathOf s).take k ++ [s[k]]) = none := by rw [path_snoc]; exact hn
            have hu : (Instr.mapUpdate 36 (.map (some wq.heap.size)) (.int .u8 (s[k].toNat : Int)) (.pointer (some ⟨wq.heap.size + 1, 0, none⟩))).run Try.prog (((wq.alloc (.map #[] 0)).setCell ⟨b, 2, none⟩ (.map (some wq.heap.size))).alloc (.cells #[.int .i64 x, .bool false, .map none] 38)).drew = .ok () (putMap (((wq.alloc (.map #[] 0)).setCell ⟨b, 2, none⟩ (.map (some wq.heap.size))).alloc (.cells #[.int .i64 x, .bool false, .map none] 38)) wq.heap.size s[k] (wq.heap.size + 1)).drew := by
              rw [← putMap_drew]
              exact run_upd (w := (((wq.alloc (.map #[] 0)).setCell ⟨b, 2, none⟩ (.map (some wq.heap.size))).alloc (.cells #[.int .i64 x, .bool false, .map none] 38)).drew) (hM2.of_block rfl) hnn _
            clear hwq d2 hl hrow hr2 hr3
            go_wp2_with fail
            go_region
            all_goals
              go_wp2_with fail
              go_roundw
              case rel => exact ⟨k + 1, wq.heap.size + 1, by omega, by go_num, rfl, ⟨_, _, by
                rw [← path_snoc s hlt]
                have := hGm.step_none hb hm' hnn (by rw [hsz]; omega)
                rw [hsz] at this
                exact this.on fun _ _ => rfl, by rw [← path_snoc s hlt]; simp⟩, (putMap_below (hBm.alloc (by rw [hsz]; omega) _) _ hBs _ _).drew⟩
              case measure => simp [intOf]; omega
      · have f1 := hrow.frozen 1
        have d1 := hrow.cell (i := 1) (by omega)
        have hks : (pathOf s).take k = pathOf s := List.take_of_length_le (by rw [path_len]; omega)
        have hR : AddRes B tb E (pathOf s) x w (.returned (.tuple #[])) (wr.setCell ⟨b, 1, none⟩ (.bool true)) := by
          rw [hks] at hG hb
          exact ⟨rfl, ⟨_, _, hG.marked hb⟩, hB.setCell hBb _⟩
        clear hks hrow hG
        go_wp2_with fail
        go_end0
        exact hR
end Go.Proofs.Qxb6618042a
