import Derived.Test.Qxb6617961aGrps
namespace Go.Proofs.Qxb6617961a
open Go.RowKit

set_option maxHeartbeats 1000000 in
theorem toGroups_walk (a : Option Addr) (len cap : Nat) (R : Nat → GroupD) (w : World) (hl : len ≤ 1048576) (hR : GroupsIn w a len R) (h1 : ∀ i, i < len → OneCells (R i).req ∧ OneCells (R i).rows ∧ OneCells (R i).apart) :
    Calls Try.prog 11 #[.slice a len cap] w fun e w' => GrpsRes len R w e w' := by
  have hmk := run_make_agg 31 53 (.agg #[.slice none 0 0, .int .i64 0, .slice none 0 0, .slice none 0 0]) 4 80 Try.underlying31 info53 len (by omega) (by omega)
  cases a with
  | none =>
    have heq := fun w => Lib.run_eql_slice_nil (P := Try.prog) w 23 42 none len cap 0 0 Try.underlying23
    go_enter Try.func11, Try.ntmps11
    go_wp2
    go_ret
    rcases hR with h0 | ⟨b, off, hn, _⟩
    · subst h0
      exact ⟨none, 0, R, rfl, fun i hi => absurd hi (by omega), Or.inl rfl, Below.refl _ _⟩
    · cases hn
  | some x =>
    have heq := fun w => Lib.run_eql_slice_nil (P := Try.prog) w 23 42 (some x) len cap 0 0 Try.underlying23
    go_enter Try.func11, Try.ntmps11
    go_wp2
    go_loopw [12] (fun i wr => ∃ k : Nat, k ≤ len ∧ i = .int .i64 k ∧ GrpOut w wr w.heap.size len k R) (fun i _ => len - (intOf i).toNat)
    case atStart =>
      obtain ⟨g, hg⟩ := rowIs_make w #[.slice none 0 0, .int .i64 0, .slice none 0 0, .slice none 0 0] (len * 4) 53
      exact ⟨0, Nat.zero_le _, rfl, (Below.refl _ _).alloc (Nat.le_refl _) _, g, R, hg, fun i hi => absurd hi (by omega)⟩
    case round =>
      obtain ⟨k, hk, rfl, hO⟩ := hrel
      by_cases hlt : k < len
      · obtain h0 | ⟨b, off, hx, hcell⟩ := hR
        · omega
        cases hx
        obtain ⟨c0, c1, c2, c3, i1, i2, i3⟩ := hcell k hlt
        clear hcell
        have hbN := World.block_lt_of_cell? w ⟨b, off + k * 4, none⟩ c0
        have hB := hO.1
        have d0 := (hB.cell (p := ⟨b, off + k * 4, none⟩) hbN).trans c0
        have d1 := (hB.cell (p := ⟨b, off + k * 4 + 1, none⟩) hbN).trans c1
        have d2 := (hB.cell (p := ⟨b, off + k * 4 + 2, none⟩) hbN).trans c2
        have d3 := (hB.cell (p := ⟨b, off + k * 4 + 3, none⟩) hbN).trans c3
        clear c0 c1 c2 c3
        obtain ⟨⟨l1, q1⟩, ⟨l2, q2⟩, l3, q3⟩ := h1 k hlt
        go_wp2
        have hS0 := And.intro d0 (And.intro d1 (And.intro d2 (And.intro d3 hO)))
        clear d0 d1 d2 d3
        go_region_held3 (fun w' => w'.cell? ⟨b, off + k * 4, none⟩ = some (R k).req.val ∧ w'.cell? ⟨b, off + k * 4 + 1, none⟩ = some (.int .i64 (R k).count) ∧ w'.cell? ⟨b, off + k * 4 + 2, none⟩ = some (R k).rows.val ∧ w'.cell? ⟨b, off + k * 4 + 3, none⟩ = some (R k).apart.val ∧ GrpOut w w' w.heap.size len k R)
          (first | with_reducible exact sg_draw hS0 | with_reducible exact sg_call (by assumption) (by assumption) | with_reducible exact sg_store hbN (by assumption))
          (first
            | (go_at_call 23; refine (cloneS64 (R k).req _ (i1.on (sg_below (by assumption))) l1 q1).mono ?_; rintro e w1 ⟨a1, p1, rfl, hI1, hf1, hb1⟩)
            | (go_at_call 24; refine (cloneSBools (R k).rows _ (i2.on (sg_below (by assumption))) l2 q2).mono ?_; rintro e w2 ⟨a2, p2, rfl, hI2, hf2, hb2⟩)
            | (go_at_call 18; refine (cloneSInts (R k).apart _ (i3.on (sg_below (by assumption))) l3 q3).mono ?_; rintro e w3 ⟨a3, p3, rfl, hI3, hf3, hb3⟩; obtain ⟨g, hg⟩ := GrpOut.row (sg_out (sg_call hb3 (by assumption))); have g0 := hg.cell (i := k * 4) (by omega); have g1 := hg.cell (i := k * 4 + 1) (by omega); have g2 := hg.cell (i := k * 4 + 2) (by omega); have g3 := hg.cell (i := k * 4 + 3) (by omega); have z0 := hg.frozen (k * 4); have z1 := hg.frozen (k * 4 + 1); have z2 := hg.frozen (k * 4 + 2); have z3 := hg.frozen (k * 4 + 3)))
        obtain ⟨gz, hgz⟩ := hO.row
        have hN := hgz.lt
        have HO2 : Hid (GrpOut w w3 w.heap.size len k R) := ((hO.drew.on hb1).on hb2).on hb3
        have HF1 : Hid (∀ x, a1 = some x → w.heap.size < x.block) := fun x hx => Nat.lt_of_lt_of_le hN (hf1 x hx)
        have HF2 : Hid (∀ x, a2 = some x → w.heap.size < x.block) := fun x hx => Nat.lt_of_lt_of_le (Nat.lt_of_lt_of_le hN hb1.size) (hf2 x hx)
        have HF3 : Hid (∀ x, a3 = some x → w.heap.size < x.block) := fun x hx => Nat.lt_of_lt_of_le (Nat.lt_of_lt_of_le (Nat.lt_of_lt_of_le hN hb1.size) hb2.size) (hf3 x hx)
        have HI1 : Hid (SL.In ⟨a1, (R k).req.len, p1, (R k).req.f⟩ w3) := (hI1.on hb2).on hb3
        have HI2 : Hid (SL.In ⟨a2, (R k).rows.len, p2, (R k).rows.f⟩ w3) := hI2.on hb3
        have HI3 : Hid (SL.In ⟨a3, (R k).apart.len, p3, (R k).apart.f⟩ w3) := hI3
        clear hgz gz
        go_wp2
        go_roundw
        case rel =>
          exact ⟨k + 1, by omega, by go_num, GrpOut.step (o := ⟨⟨a1, (R k).req.len, p1, (R k).req.f⟩, (R k).count, ⟨a2, (R k).rows.len, p2, (R k).rows.f⟩, ⟨a3, (R k).apart.len, p3, (R k).apart.f⟩⟩) HO2.out ⟨rfl, rfl, rfl, rfl, rfl, rfl, rfl⟩ HI1.out HI2.out HI3.out HF1.out HF2.out HF3.out⟩
        case measure => simp [intOf]; omega
      · have e : k = len := by omega
        subst e
        go_wp2
        go_ret
        obtain ⟨O, hl, hin⟩ := hO.done
        exact ⟨_, _, O, rfl, hl, hin, hO.1⟩
end Go.Proofs.Qxb6617961a
