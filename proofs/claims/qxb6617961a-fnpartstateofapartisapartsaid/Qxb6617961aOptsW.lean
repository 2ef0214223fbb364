import Derived.Test.Qxb6617961aOpts
namespace Go.Proofs.Qxb6617961a
open Go.RowKit

set_option maxHeartbeats 1000000 in
theorem toOptions_walk (a : Option Addr) (len cap : Nat) (R : Nat → RowD) (w : World) (hl : len ≤ 1048576) (hR : RowsIn w a len R) (h1 : ∀ i, i < len → OneCells (R i).cap ∧ OneCells (R i).alc) :
    Calls Try.prog 10 #[.slice a len cap] w fun e w' => OptsRes len R w e w' := by
  have hmk := run_make_agg 29 51 (.agg #[.int .i64 0, .slice none 0 0, .slice none 0 0, .int .i64 0, .bool false]) 5 72 Try.underlying29 info51 len (by omega) (by omega)
  cases a with
  | none =>
    have heq := fun w => Lib.run_eql_slice_nil (P := Try.prog) w 22 52 none len cap 0 0 Try.underlying22
    go_enter Try.func10, Try.ntmps10
    go_wp2
    go_ret
    rcases hR with h0 | ⟨b, off, hn, _⟩
    · subst h0
      exact ⟨none, 0, R, rfl, fun i hi => absurd hi (by omega), Or.inl rfl, Below.refl _ _⟩
    · cases hn
  | some x =>
    have heq := fun w => Lib.run_eql_slice_nil (P := Try.prog) w 22 52 (some x) len cap 0 0 Try.underlying22
    go_enter Try.func10, Try.ntmps10
    go_wp2
    go_loopw [12] (fun i wr => ∃ k : Nat, k ≤ len ∧ i = .int .i64 k ∧ OptOut w wr w.heap.size len k R) (fun i _ => len - (intOf i).toNat)
    case atStart =>
      obtain ⟨g, hg⟩ := rowIs_make w #[.int .i64 0, .slice none 0 0, .slice none 0 0, .int .i64 0, .bool false] (len * 5) 51
      exact ⟨0, Nat.zero_le _, rfl, (Below.refl _ _).alloc (Nat.le_refl _) _, g, R, hg, fun i hi => absurd hi (by omega)⟩
    case round =>
      obtain ⟨k, hk, rfl, hO⟩ := hrel
      by_cases hlt : k < len
      · obtain h0 | ⟨b, off, hx, hcell⟩ := hR
        · omega
        cases hx
        obtain ⟨c0, c1, c2, c3, c4, i1, i2⟩ := hcell k hlt
        clear hcell
        have hbN := World.block_lt_of_cell? w ⟨b, off + k * 5, none⟩ c0
        have hB := hO.1
        have d0 := (hB.cell (p := ⟨b, off + k * 5, none⟩) hbN).trans c0
        have d1 := (hB.cell (p := ⟨b, off + k * 5 + 1, none⟩) hbN).trans c1
        have d2 := (hB.cell (p := ⟨b, off + k * 5 + 2, none⟩) hbN).trans c2
        have d3 := (hB.cell (p := ⟨b, off + k * 5 + 3, none⟩) hbN).trans c3
        have d4 := (hB.cell (p := ⟨b, off + k * 5 + 4, none⟩) hbN).trans c4
        clear c0 c1 c2 c3 c4
        obtain ⟨⟨l1, q1⟩, l2, q2⟩ := h1 k hlt
        go_wp2
        have hS0 := And.intro d0 (And.intro d1 (And.intro d2 (And.intro d3 (And.intro d4 hO))))
        clear d0 d1 d2 d3 d4
        go_region_held3 (fun w' => w'.cell? ⟨b, off + k * 5, none⟩ = some (.int .i64 (R k).price) ∧ w'.cell? ⟨b, off + k * 5 + 1, none⟩ = some (R k).cap.val ∧ w'.cell? ⟨b, off + k * 5 + 2, none⟩ = some (R k).alc.val ∧ w'.cell? ⟨b, off + k * 5 + 3, none⟩ = some (.int .i64 (R k).limit) ∧ w'.cell? ⟨b, off + k * 5 + 4, none⟩ = some (.bool (R k).ex) ∧ OptOut w w' w.heap.size len k R)
          (first | with_reducible exact so_draw hS0 | with_reducible exact so_call (by assumption) (by assumption) | with_reducible exact so_store hbN (by assumption))
          (first
            | (go_at_call_of 23 (R k).cap; refine (cloneS64 (R k).cap _ (i1.on (so_below (by assumption))) l1 q1).mono ?_; rintro e w1 ⟨a1, p1, rfl, hI1, hf1, hb1⟩)
            | (go_at_call_of 23 (R k).alc; refine (cloneS64 (R k).alc _ (i2.on (so_below (by assumption))) l2 q2).mono ?_; rintro e w2 ⟨a2, p2, rfl, hI2, hf2, hb2⟩; obtain ⟨g, hg⟩ := OptOut.row (so_out (so_call hb2 (by assumption))); have g0 := hg.cell (i := k * 5) (by omega); have g1 := hg.cell (i := k * 5 + 1) (by omega); have g2 := hg.cell (i := k * 5 + 2) (by omega); have g3 := hg.cell (i := k * 5 + 3) (by omega); have g4 := hg.cell (i := k * 5 + 4) (by omega); have z0 := hg.frozen (k * 5); have z1 := hg.frozen (k * 5 + 1); have z2 := hg.frozen (k * 5 + 2); have z3 := hg.frozen (k * 5 + 3); have z4 := hg.frozen (k * 5 + 4)))
        obtain ⟨gz, hgz⟩ := hO.row
        have hN := hgz.lt
        have HO2 : Hid (OptOut w w2 w.heap.size len k R) := (hO.drew.on hb1).on hb2
        have HF1 : Hid (∀ x, a1 = some x → w.heap.size < x.block) := fun x hx => Nat.lt_of_lt_of_le hN (hf1 x hx)
        have HF2 : Hid (∀ x, a2 = some x → w.heap.size < x.block) := fun x hx => Nat.lt_of_lt_of_le (Nat.lt_of_lt_of_le hN hb1.size) (hf2 x hx)
        have HI1 : Hid (SL.In ⟨a1, (R k).cap.len, p1, (R k).cap.f⟩ w2) := hI1.on hb2
        have HI2 : Hid (SL.In ⟨a2, (R k).alc.len, p2, (R k).alc.f⟩ w2) := hI2
        clear hgz gz
        go_wp2
        go_roundw
        case rel =>
          exact ⟨k + 1, by omega, by go_num, OptOut.step (o := ⟨(R k).price, ⟨a1, (R k).cap.len, p1, (R k).cap.f⟩, ⟨a2, (R k).alc.len, p2, (R k).alc.f⟩, (R k).limit, (R k).ex⟩) HO2.out ⟨rfl, rfl, rfl, rfl, rfl, rfl, rfl⟩ HI1.out HI2.out HF1.out HF2.out⟩
        case measure => simp [intOf]; omega
      · have e : k = len := by omega
        subst e
        go_wp2
        go_ret
        obtain ⟨O, hl, hin⟩ := hO.done
        exact ⟨_, _, O, rfl, hl, hin, hO.1⟩
end Go.Proofs.Qxb6617961a
