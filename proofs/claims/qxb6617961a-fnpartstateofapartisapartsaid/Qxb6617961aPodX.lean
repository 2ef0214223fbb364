import Derived.Test.Qxb6617961aPodW
namespace Go.Proofs.Qxb6617961a
open Go.RowKit

theorem info60 : (Try.prog.info? 60).map (fun i => (i.zero, i.size, i.bytes)) = some (some (.float .f64 0), 1, 8) := by kernel_rfl
theorem info38 : (Try.prog.info? 38).map (fun i => (i.zero, i.size, i.bytes)) = some (some (.int .u64 0), 1, 8) := by kernel_rfl

theorem run_store_float (w : World) (a : Addr) (k : FloatKind) (b : Nat) (m : Mode) : (store a (.float k b) m).run Try.prog w = stored Try.prog w a (.float k b) m := run_store Try.prog w a _ m rfl
attribute [local go_sem] run_store_float

/-- The rooms as floats, the first k of them. -/
def mf (C : Nat → Nat → Int) (rl k j : Nat) : Nat := if j < k then floatOfInt .f64 (room C rl j) else 0
theorem mf_step (C : Nat → Nat → Int) (rl k j : Nat) : mf C rl (k + 1) j = if j = k then floatOfInt .f64 (room C rl k) else mf C rl k j := by
  unfold mf
  by_cases e : j = k
  · subst e; rw [if_pos (by omega), if_pos rfl]
  · by_cases h : j < k
    · rw [if_pos (by omega), if_neg e, if_pos h]
    · rw [if_neg (by omega), if_neg e, if_neg h]

/-- The row of sizes while it is made. -/
def Szs (wr : World) (SB gl g : Nat) (P : Nat → GroupD) (Q : Nat → Nat → Int) (m : Nat → Int) (k : Nat) (s : Int) : Prop :=
  ∃ Sz : Nat → Int, wr.rowIs SB 38 gl (fun j => .int .u64 (Sz j)) ∧ (∀ j, j < g → Near (Q j) m (P j).req.len (Sz j)) ∧ (g < gl → Sz g = s) ∧ Near (Q g) m k s ∧ ∀ j, g < j → Sz j = 0

theorem Szs.alloc {wr : World} {SB gl g : Nat} {P : Nat → GroupD} {Q : Nat → Nat → Int} {m : Nat → Int} {k : Nat} {s : Int} (h : Szs wr SB gl g P Q m k s) (o : Obj) : Szs (wr.alloc o) SB gl g P Q m k s := by
  obtain ⟨Sz, s1, s2, s3, s4, s5⟩ := h
  exact ⟨Sz, s1.alloc o, s2, s3, s4, s5⟩
theorem Szs.drew {wr : World} {SB gl g : Nat} {P : Nat → GroupD} {Q : Nat → Nat → Int} {m : Nat → Int} {k : Nat} {s : Int} (h : Szs wr SB gl g P Q m k s) : Szs wr.drew SB gl g P Q m k s := h
theorem Szs.skip {wr : World} {SB gl g : Nat} {P : Nat → GroupD} {Q : Nat → Nat → Int} {m : Nat → Int} {k : Nat} {s : Int} (h : Szs wr SB gl g P Q m k s) (hq : ¬ 0 < Q g k) : Szs wr SB gl g P Q m (k + 1) s := by
  obtain ⟨Sz, s1, s2, s3, s4, s5⟩ := h
  exact ⟨Sz, s1, s2, s3, s4.skip hq, s5⟩
theorem Szs.next {wr : World} {SB gl g : Nat} {P : Nat → GroupD} {Q : Nat → Nat → Int} {m : Nat → Int} {s : Int} (h : Szs wr SB gl g P Q m (P g).req.len s) (hg : g < gl) : Szs wr SB gl (g + 1) P Q m 0 0 := by
  obtain ⟨Sz, s1, s2, s3, s4, s5⟩ := h
  refine ⟨Sz, s1, fun j hj => ?_, fun _ => s5 _ (by omega), Near.zero _ _, fun j hj => s5 j (by omega)⟩
  by_cases e : j = g
  · subst e; rw [s3 hg]; exact s4
  · exact s2 j (by omega)
/-- The size of the group at hand is raised to n where that is more, and stored. -/
theorem Szs.step {wr : World} {SB gl g : Nat} {P : Nat → GroupD} {Q : Nat → Nat → Int} {m : Nat → Int} {k : Nat} {s n : Int} (h : Szs wr SB gl g P Q m k s) (hq : 0 < Q g k) (n0 : 0 ≤ n) (n1 : n ≤ Q g k * 1048576 / m k + 1) (n2 : Q g k * 1048576 / m k ≤ n + 1) (n3 : Q g k < 4294967296 → n = Q g k * 1048576 / m k)
    (f0 : 0 ≤ Q g k * 1048576 / m k) (f1 : Q g k * 1048576 / m k ≤ 1048576) : Szs (wr.setCell ⟨SB, g, none⟩ (.int .u64 (if s < n then n else s))) SB gl g P Q m (k + 1) (if s < n then n else s) := by
  obtain ⟨Sz, s1, s2, s3, s4, s5⟩ := h
  refine ⟨fun j => if j = g then (if s < n then n else s) else Sz j, (s1.set g _).congr fun j hj => ?_, fun j hj => ?_, fun _ => by simp, s4.step hq n0 n1 n2 n3 f0 f1, fun j hj => ?_⟩
  · by_cases e : j = g
    · simp [e]
    · simp [e]
  · simp only [if_neg (show ¬ j = g by omega)]; exact s2 j hj
  · simp only [if_neg (show ¬ j = g by omega)]; exact s5 j hj

structure PodPre (w : World) (pb : Nat) (ra : Option Addr) (rl rc : Nat) (O : Nat → RowD) (C : Nat → Nat → Int) (ga : Option Addr) (gl gc : Nat) (P : Nat → GroupD) (Q : Nat → Nat → Int) : Prop where
  c0 : w.cell? ⟨pb, 0, none⟩ = some (.slice ra rl rc)
  c1 : w.cell? ⟨pb, 1, none⟩ = some (.slice ga gl gc)
  r : RowsIn w ra rl O
  g : GroupsIn w ga gl P
  l1 : rl ≤ 1048576
  l2 : gl ≤ 1048576
  i1 : ∀ i, i < rl → IsI (O i).cap (C i)
  i2 : ∀ i, i < gl → IsI (P i).req (Q i)
  f1 : ∀ i, i < rl → (O i).cap.len ≤ 1048576
  f2 : ∀ i, i < gl → (P i).req.len ≤ 1048576
  d0 : 0 < rl
  d1 : ∀ i, i < rl → (O 0).cap.len ≤ (O i).cap.len
  d2 : ∀ g, g < gl → ∀ k, k < (P g).req.len → 0 < Q g k → k < (O 0).cap.len ∧ Q g k ≤ room C rl k

set_option maxRecDepth 100000 in
set_option maxHeartbeats 1000000 in
/-- PodSizes. -/
theorem podSizes_walk (w : World) (pb : Nat) (ra : Option Addr) (rl rc : Nat) (O : Nat → RowD) (C : Nat → Nat → Int) (ga : Option Addr) (gl gc : Nat) (P : Nat → GroupD) (Q : Nat → Nat → Int) (h : PodPre w pb ra rl rc O C ga gl gc P Q) :
    Calls Try.prog 12 #[.pointer (some ⟨pb, 0, none⟩)] w fun e w' => ∃ (SB : Nat) (Sz : Nat → Int), e = .returned (.slice (some ⟨SB, 0, none⟩) gl gl) ∧ w'.rowIs SB 38 gl (fun j => .int .u64 (Sz j)) ∧ (∀ j, j < gl → Near (Q j) (room C rl) (P j).req.len (Sz j)) ∧ Below w.heap.size w w' := by
  obtain ⟨c0, c1, hr, hg, l1, l2, i1, i2, f1, f2, d0, d1, d2⟩ := h
  have f10 := f1 0 d0
  have hmk := run_make_row' (P := Try.prog) 59 60 (.float .f64 0) 8 Try.underlying59 info60 rfl .i64 .i64 (O 0).cap.len (by omega) (by omega)
  have hmk2 := run_make_row' (P := Try.prog) 35 38 (.int .u64 0) 8 Try.underlying35 info38 rfl .i64 .i64 gl (by omega) (by omega)
  obtain h0' | ⟨b, off, rfl, hcell⟩ := hr
  · omega
  obtain ⟨-, z1, -⟩ := hcell 0 d0
  rw [Nat.zero_mul, Nat.add_zero] at z1
  have hR : RowsIn w (some ⟨b, off, none⟩) rl O := Or.inr ⟨b, off, rfl, hcell⟩
  clear hcell
  go_enter Try.func12, Try.ntmps12
  go_wp2
  go_loopw [21] (fun t wr => ∃ k : Nat, k ≤ (O 0).cap.len ∧ t = .int .i64 k ∧ wr.rowIs w.heap.size 60 (O 0).cap.len (fun j => .float .f64 (mf C rl k j)) ∧ Below w.heap.size w wr) (fun t _ => (O 0).cap.len - (intOf t).toNat)
  case atStart => exact ⟨0, Nat.zero_le _, rfl, (World.rowIs_made _ _ _ _).congr fun j hj => by unfold mf; rw [if_neg (by omega)], (Below.refl _ _).alloc (Nat.le_refl _) _⟩
  case round =>
    obtain ⟨k, hk, rfl, hrow, hB⟩ := hrel
    have e0 := (hB.cell (p := ⟨pb, 0, none⟩) (World.block_lt_of_cell? w _ c0)).trans c0
    have e1 := (hB.cell (p := ⟨pb, 1, none⟩) (World.block_lt_of_cell? w _ c1)).trans c1
    by_cases hlt : k < (O 0).cap.len
    · have hRr := hR.on hB
      go_wp2_with fail
      refine (largest_walk _ rl rc O C k _ l1 hRr i1 (fun i hi => ⟨Nat.lt_of_lt_of_le hlt (d1 i hi), f1 i hi⟩)).mono ?_
      rintro e w1 ⟨rfl, hb1⟩
      have hrow1 := row_on hb1 hrow
      have hB1 : Below w.heap.size w w1 := below_call hb1 hB.size hB
      have g0 := hrow1.cell hlt
      have g1 := hrow1.frozen k
      clear e0 e1 hRr hB hb1 hrow
      go_wp2
      go_roundw
      case rel =>
        refine ⟨k + 1, by omega, by go_num, (hrow1.set k _).congr fun j hj => ?_, hB1.setCell (Nat.le_refl _) _⟩
        rw [mf_step]
        by_cases e : j = k
        · rw [if_pos e, if_pos e]
        · rw [if_neg e, if_neg e]
      case measure => simp [intOf]; omega
    · have e : k = (O 0).cap.len := by omega
      subst e
      have hN := hrow.lt
      have hpb : pb < wr.heap.size := Nat.lt_of_lt_of_le (World.block_lt_of_cell? w _ c0) hB.size
      obtain ⟨SB, hSB⟩ : ∃ SB, SB = wr.heap.size := ⟨_, rfl⟩
      have HSB : Hid (SB = wr.heap.size) := hSB
      rw [← hSB] at hN
      clear hSB
      go_wp2
      rw [← HSB.out]
      go_loopw [46] (fun t wr2 => ∃ g : Nat, g ≤ gl ∧ t = .int .i64 g ∧ Szs wr2 SB gl g P Q (room C rl) 0 0 ∧ wr2.rowIs w.heap.size 60 (O 0).cap.len (fun j => .float .f64 (mf C rl (O 0).cap.len j)) ∧ Below w.heap.size w wr2) (fun t _ => gl - (intOf t).toNat)
      case atStart =>
        refine ⟨0, Nat.zero_le _, rfl, ⟨fun _ => 0, ?_, fun j hj => absurd hj (by omega), fun _ => rfl, Near.zero _ _, fun _ _ => rfl⟩, hrow.alloc _, hB.alloc hB.size _⟩
        rw [HSB.out]
        exact World.rowIs_made _ _ _ _
      case round =>
        clear e0 e1 hrow hB hpb HSB
        obtain ⟨g, hgl, rfl, hS, hrow2, hB2⟩ := hrel
        by_cases hlg : g < gl
        · obtain h0' | ⟨gb, goff, rfl, hgcell⟩ := hg
          · omega
          obtain ⟨q0, q1, q2, q3, iq, -, -⟩ := hgcell g hlg
          have fq := f2 g hlg
          have hbN := World.block_lt_of_cell? w _ q0
          have t0 := (hB2.cell (p := ⟨gb, goff + g * 4, none⟩) hbN).trans q0
          have t1 := (hB2.cell (p := ⟨gb, goff + g * 4 + 1, none⟩) hbN).trans q1
          have t2 := (hB2.cell (p := ⟨gb, goff + g * 4 + 2, none⟩) hbN).trans q2
          have t3 := (hB2.cell (p := ⟨gb, goff + g * 4 + 3, none⟩) hbN).trans q3
          clear q0 q1 q2 q3 hgcell
          go_wp2
          go_loopw [54] (fun t wr3 => ∃ (k : Nat) (s : Int), k ≤ (P g).req.len ∧ t = .int .i64 k ∧ Szs wr3 SB gl g P Q (room C rl) k s ∧ wr3.rowIs w.heap.size 60 (O 0).cap.len (fun j => .float .f64 (mf C rl (O 0).cap.len j)) ∧ Below w.heap.size w wr3) (fun t _ => (P g).req.len - (intOf t).toNat)
          case atStart => exact ⟨0, 0, Nat.zero_le _, rfl, hS.alloc _, hrow2.alloc _, hB2.alloc hB2.size _⟩
          case round =>
            clear hS hrow2 hB2 t0 t1 t2 t3
            obtain ⟨k, s, hk, rfl, hS, hrow, hB⟩ := hrel
            by_cases hlk : k < (P g).req.len
            · obtain ⟨b2, off2, ha2, v2⟩ := iq.at (i2 g hlg) hlk
              have x2 := (hB.cell (p := ⟨b2, off2 + k, none⟩) (World.block_lt_of_cell? w _ v2)).trans v2
              rw [ha2]
              by_cases hp : 0 < Q g k
              · obtain ⟨kn, qr⟩ := d2 g hlg k hlk hp
                have hS' := hS
                obtain ⟨Sz, s1, s2, s3, s4, s5⟩ := hS'
                have x3 := s1.cell hlg
                simp only [s3 hlg] at x3
                have x4 := s1.frozen g
                have x5 := hrow.cell kn
                have em : mf C rl (O 0).cap.len k = floatOfInt .f64 (room C rl k) := if_pos kn
                simp only [em] at x5
                obtain ⟨y1, y2, n, r1, r2, r3, n0, n1, n2, n3, n4, n5⟩ := go_share hp qr (room_le C rl (fun i hi => (i1 i hi k (Nat.lt_of_lt_of_le kn (d1 i hi))).2.2))
                have HS : Hid (Szs (wr.setCell ⟨SB, g, none⟩ (.int .u64 (if s < n then n else s))) SB gl g P Q (room C rl) (k + 1) (if s < n then n else s)) := hS.step hp n0 n1 n2 n3 n4 n5
                have m1 := fun wx => run_float_arith (P := Try.prog) wx .quo 60 .f64 _ _ y1 r1
                have m2 := fun wx => run_float_arith (P := Try.prog) wx .mul 60 .f64 _ _ y2 r2
                have m3 := fun wx => run_convert_float_int (P := Try.prog) wx 60 38 .f64 .u64 y2 n (by rw [Try.underlying60]; rfl) Try.underlying38 r3
                clear em s1 s2 s3 s4 s5 n0 n1 n2 n3 n4 n5 r1 r2 r3 v2 ha2
                have hNS : ¬ w.heap.size = SB := by omega
                by_cases hm : s < n
                · have HS2 : Hid (Szs (wr.setCell ⟨SB, g, none⟩ (.int .u64 n)) SB gl g P Q (room C rl) (k + 1) n) := by have := HS.out; rw [if_pos hm] at this; exact this
                  clear HS
                  go_wp2
                  go_region
                  all_goals
                    go_wp2
                    go_roundw
                    case rel => exact ⟨k + 1, n, by omega, by go_num, HS2.out, hrow.setOther hNS _, (hB.drew).setCell (Nat.le_of_lt hN) _⟩
                    case measure => simp [intOf]; omega
                · have HS2 : Hid (Szs (wr.setCell ⟨SB, g, none⟩ (.int .u64 s)) SB gl g P Q (room C rl) (k + 1) s) := by have := HS.out; rw [if_neg hm] at this; exact this
                  clear HS
                  go_wp2
                  go_region
                  all_goals
                    go_wp2
                    go_roundw
                    case rel => exact ⟨k + 1, s, by omega, by go_num, HS2.out, hrow.setOther hNS _, (hB.drew).setCell (Nat.le_of_lt hN) _⟩
                    case measure => simp [intOf]; omega
              · go_wp2
                go_roundw
                case rel => exact ⟨k + 1, s, by omega, by go_num, hS.skip hp, hrow, hB⟩
                case measure => simp [intOf]; omega
            · have e : k = (P g).req.len := by omega
              subst e
              go_wp2
              go_roundw
              case rel => exact ⟨g + 1, by omega, by go_num, hS.next hlg, hrow, hB⟩
              case measure => simp [intOf]; omega
        · have e : g = gl := by omega
          obtain ⟨Sz, s1, s2, s3, s4, s5⟩ := hS
          go_wp2
          go_ret
          exact ⟨_, Sz, rfl, s1, fun j hj => s2 j (by omega), hB2⟩
end Go.Proofs.Qxb6617961a
