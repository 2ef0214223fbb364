import Derived.Test.Qxb6617961aLawP
import Derived.Test.Qxb6617961aPartS
import Derived.Deep.RegionHeld3
import Derived.BigQuiet
namespace Go.Proofs.Qxb6617961a
open Go.RowKit

/-- All that lies in the world while the parts are made. -/
structure Env (a : Option Addr) (len : Nat) (R : Nat → RowD) (ga : Option Addr) (gl : Nat) (G : Nat → GroupD) (g1 r1 g2 r2 c d : SL) (a3 : Option Addr) (O : Nat → RowD) (a4 : Option Addr) (P : Nat → GroupD) (W : World) : Prop where
  r : RowsIn W a len R
  g : GroupsIn W ga gl G
  i1 : g1.In W
  i2 : r1.In W
  i3 : g2.In W
  i4 : r2.In W
  i5 : c.In W
  i6 : d.In W
  o : RowsIn W a3 len O
  p : GroupsIn W a4 gl P
theorem Env.on {a : Option Addr} {len : Nat} {R : Nat → RowD} {ga : Option Addr} {gl : Nat} {G : Nat → GroupD} {g1 r1 g2 r2 c d : SL} {a3 : Option Addr} {O : Nat → RowD} {a4 : Option Addr} {P : Nat → GroupD} {W W' : World}
    (h : Env a len R ga gl G g1 r1 g2 r2 c d a3 O a4 P W) (hb : Below W.heap.size W W') : Env a len R ga gl G g1 r1 g2 r2 c d a3 O a4 P W' :=
  ⟨h.r.on hb, h.g.on hb, h.i1.on hb, h.i2.on hb, h.i3.on hb, h.i4.on hb, h.i5.on hb, h.i6.on hb, h.o.on hb, h.p.on hb⟩

/-- All that is known apart from the world. -/
structure LawFacts (len : Nat) (R : Nat → RowD) (C A : Nat → Nat → Int) (gl : Nat) (G : Nat → GroupD) (Q Az : Nat → Nat → Int) (Bz : Nat → Nat → Bool) (g1 r1 g2 r2 : SL) (y1 x1 y2 x2 : Nat → Int) (O : Nat → RowD) (P : Nat → GroupD) : Prop where
  pf : PF len O C A gl P Q Az Bz
  cd : CD g1.len r1.len g2.len r2.len y1 x1 y2 x2 len gl P
  like : ∀ i, i < len → Like (O i) (R i)
  glike : ∀ i, i < gl → GLike (P i) (G i)

theorem cellsP_new (w : World) (ra : Option Addr) (rl rc : Nat) (ga : Option Addr) (gl gc : Nat) (bd : Bool) : CellsP (w.alloc (.cells #[.slice ra rl rc, .slice ga gl gc, .bool bd] 34)) w.heap.size ra rl rc ga gl gc bd := by
  refine ⟨?_, ?_, ?_⟩ <;> simp

theorem rowS_isY {len : Nat} {R : Nat → RowD} {C A : Nat → Nat → Int} {gl : Nat} {G : Nat → GroupD} {Q Az : Nat → Nat → Int} {Bz : Nat → Nat → Bool} {g1 r1 g2 r2 : SL} {y1 x1 y2 x2 : Nat → Int} {O : Nat → RowD} {P : Nat → GroupD} {cb : Nat}
    (h : LawFacts len R C A gl G Q Az Bz g1 r1 g2 r2 y1 x1 y2 x2 O P) (z1 : IsI g1 y1) : IsI (rowS cb g2.len (fun i => y1 (y2 i).toNat)) (fun i => y1 (y2 i).toNat) := fun i hi => by
  have := h.cd.g2 i hi
  exact ⟨rfl, (z1 (y2 i).toNat (by omega)).2⟩
theorem rowS_isX {len : Nat} {R : Nat → RowD} {C A : Nat → Nat → Int} {gl : Nat} {G : Nat → GroupD} {Q Az : Nat → Nat → Int} {Bz : Nat → Nat → Bool} {g1 r1 g2 r2 : SL} {y1 x1 y2 x2 : Nat → Int} {O : Nat → RowD} {P : Nat → GroupD} {db : Nat}
    (h : LawFacts len R C A gl G Q Az Bz g1 r1 g2 r2 y1 x1 y2 x2 O P) (z2 : IsI r1 x1) : IsI (rowS db r2.len (fun i => x1 (x2 i).toNat)) (fun i => x1 (x2 i).toNat) := fun i hi => by
  have := h.cd.r2 i hi
  exact ⟨rfl, (z2 (x2 i).toNat (by omega)).2⟩

theorem rowS_cell {cb n k : Nat} {y : Nat → Int} {W : World} (h : (rowS cb n y).In W) (hk : k < n) : W.cell? ⟨cb, k, none⟩ = some (.int .i64 (y k)) := by
  rcases h with h0 | ⟨b, off, he, hc⟩
  · have h0 : n = 0 := h0
    omega
  · cases he
    have := hc k hk
    rwa [Nat.zero_add] at this

theorem draw12 {w0 W : World} {b0 o0 b1 o1 b2 o2 b3 o3 b4 o4 b5 o5 b6 o6 b7 o7 b8 o8 b9 o9 b10 o10 b11 o11 : Nat} {v0 v1 v2 v3 v4 v5 v6 v7 v8 v9 v10 v11 : Value} (h : W.cell? ⟨b0, o0, none⟩ = some v0 ∧ W.cell? ⟨b1, o1, none⟩ = some v1 ∧ W.cell? ⟨b2, o2, none⟩ = some v2 ∧ W.cell? ⟨b3, o3, none⟩ = some v3 ∧ W.cell? ⟨b4, o4, none⟩ = some v4 ∧ W.cell? ⟨b5, o5, none⟩ = some v5 ∧ W.cell? ⟨b6, o6, none⟩ = some v6 ∧ W.cell? ⟨b7, o7, none⟩ = some v7 ∧ W.cell? ⟨b8, o8, none⟩ = some v8 ∧ W.cell? ⟨b9, o9, none⟩ = some v9 ∧ W.cell? ⟨b10, o10, none⟩ = some v10 ∧ W.cell? ⟨b11, o11, none⟩ = some v11 ∧ Below w0.heap.size w0 W) : W.drew.cell? ⟨b0, o0, none⟩ = some v0 ∧ W.drew.cell? ⟨b1, o1, none⟩ = some v1 ∧ W.drew.cell? ⟨b2, o2, none⟩ = some v2 ∧ W.drew.cell? ⟨b3, o3, none⟩ = some v3 ∧ W.drew.cell? ⟨b4, o4, none⟩ = some v4 ∧ W.drew.cell? ⟨b5, o5, none⟩ = some v5 ∧ W.drew.cell? ⟨b6, o6, none⟩ = some v6 ∧ W.drew.cell? ⟨b7, o7, none⟩ = some v7 ∧ W.drew.cell? ⟨b8, o8, none⟩ = some v8 ∧ W.drew.cell? ⟨b9, o9, none⟩ = some v9 ∧ W.drew.cell? ⟨b10, o10, none⟩ = some v10 ∧ W.drew.cell? ⟨b11, o11, none⟩ = some v11 ∧ Below w0.heap.size w0 W.drew := by
  obtain ⟨c0, c1, c2, c3, c4, c5, c6, c7, c8, c9, c10, c11, hB⟩ := h
  exact ⟨c0, c1, c2, c3, c4, c5, c6, c7, c8, c9, c10, c11, hB.drew⟩
theorem keep12 {w0 W w' : World} {b0 o0 b1 o1 b2 o2 b3 o3 b4 o4 b5 o5 b6 o6 b7 o7 b8 o8 b9 o9 b10 o10 b11 o11 : Nat} {v0 v1 v2 v3 v4 v5 v6 v7 v8 v9 v10 v11 : Value} (hb : Below W.heap.size W w') (h : W.cell? ⟨b0, o0, none⟩ = some v0 ∧ W.cell? ⟨b1, o1, none⟩ = some v1 ∧ W.cell? ⟨b2, o2, none⟩ = some v2 ∧ W.cell? ⟨b3, o3, none⟩ = some v3 ∧ W.cell? ⟨b4, o4, none⟩ = some v4 ∧ W.cell? ⟨b5, o5, none⟩ = some v5 ∧ W.cell? ⟨b6, o6, none⟩ = some v6 ∧ W.cell? ⟨b7, o7, none⟩ = some v7 ∧ W.cell? ⟨b8, o8, none⟩ = some v8 ∧ W.cell? ⟨b9, o9, none⟩ = some v9 ∧ W.cell? ⟨b10, o10, none⟩ = some v10 ∧ W.cell? ⟨b11, o11, none⟩ = some v11 ∧ Below w0.heap.size w0 W) : w'.cell? ⟨b0, o0, none⟩ = some v0 ∧ w'.cell? ⟨b1, o1, none⟩ = some v1 ∧ w'.cell? ⟨b2, o2, none⟩ = some v2 ∧ w'.cell? ⟨b3, o3, none⟩ = some v3 ∧ w'.cell? ⟨b4, o4, none⟩ = some v4 ∧ w'.cell? ⟨b5, o5, none⟩ = some v5 ∧ w'.cell? ⟨b6, o6, none⟩ = some v6 ∧ w'.cell? ⟨b7, o7, none⟩ = some v7 ∧ w'.cell? ⟨b8, o8, none⟩ = some v8 ∧ w'.cell? ⟨b9, o9, none⟩ = some v9 ∧ w'.cell? ⟨b10, o10, none⟩ = some v10 ∧ w'.cell? ⟨b11, o11, none⟩ = some v11 ∧ Below w0.heap.size w0 w' := by
  obtain ⟨c0, c1, c2, c3, c4, c5, c6, c7, c8, c9, c10, c11, hB⟩ := h
  exact ⟨cell_on hb c0, cell_on hb c1, cell_on hb c2, cell_on hb c3, cell_on hb c4, cell_on hb c5, cell_on hb c6, cell_on hb c7, cell_on hb c8, cell_on hb c9, cell_on hb c10, cell_on hb c11, below_on hB hb⟩
theorem last12 {w0 W : World} {b0 o0 b1 o1 b2 o2 b3 o3 b4 o4 b5 o5 b6 o6 b7 o7 b8 o8 b9 o9 b10 o10 b11 o11 : Nat} {v0 v1 v2 v3 v4 v5 v6 v7 v8 v9 v10 v11 : Value} (h : W.cell? ⟨b0, o0, none⟩ = some v0 ∧ W.cell? ⟨b1, o1, none⟩ = some v1 ∧ W.cell? ⟨b2, o2, none⟩ = some v2 ∧ W.cell? ⟨b3, o3, none⟩ = some v3 ∧ W.cell? ⟨b4, o4, none⟩ = some v4 ∧ W.cell? ⟨b5, o5, none⟩ = some v5 ∧ W.cell? ⟨b6, o6, none⟩ = some v6 ∧ W.cell? ⟨b7, o7, none⟩ = some v7 ∧ W.cell? ⟨b8, o8, none⟩ = some v8 ∧ W.cell? ⟨b9, o9, none⟩ = some v9 ∧ W.cell? ⟨b10, o10, none⟩ = some v10 ∧ W.cell? ⟨b11, o11, none⟩ = some v11 ∧ Below w0.heap.size w0 W) : Below w0.heap.size w0 W := by
  obtain ⟨c0, c1, c2, c3, c4, c5, c6, c7, c8, c9, c10, c11, hB⟩ := h
  exact hB

set_option maxRecDepth 100000 in
set_option maxHeartbeats 2000000 in
theorem law4_walk (a : Option Addr) (len cap : Nat) (R : Nat → RowD) (C A : Nat → Nat → Int) (ga : Option Addr) (gl gc : Nat) (G : Nat → GroupD) (Q Az : Nat → Nat → Int) (Bz : Nat → Nat → Bool) (bd : Bool) (g1 r1 g2 r2 : SL) (y1 x1 y2 x2 : Nat → Int) (w : World) (hm : len ≤ maxLen) (hm2 : gl ≤ maxLen)
    (hR : RowsIn w a len R) (hG : GroupsIn w ga gl G) (hC : ∀ i, i < len → IsI (R i).cap (C i)) (hA : ∀ i, i < len → IsI (R i).alc (A i)) (hQ : ∀ g, g < gl → IsI (G g).req (Q g)) (hBz : ∀ g, g < gl → IsB (G g).rows (Bz g)) (hAz : ∀ g, g < gl → IsI (G g).apart (Az g))
    (hm3 : ∀ i, i < len → (R i).cap.len ≤ maxLen ∧ (R i).alc.len ≤ maxLen) (hm4 : ∀ i, i < gl → (G i).req.len ≤ maxLen ∧ (G i).rows.len ≤ maxLen ∧ (G i).apart.len ≤ maxLen)
    (i1 : g1.In w) (i2 : r1.In w) (i3 : g2.In w) (i4 : r2.In w) (z1 : IsI g1 y1) (z2 : IsI r1 x1) (z3 : IsI g2 y2) (z4 : IsI r2 x2)
    (k1 : g1.len ≤ maxLen) (k2 : r1.len ≤ maxLen) (k3 : g2.len ≤ maxLen) (k4 : r2.len ≤ maxLen) :
    Calls Try.prog 4 #[.slice a len cap, .slice ga gl gc, .bool bd, g1.val, r1.val, g2.val, r2.val] w fun e w' => e = .returned (.bool true) ∧ Below w.heap.size w w' := by
  go_enter Try.func4, Try.ntmps4
  go_wp2_with fail
  refine (zzPart_walk a len cap R ga gl gc G bd g1.a r1.a g2.a r2.a g1.len r1.len g2.len r2.len g1.cap r1.cap g2.cap r2.cap _ hm hm2 hR hG hm3 hm4 k1 k2 k3 k4).mono ?_
  intro e w' hz
  rcases hz.split with ⟨rfl, rfl⟩ | ⟨rfl, rfl, l1, l2, f1, f2, n1, n2, n3, n4⟩
  · go_wp2_with fail
    go_ret
    exact ⟨rfl, Below.refl _ _⟩
  clear hz hm hm2 hm3 hm4 k1 k2 k3 k4
  go_wp2_with fail
  refine (compBytes_walk a len cap R ga gl gc G g1.a r1.a g2.a r2.a g1.len r1.len g2.len r2.len g1.cap r1.cap g2.cap r2.cap _ l1 l2 hR hG).mono ?_; rintro e w' ⟨r0, rfl, rfl⟩
  by_cases hr : 1048576 < r0
  · go_wp2_with fail
    go_ret
    exact ⟨rfl, Below.refl _ _⟩
  go_wp2_with fail
  refine (compIn_walk a len cap R ga gl gc G g1 r1 g2 r2 y1 x1 y2 x2 _ i1 i2 i3 i4 z1 z2 z3 z4 n1 n2 n3 n4 l1 hR hG f1 f2).mono ?_
  intro e w1 hz
  rcases hz.split with ⟨rfl, hb1⟩ | ⟨rfl, hb1, dom⟩
  · go_wp2_with fail
    go_ret
    exact ⟨rfl, hb1⟩
  clear hz hr
  have HB1 : Hid (Below w.heap.size w w1) := hb1
  have DOM : Hid (CompDom g1 r1 g2 r2 y1 x1 y2 x2 len gl G) := dom
  have HR1 : Hid (RowsIn w1 a len R) := hR.on hb1
  have HG1 : Hid (GroupsIn w1 ga gl G) := hG.on hb1
  have j1 := i1.on hb1
  have j2 := i2.on hb1
  have j3 := i3.on hb1
  have j4 := i4.on hb1
  clear i1 i2 i3 i4 hR hG hb1 dom
  have hmk := run_make_row' (P := Try.prog) 40 3 (.int .i64 0) 8 Try.underlying40 info3 rfl .i64 .i64 g2.len (by omega) (by omega)
  have hF := Fill.start w1 g2.len (fun i => y1 (y2 i).toNat)
  go_wp2_with fail
  generalize hW : w1.alloc (.cells (madeCells #[.int .i64 0] g2.len) 3) = W at *
  generalize hcb : w1.heap.size = cb at *
  clear hW
  go_loopw [57] (fun t wr => ∃ k : Nat, k ≤ g2.len ∧ t = .int .i64 k ∧ Fill w1 cb g2.len (fun i => y1 (y2 i).toNat) k wr) (fun t _ => g2.len - (intOf t).toNat)
  case atStart => exact ⟨0, Nat.zero_le _, rfl, hF⟩
  case round =>
    clear hF hmk
    obtain ⟨k, hk, rfl, hF⟩ := hrel
    by_cases hlt : k < g2.len
    · obtain ⟨b, off, ha, hc⟩ := j3.at z3 hlt
      obtain ⟨d0, d1⟩ := DOM.out.2.1 k hlt
      obtain ⟨p, hp⟩ : ∃ p : Nat, y2 k = p := ⟨(y2 k).toNat, by omega⟩
      rw [hp] at hc d1
      have hpl : p < g1.len := by omega
      obtain ⟨b', off', ha', hc'⟩ := j1.at z1 hpl
      have hc := cell_on hF.1 hc
      have hc' := cell_on hF.1 hc'
      have cs := hF.2.2.cell hlt
      have fs := hF.2.2.frozen k
      have hv : y1 (y2 k).toNat = y1 p := by rw [hp]; rfl
      have HF : Hid (Fill w1 cb g2.len (fun i => y1 (y2 i).toNat) (k + 1) (wr.setCell ⟨cb, k, none⟩ (.int .i64 (y1 p)))) := by rw [← hv]; exact hF.step
      rw [SL.val_of ha, SL.val_of ha']
      clear hF hp d0 d1 hv
      go_wp2_with fail
      go_roundw
      case rel => exact ⟨k + 1, by omega, by go_num, HF.out⟩
      case measure => simp [intOf]; omega
    · obtain rfl : k = g2.len := by omega
      have HC : Hid ((rowS cb g2.len (fun i => y1 (y2 i).toNat)).In wr) := hF.done
      have hb := hF.1
      have HB2 : Hid (Below w.heap.size w wr) := below_on HB1.out hb
      have HR2 : Hid (RowsIn wr a len R) := HR1.out.on hb
      have HG2 : Hid (GroupsIn wr ga gl G) := HG1.out.on hb
      replace j1 := j1.on hb
      replace j2 := j2.on hb
      replace j3 := j3.on hb
      replace j4 := j4.on hb
      have hmk := run_make_row' (P := Try.prog) 40 3 (.int .i64 0) 8 Try.underlying40 info3 rfl .i64 .i64 r2.len (by omega) (by omega)
      have hF2 := Fill.start wr r2.len (fun i => x1 (x2 i).toNat)
      clear hF hb HB1 HR1 HG1 hcb
      go_wp2_with fail
      obtain ⟨w2, hw2⟩ : ∃ w2, w2 = wr := ⟨_, rfl⟩
      subst hw2
      generalize hW : w2.alloc (.cells (madeCells #[.int .i64 0] r2.len) 3) = W at *
      generalize hdb : w2.heap.size = db at *
      clear hW
      go_loopw [75] (fun t wr => ∃ k : Nat, k ≤ r2.len ∧ t = .int .i64 k ∧ Fill w2 db r2.len (fun i => x1 (x2 i).toNat) k wr) (fun t _ => r2.len - (intOf t).toNat)
      case atStart => exact ⟨0, Nat.zero_le _, rfl, hF2⟩
      case round =>
        clear hF2 hmk
        obtain ⟨k, hk, rfl, hF⟩ := hrel
        by_cases hlt : k < r2.len
        · obtain ⟨b, off, ha, hc⟩ := j4.at z4 hlt
          obtain ⟨d0, d1⟩ := DOM.out.2.2 k hlt
          obtain ⟨p, hp⟩ : ∃ p : Nat, x2 k = p := ⟨(x2 k).toNat, by omega⟩
          rw [hp] at hc d1
          have hpl : p < r1.len := by omega
          obtain ⟨b', off', ha', hc'⟩ := j2.at z2 hpl
          have hc := cell_on hF.1 hc
          have hc' := cell_on hF.1 hc'
          have cs := hF.2.2.cell hlt
          have fs := hF.2.2.frozen k
          have hv : x1 (x2 k).toNat = x1 p := by rw [hp]; rfl
          have HF : Hid (Fill w2 db r2.len (fun i => x1 (x2 i).toNat) (k + 1) (wr.setCell ⟨db, k, none⟩ (.int .i64 (x1 p)))) := by rw [← hv]; exact hF.step
          rw [SL.val_of ha, SL.val_of ha']
          clear hF hp d0 d1 hv
          go_wp2_with fail
          go_roundw
          case rel => exact ⟨k + 1, by omega, by go_num, HF.out⟩
          case measure => simp [intOf]; omega
        · obtain rfl : k = r2.len := by omega
          have hb := hF.1
          have HC3 : Hid ((rowS cb g2.len (fun i => y1 (y2 i).toNat)).In wr) := HC.out.on hb
          have HD3 : Hid ((rowS db r2.len (fun i => x1 (x2 i).toNat)).In wr) := hF.done
          have HB3 : Hid (Below w.heap.size w wr) := below_on HB2.out hb
          have hR3 := HR2.out.on hb
          have hG3 := HG2.out.on hb
          replace j1 := j1.on hb
          replace j2 := j2.on hb
          replace j3 := j3.on hb
          replace j4 := j4.on hb
          clear hF hb HB2 HR2 HG2 hdb HC
          go_wp2_with fail
          refine (toOptions_walk _ len cap R _ l1 hR3 (fun i hi => ⟨⟨(f1 i hi).1, (hC i hi).one⟩, (f1 i hi).2, (hA i hi).one⟩)).mono ?_
          rintro e w3 ⟨a3, c3, O, rfl, like3, hO3, hb⟩
          have HC4 : Hid ((rowS cb g2.len (fun i => y1 (y2 i).toNat)).In w3) := HC3.out.on hb
          have HD4 : Hid ((rowS db r2.len (fun i => x1 (x2 i).toNat)).In w3) := HD3.out.on hb
          have HB4 : Hid (Below w.heap.size w w3) := below_on HB3.out hb
          have hR4 := hR3.on hb
          have hG4 := hG3.on hb
          replace j1 := j1.on hb
          replace j2 := j2.on hb
          replace j3 := j3.on hb
          replace j4 := j4.on hb
          clear hb HB3 HC3 HD3 hR3 hG3
          go_wp2_with fail
          refine (toGroups_walk _ gl gc G _ l2 hG4 (fun i hi => ⟨⟨(f2 i hi).1, (hQ i hi).one⟩, ⟨(f2 i hi).2.1, fun j hj => by rw [hBz i hi j hj]; rfl⟩, (f2 i hi).2.2, (hAz i hi).one⟩)).mono ?_
          rintro e w4 ⟨a4, c4, P, rfl, like4, hP5, hb⟩
          have pf := pf_of like3 like4 l1 l2 hC hA hQ hBz hAz f1 f2
          have cd := cd_of DOM.out like4 n1 n2 n3 n4
          have hE := Env.mk (hR4.on hb) (hG4.on hb) (j1.on hb) (j2.on hb) (j3.on hb) (j4.on hb) (HC4.out.on hb) (HD4.out.on hb) (hO3.on hb) hP5
          have HB5 : Hid (Below w.heap.size w w4) := below_on HB4.out hb
          clear hb HB4 HC4 HD4 hR4 hG4 j1 j2 j3 j4 hO3 hP5
          have HS : Hid (LawFacts len R C A gl G Q Az Bz g1 r1 g2 r2 y1 x1 y2 x2 O P) := ⟨pf, cd, like3, like4⟩
          clear pf cd DOM
          have hal : Below w4.heap.size w4 (w4.alloc (.cells #[.slice a3 len c3, .slice a4 gl c4, .bool bd] 34)) := (Below.refl _ _).alloc (Nat.le_refl _) _
          have HCp : Hid (CellsP (w4.alloc (.cells #[.slice a3 len c3, .slice a4 gl c4, .bool bd] 34)) w4.heap.size a3 len c3 a4 gl c4 bd) := cellsP_new _ _ _ _ _ _ _ _
          have HE6 := hE.on hal
          have HB6 : Hid (Below w.heap.size w (w4.alloc (.cells #[.slice a3 len c3, .slice a4 gl c4, .bool bd] 34))) := below_on HB5.out hal
          clear hE HB5 hal
          go_wp2_with fail
          generalize w4.alloc (.cells #[.slice a3 len c3, .slice a4 gl c4, .bool bd] 34) = w5 at *
          generalize w4.heap.size = pb at *
          refine (cloneInts g1.a g1.len g1.cap g1.f _ n1 HE6.i1 z1.one).mono ?_
          rintro e w6 ⟨a5, c5, rfl, in5, -, hb⟩
          have HE7 := HE6.on hb
          have HCp7 : Hid (CellsP w6 pb a3 len c3 a4 gl c4 bd) := HCp.out.on hb
          have HB7 : Hid (Below w.heap.size w w6) := below_on HB6.out hb
          have IN5 : Hid (SL.In ⟨a5, g1.len, c5, g1.f⟩ w6) := in5
          clear HE6 HCp HB6 hb in5
          go_wp2_with fail
          refine (cloneInts r1.a r1.len r1.cap r1.f _ n2 HE7.i2 z2.one).mono ?_
          rintro e w7 ⟨a6, c6, rfl, in6, -, hb⟩
          have HE8 := HE7.on hb
          have HCp8 : Hid (CellsP w7 pb a3 len c3 a4 gl c4 bd) := HCp7.out.on hb
          have HB8 : Hid (Below w.heap.size w w7) := below_on HB7.out hb
          have S1 := stin_inner (gs := ⟨a5, g1.len, c5, g1.f⟩) (rs := ⟨a6, r1.len, c6, r1.f⟩) HS.out.pf HS.out.cd HCp8.out HE8.o HE8.p (IN5.out.on hb) in6 z1 z2
          clear HE7 HCp7 HB7 hb in6 IN5
          go_wp2_with fail
          refine (partState_walk _ _ _ _ _ _ _ _ _ _ _ _ _ _ _ _ _ S1).mono ?_
          rintro e w8 ⟨ra1, rc1, ga1, gc1, D1, rfl, hb, hR1, hG1, hP1⟩
          clear S1
          have hal : Below w8.heap.size w8 (w8.alloc (.cells #[.slice ra1 r1.len rc1, .slice ga1 g1.len gc1, .bool bd] 34)) := (Below.refl _ _).alloc (Nat.le_refl _) _
          have hb := below_on hb hal
          have HE9 := HE8.on hb
          have HCp9 : Hid (CellsP (w8.alloc (.cells #[.slice ra1 r1.len rc1, .slice ga1 g1.len gc1, .bool bd] 34)) pb a3 len c3 a4 gl c4 bd) := HCp8.out.on hb
          have HCi9 : Hid (CellsP (w8.alloc (.cells #[.slice ra1 r1.len rc1, .slice ga1 g1.len gc1, .bool bd] 34)) w8.heap.size ra1 r1.len rc1 ga1 g1.len gc1 bd) := cellsP_new _ _ _ _ _ _ _ _
          have HB9 : Hid (Below w.heap.size w (w8.alloc (.cells #[.slice ra1 r1.len rc1, .slice ga1 g1.len gc1, .bool bd] 34))) := below_on HB8.out hb
          have HR1 : Hid (RowsIn (w8.alloc (.cells #[.slice ra1 r1.len rc1, .slice ga1 g1.len gc1, .bool bd] 34)) ra1 r1.len (fun j => O (x1 j).toNat)) := hR1.on hal
          have HG1 : Hid (GroupsIn (w8.alloc (.cells #[.slice ra1 r1.len rc1, .slice ga1 g1.len gc1, .bool bd] 34)) ga1 g1.len D1) := hG1.on hal
          have HP1 : Hid (PartG g1.len r1.len y1 x1 P Az Bz D1) := hP1
          clear HE8 HCp8 HB8 hb hal hR1 hG1 hP1
          go_wp2_with fail
          generalize w8.alloc (.cells #[.slice ra1 r1.len rc1, .slice ga1 g1.len gc1, .bool bd] 34) = w9 at *
          generalize w8.heap.size = ib at *
          refine (cloneInts g2.a g2.len g2.cap g2.f _ n3 HE9.i3 z3.one).mono ?_
          rintro e w10 ⟨a7, c7, rfl, in7, -, hb⟩
          have HE10 := HE9.on hb
          have HCp10 : Hid (CellsP w10 pb a3 len c3 a4 gl c4 bd) := HCp9.out.on hb
          have HCi10 : Hid (CellsP w10 ib ra1 r1.len rc1 ga1 g1.len gc1 bd) := HCi9.out.on hb
          have HB10 : Hid (Below w.heap.size w w10) := below_on HB9.out hb
          have HR1' : Hid (RowsIn w10 ra1 r1.len (fun j => O (x1 j).toNat)) := HR1.out.on hb
          have HG1' : Hid (GroupsIn w10 ga1 g1.len D1) := HG1.out.on hb
          have IN7 : Hid (SL.In ⟨a7, g2.len, c7, g2.f⟩ w10) := in7
          clear HE9 HCp9 HCi9 HB9 HR1 HG1 hb in7
          go_wp2_with fail
          refine (cloneInts r2.a r2.len r2.cap r2.f _ n4 HE10.i4 z4.one).mono ?_
          rintro e w11 ⟨a8, c8, rfl, in8, -, hb⟩
          have HE11 := HE10.on hb
          have HCp11 : Hid (CellsP w11 pb a3 len c3 a4 gl c4 bd) := HCp10.out.on hb
          have HB11 : Hid (Below w.heap.size w w11) := below_on HB10.out hb
          have S2 := stin_outer (gs := ⟨a7, g2.len, c7, g2.f⟩) (rs := ⟨a8, r2.len, c8, r2.f⟩) HS.out.pf HS.out.cd (HCi10.out.on hb) (HR1'.out.on hb) (HG1'.out.on hb) HP1.out (IN7.out.on hb) in8 z3 z4
          clear HE10 HCp10 HCi10 HB10 HR1' HG1' hb in8 IN7
          go_wp2_with fail
          refine (partState_walk _ _ _ _ _ _ _ _ _ _ _ _ _ _ _ _ _ S2).mono ?_
          rintro e w12 ⟨ra2, rc2, ga2, gc2, D2, rfl, hb, hR2, hG2, hP2⟩
          clear S2
          have hal : Below w12.heap.size w12 (w12.alloc (.cells #[.slice ra2 r2.len rc2, .slice ga2 g2.len gc2, .bool bd] 34)) := (Below.refl _ _).alloc (Nat.le_refl _) _
          have hb := below_on hb hal
          have HE13 := HE11.on hb
          have HCp13 : Hid (CellsP (w12.alloc (.cells #[.slice ra2 r2.len rc2, .slice ga2 g2.len gc2, .bool bd] 34)) pb a3 len c3 a4 gl c4 bd) := HCp11.out.on hb
          have HCo13 : Hid (CellsP (w12.alloc (.cells #[.slice ra2 r2.len rc2, .slice ga2 g2.len gc2, .bool bd] 34)) w12.heap.size ra2 r2.len rc2 ga2 g2.len gc2 bd) := cellsP_new _ _ _ _ _ _ _ _
          have HB13 : Hid (Below w.heap.size w (w12.alloc (.cells #[.slice ra2 r2.len rc2, .slice ga2 g2.len gc2, .bool bd] 34))) := below_on HB11.out hb
          have HR2 : Hid (RowsIn (w12.alloc (.cells #[.slice ra2 r2.len rc2, .slice ga2 g2.len gc2, .bool bd] 34)) ra2 r2.len (fun j => O (x1 (x2 j).toNat).toNat)) := hR2.on hal
          have HG2 : Hid (GroupsIn (w12.alloc (.cells #[.slice ra2 r2.len rc2, .slice ga2 g2.len gc2, .bool bd] 34)) ga2 g2.len D2) := hG2.on hal
          have HP2 : Hid (PartG g2.len r2.len y2 x2 D1 (az1 g1.len y1 P Az) (bz1 y1 x1 Bz) D2) := hP2
          clear HE11 HCp11 HB11 hb hal hR2 hG2 hP2
          have S3 := stin_direct (gs := rowS cb g2.len (fun i => y1 (y2 i).toNat)) (rs := rowS db r2.len (fun i => x1 (x2 i).toNat)) HS.out.pf HS.out.cd HCp13.out HE13.o HE13.p HE13.i5 HE13.i6 (rowS_isY HS.out z1) (rowS_isX HS.out z2)
          go_wp2_with fail
          refine (partState_walk _ _ _ _ _ _ _ _ _ _ _ _ _ _ _ _ _ S3).mono ?_
          rintro e w14 ⟨ra3, rc3, ga3, gc3, D3, rfl, hb, hR3, hG3, hP3⟩
          clear S3
          generalize w12.alloc (.cells #[.slice ra2 r2.len rc2, .slice ga2 g2.len gc2, .bool bd] 34) = w13 at *
          generalize w12.heap.size = ob at *
          have hal : Below w14.heap.size w14 (w14.alloc (.cells #[.slice ra3 r2.len rc3, .slice ga3 g2.len gc3, .bool bd] 34)) := (Below.refl _ _).alloc (Nat.le_refl _) _
          have hb := below_on hb hal
          have HE15 := HE13.on hb
          have HCo15 : Hid (CellsP (w14.alloc (.cells #[.slice ra3 r2.len rc3, .slice ga3 g2.len gc3, .bool bd] 34)) ob ra2 r2.len rc2 ga2 g2.len gc2 bd) := HCo13.out.on hb
          have HCd15 : Hid (CellsP (w14.alloc (.cells #[.slice ra3 r2.len rc3, .slice ga3 g2.len gc3, .bool bd] 34)) w14.heap.size ra3 r2.len rc3 ga3 g2.len gc3 bd) := cellsP_new _ _ _ _ _ _ _ _
          have HB15 : Hid (Below w.heap.size w (w14.alloc (.cells #[.slice ra3 r2.len rc3, .slice ga3 g2.len gc3, .bool bd] 34))) := below_on HB13.out hb
          have HR2' : Hid (RowsIn (w14.alloc (.cells #[.slice ra3 r2.len rc3, .slice ga3 g2.len gc3, .bool bd] 34)) ra2 r2.len (fun j => O (x1 (x2 j).toNat).toNat)) := HR2.out.on hb
          have HG2' : Hid (GroupsIn (w14.alloc (.cells #[.slice ra3 r2.len rc3, .slice ga3 g2.len gc3, .bool bd] 34)) ga2 g2.len D2) := HG2.out.on hb
          have HR3 : Hid (RowsIn (w14.alloc (.cells #[.slice ra3 r2.len rc3, .slice ga3 g2.len gc3, .bool bd] 34)) ra3 r2.len (fun j => O (x1 (x2 j).toNat).toNat)) := hR3.on hal
          have HG3 : Hid (GroupsIn (w14.alloc (.cells #[.slice ra3 r2.len rc3, .slice ga3 g2.len gc3, .bool bd] 34)) ga3 g2.len D3) := hG3.on hal
          have HGE : Hid (∀ i, i < g2.len → GrpEq (D2 i) (D3 i)) := part_of_part (rise_inj HS.out.cd.up) HS.out.cd.g1 HS.out.cd.g2 HS.out.pf.req HS.out.pf.fit n4 HP1.out HP2.out hP3
          have HP3 : Hid (PartG g2.len r2.len (fun i => y1 (y2 i).toNat) (fun j => x1 (x2 j).toNat) P Az Bz D3) := hP3
          clear HE13 HCp13 HCo13 HB13 HR2 HG2 hb hal hR3 hG3 hP3 HP1 HP2
          have e1 : (bd != bd) = false := by simp
          have e2 : ((r2.len : Int) != (r2.len : Int)) = false := by simp
          have e3 : ((g2.len : Int) != (g2.len : Int)) = false := by simp
          go_wp2_with fail
          generalize w14.alloc (.cells #[.slice ra3 r2.len rc3, .slice ga3 g2.len gc3, .bool bd] 34) = w15 at *
          generalize w14.heap.size = tb at *
          clear e1 e2 e3
          go_loopw [132] (fun t wr => ∃ k : Nat, k ≤ r2.len ∧ t = .int .i64 k ∧ Below w15.heap.size w15 wr) (fun t _ => r2.len - (intOf t).toNat)
          case atStart => exact ⟨0, Nat.zero_le _, rfl, Below.refl _ _⟩
          case round =>
            obtain ⟨k, hk, rfl, hB⟩ := hrel
            by_cases hlt : k < r2.len
            · have hct := (HCd15.out.on hB).1
              obtain ⟨x20, x21⟩ := HS.out.cd.r2 k hlt
              obtain ⟨x10, x11⟩ := HS.out.cd.r1 (x2 k).toNat (by omega)
              obtain ⟨s, hs⟩ : ∃ s : Nat, x1 (x2 k).toNat = s := ⟨(x1 (x2 k).toNat).toNat, by omega⟩
              have hsl : s < len := by omega
              have hO : (x1 (x2 k).toNat).toNat = s := by omega
              have hcd : wr.cell? ⟨db, k, none⟩ = some (.int .i64 (x1 (x2 k).toNat)) := rowS_cell (HE15.i6.on hB) hlt
              rw [hs] at hcd
              obtain h0 | ⟨b3, o3, rfl, hr3⟩ := HR3.out.on hB
              · omega
              obtain ⟨d0, d1, d2, d3, d4, s1, s2⟩ := hr3 k hlt
              simp only [hO] at d0 d1 d2 d3 d4 s1 s2
              obtain h0 | ⟨b, o, rfl, hrr⟩ := HE15.r.on hB
              · omega
              obtain ⟨t0, t1, t2, t3, t4, u1, u2⟩ := hrr s hsl
              have HY : Hid (∀ W, Below wr.heap.size wr W → Calls Try.prog 19 #[(O s).agg, (R s).agg] W fun e w' => YesN W e w') := fun W hb => optionIsRow_yes _ _ W (row_same HS.out.pf HS.out.like hsl) (s1.on hb) (s2.on hb) (u1.on hb) (u2.on hb)
              have hS0 := And.intro hct (And.intro d0 (And.intro d1 (And.intro d2 (And.intro d3 (And.intro d4 (And.intro hcd (And.intro t0 (And.intro t1 (And.intro t2 (And.intro t3 (And.intro t4 (Below.refl wr.heap.size wr))))))))))))
              have HBk : Hid (Below w15.heap.size w15 wr) := hB
              clear hct d0 d1 d2 d3 d4 hcd t0 t1 t2 t3 t4 u1 u2 s1 s2 hr3 hrr x20 x21 x10 x11 hs hO hB
              go_wp2_with fail
              go_region_held3 (fun w' => w'.cell? ⟨tb, 0, none⟩ = some (.slice (some ⟨b3, o3, none⟩) r2.len rc3) ∧ w'.cell? ⟨b3, o3 + k * 5, none⟩ = some (.int .i64 (O s).price) ∧ w'.cell? ⟨b3, o3 + k * 5 + 1, none⟩ = some (O s).cap.val ∧ w'.cell? ⟨b3, o3 + k * 5 + 2, none⟩ = some (O s).alc.val ∧ w'.cell? ⟨b3, o3 + k * 5 + 3, none⟩ = some (.int .i64 (O s).limit) ∧ w'.cell? ⟨b3, o3 + k * 5 + 4, none⟩ = some (.bool (O s).ex) ∧ w'.cell? ⟨db, k, none⟩ = some (.int .i64 (s : Int)) ∧ w'.cell? ⟨b, o + s * 5, none⟩ = some (.int .i64 (R s).price) ∧ w'.cell? ⟨b, o + s * 5 + 1, none⟩ = some (R s).cap.val ∧ w'.cell? ⟨b, o + s * 5 + 2, none⟩ = some (R s).alc.val ∧ w'.cell? ⟨b, o + s * 5 + 3, none⟩ = some (.int .i64 (R s).limit) ∧ w'.cell? ⟨b, o + s * 5 + 4, none⟩ = some (.bool (R s).ex) ∧ Below wr.heap.size wr w')
                (first | with_reducible exact draw12 hS0 | with_reducible exact keep12 (by assumption) (by assumption))
                (first | (go_at_call 19; refine (HY.out _ (last12 (by assumption))).mono ?_; rintro e w' ⟨rfl, hb⟩))
              have HL : Hid (Below wr.heap.size wr w') := below_on (Below.refl _ _).drew hb
              go_wp2_with fail
              go_roundw
              case rel => exact ⟨k + 1, by omega, by go_num, below_on HBk.out HL.out⟩
              case measure => simp [intOf]; omega
            · obtain rfl : k = r2.len := by omega
              go_wp2_with fail
              go_loopw [152] (fun t wr => ∃ k : Nat, k ≤ g2.len ∧ t = .int .i64 k ∧ Below w15.heap.size w15 wr) (fun t _ => g2.len - (intOf t).toNat)
              case atStart => exact ⟨0, Nat.zero_le _, rfl, hB⟩
              case round =>
                clear hB hlt hk
                obtain ⟨k, hk, rfl, hB⟩ := hrel
                by_cases hlt : k < g2.len
                · have hct := (HCd15.out.on hB).2.1
                  obtain ⟨x20, x21⟩ := HS.out.cd.g2 k hlt
                  obtain ⟨x10, x11⟩ := HS.out.cd.g1 (y2 k).toNat (by omega)
                  obtain ⟨s, hs⟩ : ∃ s : Nat, y1 (y2 k).toNat = s := ⟨(y1 (y2 k).toNat).toNat, by omega⟩
                  have hsl : s < gl := by omega
                  have hO : (y1 (y2 k).toNat).toNat = s := by omega
                  have hcc : wr.cell? ⟨cb, k, none⟩ = some (.int .i64 (y1 (y2 k).toNat)) := rowS_cell (HE15.i5.on hB) hlt
                  rw [hs] at hcc
                  obtain ⟨p1, p2, -⟩ := HP3.out k hlt
                  simp only [hO] at p1 p2
                  obtain h0 | ⟨b3, o3, rfl, hr3⟩ := HG3.out.on hB
                  · omega
                  obtain ⟨d0, d1, -, -, s1, -⟩ := hr3 k hlt
                  rw [p1] at d0 s1
                  obtain h0 | ⟨b, o, rfl, hrr⟩ := HE15.g.on hB
                  · omega
                  obtain ⟨t0, t1, -, -, u1, -⟩ := hrr s hsl
                  rw [p2, (HS.out.glike s hsl).1] at d1
                  have hsame := req_same HS.out.pf HS.out.glike hsl
                  have hne : ((G s).count != (G s).count) = false := by simp
                  have HBk : Hid (Below w15.heap.size w15 wr) := hB
                  clear hr3 hrr x20 x21 x10 x11 hs hO hB p1 p2
                  go_wp2_with fail
                  go_quiet (first | (go_at_call 20; refine Calls.quiet_of (eqI64_same (P s).req (G s).req _ hsame (s1.on (below_drewN (Below.refl _ _) _)) (u1.on (below_drewN (Below.refl _ _) _)))))
                  go_wp2_with fail
                  go_roundw
                  case rel => exact ⟨k + 1, by omega, by go_num, below_drewN HBk.out _⟩
                  case measure => simp [intOf]; omega
                · obtain ⟨c1, c2, c3⟩ := HCo15.out.on hB
                  obtain ⟨c4, c5, c6⟩ := HCd15.out.on hB
                  have HBk : Hid (Below w.heap.size w wr) := below_on HB15.out hB
                  have HY : Hid (Calls Try.prog 21 #[prob ra2 r2.len rc2 ga2 g2.len gc2 bd, prob ra3 r2.len rc3 ga3 g2.len gc3 bd] wr fun e w' => YesN wr e w') :=
                    problemsAgree_yes ra2 ra3 r2.len rc2 rc3 _ _ ga2 ga3 g2.len gc2 gc3 D2 D3 bd wr n4 n3 (HR2'.out.on hB) (HR3.out.on hB) (HG2'.out.on hB) (HG3.out.on hB)
                      (fun i hi => by
                        have q1 := HS.out.cd.r2 i hi
                        have q2 := HS.out.cd.r1 (x2 i).toNat (by omega)
                        obtain ⟨q3, q4, q5⟩ := HS.out.pf.row (x1 (x2 i).toNat).toNat (by omega)
                        exact RowEq.refl q3 q4 q5) HGE.out
                  clear hB
                  go_wp2_with fail
                  refine HY.out.mono ?_; rintro e w' ⟨rfl, hb⟩
                  go_wp2_with fail
                  go_ret
                  exact ⟨rfl, below_on HBk.out hb⟩
end Go.Proofs.Qxb6617961a
