import Derived.Test.Qxb6617961aStateR
namespace Go.Proofs.Qxb6617961a
open Go.RowKit

set_option maxRecDepth 100000 in
set_option maxHeartbeats 4000000 in
theorem state_walk (w0 w : World) (qb pb : Nat) (gs rs : SL) (gz rz : Nat → Int) (ra : Option Addr) (rl rc : Nat) (O : Nat → RowD) (ga : Option Addr) (gl gc : Nat) (D : Nat → GroupD) (az : Nat → Nat → Int) (bz : Nat → Nat → Bool) (bd : Bool)
    (S : StIn w0 pb gs rs gz rz ra rl rc O ga gl gc D az bz bd) (hw : Below w0.heap.size w0 w) (hqb : w0.heap.size ≤ qb) (hq : w.rowIs qb 66 5 (stF (.slice none 0 0) (.slice none 0 0) false gs.val rs.val)) :
    Calls Try.prog 27 #[.pointer (some ⟨qb, 0, none⟩), .pointer (some ⟨pb, 0, none⟩)] w fun e w' => StEnd w0 qb gs rs gz rz O D az bz bd e w' := by
  have hmk := run_makeI w gs.len
  have gle := S.gle
  have rle := S.rle
  have q3 : w.cell? ⟨qb, 3, none⟩ = some gs.val := hq.cell (i := 3) (by omega)
  have hql := hq.lt
  have hq1 := hq.alloc (.map #[] 0)
  have q3' : (w.alloc (.map #[] 0)).cell? ⟨qb, 3, none⟩ = some gs.val := hq1.cell (i := 3) (by omega)
  have hM0 := MapI_empty w
  have hb0 : Below w0.heap.size w0 (w.alloc (.map #[] 0)) := hw.alloc hw.size _
  obtain ⟨mb, hmb⟩ : ∃ mb, mb = w.heap.size := ⟨_, rfl⟩
  have hmB : w0.heap.size ≤ mb := by rw [hmb]; exact hw.size
  rw [← hmb] at hM0
  go_enter Try.func27, Try.ntmps27
  go_wp2_with fail
  rw [← hmb]
  generalize w.alloc (.map #[] 0) = w1 at *
  clear hmk hmb q3 hql hq hw
  go_loopw [30] (fun t wr => ∃ k : Nat, k ≤ gs.len ∧ t = .int .i64 k ∧ St1 w0 qb mb gs rs gz k wr) (fun t _ => gs.len - (intOf t).toNat)
  case atStart => exact ⟨0, Nat.zero_le _, rfl, hb0, hM0, hq1⟩
  case round =>
    clear q3' hq1 hb0 hM0
    obtain ⟨k, hk, rfl, hB, hM, hq⟩ := hrel
    by_cases hlt : k < gs.len
    · obtain ⟨b, off, ha, hc⟩ := S.gin.at S.gis hlt
      have hc := cell_on hB hc
      obtain ⟨w', hrun, hM', hoth, hbel⟩ := run_putI hM (gz k) k
      have hq' : w'.rowIs qb 66 5 (stF (.slice none 0 0) (.slice none 0 0) false gs.val rs.val) := hq.of_block (hoth qb (row_map hq hM))
      have hB' := hbel _ _ hmB hB
      rw [SL.val_of ha]
      clear hM hoth hbel
      go_wp2_with fail
      go_roundw
      case rel => exact ⟨k + 1, by omega, by go_num, hB', hM', hq'⟩
      case measure => simp [intOf]; omega
    · obtain rfl : k = gs.len := by omega
      clear hlt hk
      have hp2 := cell_on hB S.p2
      have c2 : wr.cell? ⟨qb, 2, none⟩ = some (.bool false) := hq.cell (i := 2) (by omega)
      have f2 := hq.frozen 2
      have hq2 : (wr.setCell ⟨qb, 2, none⟩ (.bool bd)).rowIs qb 66 5 (stF (.slice none 0 0) (.slice none 0 0) bd gs.val rs.val) := (hq.set 2 (.bool bd)).congr fun i hi => by
        match i, hi with
        | 0, _ => rfl
        | 1, _ => rfl
        | 2, _ => rfl
        | 3, _ => rfl
        | 4, _ => rfl
      have c4 : (wr.setCell ⟨qb, 2, none⟩ (.bool bd)).cell? ⟨qb, 4, none⟩ = some rs.val := hq2.cell (i := 4) (by omega)
      have hS2 : St2 w0 qb mb gs rs gz rz O bd 0 (wr.setCell ⟨qb, 2, none⟩ (.bool bd)) :=
        ⟨hB.setCell hqb _, hM.of_block (Below.heap_setCell _ _ _ _ (row_map hq hM).symm), _, hq2, World.ownsRow_nil _ _ _ _⟩
      clear hq hM hB hq2
      go_wp2_with fail
      generalize wr.setCell ⟨qb, 2, none⟩ (.bool bd) = w2 at *
      clear c2 f2 hp2 c4
      go_loopw [52] (fun t wr => ∃ k : Nat, k ≤ rs.len ∧ t = .int .i64 k ∧ St2 w0 qb mb gs rs gz rz O bd k wr) (fun t _ => rs.len - (intOf t).toNat)
      case atStart => exact ⟨0, Nat.zero_le _, rfl, hS2⟩
      case round =>
        clear hS2
        obtain ⟨k, hk, rfl, hB, hM, rv, hq, hown⟩ := hrel
        by_cases hlt : k < rs.len
        · obtain ⟨b, off, ha, hc⟩ := S.rin.at S.ris hlt
          have hc := cell_on hB hc
          obtain ⟨z0, z1⟩ := S.rdom k hlt
          obtain ⟨p, hp⟩ : ∃ p : Nat, rz k = p := ⟨(rz k).toNat, by omega⟩
          have hpl : p < rl := by omega
          have rll := S.rll
          have hp0 := cell_on hB S.p0
          obtain h0 | ⟨ob, oo, rfl, hrc⟩ := S.rows.on hB
          · omega
          obtain ⟨d0, d1, d2, d3, d4, -⟩ := hrc p hpl
          rw [hp] at hc
          obtain ⟨a0, c0, rfl⟩ := own_form hown
          have cq : wr.cell? ⟨qb, 0, none⟩ = some (.slice a0 k c0) := hq.cell (i := 0) (by omega)
          obtain ⟨i51, z51, t1, t2, t3, t4, t5⟩ := info51'
          have hqX : (wr.alloc (.cells #[.int .i64 (O p).price, .slice (O p).cap.a (O p).cap.len (O p).cap.cap, .slice (O p).alc.a (O p).alc.len (O p).alc.cap, .int .i64 (O p).limit, .bool (O p).ex] 51)).rowIs qb 66 5 (stF (.slice a0 k c0) (.slice none 0 0) bd gs.val rs.val) := hq.alloc _
          have cqX : (wr.alloc (.cells #[.int .i64 (O p).price, .slice (O p).cap.a (O p).cap.len (O p).cap.cap, .slice (O p).alc.a (O p).alc.len (O p).alc.cap, .int .i64 (O p).limit, .bool (O p).ex] 51)).cell? ⟨qb, 0, none⟩ = some (.slice a0 k c0) := hqX.cell (i := 0) (by omega)
          have HownX : Hid ((wr.alloc (.cells #[.int .i64 (O p).price, .slice (O p).cap.a (O p).cap.len (O p).cap.cap, .slice (O p).alc.a (O p).alc.len (O p).alc.cap, .int .i64 (O p).limit, .bool (O p).ex] 51)).drew.ownsRow w0.heap.size 51 5 (.slice a0 k c0) k (rowsL O rz k)) := own_on hown fun b hb => Below.heap_alloc wr _ _ (own_base hown hb).2
          have HMX : Hid (MapI (wr.alloc (.cells #[.int .i64 (O p).price, .slice (O p).cap.a (O p).cap.len (O p).cap.cap, .slice (O p).alc.a (O p).alc.len (O p).alc.cap, .int .i64 (O p).limit, .bool (O p).ex] 51)).drew mb (look gz gs.len)) := hM.of_block (Below.heap_alloc wr _ _ hM.lt)
          have HBX : Hid (Below w0.heap.size w0 (wr.alloc (.cells #[.int .i64 (O p).price, .slice (O p).cap.a (O p).cap.len (O p).cap.cap, .slice (O p).alc.a (O p).alc.len (O p).alc.cap, .int .i64 (O p).limit, .bool (O p).ex] 51)).drew) := (hB.alloc hB.size _).drew
          have Hnew : Hid (∀ j u, (rowL (O p))[j]? = some u → (wr.alloc (.cells #[.int .i64 (O p).price, .slice (O p).cap.a (O p).cap.len (O p).cap.cap, .slice (O p).alc.a (O p).alc.len (O p).alc.cap, .int .i64 (O p).limit, .bool (O p).ex] 51)).drew.cell? ((⟨wr.heap.size, 0, none⟩ : Addr).add j) = some u) := rowL_new wr (O p)
          have HqX : Hid ((wr.alloc (.cells #[.int .i64 (O p).price, .slice (O p).cap.a (O p).cap.len (O p).cap.cap, .slice (O p).alc.a (O p).alc.len (O p).alc.cap, .int .i64 (O p).limit, .bool (O p).ex] 51)).drew.rowIs qb 66 5 (stF (.slice a0 k c0) (.slice none 0 0) bd gs.val rs.val)) := hqX
          have HP : Hid (rz k = (p : Int)) := hp
          have hsz := hB.size
          rw [SL.val_of ha]
          clear hown hM hB hrc z0 z1 hp hqX hq
          go_wp2_with fail
          go_region_law (refine step_append_own rfl (.tmp 61) (.tmp 69) 29 rfl w0.heap.size 51 i51 z51 5 72 Try.underlying29 t1 t2 t3 t4 t5 (by decide) (.slice a0 k c0) k (rowsL O rz k) (by simp [Act.eval]) HownX.out ⟨wr.heap.size, 0, none⟩ 1 1 (rowL (O p)) (by simp [Act.eval]) rfl Hnew.out (rowL_one _) (by unfold maxLen; omega) (by omega) (by simp; omega) ?_; intro v' w' hown' hgrow hat; obtain ⟨a1, c1, rfl⟩ := own_form hown'; obtain ⟨hq', hM', hB'⟩ := app_keeps HqX.out HMX.out HBX.out HownX.out (by decide) hgrow; have cq' := hq'.cell (i := 0) (by omega); have fq' := hq'.frozen 0)
          all_goals
            go_wp2_with fail
            go_roundw
            case rel =>
              refine ⟨k + 1, by omega, by go_num, hB'.setCell hqb _, hM'.of_block (Below.heap_setCell _ _ _ _ (row_map hq' hM').symm), .slice a1 (k + 1) c1, (hq'.set 0 _).congr ?_, ?_⟩
              · exact fun i hi => by
                  match i, hi with
                  | 0, _ => rfl
                  | 1, _ => rfl
                  | 2, _ => rfl
                  | 3, _ => rfl
                  | 4, _ => rfl
              · have hpt : (rz k).toNat = p := by have := HP.out; omega
                rw [rowsL, hpt]
                exact own_set hown' hq' (by decide) _ _
            case measure => simp [intOf]; omega
        · obtain rfl : k = rs.len := by omega
          clear hlt hk
          have q3 : wr.cell? ⟨qb, 3, none⟩ = some gs.val := hq.cell (i := 3) (by omega)
          have hS3 : St3 w0 qb mb gs rs gz rz O D az bz bd 0 wr := ⟨hB, hM, rv, _, D, hq, hown, World.ownsRow_nil _ _ _ _, fun i hi => absurd hi (by omega)⟩
          clear hB hM hq hown
          go_wp2_with fail
          clear q3
          go_loopw [80] (fun t wr => ∃ j : Nat, j ≤ gs.len ∧ t = .int .i64 j ∧ St3 w0 qb mb gs rs gz rz O D az bz bd j wr) (fun t _ => gs.len - (intOf t).toNat)
          case atStart => exact ⟨0, Nat.zero_le _, rfl, hS3⟩
          case round =>
            clear hS3
            obtain ⟨j, hj, rfl, hB, hM, rv, gv, D', hq, hown, hgv, hGO⟩ := hrel
            obtain ⟨ws, hws⟩ : ∃ ws, ws = wr := ⟨_, rfl⟩
            subst hws
            by_cases hlt : j < gs.len
            · obtain ⟨b, off, ha, hc⟩ := S.gin.at S.gis hlt
              have hc := cell_on hB hc
              obtain ⟨z0, z1⟩ := S.gdom j hlt
              obtain ⟨g, hg⟩ : ∃ g : Nat, gz j = g := ⟨(gz j).toNat, by omega⟩
              have hgl : g < gl := by omega
              have gll := S.gll
              have hp1 := cell_on hB S.p1
              obtain h0 | ⟨gb, go, rfl, hgc⟩ := S.grps.on hB
              · omega
              obtain ⟨d0, d1, d2, d3, -⟩ := hgc g hgl
              rw [hg] at hc
              have cq4 : ws.cell? ⟨qb, 4, none⟩ = some rs.val := hq.cell (i := 4) (by omega)
              have hmk := run_make_row' (P := Try.prog) 39 4 (.bool false) 1 Try.underlying39 info4 rfl .i64 .i64 rs.len (by omega) (by omega)
              have one : ∀ {b o : Nat} {v : Value}, ws.cell? ⟨b, o, none⟩ = some v → ∀ X, (ws.alloc X).cell? ⟨b, o, none⟩ = some v := fun h X => cell_on ((Below.refl _ _).alloc (Nat.le_refl _) _) h
              have two : ∀ {b o : Nat} {v : Value}, ws.cell? ⟨b, o, none⟩ = some v → ∀ X Y, ((ws.alloc X).alloc Y).cell? ⟨b, o, none⟩ = some v := fun h X Y => cell_on (below_two ws X Y) h
              have o4 := one cq4
              have o0 := one d0
              have o1 := one d1
              have t0 := two d0
              have t1 := two d1
              clear one two
              have HG : Hid (gz j = (g : Int)) := hg
              rw [SL.val_of ha]
              clear z0 z1 hg hgc
              go_wp2_with fail
              go_cut [12, 80] from 80 to 162 (fun v t wx => ∃ nb ob, v = .pointer (some ⟨ob, 0, none⟩) ∧ t = .int .i64 j ∧ R4 ws rs.len rz (D g) (bz g) nb ob 0 wx)
              case first =>
                go_region
                all_goals
                  go_wp2_with fail
                  go_meet
                  first
                    | exact ⟨_, _, rfl, rfl, r4_a ws rs.len rz (D g) (bz g)⟩
                    | exact ⟨_, _, rfl, rfl, r4_b ws rs.len rz (D g) (bz g)⟩
              case rest =>
                obtain ⟨nb, ob, rfl, rfl, hR⟩ := hcut
                have cq4' := cell_on hR.1 cq4
                clear o4 o0 o1 t0 t1 hmk d0 d1
                go_wp2_with fail
                go_loopw [110] (fun t wx => ∃ k : Nat, k ≤ rs.len ∧ t = .int .i64 k ∧ R4 ws rs.len rz (D g) (bz g) nb ob k wx) (fun t _ => rs.len - (intOf t).toNat)
                case atStart => exact ⟨0, Nat.zero_le _, rfl, hR⟩
                case round =>
                  clear hR cq4'
                  obtain ⟨k, hk, rfl, hb, hnb, hob, ho, hn⟩ := hrel
                  by_cases hltk : k < rs.len
                  · obtain ⟨rb, roff, har, hcr⟩ := S.rin.at S.ris hltk
                    have hcr := cell_on hb (cell_on hB hcr)
                    obtain ⟨y0, y1⟩ := S.rdom k hltk
                    have y2 := S.bdom j hlt k hltk
                    obtain ⟨p, hp⟩ : ∃ p : Nat, rz k = p := ⟨(rz k).toNat, by omega⟩
                    rw [hp] at hcr
                    have hgt : (gz j).toNat = g := by have := HG.out; omega
                    rw [hgt] at y2
                    have hpl : p < (D g).rows.len := by omega
                    have hbl := (S.bis g hgl).2
                    have hrin : (D g).rows.In w0 := by
                      obtain h0 | ⟨b', o', hh, hgc⟩ := S.grps
                      · omega
                      · exact (hgc g hgl).2.2.2.2.2.1
                    obtain ⟨xb, xoff, hax, hcx⟩ := hrin.atB (S.bis g hgl).1 hpl
                    have hcx := cell_on hb (cell_on hB hcx)
                    have d2' := cell_on hb d2
                    have e2 : wr.cell? ⟨ob, 2, none⟩ = some (.slice (some ⟨nb, 0, none⟩) rs.len rs.len) := ho.cell (i := 2) (by omega)
                    have en := hn.cell hltk
                    have fn := hn.frozen k
                    rw [SL.val_of hax] at d2'
                    rw [SL.val_of har]
                    clear y0 y1 y2
                    go_wp2_with fail
                    go_region
                    go_wp2_with fail
                    go_roundw
                    case rel => exact ⟨k + 1, by omega, by go_num, R4.step ⟨hb, hnb, hob, ho, hn⟩ (by omega)⟩
                    case measure => simp [intOf]; omega
                  · obtain rfl : k = rs.len := by omega
                    have d3' := cell_on hb d3
                    have hal := (S.ais g hgl).2
                    have hR5 := R4.done ⟨hb, hnb, hob, ho, hn⟩ gz gs.len (az g)
                    clear hb hnb hob ho hn
                    go_wp2_with fail
                    clear d3'
                    go_loopw [132] (fun t wx => ∃ k : Nat, k ≤ (D g).apart.len ∧ t = .int .i64 k ∧ R5 ws rs.len rz (D g) (bz g) gz gs.len (az g) nb ob k wx) (fun t _ => (D g).apart.len - (intOf t).toNat)
                    case atStart => exact ⟨0, Nat.zero_le _, rfl, hR5⟩
                    case round =>
                      clear hR5
                      obtain ⟨k, hk, rfl, hb, hob, hn, av, ho, hav⟩ := hrel
                      by_cases hltk : k < (D g).apart.len
                      · have hain : (D g).apart.In w0 := by
                          obtain h0 | ⟨b', o', hh, hgc⟩ := S.grps
                          · omega
                          · exact (hgc g hgl).2.2.2.2.2.2
                        obtain ⟨xb, xoff, hax, hcx⟩ := hain.at (S.ais g hgl).1 hltk
                        have hcx := cell_on hb (cell_on hB hcx)
                        have hM5 : MapI wr mb (look gz gs.len) := hM.of_block (hb.block mb hM.lt)
                        have hl := run_lookI hM5 (az g k)
                        rw [SL.val_of hax]
                        cases hlk : look gz gs.len (az g k) with
                        | none =>
                          rw [hlk] at hl
                          simp only [Option.getD_none, Option.isSome_none] at hl
                          clear hM5
                          go_wp2_with fail
                          go_roundw
                          case rel => exact ⟨k + 1, by omega, by go_num, hb, hob, hn, av, ho, by rw [aps_none hlk]; exact hav⟩
                          case measure => simp [intOf]; omega
                        | some i =>
                          rw [hlk] at hl
                          simp only [Option.getD_some, Option.isSome_some] at hl
                          clear hM5
                          obtain ⟨i3, z3, t1, t2, t3, t4, t5⟩ := info3'
                          obtain ⟨a0, c0, rfl⟩ := own_form hav
                          have haL := aps_len gz gs.len (az g) k
                          have e3 : wr.cell? ⟨ob, 3, none⟩ = some (.slice a0 (aps gz gs.len (az g) k).length c0) := ho.cell (i := 3) (by omega)
                          have HoX : Hid ((wr.alloc (.cells #[.int .i64 (i : Int)] 3)).rowIs ob 53 4 (ownF (D g).req.val (D g).count (.slice (some ⟨nb, 0, none⟩) rs.len rs.len) (.slice a0 (aps gz gs.len (az g) k).length c0))) := ho.alloc _
                          have HnX : Hid ((wr.alloc (.cells #[.int .i64 (i : Int)] 3)).rowIs nb 4 rs.len (fun i => .bool (bz g (rz i).toNat))) := hn.alloc _
                          have HavX : Hid ((wr.alloc (.cells #[.int .i64 (i : Int)] 3)).ownsRow ws.heap.size 3 1 (.slice a0 (aps gz gs.len (az g) k).length c0) (aps gz gs.len (az g) k).length ((aps gz gs.len (az g) k).map fun i : Nat => Value.int .i64 (i : Int))) := own_on hav fun b hb => Below.heap_alloc wr _ _ (own_base hav hb).2
                          have HbX : Hid (Below ws.heap.size ws (wr.alloc (.cells #[.int .i64 (i : Int)] 3))) := hb.alloc hb.size _
                          have hbs := hb.size
                          clear hb ho hn hav
                          go_wp2_with (at_builtin; refine wpList_append_own_at _ rfl (.tmp 144) (.tmp 146) 40 rfl ws.heap.size 3 i3 z3 1 8 Try.underlying40 t1 t2 t3 t4 t5 (by decide) (.slice a0 (aps gz gs.len (az g) k).length c0) _ _ rfl HavX.out ⟨wr.heap.size, 0, none⟩ 1 1 [.int .i64 (i : Int)] rfl rfl (cell_one_new _ _ _) (fun u hu => by simp at hu; subst hu; rfl) (by unfold maxLen; omega) (by omega) (by simp; omega) ?_; intro v' w' hown' hgrow hnil hat; obtain ⟨a1, c1, rfl⟩ := own_form hown'; have ho' := HoX.out.of_block (hgrow.block ob HoX.out.lt (own_ne HavX.out HoX.out (by decide)).symm); have hn' := HnX.out.of_block (hgrow.block nb HnX.out.lt (own_ne HavX.out HnX.out (by decide)).symm); have hb' := HbX.out.grown hgrow HbX.out.size (fun _ hk => (own_base HavX.out hk).1); have e3' := ho'.cell (i := 3) (by omega); have f3' := ho'.frozen 3)
                          go_roundw
                          case rel =>
                            refine ⟨k + 1, by omega, by go_num, hb'.setCell hob _, hob, hn'.setOther (rows_tag hn' ho' (by decide)) _, .slice a1 ((aps gz gs.len (az g) k).length + 1) c1, (ho'.set 3 _).congr ?_, ?_⟩
                            · exact fun i hi => by
                                match i, hi with
                                | 0, _ => rfl
                                | 1, _ => rfl
                                | 2, _ => rfl
                                | 3, _ => rfl
                            · rw [aps_some hlk, List.map_append, List.length_append]
                              exact own_set hown' ho' (by decide) _ _
                          case measure => simp [intOf]; omega
                      · obtain rfl : k = (D g).apart.len := by omega
                        obtain ⟨a0, c0, rfl⟩ := own_form hgv
                        obtain ⟨a2, c2, rfl⟩ := own_form hav
                        obtain ⟨i53, z53, t1, t2, t3, t4, t5⟩ := info53'
                        have hqr : wr.rowIs qb 66 5 (stF rv (.slice a0 j c0) bd gs.val rs.val) := row_on hb hq
                        have hgr : wr.ownsRow w0.heap.size 53 4 (.slice a0 j c0) j (grpsL D' j) := own_on hgv fun b h => hb.block b (own_base hgv h).2
                        have cq : wr.cell? ⟨qb, 1, none⟩ = some (.slice a0 j c0) := hqr.cell (i := 1) (by omega)
                        have b0 : wr.cell? ⟨ob, 0, none⟩ = some (.slice (D g).req.a (D g).req.len (D g).req.cap) := ho.cell (i := 0) (by omega)
                        have b1 : wr.cell? ⟨ob, 1, none⟩ = some (.int .i64 (D g).count) := ho.cell (i := 1) (by omega)
                        have b2 : wr.cell? ⟨ob, 2, none⟩ = some (.slice (some ⟨nb, 0, none⟩) rs.len rs.len) := ho.cell (i := 2) (by omega)
                        have b3 : wr.cell? ⟨ob, 3, none⟩ = some (.slice a2 (aps gz gs.len (az g) (D g).apart.len).length c2) := ho.cell (i := 3) (by omega)
                        have HqX : Hid ((wr.alloc (.cells #[.slice (D g).req.a (D g).req.len (D g).req.cap, .int .i64 (D g).count, .slice (some ⟨nb, 0, none⟩) rs.len rs.len, .slice a2 (aps gz gs.len (az g) (D g).apart.len).length c2] 53)).drew.rowIs qb 66 5 (stF rv (.slice a0 j c0) bd gs.val rs.val)) := hqr.alloc _
                        have cqX : (wr.alloc (.cells #[.slice (D g).req.a (D g).req.len (D g).req.cap, .int .i64 (D g).count, .slice (some ⟨nb, 0, none⟩) rs.len rs.len, .slice a2 (aps gz gs.len (az g) (D g).apart.len).length c2] 53)).cell? ⟨qb, 1, none⟩ = some (.slice a0 j c0) := (hqr.alloc _).cell (i := 1) (by omega)
                        have HownX : Hid ((wr.alloc (.cells #[.slice (D g).req.a (D g).req.len (D g).req.cap, .int .i64 (D g).count, .slice (some ⟨nb, 0, none⟩) rs.len rs.len, .slice a2 (aps gz gs.len (az g) (D g).apart.len).length c2] 53)).drew.ownsRow w0.heap.size 53 4 (.slice a0 j c0) j (grpsL D' j)) := own_on hgr fun b hb => Below.heap_alloc wr _ _ (own_base hgr hb).2
                        have Hnew : Hid (∀ i u, (grpL (newG rs.len rz (D g) (bz g) (aps gz gs.len (az g) (D g).apart.len) nb a2 c2))[i]? = some u → (wr.alloc (.cells #[.slice (D g).req.a (D g).req.len (D g).req.cap, .int .i64 (D g).count, .slice (some ⟨nb, 0, none⟩) rs.len rs.len, .slice a2 (aps gz gs.len (az g) (D g).apart.len).length c2] 53)).drew.cell? ((⟨wr.heap.size, 0, none⟩ : Addr).add i) = some u) := grpL_new wr (newG rs.len rz (D g) (bz g) (aps gz gs.len (az g) (D g).apart.len) nb a2 c2)
                        have Hgt : Hid ((gz j).toNat = g) := by have := HG.out; show (gz j).toNat = g; omega
                        have hsz := hB.size
                        have hsz2 := hb.size
                        have HB : Hid (Below w0.heap.size w0 ws) := hB
                        have HM : Hid (MapI ws mb (look gz gs.len)) := hM
                        have Hq : Hid (ws.rowIs qb 66 5 (stF rv (.slice a0 j c0) bd gs.val rs.val)) := hq
                        have Hown : Hid (ws.ownsRow w0.heap.size 51 5 rv rs.len (rowsL O rz rs.len)) := hown
                        have Hgv : Hid (ws.ownsRow w0.heap.size 53 4 (.slice a0 j c0) j (grpsL D' j)) := hgv
                        have Hb : Hid (Below ws.heap.size ws wr) := hb
                        have Hn : Hid (wr.rowIs nb 4 rs.len (fun i => .bool (bz g (rz i).toNat))) := hn
                        have Hav : Hid (wr.ownsRow ws.heap.size 3 1 (.slice a2 (aps gz gs.len (az g) (D g).apart.len).length c2) (aps gz gs.len (az g) (D g).apart.len).length ((aps gz gs.len (az g) (D g).apart.len).map fun i : Nat => Value.int .i64 (i : Int))) := hav
                        clear hB hM hq hown hgv hb hn hav hqr hgr ho d2 d3 cq4
                        go_wp2_with fail
                        go_region_law (refine step_append_own rfl (.tmp 155) (.tmp 157) 31 rfl w0.heap.size 53 i53 z53 4 80 Try.underlying31 t1 t2 t3 t4 t5 (by decide) (.slice a0 j c0) j (grpsL D' j) (by simp [Act.eval]) HownX.out ⟨wr.heap.size, 0, none⟩ 1 1 (grpL (newG rs.len rz (D g) (bz g) (aps gz gs.len (az g) (D g).apart.len) nb a2 c2)) (by simp [Act.eval]) rfl Hnew.out (grpL_one _) (by unfold maxLen; omega) (by omega) (by simp; omega) ?_; intro v' w' hown' hgrow hat; obtain ⟨a1, c1, rfl⟩ := own_form hown'; have hq' := HqX.out.of_block (hgrow.block qb HqX.out.lt (own_ne HownX.out HqX.out (by decide)).symm); have cq' := hq'.cell (i := 1) (by omega); have fq' := hq'.frozen 1)
                        all_goals
                          go_wp2_with fail
                          go_roundw
                          case rel => exact ⟨j + 1, by omega, by go_num, St3_step hqb HB.out HM.out Hq.out Hown.out Hgv.out hGO Hgt.out Hb.out Hn.out Hav.out hown' hgrow⟩
                          case measure => simp [intOf]; omega
            · obtain rfl : j = gs.len := by omega
              have HR : Hid (StEnd w0 qb gs rs gz rz O D az bz bd (.returned (.tuple #[])) ws) := ⟨rfl, mb, hB, hM, rv, gv, D', hq, hown, hgv, hGO⟩
              clear hB hM hq hown hgv hGO
              go_wp2_with fail
              go_end0
              exact HR.out
end Go.Proofs.Qxb6617961a
