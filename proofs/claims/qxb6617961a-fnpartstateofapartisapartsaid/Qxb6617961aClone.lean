import Derived.Test.Qxb6617961aMem
import Derived.Laws.CopyOwn
namespace Go.Proofs.Qxb6617961a
open Go.RowKit

theorem info2 : (Try.prog.info? 2).map (fun i => (i.zero, i.size, i.bytes)) = some (some (.int .i64 0), 1, 8) := by kernel_rfl
theorem info3 : (Try.prog.info? 3).map (fun i => (i.zero, i.size, i.bytes)) = some (some (.int .i64 0), 1, 8) := by kernel_rfl
theorem info4 : (Try.prog.info? 4).map (fun i => (i.zero, i.size, i.bytes)) = some (some (.bool false), 1, 1) := by kernel_rfl
theorem info2s : (Try.prog.info? 2).map (·.size) = some 1 := by kernel_rfl
theorem info3s : (Try.prog.info? 3).map (·.size) = some 1 := by kernel_rfl
theorem info4s : (Try.prog.info? 4).map (·.size) = some 1 := by kernel_rfl

/-- What a clone answers: a slice of the same elements in new memory (nil stays nil). -/
def Cloned (len : Nat) (f : Nat → Value) (w : World) (e : Ending) (w' : World) : Prop :=
  ∃ a' cap', e = .returned (.slice a' len cap') ∧ SL.In ⟨a', len, cap', f⟩ w' ∧ (∀ x, a' = some x → w.heap.size ≤ x.block) ∧ Below w.heap.size w w'

theorem addr_add (b off i : Nat) : (⟨b, off, none⟩ : Addr).add i = ⟨b, off + i, none⟩ := by unfold Addr.add; split <;> simp_all

theorem copy_src {x : Addr} {len cap : Nat} {f : Nat → Value} {w : World} (hI : SL.In ⟨some x, len, cap, f⟩ w) (X : Obj) : ∀ j v, ((List.range len).map f)[j]? = some v → (w.alloc X).cell? (x.add j) = some v := by
  intro j v hj
  have hjl : j < len := by
    rcases Nat.lt_or_ge j len with h | h
    · exact h
    · rw [List.getElem?_eq_none (by simpa using h)] at hj; cases hj
  have hv : f j = v := by simpa [hjl] using hj
  rcases hI with h0 | ⟨b, off, ha, hc⟩
  · have h0 : len = 0 := h0
    omega
  · have ha : some x = some ⟨b, off, none⟩ := ha
    cases ha
    have hc := hc j hjl
    rw [addr_add, ← hv]
    exact (((Below.refl w.heap.size w).alloc (Nat.le_refl _) X).cell (p := ⟨b, off + j, none⟩) (World.block_lt_of_cell? w ⟨b, off + j, none⟩ hc)).trans hc

theorem copy_one {len : Nat} {f : Nat → Value} (h1 : ∀ i, i < len → (f i).oneCell' = true) : ∀ v ∈ (List.range len).map f, v.oneCell' = true := by
  intro v hv
  obtain ⟨i, hi, rfl⟩ := List.mem_map.1 hv
  exact h1 i (by simpa using hi)

/-- The row behind make and copy. -/
theorem made_clone (w : World) (z : Value) (len : Nat) (e : TypeId) (f : Nat → Value) :
    Cloned len f w (.returned (.slice (some ⟨w.heap.size, 0, none⟩) len len)) ((w.alloc (.cells (madeCells #[z] len) e)).setRow w.heap.size ((List.range len).map f ++ (madeCells #[z] len).toList.drop len).toArray) := by
  have hd : (madeCells #[z] len).toList.drop len = [] := by
    apply List.drop_eq_nil_of_le
    simp [size_madeCells]
  rw [hd, List.append_nil]
  have hrow : ((w.alloc (.cells (madeCells #[z] len) e)).setRow w.heap.size ((List.range len).map f).toArray).rowIs w.heap.size e len f := by
    refine ⟨((List.range len).map f).toArray, ?_, by simp, fun i hi => by simp [hi]⟩
    have := Go.Deep.blk_alloc_new w (.cells (madeCells #[z] len) e)
    simp only [World.setRow, Array.getElem?_modify, this, if_true, Option.map_some]
  refine ⟨_, _, rfl, Or.inr ⟨w.heap.size, 0, rfl, fun i hi => ?_⟩, fun x hx => ?_, below_setRow ((Below.refl _ _).alloc (Nat.le_refl _) _) (Nat.le_refl _) _⟩
  · rw [Nat.zero_add]; exact hrow.cell hi
  · cases hx; exact Nat.le_refl _

set_option maxHeartbeats 400000 in
theorem clone64 (a : Option Addr) (len cap : Nat) (f : Nat → Value) (w : World) (hl : len ≤ 1048576) (hI : SL.In ⟨a, len, cap, f⟩ w) (h1 : ∀ i, i < len → (f i).oneCell' = true) :
    Calls Try.prog 23 #[.slice a len cap] w fun e w' => Cloned len f w e w' := by
  have hmk := run_make_row' (P := Try.prog) 27 2 (.int .i64 0) 8 Try.underlying27 info2 rfl .i64 .i64 len (by omega) (by omega)
  cases a with
  | none =>
    have heq := fun w => Lib.run_eql_slice_nil (P := Try.prog) w 27 2 none len cap 0 0 Try.underlying27
    go_enter Try.func23, Try.ntmps23
    go_wp2
    go_ret
    rcases hI with h0 | ⟨b, off, hn, _⟩
    · have h0 : len = 0 := h0
      subst h0
      exact ⟨none, 0, rfl, Or.inl rfl, fun x hx => absurd hx (by simp), Below.refl _ _⟩
    · cases hn
  | some x =>
    have heq := fun w => Lib.run_eql_slice_nil (P := Try.prog) w 27 2 (some x) len cap 0 0 Try.underlying27
    have hcp : ∀ ty, (Builtin.copy_ #[27, 27] ty #[.slice (some ⟨w.heap.size, 0, none⟩) len len, .slice (some x) len cap]).run Try.prog (w.alloc (.cells (madeCells #[.int .i64 0] len) 2)) = .ok (goInt ((List.range len).map f).length) ((w.alloc (.cells (madeCells #[.int .i64 0] len) 2)).setRow w.heap.size ((madeCells #[.int .i64 0] len).toList.take 0 ++ (List.range len).map f ++ (madeCells #[.int .i64 0] len).toList.drop (0 + ((List.range len).map f).length)).toArray) := fun ty =>
      run_copy_row Try.prog (w.alloc (.cells (madeCells #[.int .i64 0] len) 2)) 27 27 ty 2 w.heap.size 0 len len x len cap (madeCells #[.int .i64 0] len) 2 ((List.range len).map f) Try.underlying27 info2s
        (Go.Deep.blk_alloc_new _ _) (by simp) (copy_src hI _) (by simp [size_madeCells]) (copy_one h1)
    go_enter Try.func23, Try.ntmps23
    go_wp2
    go_ret
    exact made_clone w (.int .i64 0) len 2 f

set_option maxHeartbeats 400000 in
theorem cloneBools (a : Option Addr) (len cap : Nat) (f : Nat → Value) (w : World) (hl : len ≤ 1048576) (hI : SL.In ⟨a, len, cap, f⟩ w) (h1 : ∀ i, i < len → (f i).oneCell' = true) :
    Calls Try.prog 24 #[.slice a len cap] w fun e w' => Cloned len f w e w' := by
  have hmk := run_make_row' (P := Try.prog) 39 4 (.bool false) 1 Try.underlying39 info4 rfl .i64 .i64 len (by omega) (by omega)
  cases a with
  | none =>
    have heq := fun w => Lib.run_eql_slice_nil (P := Try.prog) w 39 4 none len cap 0 0 Try.underlying39
    go_enter Try.func24, Try.ntmps24
    go_wp2
    go_ret
    rcases hI with h0 | ⟨b, off, hn, _⟩
    · have h0 : len = 0 := h0
      subst h0
      exact ⟨none, 0, rfl, Or.inl rfl, fun x hx => absurd hx (by simp), Below.refl _ _⟩
    · cases hn
  | some x =>
    have heq := fun w => Lib.run_eql_slice_nil (P := Try.prog) w 39 4 (some x) len cap 0 0 Try.underlying39
    have hcp : ∀ ty, (Builtin.copy_ #[39, 39] ty #[.slice (some ⟨w.heap.size, 0, none⟩) len len, .slice (some x) len cap]).run Try.prog (w.alloc (.cells (madeCells #[.bool false] len) 4)) = .ok (goInt ((List.range len).map f).length) ((w.alloc (.cells (madeCells #[.bool false] len) 4)).setRow w.heap.size ((madeCells #[.bool false] len).toList.take 0 ++ (List.range len).map f ++ (madeCells #[.bool false] len).toList.drop (0 + ((List.range len).map f).length)).toArray) := fun ty =>
      run_copy_row Try.prog (w.alloc (.cells (madeCells #[.bool false] len) 4)) 39 39 ty 4 w.heap.size 0 len len x len cap (madeCells #[.bool false] len) 4 ((List.range len).map f) Try.underlying39 info4s
        (Go.Deep.blk_alloc_new _ _) (by simp) (copy_src hI _) (by simp [size_madeCells]) (copy_one h1)
    go_enter Try.func24, Try.ntmps24
    go_wp2
    go_ret
    exact made_clone w (.bool false) len 4 f

set_option maxHeartbeats 400000 in
theorem cloneInts (a : Option Addr) (len cap : Nat) (f : Nat → Value) (w : World) (hl : len ≤ 1048576) (hI : SL.In ⟨a, len, cap, f⟩ w) (h1 : ∀ i, i < len → (f i).oneCell' = true) :
    Calls Try.prog 18 #[.slice a len cap] w fun e w' => Cloned len f w e w' := by
  have hmk := run_make_row' (P := Try.prog) 40 3 (.int .i64 0) 8 Try.underlying40 info3 rfl .i64 .i64 len (by omega) (by omega)
  cases a with
  | none =>
    have heq := fun w => Lib.run_eql_slice_nil (P := Try.prog) w 40 3 none len cap 0 0 Try.underlying40
    go_enter Try.func18, Try.ntmps18
    go_wp2
    go_ret
    rcases hI with h0 | ⟨b, off, hn, _⟩
    · have h0 : len = 0 := h0
      subst h0
      exact ⟨none, 0, rfl, Or.inl rfl, fun x hx => absurd hx (by simp), Below.refl _ _⟩
    · cases hn
  | some x =>
    have heq := fun w => Lib.run_eql_slice_nil (P := Try.prog) w 40 3 (some x) len cap 0 0 Try.underlying40
    have hcp : ∀ ty, (Builtin.copy_ #[40, 40] ty #[.slice (some ⟨w.heap.size, 0, none⟩) len len, .slice (some x) len cap]).run Try.prog (w.alloc (.cells (madeCells #[.int .i64 0] len) 3)) = .ok (goInt ((List.range len).map f).length) ((w.alloc (.cells (madeCells #[.int .i64 0] len) 3)).setRow w.heap.size ((madeCells #[.int .i64 0] len).toList.take 0 ++ (List.range len).map f ++ (madeCells #[.int .i64 0] len).toList.drop (0 + ((List.range len).map f).length)).toArray) := fun ty =>
      run_copy_row Try.prog (w.alloc (.cells (madeCells #[.int .i64 0] len) 3)) 40 40 ty 3 w.heap.size 0 len len x len cap (madeCells #[.int .i64 0] len) 3 ((List.range len).map f) Try.underlying40 info3s
        (Go.Deep.blk_alloc_new _ _) (by simp) (copy_src hI _) (by simp [size_madeCells]) (copy_one h1)
    go_enter Try.func18, Try.ntmps18
    go_wp2
    go_ret
    exact made_clone w (.int .i64 0) len 3 f

end Go.Proofs.Qxb6617961a
