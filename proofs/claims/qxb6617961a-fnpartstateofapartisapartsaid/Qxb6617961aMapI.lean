import Derived.Test.Qxb6617961aPart5
import Derived.MapKept
namespace Go.Proofs.Qxb6617961a
open Go.RowKit

abbrev kI (k : Int) : Value := .int .i64 k

/-- Block m is a map that leads from k to F k. -/
def MapI (w : World) (m : Nat) (F : Int → Option Nat) : Prop :=
  ∃ es clock, w.heap[m]? = some (.map es clock) ∧ (es.toList.map (·.key)).Nodup ∧ (∀ e ∈ es.toList, ∃ (k : Int) (v : Nat), e.key = kI k ∧ e.val = kI v ∧ F k = some v) ∧ ∀ k v, F k = some v → ∃ e ∈ es.toList, e.key = kI k

theorem MapI.of_block {w w' : World} {m : Nat} {F : Int → Option Nat} (h : MapI w m F) (e : w'.heap[m]? = w.heap[m]?) : MapI w' m F := by
  obtain ⟨es, clock, h1, h2⟩ := h
  exact ⟨es, clock, e.trans h1, h2⟩
theorem MapI.lt {w : World} {m : Nat} {F : Int → Option Nat} (h : MapI w m F) : m < w.heap.size := by
  obtain ⟨es, clock, h1, -⟩ := h
  exact (Array.getElem?_eq_some_iff.1 h1).1

theorem isKeyI (k : Int) : MapKept.IsKey (.int .i64) (kI k) := by simp [MapKept.IsKey]
theorem under70 : Try.prog.underlying 70 = some (.map 3 3) := Try.underlying70
theorem under3 : Try.prog.underlying 3 = some (.int .i64) := Try.underlying3

theorem run_lookI {w : World} {m : Nat} {F : Int → Option Nat} (h : MapI w m F) (k : Int) :
    (Instr.lookup 70 (.map (some m)) (kI k) true).run Try.prog w = .ok (.tuple #[kI (((F k).getD 0 : Nat) : Int), .bool (F k).isSome]) w := by
  obtain ⟨es, clock, hb, -, h2, h3⟩ := h
  have hc : ∀ e, (Instr.checkKey e 10000 3 (kI k)).run Try.prog w = .ok () w := fun e => MapKept.run_checkKey under3 (isKeyI k) e 9999
  rcases MapKept.findNow_spec (isKeyI k) es.toList 0 (fun x hx => by obtain ⟨d, b, hk, -⟩ := h2 x hx; rw [hk]; exact isKeyI d) with ⟨hf, hn⟩ | ⟨j, e, hf, hj, hk⟩
  · have hF : F k = none := by
      cases hF : F k with
      | none => rfl
      | some b => obtain ⟨e, he, hk⟩ := h3 k b hF; exact absurd hk (hn e he)
    simp [Instr.lookup, run_underlying under70, MapKept.run_getObj_map hb, hc, MapKept.run_findKey under3 hf, hF, Result.andThen]
  · obtain ⟨d, b, hd, hv, hF⟩ := h2 e (List.mem_of_getElem? hj)
    have hcd : d = k := by have := hd.symm.trans hk; injection this
    subst hcd
    simp [Instr.lookup, run_underlying under70, MapKept.run_getObj_map hb, hc, MapKept.run_findKey under3 hf, hv, hF, Result.andThen]

theorem set_world {w : World} {m : Nat} {o o' : Obj} (hb : w.heap[m]? = some o) : (∀ b, b ≠ m → ({ w with heap := w.heap.setIfInBounds m o' } : World).heap[b]? = w.heap[b]?) ∧ (∀ B a, B ≤ m → Below B a w → Below B a { w with heap := w.heap.setIfInBounds m o' }) ∧ ({ w with heap := w.heap.setIfInBounds m o' } : World).heap[m]? = some o' := by
  obtain ⟨h1, h2⟩ := MapKept.heap_set (w := w) (o' := o') hb
  refine ⟨h2, fun B a hB h => ⟨h.os, h.tape, h.output, ?_, fun k hk => (h2 k (by omega)).trans (h.block k hk)⟩, h1⟩
  have := h.size
  simpa using this

theorem run_putI {w : World} {m : Nat} {F : Int → Option Nat} (h : MapI w m F) (k : Int) (v : Nat) :
    ∃ w', (Instr.mapUpdate 70 (.map (some m)) (kI k) (kI v)).run Try.prog w = .ok () w' ∧ MapI w' m (fun x => if x = k then some v else F x) ∧ (∀ b, b ≠ m → w'.heap[b]? = w.heap[b]?) ∧ (∀ B a, B ≤ m → Below B a w → Below B a w') := by
  obtain ⟨es, clock, hb, h0, h2, h3⟩ := h
  have hc : ∀ e, (Instr.checkKey e 10000 3 (kI k)).run Try.prog w = .ok () w := fun e => MapKept.run_checkKey under3 (isKeyI k) e 9999
  rcases MapKept.findNow_spec (isKeyI k) es.toList 0 (fun x hx => by obtain ⟨d, b, hk, -⟩ := h2 x hx; rw [hk]; exact isKeyI d) with ⟨hf, hn⟩ | ⟨j, e, hf, hj, hk⟩
  · obtain ⟨q1, q2, q3⟩ := set_world (o' := .map (es.push { key := kI k, val := kI v, born := clock }) (clock + 1)) hb
    have hFk : F k = none := by
      cases hF : F k with
      | none => rfl
      | some b => obtain ⟨e, he, hk⟩ := h3 k b hF; exact absurd hk (hn e he)
    refine ⟨_, ?_, ⟨_, _, q3, ?_, fun e he => ?_, fun d b hd => ?_⟩, q1, q2⟩
    · simp [Instr.mapUpdate, run_underlying under70, MapKept.run_getObj_map hb, hc, MapKept.run_findKey under3 hf, MapKept.run_setObj_map _ hb, Result.andThen]
    · simp only [Array.toList_push, List.map_append, List.map_cons, List.map_nil]
      rw [List.nodup_append]
      refine ⟨h0, by simp, fun x hx y hy => ?_⟩
      obtain ⟨e, he, rfl⟩ := List.mem_map.1 hx
      have : y = kI k := by simpa using hy
      rw [this]
      exact hn e he
    · simp only [Array.toList_push, List.mem_append, List.mem_singleton] at he
      rcases he with he | rfl
      · obtain ⟨d, b, hk, hv, hF⟩ := h2 e he
        have : d ≠ k := fun e => by subst e; rw [hFk] at hF; cases hF
        exact ⟨d, b, hk, hv, by simp [this, hF]⟩
      · exact ⟨k, v, rfl, rfl, by simp⟩
    · by_cases e : d = k
      · subst e
        exact ⟨{ key := kI d, val := kI v, born := clock }, by simp, rfl⟩
      · simp only [if_neg e] at hd
        obtain ⟨x, hx, hk⟩ := h3 d b hd
        exact ⟨x, by simp only [Array.toList_push, List.mem_append]; exact Or.inl hx, hk⟩
  · obtain ⟨q1, q2, q3⟩ := set_world (o' := .map (es.modify j fun e => { e with key := kI k, val := kI v }) clock) hb
    have hj' : es[j]? = some e := by simpa using hj
    have hjl : j < es.size := (Array.getElem?_eq_some_iff.1 hj').1
    have hkeys : ((es.modify j fun e => { e with key := kI k, val := kI v }).toList.map (·.key)) = es.toList.map (·.key) := by
      apply List.ext_getElem?
      intro i
      simp only [List.getElem?_map, Array.getElem?_toList, Array.getElem?_modify]
      by_cases ei : j = i
      · subst ei
        simp [hj', hk]
      · simp [ei]
    refine ⟨_, ?_, ⟨_, _, q3, by rw [hkeys]; exact h0, fun x hx => ?_, fun d b hd => ?_⟩, q1, q2⟩
    · simp [Instr.mapUpdate, run_underlying under70, MapKept.run_getObj_map hb, hc, MapKept.run_findKey under3 hf, MapKept.run_setObj_map _ hb, Result.andThen, hj', hk, Instr.keyThatStays, Instr.sameBits]
    · obtain ⟨i, hi⟩ := List.mem_iff_getElem?.1 hx
      rw [Array.getElem?_toList, Array.getElem?_modify] at hi
      by_cases ei : j = i
      · subst ei
        rw [if_pos rfl, hj'] at hi
        simp at hi
        subst hi
        exact ⟨k, v, rfl, rfl, by simp⟩
      · rw [if_neg ei] at hi
        obtain ⟨d, b, hkd, hv, hF⟩ := h2 x (List.mem_iff_getElem?.2 ⟨i, by rw [Array.getElem?_toList]; exact hi⟩)
        have : d ≠ k := fun e' => by
          subst e'
          have hnd := List.pairwise_iff_getElem.1 h0
          have hil : i < es.size := (Array.getElem?_eq_some_iff.1 hi).1
          have e1 : (es.toList.map (·.key))[j]'(by simpa using hjl) = (es.toList.map (·.key))[i]'(by simpa using hil) := by
            have a1 := (Array.getElem?_eq_some_iff.1 hj').2
            have a2 := (Array.getElem?_eq_some_iff.1 hi).2
            simp [a1, a2, hk, hkd]
          rcases Nat.lt_or_gt_of_ne ei with hlt | hgt
          · exact hnd j i _ _ hlt e1
          · exact hnd i j _ _ hgt e1.symm
        exact ⟨d, b, hkd, hv, by simp [this, hF]⟩
    · have key : ∀ d, (∃ x ∈ es.toList, x.key = kI d) → ∃ x ∈ (es.modify j fun e => { e with key := kI k, val := kI v }).toList, x.key = kI d := fun d hd => by
        have : kI d ∈ es.toList.map (·.key) := by
          obtain ⟨x, hx, hxk⟩ := hd
          exact List.mem_map.2 ⟨x, hx, hxk⟩
        rw [← hkeys] at this
        obtain ⟨x, hx, hxk⟩ := List.mem_map.1 this
        exact ⟨x, hx, hxk⟩
      by_cases ed : d = k
      · subst ed
        exact key d ⟨e, List.mem_of_getElem? hj, hk⟩
      · simp only [if_neg ed] at hd
        exact key d (h3 d b hd)

theorem MapI_empty (w : World) : MapI (w.alloc (.map #[] 0)) w.heap.size (fun _ => none) :=
  ⟨#[], 0, (MapKept.heap_alloc w _).1, by simp, fun e he => absurd he (by simp), fun c b h => absurd h (by simp)⟩

theorem run_makeI (w : World) (n : Nat) : (Instr.makeMap 70 (some (.int .i64 (n : Int)))).run Try.prog w = .ok (.map (some w.heap.size)) (w.alloc (.map #[] 0)) := by
  simp [Instr.makeMap, run_underlying under70, asInt, asIntOf, Result.andThen]
end Go.Proofs.Qxb6617961a
