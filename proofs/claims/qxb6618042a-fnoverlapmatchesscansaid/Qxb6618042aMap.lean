import Derived.Test.Qxb6618042aRows
import Derived.WalkKit
import Derived.WalkSpells
import Derived.WalkLawsBesides
import Derived.RowKit3
import Derived.Deep.OwnRows
import Derived.MapKept
namespace Go.Proofs.Qxb6618042a
open Go.RowKit

abbrev kOf (c : UInt8) : Value := .int .u8 (c.toNat : Int)
abbrev pOf (b : Nat) : Value := .pointer (some ⟨b, 0, none⟩)

theorem kOf_inj {c d : UInt8} (h : kOf c = kOf d) : c = d := by
  have : (c.toNat : Int) = d.toNat := by injection h
  exact UInt8.toNat_inj.1 (by omega)

/-- Block m is a map that leads from byte c to the node in block F c. -/
def MapIs (w : World) (m : Nat) (F : UInt8 → Option Nat) : Prop :=
  ∃ es clock, w.heap[m]? = some (.map es clock) ∧ (∀ e ∈ es.toList, ∃ c b, e.key = kOf c ∧ e.val = pOf b ∧ F c = some b) ∧ ∀ c b, F c = some b → ∃ e ∈ es.toList, e.key = kOf c

theorem MapIs.of_block {w w' : World} {m : Nat} {F : UInt8 → Option Nat} (h : MapIs w m F) (e : w'.heap[m]? = w.heap[m]?) : MapIs w' m F := by
  obtain ⟨es, clock, h1, h2⟩ := h
  exact ⟨es, clock, e.trans h1, h2⟩
theorem MapIs.lt {w : World} {m : Nat} {F : UInt8 → Option Nat} (h : MapIs w m F) : m < w.heap.size := by
  obtain ⟨es, clock, h1, -⟩ := h
  exact (Array.getElem?_eq_some_iff.1 h1).1
theorem MapIs.congr {w : World} {m : Nat} {F G : UInt8 → Option Nat} (h : MapIs w m F) (e : ∀ c, F c = G c) : MapIs w m G := by
  have : F = G := funext e
  subst this; exact h

theorem isKey (c : UInt8) : MapKept.IsKey (.int .u8) (kOf c) := by simp [MapKept.IsKey]

theorem under36 : Try.prog.underlying 36 = some (.map 5 27) := Try.underlying36
theorem under5 : Try.prog.underlying 5 = some (.int .u8) := Try.underlying5

theorem run_look {w : World} {m : Nat} {F : UInt8 → Option Nat} (h : MapIs w m F) (c : UInt8) :
    (Instr.lookup 36 (.map (some m)) (kOf c) false).run Try.prog w = .ok (.pointer ((F c).map fun b => ⟨b, 0, none⟩)) w := by
  obtain ⟨es, clock, hb, h2, h3⟩ := h
  have hc : ∀ e, (Instr.checkKey e 10000 5 (kOf c)).run Try.prog w = .ok () w := fun e => MapKept.run_checkKey under5 (isKey c) e 9999
  rcases MapKept.findNow_spec (isKey c) es.toList 0 (fun x hx => by obtain ⟨d, b, hk, -⟩ := h2 x hx; rw [hk]; exact isKey d) with ⟨hf, hn⟩ | ⟨j, e, hf, hj, hk⟩
  · have hF : F c = none := by
      cases hF : F c with
      | none => rfl
      | some b => obtain ⟨e, he, hk⟩ := h3 c b hF; exact absurd hk (hn e he)
    simp [Instr.lookup, run_underlying under36, MapKept.run_getObj_map hb, hc, MapKept.run_findKey under5 hf, hF, Result.andThen]
  · obtain ⟨d, b, hd, hv, hF⟩ := h2 e (List.mem_of_getElem? hj)
    have hcd : d = c := kOf_inj (hd.symm.trans hk)
    subst hcd
    simp [Instr.lookup, run_underlying under36, MapKept.run_getObj_map hb, hc, MapKept.run_findKey under5 hf, hv, hF, Result.andThen]

theorem run_look_nil (w : World) (c : UInt8) : (Instr.lookup 36 (.map none) (kOf c) false).run Try.prog w = .ok (.pointer none) w := by
  have hc : ∀ e, (Instr.checkKey e 10000 5 (kOf c)).run Try.prog w = .ok () w := fun e => MapKept.run_checkKey under5 (isKey c) e 9999
  have hf : Instr.findNow (.int .u8) (kOf c) ([] : List MapEntry) 0 = some none := rfl
  simp [Instr.lookup, run_underlying under36, hc, MapKept.run_findKey under5 hf, Result.andThen]

/-- The world behind the store of a node at a byte that had none. -/
def putMap (w : World) (m : Nat) (c : UInt8) (b : Nat) : World := match w.heap[m]? with
  | some (.map es clock) => { w with heap := w.heap.setIfInBounds m (.map (es.push { key := kOf c, val := pOf b, born := clock }) (clock + 1)) }
  | _ => w

theorem run_upd {w : World} {m : Nat} {F : UInt8 → Option Nat} (h : MapIs w m F) {c : UInt8} (hF : F c = none) (b : Nat) :
    (Instr.mapUpdate 36 (.map (some m)) (kOf c) (pOf b)).run Try.prog w = .ok () (putMap w m c b) := by
  obtain ⟨es, clock, hb, h2, h3⟩ := h
  have hc : ∀ e, (Instr.checkKey e 10000 5 (kOf c)).run Try.prog w = .ok () w := fun e => MapKept.run_checkKey under5 (isKey c) e 9999
  rcases MapKept.findNow_spec (isKey c) es.toList 0 (fun x hx => by obtain ⟨d, b, hk, -⟩ := h2 x hx; rw [hk]; exact isKey d) with ⟨hf, hn⟩ | ⟨j, e, hf, hj, hk⟩
  · simp [Instr.mapUpdate, run_underlying under36, MapKept.run_getObj_map hb, hc, MapKept.run_findKey under5 hf, MapKept.run_setObj_map _ hb, putMap, hb, Result.andThen]
  · obtain ⟨d, b, hd, hv, hFd⟩ := h2 e (List.mem_of_getElem? hj)
    have hcd : d = c := kOf_inj (hd.symm.trans hk)
    subst hcd
    rw [hF] at hFd; cases hFd

theorem putMap_other (w : World) (m : Nat) (c : UInt8) (b : Nat) {k : Nat} (hk : k ≠ m) : (putMap w m c b).heap[k]? = w.heap[k]? := by
  unfold putMap
  split
  · simp [Ne.symm hk]
  · rfl
theorem putMap_size (w : World) (m : Nat) (c : UInt8) (b : Nat) : (putMap w m c b).heap.size = w.heap.size := by
  unfold putMap
  split
  · simp
  · rfl
theorem putMap_below {B : Nat} {a w : World} (h : Below B a w) (m : Nat) (hm : B ≤ m) (c : UInt8) (b : Nat) : Below B a (putMap w m c b) := by
  refine ⟨?_, ?_, ?_, by rw [putMap_size]; exact h.size, fun k hk => (putMap_other w m c b (by omega)).trans (h.block k hk)⟩
  · unfold putMap; split <;> exact h.os
  · unfold putMap; split <;> exact h.tape
  · unfold putMap; split <;> exact h.output

theorem putMap_is {w : World} {m : Nat} {F : UInt8 → Option Nat} (h : MapIs w m F) {c : UInt8} (hF : F c = none) (b : Nat) : MapIs (putMap w m c b) m (fun d => if d = c then some b else F d) := by
  have hlt := h.lt
  obtain ⟨es, clock, hb, h2, h3⟩ := h
  refine ⟨es.push { key := kOf c, val := pOf b, born := clock }, clock + 1, ?_, fun e he => ?_, fun d b' hd => ?_⟩
  · unfold putMap; rw [hb]; simp [hlt]
  · rcases List.mem_append.1 (by simpa using he : e ∈ es.toList ++ [{ key := kOf c, val := pOf b, born := clock }]) with h | h
    · obtain ⟨d, b', hk, hv, hFd⟩ := h2 e h
      refine ⟨d, b', hk, hv, ?_⟩
      have : d ≠ c := fun e => by subst e; rw [hF] at hFd; cases hFd
      simp [this, hFd]
    · have : e = { key := kOf c, val := pOf b, born := clock } := by simpa using h
      subst this
      exact ⟨c, b, rfl, rfl, by simp⟩
  · by_cases e : d = c
    · subst e
      exact ⟨{ key := kOf d, val := pOf b, born := clock }, by simp, rfl⟩
    · simp only [if_neg e] at hd
      obtain ⟨x, hx, hk⟩ := h3 d b' hd
      exact ⟨x, by simp only [Array.toList_push, List.mem_append]; exact Or.inl hx, hk⟩

theorem MapIs_empty (w : World) : MapIs (w.alloc (.map #[] 0)) w.heap.size (fun _ => none) :=
  ⟨#[], 0, (MapKept.heap_alloc w _).1, fun e he => absurd he (by simp), fun c b h => absurd h (by simp)⟩
end Go.Proofs.Qxb6618042a
