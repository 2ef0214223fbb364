import Derived.Test.Qxb6618042aMap
namespace Go.Proofs.Qxb6618042a
open Go.RowKit

abbrev Path := List UInt8
/-- Some entry begins with p. -/
def Has (E : List (Path × Int)) (p : Path) : Bool := E.any fun e => p.isPrefixOf e.1
/-- The index of the first entry that begins with p. -/
def fstOf (E : List (Path × Int)) (p : Path) : Int := ((E.find? fun e => p.isPrefixOf e.1).map (·.2)).getD 0
/-- p is an entry. -/
def finOf (E : List (Path × Int)) (p : Path) : Bool := E.any fun e => e.1 == p

theorem Has_app (E : List (Path × Int)) (q : Path) (x : Int) (p : Path) : Has (E ++ [(q, x)]) p = (Has E p || p.isPrefixOf q) := by
  simp [Has, List.any_append]
theorem fst_app (E : List (Path × Int)) (q : Path) (x : Int) (p : Path) : fstOf (E ++ [(q, x)]) p = if Has E p then fstOf E p else if p.isPrefixOf q then x else 0 := by
  unfold fstOf
  rw [List.find?_append]
  by_cases h : Has E p = true
  · have : (E.find? fun e => p.isPrefixOf e.1).isSome = true := by
      rw [List.find?_isSome]
      simpa [Has] using h
    obtain ⟨y, hy⟩ := Option.isSome_iff_exists.1 this
    simp [h, hy]
  · have : (E.find? fun e => p.isPrefixOf e.1) = none := by
      rw [List.find?_eq_none]
      intro e he hp
      exact h (by simp only [Has, List.any_eq_true]; exact ⟨e, he, hp⟩)
    simp only [this, Option.none_or, h]
    by_cases h2 : p.isPrefixOf q = true <;> simp [List.find?, h2]
theorem fin_app (E : List (Path × Int)) (q : Path) (x : Int) (p : Path) : finOf (E ++ [(q, x)]) p = (finOf E p || q == p) := by
  simp [finOf, List.any_append]
theorem pre_snoc (p q : Path) (c : UInt8) : p.isPrefixOf (q ++ [c]) = (p.isPrefixOf q || p == q ++ [c]) := by
  rw [Bool.eq_iff_iff]
  simp only [Bool.or_eq_true, List.isPrefixOf_iff_prefix, beq_iff_eq, List.prefix_concat_iff]
  exact Or.comm
theorem Has_ext {E : List (Path × Int)} {p r : Path} (h : Has E (p ++ r) = true) : Has E p = true := by
  simp only [Has, List.any_eq_true, List.isPrefixOf_iff_prefix] at h ⊢
  obtain ⟨e, he, hp⟩ := h
  exact ⟨e, he, (List.prefix_append p r).trans hp⟩
theorem fin_has {E : List (Path × Int)} {p : Path} (h : finOf E p = true) : Has E p = true := by
  simp only [Has, finOf, List.any_eq_true, List.isPrefixOf_iff_prefix, beq_iff_eq] at h ⊢
  obtain ⟨e, he, hp⟩ := h
  exact ⟨e, he, hp ▸ List.prefix_refl _⟩
theorem snoc_inj {p q : Path} {c d : UInt8} (h : p ++ [c] = q ++ [d]) : p = q ∧ c = d := by
  have := List.append_inj' h rfl
  exact ⟨this.1, by simpa using this.2⟩

def nodeF (x : Int) (e : Bool) (m : Option Nat) : Nat → Value := fun i => if i = 0 then .int .i64 x else if i = 1 then .bool e else .map m

/-- The tree whose root lies at block tb: nd p is the block of the node at path p; mp p that of its map. The nodes are those of E1, the ends those of E2. -/
structure TreeG (B tb : Nat) (w : World) (E1 E2 : List (Path × Int)) (nd mp : Path → Option Nat) : Prop where
  btb : B ≤ tb
  root : w.rowIs tb 29 1 (fun _ => .pointer ((nd []).map fun b => ⟨b, 0, none⟩))
  has : ∀ p, (nd p).isSome = Has E1 p
  node : ∀ p b, nd p = some b → B ≤ b ∧ w.rowIs b 38 3 (nodeF (fstOf E1 p) (finOf E2 p) (mp p))
  map : ∀ p b m, nd p = some b → mp p = some m → B ≤ m ∧ MapIs w m (fun c => nd (p ++ [c]))
  bare : ∀ p b, nd p = some b → mp p = none → ∀ c, nd (p ++ [c]) = none
  inj : ∀ p q b, nd p = some b → nd q = some b → p = q
  minj : ∀ p q b b' m, nd p = some b → nd q = some b' → mp p = some m → mp q = some m → p = q

def TreeOf (B tb : Nat) (w : World) (E : List (Path × Int)) : Prop := ∃ nd mp, TreeG B tb w E E nd mp

theorem rows_n {w : World} {b : Nat} {t t' : TypeId} {n n' : Nat} {f f' : Nat → Value} (h : w.rowIs b t n f) (h' : w.rowIs b t' n' f') : n = n' := by
  obtain ⟨c, hb, hn, -⟩ := h
  obtain ⟨c', hb', hn', -⟩ := h'
  rw [hb] at hb'
  cases hb'
  omega
theorem row_map {w : World} {b m : Nat} {t : TypeId} {n : Nat} {f : Nat → Value} {F : UInt8 → Option Nat} (h : w.rowIs b t n f) (h' : MapIs w m F) : b ≠ m := by
  intro e
  subst e
  obtain ⟨c, hb, -⟩ := h
  obtain ⟨es, k, hb', -⟩ := h'
  rw [hb] at hb'
  cases hb'

namespace TreeG
variable {B tb : Nat} {w : World} {E E1 E2 : List (Path × Int)} {nd mp : Path → Option Nat}

theorem on (h : TreeG B tb w E1 E2 nd mp) {w' : World} (hw : ∀ k, k < w.heap.size → w'.heap[k]? = w.heap[k]?) : TreeG B tb w' E1 E2 nd mp where
  btb := h.btb
  root := h.root.of_block (hw _ h.root.lt)
  has := h.has
  node p b hb := ⟨(h.node p b hb).1, (h.node p b hb).2.of_block (hw _ (h.node p b hb).2.lt)⟩
  map p b m hb hm := ⟨(h.map p b m hb hm).1, (h.map p b m hb hm).2.of_block (hw _ (h.map p b m hb hm).2.lt)⟩
  bare := h.bare
  inj := h.inj
  minj := h.minj

theorem below (h : TreeG B tb w E1 E2 nd mp) {w' : World} (hb : Below w.heap.size w w') : TreeG B tb w' E1 E2 nd mp := h.on hb.block

theorem reE (h : TreeG B tb w E1 E2 nd mp) {E1' : List (Path × Int)} (h1 : ∀ p, Has E1 p = Has E1' p) (h2 : ∀ p, Has E1 p = true → fstOf E1 p = fstOf E1' p) : TreeG B tb w E1' E2 nd mp where
  btb := h.btb
  root := h.root
  has p := (h.has p).trans (h1 p)
  node p b hb := by
    rw [← h2 p (by rw [← h.has, hb]; rfl)]
    exact h.node p b hb
  map := h.map
  bare := h.bare
  inj := h.inj
  minj := h.minj

/-- The root is there: the path of no byte changes nothing. -/
theorem start_some (h : TreeG B tb w E E nd mp) {b : Nat} (hb : nd [] = some b) (x : Int) : TreeG B tb w (E ++ [([], x)]) E nd mp := by
  have hr : Has E [] = true := by rw [← h.has, hb]; rfl
  have key : ∀ p : Path, p.isPrefixOf [] = true → p = [] := fun p hp => by simpa using hp
  refine h.reE (fun p => ?_) (fun p hp => ?_)
  · rw [Has_app]
    cases hq : p.isPrefixOf ([] : Path) with
    | false => simp
    | true => rw [key p hq, hr]; rfl
  · rw [fst_app, if_pos hp]

/-- The root is not there: the first node. -/
theorem start_none (h : TreeG B tb w E E nd mp) (hb : nd [] = none) (x : Int) (hB : B ≤ w.heap.size) :
    TreeG B tb ((w.alloc (.cells #[.int .i64 x, .bool false, .map none] 38)).setCell ⟨tb, 0, none⟩ (pOf w.heap.size)) (E ++ [([], x)]) E (fun p => if p = [] then some w.heap.size else none) (fun _ => none) := by
  have hE : ∀ p, Has E p = false := fun p => by
    cases hp : Has E p with
    | false => rfl
    | true =>
      have : Has E [] = true := Has_ext (p := []) (r := p) (by simpa using hp)
      rw [← h.has, hb] at this
      cases this
  have hne : w.heap.size ≠ tb := fun e => by have := h.root.lt; omega
  have key : ∀ p : Path, p.isPrefixOf [] = decide (p = []) := fun p => by cases p <;> simp [List.isPrefixOf]
  refine ⟨h.btb, ?_, fun p => ?_, fun p b hp => ?_, fun p b m _ hm => ?_, fun p b hp _ c => by simp, fun p q b hp hq => ?_, fun p q b b' m _ _ hm _ => ?_⟩
  · exact ((h.root.alloc _).set 0 _).congr fun i hi => by
      have : i = 0 := by omega
      subst this; simp
  · rw [Has_app, hE, key]
    by_cases e : p = [] <;> simp [e]
  · by_cases e : p = []
    · subst e
      have hp : some w.heap.size = some b := by simpa using hp
      cases hp
      refine ⟨hB, ((World.rowIs_alloc w #[.int .i64 x, .bool false, .map none] 38 (nodeF (fstOf (E ++ [([], x)]) []) (finOf E []) none) fun i hi => ?_)).setOther hne _⟩
      have hf : fstOf (E ++ [([], x)]) [] = x := by rw [fst_app, if_neg (by rw [hE]; decide), if_pos (by rfl)]
      have hg : finOf E [] = false := by
        cases hg : finOf E [] with
        | false => rfl
        | true => have := fin_has hg; rw [hE] at this; cases this
      rw [hf, hg]
      have : i < 3 := hi
      match i, this with
      | 0, _ => rfl
      | 1, _ => rfl
      | 2, _ => rfl
    · simp [e] at hp
  · cases hm
  · by_cases e : p = []
    · by_cases e' : q = []
      · rw [e, e']
      · simp [e'] at hq
    · simp [e] at hp
  · cases hm

/-- The next node is there. -/
theorem step_some {q : Path} {c : UInt8} {x : Int} (h : TreeG B tb w (E ++ [(q, x)]) E nd mp) {b : Nat} (hb : nd (q ++ [c]) = some b) : TreeG B tb w (E ++ [(q ++ [c], x)]) E nd mp := by
  have hq : Has E (q ++ [c]) = true := by
    have : Has (E ++ [(q, x)]) (q ++ [c]) = true := by rw [← h.has, hb]; rfl
    rw [Has_app, Bool.or_eq_true] at this
    rcases this with h | h
    · exact h
    · have := (List.isPrefixOf_iff_prefix.1 h).length_le
      simp at this
      omega
  refine h.reE (fun p => ?_) (fun p hp => ?_)
  · rw [Has_app, Has_app, pre_snoc]
    by_cases e : p = q ++ [c]
    · subst e; rw [hq]; rfl
    · have : (p == q ++ [c]) = false := by simpa using e
      rw [this, Bool.or_false]
  · rw [fst_app, fst_app, pre_snoc]
    by_cases e : p = q ++ [c]
    · subst e; rw [hq]; rfl
    · have : (p == q ++ [c]) = false := by simpa using e
      rw [this, Bool.or_false]

/-- The node has got its map. -/
theorem mapped (h : TreeG B tb w E1 E2 nd mp) {q : Path} {b : Nat} (hb : nd q = some b) (hm : mp q = none) (hB : B ≤ w.heap.size) :
    TreeG B tb ((w.alloc (.map #[] 0)).setCell ⟨b, 2, none⟩ (.map (some w.heap.size))) E1 E2 nd (fun p => if p = q then some w.heap.size else mp p) := by
  have hbl := (h.node q b hb).2.lt
  have hne : ∀ p b', nd p = some b' → p ≠ q → b' ≠ b := fun p b' hp hpq e => hpq (h.inj p q b (e ▸ hp) hb)
  refine ⟨h.btb, ?_, h.has, fun p b' hp => ?_, fun p b' m hp hm' => ?_, fun p b' hp hm' c => ?_, h.inj, fun p p' b1 b2 m h1 h2 m1 m2 => ?_⟩
  · exact (h.root.alloc _).setOther (fun e => by have e : tb = b := e; subst e; have := rows_n h.root (h.node q _ hb).2; omega) _
  · refine ⟨(h.node p b' hp).1, ?_⟩
    by_cases e : p = q
    · subst e
      rw [hb] at hp
      cases hp
      refine (((h.node p b hb).2.alloc _).set 2 _).congr fun i hi => ?_
      match i, hi with
      | 0, _ => rfl
      | 1, _ => rfl
      | 2, _ => simp [nodeF]
    · simp only [if_neg e]
      exact (((h.node p b' hp).2).alloc _).setOther (hne p b' hp e) _
  · by_cases e : p = q
    · subst e
      simp only [if_true] at hm'
      cases hm'
      refine ⟨hB, ((MapIs_empty w).of_block ?_).congr fun c => (h.bare p b hb hm c).symm⟩
      exact Below.heap_setCell _ _ _ _ (by show w.heap.size ≠ b; omega)
    · simp only [if_neg e] at hm'
      have hM := h.map p b' m hp hm'
      refine ⟨hM.1, hM.2.of_block ?_⟩
      rw [Below.heap_setCell _ _ _ _ (by show m ≠ b; exact (row_map (h.node q b hb).2 hM.2).symm)]
      exact Below.heap_alloc _ _ _ hM.2.lt
  · by_cases e : p = q
    · simp [e] at hm'
    · simp only [if_neg e] at hm'
      exact h.bare p b' hp hm' c
  · by_cases e : p = q
    · by_cases e' : p' = q
      · rw [e, e']
      · simp only [if_pos e, if_neg e'] at m1 m2
        cases m1
        have := (h.map p' b2 _ h2 m2).2.lt
        omega
    · by_cases e' : p' = q
      · simp only [if_neg e, if_pos e'] at m1 m2
        cases m2
        have := (h.map p b1 _ h1 m1).2.lt
        omega
      · simp only [if_neg e, if_neg e'] at m1 m2
        exact h.minj p p' b1 b2 m h1 h2 m1 m2

/-- A new node at a byte that had none. -/
theorem step_none {q : Path} {c : UInt8} {x : Int} (h : TreeG B tb w (E ++ [(q, x)]) E nd mp) {b m : Nat} (hb : nd q = some b) (hm : mp q = some m) (hn : nd (q ++ [c]) = none) (hB : B ≤ w.heap.size) :
    TreeG B tb (putMap (w.alloc (.cells #[.int .i64 x, .bool false, .map none] 38)) m c w.heap.size) (E ++ [(q ++ [c], x)]) E (fun p => if p = q ++ [c] then some w.heap.size else nd p) (fun p => if p = q ++ [c] then none else mp p) := by
  have hM := h.map q b m hb hm
  have hml := hM.2.lt
  have hnh : Has (E ++ [(q, x)]) (q ++ [c]) = false := by rw [← h.has, hn]; rfl
  have hnE : Has E (q ++ [c]) = false := by
    rw [Has_app, Bool.or_eq_false_iff] at hnh
    exact hnh.1
  have keep : ∀ k, k < w.heap.size → k ≠ m → (putMap (w.alloc (.cells #[.int .i64 x, .bool false, .map none] 38)) m c w.heap.size).heap[k]? = w.heap[k]? := fun k hk hkm =>
    (putMap_other _ _ _ _ hkm).trans (Below.heap_alloc _ _ _ hk)
  have hsuf : q ≠ q ++ [c] := fun e => by have := congrArg List.length e; simp at this
  have hroot : ([] : Path) ≠ q ++ [c] := fun e => by have := congrArg List.length e; simp at this
  have hnode := World.rowIs_alloc w #[.int .i64 x, .bool false, .map none] 38 (nodeF x false none) fun i hi => by
      have : i < 3 := hi
      match i, this with
      | 0, _ => rfl
      | 1, _ => rfl
      | 2, _ => rfl
  have hf : ∀ p, p ≠ q ++ [c] → fstOf (E ++ [(q ++ [c], x)]) p = fstOf (E ++ [(q, x)]) p := fun p e => by
    rw [fst_app, fst_app, pre_snoc]
    have : (p == q ++ [c]) = false := by simpa using e
    rw [this, Bool.or_false]
  refine ⟨h.btb, ?_, fun p => ?_, fun p b' hp => ?_, fun p b' m' hp hm' => ?_, fun p b' hp hm' d => ?_, fun p p' b' hp hp' => ?_, fun p p' b1 b2 m' h1 h2 m1 m2 => ?_⟩
  · simp only [if_neg hroot]
    exact h.root.of_block (keep _ h.root.lt (row_map h.root hM.2))
  · rw [Has_app, pre_snoc]
    by_cases e : p = q ++ [c]
    · simp [e]
    · have h1 : (p == q ++ [c]) = false := by simpa using e
      rw [h1, Bool.or_false, if_neg e, h.has, Has_app]
  · by_cases e : p = q ++ [c]
    · subst e
      simp only [if_true] at hp ⊢
      cases hp
      have h1 : fstOf (E ++ [(q ++ [c], x)]) (q ++ [c]) = x := by
        rw [fst_app, if_neg (by rw [hnE]; decide), if_pos (List.isPrefixOf_iff_prefix.2 (List.prefix_refl _))]
      have h2 : finOf E (q ++ [c]) = false := by
        cases hg : finOf E (q ++ [c]) with
        | false => rfl
        | true => have := fin_has hg; rw [hnE] at this; cases this
      rw [h1, h2]
      exact ⟨hB, hnode.of_block (putMap_other _ _ _ _ (by omega))⟩
    · simp only [if_neg e] at hp ⊢
      rw [hf p e]
      exact ⟨(h.node p b' hp).1, (h.node p b' hp).2.of_block (keep _ (h.node p b' hp).2.lt (row_map (h.node p b' hp).2 hM.2))⟩
  · by_cases e : p = q ++ [c]
    · simp [e] at hm'
    · simp only [if_neg e] at hp hm'
      by_cases e2 : m' = m
      · subst e2
        obtain rfl : p = q := h.minj p q b' b m' hp hb hm' hm
        refine ⟨hM.1, (putMap_is (hM.2.of_block (Below.heap_alloc _ _ _ hml)) hn _).congr fun d => ?_⟩
        by_cases ed : d = c
        · simp [ed]
        · have : ¬ (p ++ [d] = p ++ [c]) := fun e => ed (snoc_inj e).2
          simp [ed]
      · have hM' := h.map p b' m' hp hm'
        refine ⟨hM'.1, (hM'.2.of_block (keep _ hM'.2.lt e2)).congr fun d => ?_⟩
        have : ¬ (p ++ [d] = q ++ [c]) := fun e => by
          obtain ⟨rfl, -⟩ := snoc_inj e
          rw [hm] at hm'
          cases hm'
          exact e2 rfl
        simp [this]
  · by_cases e : p = q ++ [c]
    · subst e
      have h1 : ¬ (q ++ [c] ++ [d] = q ++ [c]) := fun e => by have := congrArg List.length e; simp at this
      rw [if_neg h1]
      cases hnd : nd (q ++ [c] ++ [d]) with
      | none => rfl
      | some k =>
        have : Has (E ++ [(q, x)]) (q ++ [c] ++ [d]) = true := by rw [← h.has, hnd]; rfl
        have := Has_ext this
        rw [hnh] at this
        cases this
    · simp only [if_neg e] at hp hm'
      have h1 : ¬ (p ++ [d] = q ++ [c]) := fun e => by
        obtain ⟨rfl, -⟩ := snoc_inj e
        rw [hm] at hm'
        cases hm'
      rw [if_neg h1]
      exact h.bare p b' hp hm' d
  · by_cases e : p = q ++ [c]
    · by_cases e' : p' = q ++ [c]
      · rw [e, e']
      · simp only [if_pos e, if_neg e'] at hp hp'
        cases hp
        have := (h.node p' _ hp').2.lt
        omega
    · by_cases e' : p' = q ++ [c]
      · simp only [if_neg e, if_pos e'] at hp hp'
        cases hp'
        have := (h.node p _ hp).2.lt
        omega
      · simp only [if_neg e, if_neg e'] at hp hp'
        exact h.inj p p' b' hp hp'
  · by_cases e : p = q ++ [c]
    · simp [e] at m1
    · by_cases e' : p' = q ++ [c]
      · simp [e'] at m2
      · simp only [if_neg e, if_neg e'] at h1 h2 m1 m2
        exact h.minj p p' b1 b2 m' h1 h2 m1 m2

/-- The end is marked. -/
theorem marked {q : Path} {x : Int} (h : TreeG B tb w (E ++ [(q, x)]) E nd mp) {b : Nat} (hb : nd q = some b) :
    TreeG B tb (w.setCell ⟨b, 1, none⟩ (.bool true)) (E ++ [(q, x)]) (E ++ [(q, x)]) nd mp := by
  refine ⟨h.btb, ?_, h.has, fun p b' hp => ?_, fun p b' m hp hm => ?_, h.bare, h.inj, h.minj⟩
  · exact h.root.setOther (fun e => by have e : tb = b := e; subst e; have := rows_n h.root (h.node q _ hb).2; omega) _
  · refine ⟨(h.node p b' hp).1, ?_⟩
    by_cases e : p = q
    · subst e
      rw [hb] at hp
      cases hp
      refine ((h.node p b hb).2.set 1 _).congr fun i hi => ?_
      match i, hi with
      | 0, _ => rfl
      | 1, _ => simp [nodeF, fin_app]
      | 2, _ => rfl
    · rw [fin_app]
      have : (q == p) = false := by simpa using fun e' => e e'.symm
      rw [this, Bool.or_false]
      exact (h.node p b' hp).2.setOther (fun e' => by have e' : b' = b := e'; subst e'; exact e (h.inj p q _ hp hb)) _
  · have hM := h.map p b' m hp hm
    exact ⟨hM.1, hM.2.of_block (Below.heap_setCell _ _ _ _ (by show m ≠ b; exact (row_map (h.node q b hb).2 hM.2).symm))⟩
end TreeG
end Go.Proofs.Qxb6618042a
