import Derived.Test.Qxb6617961aMapI
import Derived.Deep.RegionLaw
import Derived.Maps.AppendAt
namespace Go.Proofs.Qxb6617961a
open Go.RowKit

/-- append onto a slice that the call owns, as one step of a region that draws its order. -/
theorem step_append_own {P : Program} {ops : Array Oper} {o : Oper} {a : Act} {w : World} {K : Act → World → Prop} {Q : Exit → Act → World → Prop} {E : Prop}
    (hg : o.guard = none) (s x : Operand) (t : TypeId) (hop : o.op = Op.call { callee := Callee.builtin Builtin.append, args := #[s, x], argTypes := #[t, t] })
    (base : Nat) (e : TypeId) (i : TypeInfo) (z : Value) (size bytes : Nat) (h1 : P.underlying t = some (.slice e)) (h2 : P.info? e = some i) (h3 : i.zero = some z) (h4 : i.size = size) (h5 : i.bytes = bytes) (h6 : z.cells.size = size) (h7 : 0 < size)
    (v : Value) (n : Nat) (xs : List Value) (hs : a.eval s = v) (hown : w.ownsRow base e size v n xs)
    (ad : Addr) (m c : Nat) (news : List Value) (hx : a.eval x = .slice (some ad) m c) (hl : news.length = m * size) (hnews : ∀ j u, news[j]? = some u → w.cell? (ad.add j) = some u) (h1c : ∀ u ∈ news, u.oneCell' = true)
    (h63 : n + m ≤ maxLen) (hbytes : (n + m) * bytes ≤ 140737488355328) (hbase : base ≤ w.heap.size)
    (hK : ∀ v' w', w'.ownsRow base e size v' (n + m) (xs ++ news) → w.grownBy w' v.ownBlock → (v'.ownBlock = v.ownBlock ∨ v'.ownBlock = some w.heap.size) → K (a.put o.dst v') w') :
    if Region.wanted o (yielded ops a.tmps) = true then Oper.wp P o a w K Q else E := by
  have hw : Region.wanted o (yielded ops a.tmps) = true := by simp [Region.wanted, hg]
  rw [if_pos hw]
  obtain ⟨v', w', hrun, r1, r2, -, r4⟩ := run_append_own_at (P := P) w base t o.type e i z size bytes h1 h2 h3 h4 h5 h6 h7 v n xs hown ad m c news hl hnews h1c h63 hbytes hbase
  unfold Oper.wp
  simp [execOp, hop, resolve, invoke, builtin, hs, hx, hrun, Result.andThen]
  exact hK v' w' r1 r2 r4

theorem own_form {w : World} {base : Nat} {e : TypeId} {size : Nat} {v : Value} {n : Nat} {xs : List Value} (h : w.ownsRow base e size v n xs) : ∃ a c, v = .slice a n c := by
  rcases h.2 with ⟨rfl, rfl⟩ | ⟨g, cap, cur, rfl, -⟩
  · exact ⟨none, 0, rfl⟩
  · exact ⟨_, _, rfl⟩

/-- The cells of the part. -/
def stF (rv gv : Value) (bd : Bool) (gs rs : Value) : Nat → Value := fun i => if i = 0 then rv else if i = 1 then gv else if i = 2 then .bool bd else if i = 3 then gs else rs

/-- The last of the first k groups that is h. -/
def look (gz : Nat → Int) : Nat → Int → Option Nat
  | 0, _ => none
  | k + 1, h => if h = gz k then some k else look gz k h

/-- The first k of the groups to keep apart from, in the part's own numbers. -/
def aps (gz : Nat → Int) (gn : Nat) (az : Nat → Int) : Nat → List Nat
  | 0 => []
  | k + 1 => match look gz gn (az k) with
    | some i => aps gz gn az k ++ [i]
    | none => aps gz gn az k

theorem aps_len (gz : Nat → Int) (gn : Nat) (az : Nat → Int) : ∀ k, (aps gz gn az k).length ≤ k
  | 0 => Nat.le_refl _
  | k + 1 => by
    have := aps_len gz gn az k
    unfold aps
    split
    · simp; omega
    · omega

/-- The cells of a row. -/
def rowL (r : RowD) : List Value := [.int .i64 r.price, r.cap.val, r.alc.val, .int .i64 r.limit, .bool r.ex]
def rowsL (O : Nat → RowD) (rz : Nat → Int) : Nat → List Value
  | 0 => []
  | k + 1 => rowsL O rz k ++ rowL (O (rz k).toNat)
theorem rowsL_len (O : Nat → RowD) (rz : Nat → Int) : ∀ k, (rowsL O rz k).length = k * 5
  | 0 => rfl
  | k + 1 => by rw [rowsL, List.length_append, rowsL_len O rz k]; simp [rowL]; omega

theorem rowsL_at (O : Nat → RowD) (rz : Nat → Int) {n k i : Nat} (hk : k < n) (hi : i < 5) : (rowsL O rz n)[k * 5 + i]? = (rowL (O (rz k).toNat))[i]? := by
  induction n with
  | zero => omega
  | succ n ih =>
    rw [rowsL]
    by_cases e : k = n
    · subst e
      rw [List.getElem?_append_right (by rw [rowsL_len]; omega), rowsL_len]
      congr 1; omega
    · rw [List.getElem?_append_left (by rw [rowsL_len]; omega)]
      exact ih (by omega)

theorem own_cell {w : World} {base : Nat} {e : TypeId} {size : Nat} {b : Addr} {n c : Nat} {xs : List Value} (h : w.ownsRow base e size (.slice (some b) n c) n xs) {j : Nat} {u : Value} (hj : xs[j]? = some u) : w.cell? ⟨b.block, j, none⟩ = some u ∧ b = ⟨b.block, 0, none⟩ := by
  rcases h.2 with ⟨h0, _⟩ | ⟨g, cap, cur, hv, _, hb, _, _, _, ht⟩
  · cases h0
  · cases hv
    refine ⟨?_, rfl⟩
    have hj' : (cur.toList.take (n * size))[j]? = some u := by rw [ht]; exact hj
    have : cur[j]? = some u := by
      rw [List.getElem?_take] at hj'
      split at hj'
      · simpa using hj'
      · cases hj'
    simp [World.cell?, hb, this]

/-- Owned rows say the same of the world that has the same block. -/
theorem own_on {w w' : World} {base : Nat} {e : TypeId} {size : Nat} {v : Value} {n : Nat} {xs : List Value} (h : w.ownsRow base e size v n xs) (hb : ∀ b, v.ownBlock = some b → w'.heap[b]? = w.heap[b]?) : w'.ownsRow base e size v n xs := by
  refine ⟨h.1, ?_⟩
  rcases h.2 with h | ⟨g, cap, cur, rfl, h1, h2, h3⟩
  · exact Or.inl h
  · exact Or.inr ⟨g, cap, cur, rfl, h1, (hb g rfl).trans h2, h3⟩

/-- A row that is owned is no row of another type, and no map. -/
theorem own_ne {w : World} {base : Nat} {e t : TypeId} {size : Nat} {v : Value} {n k : Nat} {xs : List Value} {f : Nat → Value} {b : Nat} (h : w.ownsRow base e size v n xs) (hr : w.rowIs b t k f) (hne : e ≠ t) : v.ownBlock ≠ some b := by
  intro hv
  rcases h.2 with ⟨rfl, _⟩ | ⟨g, cap, cur, rfl, _, h2, _⟩
  · cases hv
  · have hv : some g = some b := hv
    cases hv
    obtain ⟨c, hc, _⟩ := hr
    rw [h2] at hc
    cases hc
    exact hne rfl
theorem own_map {w : World} {base : Nat} {e : TypeId} {size : Nat} {v : Value} {n : Nat} {xs : List Value} {m : Nat} {F : Int → Option Nat} (h : w.ownsRow base e size v n xs) (hm : MapI w m F) : v.ownBlock ≠ some m := by
  intro hv
  rcases h.2 with ⟨rfl, _⟩ | ⟨g, cap, cur, rfl, _, h2, _⟩
  · cases hv
  · have hv : some g = some m := hv
    cases hv
    obtain ⟨es, c, hc, _⟩ := hm
    rw [h2] at hc
    cases hc
theorem own_base {w : World} {base : Nat} {e : TypeId} {size : Nat} {v : Value} {n : Nat} {xs : List Value} (h : w.ownsRow base e size v n xs) {b : Nat} (hv : v.ownBlock = some b) : base ≤ b ∧ b < w.heap.size := by
  rcases h.2 with ⟨rfl, _⟩ | ⟨g, cap, cur, rfl, h1, h2, _⟩
  · cases hv
  · have hv : some g = some b := hv
    cases hv
    exact ⟨h1, (Array.getElem?_eq_some_iff.1 h2).1⟩
theorem row_map {w : World} {b m : Nat} {t : TypeId} {n : Nat} {f : Nat → Value} {F : Int → Option Nat} (h : w.rowIs b t n f) (h' : MapI w m F) : b ≠ m := by
  intro e
  subst e
  obtain ⟨c, hb, -⟩ := h
  obtain ⟨es, k, hb', -⟩ := h'
  rw [hb] at hb'
  cases hb'
theorem rows_tag {w : World} {b b' : Nat} {t t' : TypeId} {n n' : Nat} {f f' : Nat → Value} (h : w.rowIs b t n f) (h' : w.rowIs b' t' n' f') (hne : t ≠ t') : b ≠ b' := by
  intro e
  subst e
  obtain ⟨c, hb, -⟩ := h
  obtain ⟨c', hb', -⟩ := h'
  rw [hb] at hb'
  cases hb'
  exact hne rfl
/-- The cells of a group. -/
def grpL (g : GroupD) : List Value := [g.req.val, .int .i64 g.count, g.rows.val, g.apart.val]
def grpsL (D : Nat → GroupD) : Nat → List Value
  | 0 => []
  | k + 1 => grpsL D k ++ grpL (D k)
theorem grpsL_len (D : Nat → GroupD) : ∀ k, (grpsL D k).length = k * 4
  | 0 => rfl
  | k + 1 => by rw [grpsL, List.length_append, grpsL_len D k]; simp [grpL]; omega
theorem grpsL_at (D : Nat → GroupD) {n k i : Nat} (hk : k < n) (hi : i < 4) : (grpsL D n)[k * 4 + i]? = (grpL (D k))[i]? := by
  induction n with
  | zero => omega
  | succ n ih =>
    rw [grpsL]
    by_cases e : k = n
    · subst e
      rw [List.getElem?_append_right (by rw [grpsL_len]; omega), grpsL_len]
      congr 1; omega
    · rw [List.getElem?_append_left (by rw [grpsL_len]; omega)]
      exact ih (by omega)
theorem grpsL_congr {D D' : Nat → GroupD} : ∀ {k : Nat}, (∀ i, i < k → D i = D' i) → grpsL D k = grpsL D' k
  | 0, _ => rfl
  | k + 1, h => by rw [grpsL, grpsL, grpsL_congr (fun i hi => h i (by omega)), h k (by omega)]
theorem grpL_one (g : GroupD) : ∀ u ∈ grpL g, u.oneCell' = true := by
  intro u hu
  simp only [grpL, List.mem_cons, List.not_mem_nil, or_false] at hu
  rcases hu with rfl | rfl | rfl | rfl <;> rfl
theorem grpL_new (w : World) (g : GroupD) : ∀ j u, (grpL g)[j]? = some u → (w.alloc (.cells #[g.req.val, .int .i64 g.count, g.rows.val, g.apart.val] 53)).cell? ((⟨w.heap.size, 0, none⟩ : Addr).add j) = some u := by
  intro j u hj
  match j, hj with
  | 0, hj => simp [grpL] at hj; subst hj; simp [Addr.add]
  | 1, hj => simp [grpL] at hj; subst hj; simp [Addr.add]
  | 2, hj => simp [grpL] at hj; subst hj; simp [Addr.add]
  | 3, hj => simp [grpL] at hj; subst hj; simp [Addr.add]
/-- Two owned rows of two types lie apart. -/
theorem own_own {w : World} {base base' : Nat} {e e' : TypeId} {size size' : Nat} {v v' : Value} {n n' : Nat} {xs xs' : List Value} (h : w.ownsRow base e size v n xs) (h' : w.ownsRow base' e' size' v' n' xs') (hne : e ≠ e') {b : Nat} (hv : v.ownBlock = some b) : v'.ownBlock ≠ some b := by
  intro hv'
  rcases h.2 with ⟨rfl, _⟩ | ⟨g, cap, cur, rfl, _, h2, _⟩
  · cases hv
  rcases h'.2 with ⟨rfl, _⟩ | ⟨g', cap', cur', rfl, _, h2', _⟩
  · cases hv'
  have hv : some g = some b := hv
  have hv' : some g' = some b := hv'
  cases hv
  cases hv'
  rw [h2] at h2'
  cases h2'
  exact hne rfl

/-- What stands behind an append. -/
theorem app_keeps {w0 W w' : World} {qb mb : Nat} {f : Nat → Value} {F : Int → Option Nat} {e : TypeId} {size n : Nat} {v : Value} {xs : List Value} (hq : W.rowIs qb 66 5 f) (hM : MapI W mb F) (hB : Below w0.heap.size w0 W)
    (hown : W.ownsRow w0.heap.size e size v n xs) (he : e ≠ 66) (hg : W.grownBy w' v.ownBlock) : w'.rowIs qb 66 5 f ∧ MapI w' mb F ∧ Below w0.heap.size w0 w' :=
  ⟨hq.of_block (hg.block qb hq.lt (own_ne hown hq he).symm), hM.of_block (hg.block mb hM.lt (own_map hown hM).symm), hB.grown hg hB.size fun _ hk => (own_base hown hk).1⟩

/-- An owned row beside a store elsewhere. -/
theorem own_set {w : World} {base : Nat} {e t : TypeId} {size : Nat} {v : Value} {n k : Nat} {xs : List Value} {f : Nat → Value} {b : Nat} (h : w.ownsRow base e size v n xs) (hr : w.rowIs b t k f) (hne : e ≠ t) (o : Nat) (u : Value) : (w.setCell ⟨b, o, none⟩ u).ownsRow base e size v n xs :=
  own_on h fun b' hb => Below.heap_setCell _ _ _ _ (fun e' => own_ne h hr hne (by rw [hb]; exact congrArg some e'))
end Go.Proofs.Qxb6617961a
