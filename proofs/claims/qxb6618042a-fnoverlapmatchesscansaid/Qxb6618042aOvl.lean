import Derived.Test.Qxb6618042aTree
import Derived.Deep.QuietTactic
import Derived.BigQuiet
namespace Go.Proofs.Qxb6618042a
open Go.RowKit

/-- What Overlap answers of q. -/
def Ovl (E : List (Path × Int)) (q : Path) (r : Int) (ok : Bool) : Prop :=
  (ok = true ∧ ∃ i, i ≤ q.length ∧ Has E (q.take i) = true ∧ (finOf E (q.take i) = true ∨ i = q.length) ∧ (∀ j, j < i → finOf E (q.take j) = false) ∧ r = fstOf E (q.take i)) ∨
  (ok = false ∧ r = 0 ∧ ∃ i, i ≤ q.length ∧ Has E (q.take i) = false ∧ ∀ j, j < i → finOf E (q.take j) = false)

def OvlRes (E : List (Path × Int)) (q : Path) (w : World) (e : Ending) (w' : World) : Prop :=
  ∃ r ok, e = .returned (.tuple #[.int .i64 r, .bool ok]) ∧ Ovl E q r ok ∧ Below w.heap.size w w'

abbrev pathOf (s : ByteArray) : Path := s.data.toList
theorem path_len (s : ByteArray) : (pathOf s).length = s.size := Array.length_toList
theorem path_snoc (s : ByteArray) {k : Nat} (h : k < s.size) : (pathOf s).take k ++ [s[k]] = (pathOf s).take (k + 1) := by
  have h' : k < (pathOf s).length := by rw [path_len]; exact h
  rw [List.take_succ_eq_append_getElem h']
  rfl

set_option maxRecDepth 100000 in
set_option maxHeartbeats 400000 in
theorem overlap_walk (B tb : Nat) (E : List (Path × Int)) (s : ByteArray) (w : World) (hs : s.size ≤ 4194304) (hT : TreeOf B tb w E) :
    Calls Try.prog 8 #[.pointer (some ⟨tb, 0, none⟩), .string s] w fun e w' => OvlRes E (pathOf s) w e w' := by
  obtain ⟨nd, mp, hG⟩ := hT
  have c0 := hG.root.cell (i := 0) (by omega)
  go_enter Try.func8, Try.ntmps8
  go_wp2_with fail
  go_loopw [6, 7] (fun n i wr => ∃ k : Nat, k ≤ s.size ∧ i = .int .i64 k ∧ n = .pointer ((nd ((pathOf s).take k)).map fun b => ⟨b, 0, none⟩) ∧ Below w.heap.size w wr ∧ Hid (∀ j, j < k → finOf E ((pathOf s).take j) = false)) (fun _ i _ => s.size - (intOf i).toNat)
  case atStart => exact ⟨0, Nat.zero_le _, rfl, rfl, Below.refl _ _, fun j hj => absurd hj (by omega)⟩
  case round =>
    obtain ⟨k, hk, rfl, rfl, hB, HK⟩ := hrel
    have hG' := hG.below hB
    have HH := hG.has ((pathOf s).take k)
    cases hn : nd ((pathOf s).take k) with
    | none =>
      rw [hn] at HH
      go_wp2_with fail
      go_ret2
      exact ⟨0, false, rfl, Or.inr ⟨rfl, rfl, k, by rw [path_len]; exact hk, HH.symm, HK.out⟩, hB⟩
    | some b =>
      rw [hn] at HH
      obtain ⟨-, hrow⟩ := hG'.node _ b hn
      have d0 : wr.cell? ⟨b, 0, none⟩ = some (.int .i64 (fstOf E ((pathOf s).take k))) := hrow.cell (i := 0) (by omega)
      have d1 : wr.cell? ⟨b, 1, none⟩ = some (.bool (finOf E ((pathOf s).take k))) := hrow.cell (i := 1) (by omega)
      have d2 : wr.cell? ⟨b, 2, none⟩ = some (.map (mp ((pathOf s).take k))) := hrow.cell (i := 2) (by omega)
      cases hf : finOf E ((pathOf s).take k) with
      | true =>
        rw [hf] at d1
        go_wp2_with fail
        go_ret2
        exact ⟨_, true, rfl, Or.inl ⟨rfl, k, by rw [path_len]; exact hk, HH.symm, Or.inl hf, HK.out, rfl⟩, hB⟩
      | false =>
        rw [hf] at d1
        have HF : Hid (finOf E ((pathOf s).take k) = false) := hf
        by_cases hks : k = s.size
        · have he : ((k : Int) == (s.size : Int)) = true := by simp [hks]
          go_wp2_with fail
          go_ret2
          exact ⟨_, true, rfl, Or.inl ⟨rfl, k, by rw [path_len]; exact hk, HH.symm, Or.inr (by rw [path_len]; exact hks), HK.out, by rw [hks]⟩, hB⟩
        · have he : ((k : Int) == (s.size : Int)) = false := by simp; omega
          have hlt : k < s.size := by omega
          have hl : ∀ n, (Instr.lookup 36 (.map (mp ((pathOf s).take k))) (.int .u8 (s[k].toNat : Int)) false).run Try.prog (wr.drewN n) = .ok (.pointer ((nd ((pathOf s).take (k + 1))).map fun b => ⟨b, 0, none⟩)) (wr.drewN n) := fun n => by
            rw [← path_snoc s hlt]
            cases hm : mp ((pathOf s).take k) with
            | none => rw [hG.bare _ b hn hm]; exact run_look_nil _ s[k]
            | some m => exact run_look (w := wr.drewN n) ((hG'.map _ b m hn hm).2.of_block rfl) s[k]
          have HS : Hid (∀ j, j < k + 1 → finOf E ((pathOf s).take j) = false) := fun j hj => by
            by_cases e : j = k
            · subst e; exact hf
            · exact HK.out j (by omega)
          clear HK hf HH hrow hG'
          generalize mp ((pathOf s).take k) = mk at hl d2
          go_wp2_with fail
          go_quiet (fail)
          go_wp2_with fail
          go_roundw
          case rel => exact ⟨k + 1, by omega, by go_num, rfl, below_drewN hB _, HS⟩
          case measure => simp [intOf]; omega
end Go.Proofs.Qxb6618042a
