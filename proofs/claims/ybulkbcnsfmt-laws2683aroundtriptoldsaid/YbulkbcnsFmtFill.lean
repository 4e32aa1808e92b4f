/-
  (Vector).fill (function 18), (*Group).DecodeMessage (function 10): FOR EVERY F.
-/
import Derived.Test.YbulkbcnsFmtName
namespace Go.Proofs.YbulkbcnsFmt
open Go.RowKit Go.Extern.Stop Go.Stop Go.Extern Go.WideMaps Go.Maps
set_option linter.unusedVariables false

/-- The map behind k rounds of fill. -/
def FD (cs : List Nat) : Nat → DataW Unit
  | 0 => .map []
  | k + 1 => if cs.getD k 0 = 0 then FD cs k else (FD cs k).put (.string (nm k).data.toList) (.lit (.int .u64 (cs.getD k 0)))

theorem set_same {α : Type} (a : Array α) (i : Nat) (x : α) (h : a[i]? = some x) : a.setIfInBounds i x = a := by
  apply Array.ext_getElem?
  intro j
  rw [Array.getElem?_setIfInBounds]
  split
  · rename_i hij
    subst hij
    split
    · exact h.symm
    · rename_i hlt
      rw [Array.getElem?_eq_none (by omega)] at h
      cases h
  · rfl

theorem clear_empty (X ty : Nat) (w : World) (h : w.heap[X]? = some (.map #[] 0)) : (Builtin.clear_ #[29] ty #[.map (some X)]).run Ybaf.prog w = .ok (.tuple #[]) w := by
  have e : w.heap.setIfInBounds X (.map #[] 0) = w.heap := set_same _ _ _ h
  simp [Builtin.clear_, run_underlying Ybaf.underlying29, getObj, setObj, h, e, Sem.run]

/-- THE LOOP's RELATION in fill. -/
def RelF (X n : Nat) (cs : List Nat) (w : World) (i : Value) (wr : World) : Prop :=
  ∃ k, k ≤ n ∧ i = .int .i64 k ∧ wr.ownsMap (H := Unit) Ybaf.prog 9 (plainElem Ybaf.prog 36) X k (FD cs k) ∧ w.grownBy wr (some X)

theorem FD_zero {cs : List Nat} {k : Nat} (h : cs.getD k 0 = 0) : FD cs (k + 1) = FD cs k := by simp only [FD]; rw [if_pos h]
theorem FD_pos {cs : List Nat} {k : Nat} (h : ¬ cs.getD k 0 = 0) : FD cs (k + 1) = (FD cs k).put (.string (nm k).data.toList) (.lit (.int .u64 (cs.getD k 0))) := by simp only [FD]; rw [if_neg h]
theorem wf_u64 {x : Nat} (h : x < 18446744073709551616) : (Lit.int .u64 (x : Int)).wf = true := by
  simp [Lit.wf, IntKind.min, IntKind.max, IntKind.signed, IntKind.bits]; omega

theorem ucells_get (cs : List Nat) (k : Nat) (h : k < cs.length) : (ucells cs)[k]? = some (.int .u64 (cs.getD k 0)) := by
  simp [ucells, h]

set_option maxHeartbeats 1600000 in
theorem fill_some (X M n cap : Nat) (D : Nat) (cs : List Nat) (w : World) (hn : n ≤ 600) (hX : w.heap[X]? = some (.map #[] 0)) (hM : ∀ j, j < n → w.cell? ⟨M, j, none⟩ = some (.string (nm j))) (HM : M ≠ X)
    (HC : Hid (∀ j, j < n → w.cell? ⟨D, j, none⟩ = some (.int .u64 (cs.getD j 0)))) (HD : D ≠ X) (HB : Hid (∀ j, cs.getD j 0 < 18446744073709551616)) :
    Calls Ybaf.prog 18 #[.map (some X), .slice (some ⟨M, 0, none⟩) n n, .slice (some ⟨D, 0, none⟩) n cap] w fun e w' => e = .returned (.map (some X)) ∧ w'.ownsMap (H := Unit) Ybaf.prog 9 (plainElem Ybaf.prog 36) X n (FD cs n) ∧ w.grownBy w' (some X) := by
  have hcl := fun ty => clear_empty X ty w hX
  have HN : Hid (∀ j, j < n → w.cell? ⟨M, j, none⟩ = some (.string (nm j))) := hM
  have hRel : RelF X n cs w (.int .i64 0) w := ⟨0, Nat.zero_le _, rfl, ⟨#[], 0, hX, ⟨by simp, MapKept.stamped_empty 0, by simp⟩, Nat.le_refl _, rfl⟩, World.grownBy.refl _ _⟩
  clear hM hX
  go_enter Ybaf.func18, Ybaf.ntmps18
  go_wp2
  go_loopw [13] (fun i wr => RelF X n cs w i wr) (fun i _ => n - (intOf i).toNat)
  case atStart => exact hRel
  case round =>
    obtain ⟨k, hk, rfl, hm, hg⟩ := hrel
    clear hRel hcl
    by_cases hlt : k < n
    · have c1 : wr.cell? ⟨M, k, none⟩ = some (.string (nm k)) := hg.cell (HN.out k hlt) (by simpa using HM)
      have c2 : wr.cell? ⟨D, k, none⟩ = some (.int .u64 (cs.getD k 0)) := hg.cell (HC.out k hlt) (by simpa using HD)
      have hb := HB.out k
      obtain ⟨x, hx⟩ : ∃ x, x = cs.getD k 0 := ⟨_, rfl⟩
      rw [← hx] at c2 hb
      have Hx : Hid (x = cs.getD k 0) := hx
      clear hx
      by_cases h0 : x = 0
      · have R3 : RelF X n cs w (.int .i64 (k + 1 : Nat)) wr := ⟨k + 1, hlt, rfl, by rw [FD_zero (by rw [← Hx.out]; exact h0)]; exact hm.mono (by omega), hg⟩
        subst h0
        go_wp2
        go_roundw
        case rel => exact R3
        case measure => simp [intOf]; omega
      · have hpos : (0 : Int) < (x : Int) := by omega
        go_wp2_with (first | (at_mapUpdate; refine wpList_mapUpdate_own _ rfl _ _ _ 29 rfl 9 36 strKey Ybaf.underlying29 _ X k _ rfl hm (by unfold maxLen; omega) _ _ _ rfl rfl (nm_key k) _ [] (plainElem_int Ybaf.underlying36 (wf_u64 hb)) ?_))
        intro w3 hm3 hg3
        have R3 : RelF X n cs w (.int .i64 (k + 1 : Nat)) w3 := ⟨k + 1, hlt, rfl, by rw [FD_pos (by rw [← Hx.out]; exact h0), ← Hx.out]; exact hm3, hg.trans hg3⟩
        clear hm3 hg3 hm hg
        go_wp2
        go_roundw
        case rel => exact R3
        case measure => simp [intOf]; omega
    · obtain rfl : k = n := by omega
      go_wp2
      go_ret
      exact ⟨rfl, hm, hg⟩

set_option maxHeartbeats 1600000 in
theorem fill_none (X M cap : Nat) (ao : Option Addr) (cs : List Nat) (w : World) (hX : w.heap[X]? = some (.map #[] 0)) :
    Calls Ybaf.prog 18 #[.map (some X), .slice (some ⟨M, 0, none⟩) 0 0, .slice ao 0 cap] w fun e w' => e = .returned (.map (some X)) ∧ w'.ownsMap (H := Unit) Ybaf.prog 9 (plainElem Ybaf.prog 36) X 0 (FD cs 0) ∧ w.grownBy w' (some X) := by
  have hcl := fun ty => clear_empty X ty w hX
  have hm : w.ownsMap (H := Unit) Ybaf.prog 9 (plainElem Ybaf.prog 36) X 0 (FD cs 0) := ⟨#[], 0, hX, ⟨by simp, MapKept.stamped_empty 0, by simp⟩, Nat.le_refl _, rfl⟩
  clear hX
  go_enter Ybaf.func18, Ybaf.ntmps18
  go_wp2
  refine wp_loop_rounds 1 ?_
  rw [rounds_succ]
  go_wp2
  go_ret
  exact ⟨rfl, hm, World.grownBy.refl _ _⟩
end Go.Proofs.YbulkbcnsFmt
