/-
  anew (function 5), anewctx (function 6): the rooms and the context, laid.
-/
import Derived.Test.YbulkbctqDoorLeave
import Derived.Conc.LoneCalls
import Derived.Conc.EventLaws
namespace Go.Proofs.YbulkbctqDoor
open Go.RowKit Go.MuLone
set_option linter.unusedVariables false
set_option linter.unusedSimpArgs false

def body (all X : Value) (fr : Int) : Array Value := #[.int .i32 0, .int .u32 0, .int .i64 fr, all, .int .i32 0, .int .u32 0, X]
theorem makeMap65 (w : World) : (Instr.makeMap 65 none).run Ybad.prog w = .ok (.map (some w.heap.size)) (w.alloc (.map #[] 0)) := by kernel_rfl
theorem makeChan54 (w : World) : (Instr.makeChan 54 (.int .i64 0)).run Ybad.prog w = .ok (.chan (some w.heap.size)) (w.alloc (.chan 0 #[] false 0 0 false)) := by kernel_rfl
theorem close54 (r : Nat) (w : World) (h : w.heap[r]? = some (.chan 0 #[] false 0 0 false)) : (Builtin.close_ #[54] 0 #[.chan (some r)]).run Ybad.prog w = .ok (.tuple #[]) (put w r (.chan 0 #[] true 0 0 false)) := run_close_open _ _ h

set_option maxHeartbeats 1600000 in
theorem anew_exact (w : World) : Calls Ybad.prog 5 #[] w fun e w' => e = .returned (.pointer (some ⟨w.heap.size + 1, 0, none⟩)) ∧ w' = (w.alloc (.map #[] 0)).alloc (.cells (body (.slice none 0 0) (.map (some w.heap.size)) 16777216) 67) := by
  have hm := makeMap65 w
  unfold body
  go_enter Ybad.func5, Ybad.ntmps5
  go_wp2
  go_ret
  exact ⟨rfl, rfl⟩
theorem anew_any (a4 : Addr) (w : World) : Calls Ybad.prog 5 #[] w fun e w' => ∃ b X, e = .returned (.pointer (some ⟨b, 0, none⟩)) ∧ w.heap.size ≤ b ∧ w.heap.size ≤ X ∧ X ≠ b ∧ Blk w' b (body (.slice none 0 0) (.map (some X)) 16777216) 67 ∧ MapIs w' a4 X [] ∧ Below w.heap.size w w' := by
  refine (anew_exact w).mono ?_
  rintro e w' ⟨rfl, rfl⟩
  have hb := Blk.new (w.alloc (.map #[] 0)) (body (.slice none 0 0) (.map (some w.heap.size)) 16777216) 67
  rw [show (w.alloc (.map #[] 0)).heap.size = w.heap.size + 1 by simp] at hb
  refine ⟨w.heap.size + 1, w.heap.size, rfl, by omega, by omega, by omega, hb, ⟨#[], 0, ?_, rfl⟩, (((Turn.refl (fun _ => False) w).alloc _).alloc _).below (fun _ h => h.elim)⟩
  exact (Below.heap_alloc _ _ _ (by simp)).trans (heap_alloc_new w _)

set_option maxRecDepth 100000 in
set_option maxHeartbeats 1600000 in
theorem anewctx_exact (w : World) : Calls Ybad.prog 6 #[] w fun e w' => e = .returned (.pointer (some ⟨w.heap.size + 1, 0, none⟩)) ∧ w' = (put (w.alloc (.chan 0 #[] false 0 0 false)) w.heap.size (.chan 0 #[] true 0 0 false)).alloc (.cells #[.chan (some w.heap.size), .int .i64 0, .int .i64 0] 56) := by
  have hm := makeChan54 w
  have hc := close54 w.heap.size (w.alloc (.chan 0 #[] false 0 0 false)) (heap_alloc_new w _)
  have hz : (put (w.alloc (.chan 0 #[] false 0 0 false)) w.heap.size (.chan 0 #[] true 0 0 false)).heap.size = w.heap.size + 1 := by rw [put_size]; simp
  go_enter Ybad.func6, Ybad.ntmps6
  go_wp2
  go_ret
  exact ⟨rfl, rfl⟩
theorem anewctx_any (w : World) : Calls Ybad.prog 6 #[] w fun e w' => ∃ c r, e = .returned (.pointer (some ⟨c, 0, none⟩)) ∧ w.heap.size ≤ c ∧ w.heap.size ≤ r ∧ r ≠ c ∧ Blk w' c #[.chan (some r), .int .i64 0, .int .i64 0] 56 ∧ w'.heap[r]? = some (.chan 0 #[] true 0 0 false) ∧ Below w.heap.size w w' := by
  refine (anewctx_exact w).mono ?_
  rintro e w' ⟨rfl, rfl⟩
  have hz : (put (w.alloc (.chan 0 #[] false 0 0 false)) w.heap.size (.chan 0 #[] true 0 0 false)).heap.size = w.heap.size + 1 := by rw [put_size]; simp
  have hb := Blk.new (put (w.alloc (.chan 0 #[] false 0 0 false)) w.heap.size (.chan 0 #[] true 0 0 false)) #[.chan (some w.heap.size), .int .i64 0, .int .i64 0] 56
  rw [hz] at hb
  refine ⟨w.heap.size + 1, w.heap.size, rfl, by omega, by omega, by omega, hb, ?_, ((((Turn.refl (fun _ => False) w).alloc _).put _ _ (.inr (Nat.le_refl _))).alloc _).below (fun _ h => h.elim)⟩
  exact (Below.heap_alloc _ _ _ (by rw [hz]; omega)).trans (put_map (heap_alloc_new w _))
end Go.Proofs.YbulkbctqDoor
