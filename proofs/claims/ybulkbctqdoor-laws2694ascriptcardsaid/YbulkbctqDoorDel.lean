/-
  slices.IndexFunc, slices.DeleteFunc (34, 20) at the row of one claim that is the one sought; the context's Done and Err (58, 59).
-/
import Derived.Test.YbulkbctqDoorSel
namespace Go.Proofs.YbulkbctqDoor
open Go.RowKit Go.MuLone
set_option linter.unusedVariables false
set_option linter.unusedSimpArgs false

theorem done_any (C r : Nat) (e d : Int) (w : World) (hd : 0 ≤ d) (hd' : d ≤ 1000000) (hC : Blk w C #[.chan (some r), .int .i64 e, .int .i64 d] 56) :
    Calls Ybad.prog 58 #[.pointer (some ⟨C, 0, none⟩)] w fun x w' => x = .returned (.chan (some r)) ∧ Blk w' C #[.chan (some r), .int .i64 e, .int .i64 (d + 1)] 56 ∧ Turn (fun k => k = C) w w' := by
  have c0 := hC.cell 0
  have c2 := hC.cell 2
  have f2 := hC.frozen 2
  simp at c0 c2
  go_enter Ybad.func58, Ybad.ntmps58
  go_wp2
  go_ret
  exact ⟨rfl, hC.set 2 _, (Turn.refl _ w).set C 2 _ (.inl rfl)⟩
theorem err_any (C r : Nat) (e d : Int) (w : World) (hd : 0 ≤ e) (hd' : e ≤ 1000000) (hC : Blk w C #[.chan (some r), .int .i64 e, .int .i64 d] 56) :
    Calls Ybad.prog 59 #[.pointer (some ⟨C, 0, none⟩)] w fun x w' => x = .returned (.iface 52 (.agg #[])) ∧ Blk w' C #[.chan (some r), .int .i64 (e + 1), .int .i64 d] 56 ∧ Turn (fun k => k = C) w w' := by
  have c1 := hC.cell 1
  have f1 := hC.frozen 1
  simp at c1
  go_enter Ybad.func59, Ybad.ntmps59
  go_wp2
  go_ret
  exact ⟨rfl, hC.set 1 _, (Turn.refl _ w).set C 1 _ (.inl rfl)⟩

theorem eqptr84 (d : Nat) (a : Addr) (w : World) : (Op.equalIn (d + 1) 84 (.pointer (some a)) (.pointer (some a))).run Ybad.prog w = .ok true w := by
  simp [Op.equalIn, run_underlying Ybad.underlying84, Ybad.sizeOf86, sameAddr]
theorem eqptr84s (a : Addr) (w : World) : (Op.equal 84 (.pointer (some a)) (.pointer (some a))).run Ybad.prog w = .ok true w := eqptr84 9999 a w
theorem bin84 (a : Addr) (w : World) : (binOp .eql 84 (.pointer (some a)) (.pointer (some a))).run Ybad.prog w = .ok (.bool true) w := by
  have := eqptr84s a w
  simp [binOp, this]
theorem is_it (c t : Nat) (w : World) (hc : w.cell? ⟨t, 0, none⟩ = some (.pointer (some ⟨c, 0, none⟩))) :
    Calls Ybad.prog 21 #[.pointer (some ⟨c, 0, none⟩), .pointer (some ⟨t, 0, none⟩)] w fun x w' => x = .returned (.bool true) ∧ w' = w := by
  have hb := bin84 ⟨c, 0, none⟩ w
  go_enter Ybad.func21, Ybad.ntmps21
  go_wp2
  go_ret
  exact ⟨rfl, rfl⟩

theorem index_it (q cap c t : Nat) (w : World) (hq : w.cell? ⟨q, 0, none⟩ = some (.pointer (some ⟨c, 0, none⟩))) (hc : w.cell? ⟨t, 0, none⟩ = some (.pointer (some ⟨c, 0, none⟩))) :
    Calls Ybad.prog 34 #[.slice (some ⟨q, 0, none⟩) 1 cap, .func (.func 21) #[] #[.pointer (some ⟨t, 0, none⟩)]] w fun x w' => x = .returned (.int .i64 0) ∧ w' = w := by
  go_enter Ybad.func34, Ybad.ntmps34
  go_wp2
  refine wp_loop_rounds 1 ?_
  rw [rounds_succ]
  go_wp2_with (go_at_call 21; refine (is_it c t _ hc).mono ?_; rintro e w1 ⟨rfl, rfl⟩)
  go_ret
  exact ⟨rfl, rfl⟩

theorem clear_one (q : Nat) (cap : Nat) (cs : Array Value) (w : World) (ty : TypeId) (h : Blk w q cs 84) (hs : 0 < cs.size) : (Builtin.clear_ #[62] ty #[.slice (some ⟨q, 0, none⟩) 1 cap]).run Ybad.prog w = .ok (.tuple #[]) (w.setCell ⟨q, 0, none⟩ (.pointer none)) := by
  have hz : (zeroValue 84).run Ybad.prog w = .ok (.pointer none) w := Ybad.zeroValue84 w
  have hc : w.cell? ⟨q, 0, none⟩ = some cs[0] := (h.cell 0).trans (by simp [hs])
  have hf := h.frozen 0
  simp [Builtin.clear_, run_underlying Ybad.underlying62, hz, Builtin.zeroCells, Value.cells, storeCells, go_sem, hc, hf]

theorem delete_it (q cap c t : Nat) (cs : Array Value) (w : World) (hQ : Blk w q cs 84) (h0 : cs[0]? = some (.pointer (some ⟨c, 0, none⟩))) (hcap : 1 ≤ cap) (hcap' : cap ≤ 9223372036854775807) (hc : w.cell? ⟨t, 0, none⟩ = some (.pointer (some ⟨c, 0, none⟩))) :
    Calls Ybad.prog 20 #[.slice (some ⟨q, 0, none⟩) 1 cap, .func (.func 21) #[] #[.pointer (some ⟨t, 0, none⟩)]] w fun x w' => x = .returned (.slice (some ⟨q, 0, none⟩) 0 cap) ∧ Blk w' q (cs.setIfInBounds 0 (.pointer none)) 84 ∧ Turn (fun k => k = q) w w' := by
  have hq := (hQ.cell 0).trans h0
  have hcl := fun ty => clear_one q cap cs w ty hQ (Array.getElem?_eq_some_iff.1 h0).1
  go_enter Ybad.func20, Ybad.ntmps20
  go_wp2_with (go_at_call 34; refine (index_it q cap c t _ hq hc).mono ?_; rintro e w1 ⟨rfl, rfl⟩)
  refine wp_loop_rounds 1 ?_
  rw [rounds_succ]
  go_wp2
  go_ret
  exact ⟨rfl, hQ.set 0 _, (Turn.refl _ _).set q 0 _ (.inl rfl)⟩
end Go.Proofs.YbulkbctqDoor
