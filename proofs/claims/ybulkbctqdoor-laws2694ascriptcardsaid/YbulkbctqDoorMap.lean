/-
  THE MAP OF HOSTS: its operations at the keys 'K a4 i' (a key that holds a pointer: the kit's map laws do not speak of it), as run equations on the entries.
-/
import Derived.Test.YbulkbctqDoorHost
import Derived.MapKept
namespace Go.Proofs.YbulkbctqDoor
open Go.RowKit
set_option linter.unusedVariables false
set_option linter.unusedSimpArgs false

theorem checkK (e : Bool) (a4 : Addr) (i : Int) (w : World) : (Instr.checkKey e 10000 49 (K a4 i)).run Ybad.prog w = .ok () w := by kernel_rfl
theorem ptr43 (a : Addr) (w : World) : (Op.equalIn 9997 43 (.pointer (some a)) (.pointer (some a))).run Ybad.prog w = .ok true w := eqptr43 9996 a w
set_option maxRecDepth 100000 in
theorem eqK (a4 : Addr) (i j : Int) (w : World) : (Op.equal 49 (K a4 i) (K a4 j)).run Ybad.prog w = .ok (decide (i = j)) w := by
  have hp := ptr43 a4
  by_cases h : i = j
  · subst h
    unfold Op.equal Op.maxDepth K
    simp [go_sem, hp]
  · have hl : ¬ lo i = lo j := fun e => h (lo_inj e)
    have hl' : (lo i == lo j) = false := by simp [hl]
    unfold Op.equal Op.maxDepth K
    simp [go_sem, hl, hl', h]
end Go.Proofs.YbulkbctqDoor
