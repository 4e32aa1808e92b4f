/-
  WHAT THE CONDITION 'laid' GIVES THE WALKS: the cells of net/netip's z4 and z0.
-/
import Derived.Test.YbulkbctqDoorHost
import Derived.Test.YbulkbctqDoorRows
import Derived.ProofKit
import Derived.LaidHandle
import Derived.LaidMore
import Derived.MakeChecks
import Derived.OpenShut
import Derived.Stop.Joined
namespace Go.Proofs.YbulkbctqDoor
open Go.ChangeShapes Go.WideShapes Go.ChangeAt Go.RowKit
set_option linter.unusedVariables false

def laid3 : List (String × DataW Unit) := Rows.lawS2694ARestoreRow.laid
theorem own : ownKnob Ybad.prog.godebug = none := by kernel_rfl
theorem gz4 : Ybad.prog.globalNamed ((laid3.map (·.1)).getD 0 "") = some 0 := by kernel_rfl
theorem gz6 : Ybad.prog.globalNamed ((laid3.map (·.1)).getD 1 "") = some 2 := by kernel_rfl
theorem gz0 : Ybad.prog.globalNamed ((laid3.map (·.1)).getD 2 "") = some 1 := by kernel_rfl
theorem tz4 : (Ybad.prog.globals[0]?).map (·.type) = some 45 := by kernel_rfl
theorem tz0 : (Ybad.prog.globals[1]?).map (·.type) = some 45 := by kernel_rfl
/-- The witness's start: the heap that the door's own run leaves, the table of unique handles as it is at the start. -/
theorem start_met (os : Os) (args : Array Value) : laidMetH Ybad.prog laid3 (({ World.doorLaid Ybad.prog 400 os with heap := (World.doorLaid Ybad.prog 400 os).heap.setIfInBounds (Ybad.prog.globals.size + 1) (.map #[] 0) } : World).forCall (fun _ _ => 0) ⟨#[], args, []⟩).memory :=
  laidMetH_of_parts3 (fuel := 8) (laidMet_of_run' 8 (by kernel_rfl) (by kernel_rfl)) (by kernel_rfl) (by kernel_rfl)
theorem of_laid {W : World} (h : laidMetH Ybad.prog laid3 W) : ∃ a4, Zs W a4 := by
  rw [MakeChecks.laidMetH_plain _ _ _ (by kernel_rfl)] at h
  obtain ⟨ps, ⟨g0, t0, cs0, f0, p0, q0, hg0, ht0, hv0, hd0, ⟨g1, t1, cs1, f1, p1, q1, hg1, ht1, hv1, hd1, ⟨g2, t2, cs2, f2, p2, q2, hg2, ht2, hv2, hd2, _, _⟩, _⟩, _⟩, _, _⟩ := h
  obtain rfl := Option.some.inj (gz4.symm.trans hg0)
  obtain rfl := Option.some.inj (gz0.symm.trans hg2)
  obtain rfl := Option.some.inj (tz4.symm.trans ht0)
  obtain rfl := Option.some.inj (tz0.symm.trans ht2)
  have c43 : Ybad.prog.cellsOf 43 = 1 := by kernel_rfl
  have c45 : Ybad.prog.cellsOf 45 = 1 := by kernel_rfl
  obtain ⟨y0, n0, hx0, hl0, hy0⟩ := trod_struct1 Ybad.underlying45 hd0
  obtain ⟨y2, n2, hx2, hl2, hy2⟩ := trod_struct1 Ybad.underlying45 hd2
  rw [c45] at hl0 hl2
  obtain ⟨l0⟩ := cs0
  obtain ⟨l2⟩ := cs2
  obtain ⟨v0, rfl⟩ := List.length_eq_one_iff.1 (show l0.length = 1 from hl0)
  obtain ⟨v2, rfl⟩ := List.length_eq_one_iff.1 (show l2.length = 1 from hl2)
  simp only [List.drop_zero, c43, List.take] at hy0 hy2
  have e0 : y0.1 = .ptr (.agg [.lit (.bool false), .lit (.string [])]) := by
    have := (Prod.mk.inj hx0).1
    simpa [Rows.laid_net_netip_z4] using this.symm
  have e2 : y2.1 = .nil := by
    have := (Prod.mk.inj hx2).1
    simpa [Rows.laid_net_netip_z0] using this.symm
  rcases DataW.trod_pointer Ybad.underlying43 hy0 with ⟨_, hx⟩ | ⟨a, cs', y, n, _, hc, _⟩
  · rw [hx] at e0; cases e0
  rcases DataW.trod_pointer Ybad.underlying43 hy2 with ⟨hc2, hx⟩ | ⟨a', cs', y, n, _, hc2, hx, _⟩
  · have h0 := World.var?_cell hg0 hv0 0
    have h2 := World.var?_cell hg2 hv2 0
    simp only [List.cons.injEq, and_true] at hc hc2
    subst hc; subst hc2
    exact ⟨a, by simpa using h0, by simpa using h2⟩
  · rw [hx] at e2; cases e2
end Go.Proofs.YbulkbctqDoor
