/-
  lamportStampError (function 15) and LawS2683BOffset (function 6): BY THEIR CONTRACTS, FOR EVERY F.
-/
import Derived.Test.YbulkbcnsFmtErr2
import Derived.Test.YbulkbcnsFmtShelf
import Derived.Outline
namespace Go.Proofs.YbulkbcnsFmt
open Go.RowKit Go.Extern.Stop Go.Stop Go.Extern

set_option maxHeartbeats 800000 in
theorem lam_empty (F : Interp) (a : Option Addr) (c : Nat) (w : World) (hF : F.answers w.tape) :
    Calls Ybaf.prog 15 #[.slice a 0 c] w (SE 0 w) := by
  go_enter Ybaf.func15, Ybaf.ntmps15
  go_wp2_with (first | (go_at_call 19; refine (begins_empty _ _ _ _).mono ?_; rintro e w' ⟨rfl, rfl⟩) | (go_at_call 20; refine (formErr_empty F _ _ _ _ _ (by exact hF)).mono ?_; rintro e w' ⟨k, rfl, hk⟩))
  go_ret
  exact ⟨k, rfl, hk⟩

set_option maxHeartbeats 800000 in
theorem lam_other (F : Interp) (g o n c : Nat) (x : Int) (w : World) (hF : F.answers w.tape) (hn : 0 < n) (hc : w.cell? ⟨g, o, none⟩ = some (.int .u8 x)) (hx : (x == 1) = false) :
    Calls Ybaf.prog 15 #[.slice (some ⟨g, o, none⟩) n c] w (SE 0 w) := by
  go_enter Ybaf.func15, Ybaf.ntmps15
  go_wp2_with (first | (go_at_call 19; refine (begins_first _ _ _ _ x _ _ hn hc).mono ?_; rintro e w' ⟨rfl, rfl⟩) | (go_at_call 20; refine (formErr_first F _ _ _ _ x _ _ _ (by exact hF) hn hc).mono ?_; rintro e w' ⟨k, rfl, hk⟩))
  go_ret
  exact ⟨k, rfl, hk⟩

set_option maxHeartbeats 800000 in
theorem lam_one (F : Interp) (g o n c : Nat) (l : List UInt8) (w : World) (hF : F.answers w.tape) (hn : 0 < n) (hnc : n ≤ c) (hcm : c ≤ maxLen) (hl : l.length = n - 1)
    (hc : w.cell? ⟨g, o, none⟩ = some (.int .u8 1)) (hcell : ∀ j (hj : j < l.length), w.cell? ⟨g, o + 1 + j, none⟩ = some (.int .u8 (l[j]).toNat)) :
    Calls Ybaf.prog 15 #[.slice (some ⟨g, o, none⟩) n c] w (SE 1 w) := by
  unfold maxLen at hcm
  by_cases hc1 : c = 1
  · obtain rfl : n = 1 := by omega
    subst hc1
    go_enter Ybaf.func15, Ybaf.ntmps15
    go_wp2_with (first | (go_at_call 19; refine (begins_first _ _ _ _ 1 _ _ hn hc).mono ?_; rintro e w' ⟨rfl, rfl⟩) | (go_at_call 21; refine (Ybaf.binary_Uvarint_empty _ _ _).mono ?_; rintro e w' ⟨rfl, rfl⟩) | (go_at_call 22; refine (uvarintErr F _ _ _ _ (by exact hF)).mono ?_; rintro e w' ⟨k, rfl, hk⟩))
    go_ret
    exact ⟨k, rfl, hk⟩
  · go_enter Ybaf.func15, Ybaf.ntmps15
    go_wp2_with (first | (go_at_call 19; refine (begins_first _ _ _ _ 1 _ _ hn hc).mono ?_; rintro e w' ⟨rfl, rfl⟩) | (go_at_call 21; refine (Ybaf.binary_Uvarint _ _ _ _ l _ hl (by exact hcell)).mono ?_; rintro e w' ⟨rfl, rfl⟩) | (go_at_call 22; refine (uvarintErr F _ _ _ _ (by exact hF)).mono ?_; rintro e w' ⟨k, rfl, hk⟩))
    go_ret
    exact ⟨k, rfl, hk⟩
end Go.Proofs.YbulkbcnsFmt
