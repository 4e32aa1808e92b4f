/-
  begins (function 19), formError (20), uvarintError (22), zzs2683boffset (14): BY THEIR CONTRACTS, FOR EVERY F.
-/
import Derived.Test.YbulkbcnsFmtErr
import Derived.Outline
namespace Go.Proofs.YbulkbcnsFmt
open Go.RowKit Go.Extern.Stop Go.Stop Go.Extern

theorem SE_alloc {at_ : Int} {w w' : World} {o : Obj} {e : Ending} (h : SE at_ (w.alloc o) e w') : SE at_ w e w' := by
  obtain ⟨k, he, hk, hk', hc, hb⟩ := h
  have hs : (w.alloc o).heap.size = w.heap.size + 1 := by simp
  exact ⟨k, he, by omega, hk', hc, ((Below.refl _ _).alloc (Nat.le_refl _) o).trans (hb.mono (by omega))⟩

theorem begins_empty (a : Option Addr) (c : Nat) (form : Int) (w : World) :
    Calls Ybaf.prog 19 #[.slice a 0 c, .int .u8 form] w fun e w' => e = .returned (.bool false) ∧ w' = w := by
  go_enter Ybaf.func19, Ybaf.ntmps19
  go_wp2
  go_ret
  exact ⟨rfl, rfl⟩

theorem begins_first (g o n c : Nat) (x form : Int) (w : World) (hn : 0 < n) (hc : w.cell? ⟨g, o, none⟩ = some (.int .u8 x)) :
    Calls Ybaf.prog 19 #[.slice (some ⟨g, o, none⟩) n c, .int .u8 form] w fun e w' => e = .returned (.bool (x == form)) ∧ w' = w := by
  go_enter Ybaf.func19, Ybaf.ntmps19
  go_wp2
  go_ret
  exact ⟨rfl, rfl⟩

set_option maxHeartbeats 800000 in
theorem formErr_empty (F : Interp) (a : Option Addr) (c : Nat) (form : Int) (named : ByteArray) (w : World) (hF : F.answers w.tape) :
    Calls Ybaf.prog 20 #[.slice a 0 c, .int .u8 form, .string named] w (SE 0 w) := by
  go_enter Ybaf.func20, Ybaf.ntmps20
  go_wp2_with (go_at_call 25; refine (stampErrF0 F _ _ hF).mono ?_; rintro e w' ⟨k, rfl, hk⟩)
  go_ret
  exact ⟨k, rfl, hk⟩

set_option maxHeartbeats 800000 in
theorem formErr_first (F : Interp) (g o n c : Nat) (x form : Int) (named : ByteArray) (w : World) (hF : F.answers w.tape) (hn : 0 < n) (hc : w.cell? ⟨g, o, none⟩ = some (.int .u8 x)) :
    Calls Ybaf.prog 20 #[.slice (some ⟨g, o, none⟩) n c, .int .u8 form, .string named] w (SE 0 w) := by
  have hn0 : ((n : Int) == 0) = false := by simp; omega
  go_enter Ybaf.func20, Ybaf.ntmps20
  go_wp2_with (go_at_call 25; refine (stampErrF1 F _ named form x _ (by exact hF) _ (by go_simp) (by go_simp) (by go_simp)).mono ?_; rintro e w' hse; obtain ⟨k, rfl, hk⟩ := SE_alloc hse)
  go_ret
  exact ⟨k, rfl, hk⟩

set_option maxHeartbeats 800000 in
theorem uvarintErr (F : Interp) (at_ n : Int) (named : ByteArray) (w : World) (hF : F.answers w.tape) :
    Calls Ybaf.prog 22 #[.int .i64 at_, .int .i64 n, .string named] w (SE at_ w) := by
  rcases Int.lt_trichotomy n 0 with h | h | h
  · have h0 : (n == 0) = false := by simp; omega
    go_enter Ybaf.func22, Ybaf.ntmps22
    go_wp2_with (go_at_call 25; refine (stampErrF3 F _ named _ (by exact hF) _ (by go_simp)).mono ?_; rintro e w' hse; obtain ⟨k, rfl, hk⟩ := SE_alloc hse)
    go_ret
    exact ⟨k, rfl, hk⟩
  · subst h
    go_enter Ybaf.func22, Ybaf.ntmps22
    go_wp2_with (go_at_call 25; refine (stampErrF2 F _ named _ (by exact hF) _ (by go_simp)).mono ?_; rintro e w' hse; obtain ⟨k, rfl, hk⟩ := SE_alloc hse)
    go_ret
    exact ⟨k, rfl, hk⟩
  · have h0 : (n == 0) = false := by simp; omega
    go_enter Ybaf.func22, Ybaf.ntmps22
    go_wp2_with (go_at_call 25; refine (stampErrF4 F _ named _ (by exact hF) _ (by go_simp)).mono ?_; rintro e w' hse; obtain ⟨k, rfl, hk⟩ := SE_alloc hse)
    go_ret
    exact ⟨k, rfl, hk⟩

theorem assert39 (a : Addr) (w : World) : (Instr.typeAssert (.iface 39 (.pointer (some a))) 31 39 true).run Ybaf.prog w = .ok (.tuple #[.pointer (some a), .bool true]) w := by kernel_rfl
attribute [local go_sem] assert39
theorem boffset_any (k : Nat) (off : Int) (w : World) (hc : w.cell? ⟨k, 0, none⟩ = some (.int .i64 off)) :
    Calls Ybaf.prog 14 #[.iface 39 (.pointer (some ⟨k, 0, none⟩))] w fun e w' => e = .returned (.tuple #[.int .i64 off, .bool true]) ∧ w' = w := by
  go_enter Ybaf.func14, Ybaf.ntmps14
  go_wp2
  go_ret2
  exact ⟨rfl, rfl⟩
end Go.Proofs.YbulkbcnsFmt
