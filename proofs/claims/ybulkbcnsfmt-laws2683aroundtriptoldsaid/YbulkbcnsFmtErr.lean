/-
  stampError (function 25) at each of its formats, formError (20), uvarintError (22), begins (19), zzs2683boffset (14): BY THEIR CONTRACTS, FOR EVERY F.
-/
import Derived.Test.YbulkbcnsFmtFacts
import Derived.WalkKit
import Derived.WalkSpells
namespace Go.Proofs.YbulkbcnsFmt
open Go.RowKit Go.Extern.Stop Go.Stop Go.Extern
attribute [local go_sem] call30 guardOk fmtF0 fmtF1 fmtF2 fmtF3 fmtF4 fmtF5 fmtF6 act9_115 op9_115 act5_100 op5_100 act36_100 op36_100 act3_100 op3_100 act23_120 op23_120

/-- WHAT A FUNCTION THAT MAKES A *StampError LEAVES: a new one, its offset 'at'; of what was there nothing has turned. -/
def SE (at_ : Int) (w : World) (e : Ending) (w' : World) : Prop :=
  ∃ k, e = .returned (.iface 39 (.pointer (some ⟨k, 0, none⟩))) ∧ w.heap.size ≤ k ∧ k < w'.heap.size ∧ w'.cell? ⟨k, 0, none⟩ = some (.int .i64 at_) ∧ Below w.heap.size w w'
theorem SE_mk {at_ : Int} {w : World} {s : ByteArray} {t : TypeId} : SE at_ w (.returned (.iface 39 (.pointer (some ⟨w.heap.size, 0, none⟩)))) (w.alloc (.cells #[.int .i64 at_, .string s] t)).drew :=
  ⟨_, rfl, Nat.le_refl _, by simp, by go_simp, ((Below.refl _ _).alloc (Nat.le_refl _) _).drew⟩

set_option maxHeartbeats 800000 in
theorem stampErrF0 (F : Interp) (at_ : Int) (w : World) (hF : F.answers w.tape) :
    Calls Ybaf.prog 25 #[.int .i64 at_, .string ⟨#[116, 104, 101, 32, 115, 116, 97, 109, 112, 32, 105, 115, 32, 101, 109, 112, 116, 121]⟩, .slice none 0 0] w (SE at_ w) := by
  have hF' := answers_open hF
  go_enter Ybaf.func25, Ybaf.ntmps25
  go_wp2
  apply rows_value nextTurns
  case hr =>
    go_simp
    exact ⟨rfl, rfl⟩
  case h =>
    go_wp2
    go_ret
    exact SE_mk

set_option maxHeartbeats 800000 in
theorem stampErrF1 (F : Interp) (at_ : Int) (x0 : ByteArray) (x1 : Int) (x2 : Int) (w : World) (hF : F.answers w.tape) (b : Nat) (c0 : w.cell? ⟨b, 0, none⟩ = some (.iface 9 (.string x0))) (c1 : w.cell? ⟨b, 1, none⟩ = some (.iface 5 (.int .u8 x1))) (c2 : w.cell? ⟨b, 2, none⟩ = some (.iface 5 (.int .u8 x2))) :
    Calls Ybaf.prog 25 #[.int .i64 at_, .string ⟨#[97, 32, 37, 115, 32, 115, 116, 97, 109, 112, 32, 98, 101, 103, 105, 110, 115, 32, 119, 105, 116, 104, 32, 98, 121, 116, 101, 32, 37, 100, 44, 32, 110, 111, 116, 32, 37, 100]⟩, .slice (some ⟨b, 0, none⟩) 3 3] w (SE at_ w) := by
  have hF' := answers_open hF
  go_enter Ybaf.func25, Ybaf.ntmps25
  go_wp2
  apply rows_value nextTurns
  case hr =>
    go_simp
    exact ⟨rfl, rfl⟩
  case h =>
    go_wp2
    go_ret
    exact SE_mk

set_option maxHeartbeats 800000 in
theorem stampErrF2 (F : Interp) (at_ : Int) (x0 : ByteArray) (w : World) (hF : F.answers w.tape) (b : Nat) (c0 : w.cell? ⟨b, 0, none⟩ = some (.iface 9 (.string x0))) :
    Calls Ybaf.prog 25 #[.int .i64 at_, .string ⟨#[116, 104, 101, 32, 115, 116, 97, 109, 112, 32, 101, 110, 100, 115, 32, 105, 110, 115, 105, 100, 101, 32, 37, 115]⟩, .slice (some ⟨b, 0, none⟩) 1 1] w (SE at_ w) := by
  have hF' := answers_open hF
  go_enter Ybaf.func25, Ybaf.ntmps25
  go_wp2
  apply rows_value nextTurns
  case hr =>
    go_simp
    exact ⟨rfl, rfl⟩
  case h =>
    go_wp2
    go_ret
    exact SE_mk

set_option maxHeartbeats 800000 in
theorem stampErrF3 (F : Interp) (at_ : Int) (x0 : ByteArray) (w : World) (hF : F.answers w.tape) (b : Nat) (c0 : w.cell? ⟨b, 0, none⟩ = some (.iface 9 (.string x0))) :
    Calls Ybaf.prog 25 #[.int .i64 at_, .string ⟨#[37, 115, 32, 105, 115, 32, 97, 98, 111, 118, 101, 32, 50, 94, 54, 52, 32, 45, 32, 49]⟩, .slice (some ⟨b, 0, none⟩) 1 1] w (SE at_ w) := by
  have hF' := answers_open hF
  go_enter Ybaf.func25, Ybaf.ntmps25
  go_wp2
  apply rows_value nextTurns
  case hr =>
    go_simp
    exact ⟨rfl, rfl⟩
  case h =>
    go_wp2
    go_ret
    exact SE_mk

set_option maxHeartbeats 800000 in
theorem stampErrF4 (F : Interp) (at_ : Int) (x0 : ByteArray) (w : World) (hF : F.answers w.tape) (b : Nat) (c0 : w.cell? ⟨b, 0, none⟩ = some (.iface 9 (.string x0))) :
    Calls Ybaf.prog 25 #[.int .i64 at_, .string ⟨#[37, 115, 32, 105, 115, 32, 110, 111, 116, 32, 105, 110, 32, 105, 116, 115, 32, 115, 104, 111, 114, 116, 101, 115, 116, 32, 102, 111, 114, 109]⟩, .slice (some ⟨b, 0, none⟩) 1 1] w (SE at_ w) := by
  have hF' := answers_open hF
  go_enter Ybaf.func25, Ybaf.ntmps25
  go_wp2
  apply rows_value nextTurns
  case hr =>
    go_simp
    exact ⟨rfl, rfl⟩
  case h =>
    go_wp2
    go_ret
    exact SE_mk

set_option maxHeartbeats 800000 in
theorem stampErrF5 (F : Interp) (at_ : Int) (x0 : Int) (x1 : Int) (w : World) (hF : F.answers w.tape) (b : Nat) (c0 : w.cell? ⟨b, 0, none⟩ = some (.iface 36 (.int .u64 x0))) (c1 : w.cell? ⟨b, 1, none⟩ = some (.iface 3 (.int .i64 x1))) :
    Calls Ybaf.prog 25 #[.int .i64 at_, .string ⟨#[116, 104, 101, 32, 115, 116, 97, 109, 112, 32, 105, 115, 32, 102, 111, 114, 32, 97, 32, 103, 114, 111, 117, 112, 32, 111, 102, 32, 37, 100, 32, 109, 101, 109, 98, 101, 114, 115, 44, 32, 110, 111, 116, 32, 37, 100]⟩, .slice (some ⟨b, 0, none⟩) 2 2] w (SE at_ w) := by
  have hF' := answers_open hF
  go_enter Ybaf.func25, Ybaf.ntmps25
  go_wp2
  apply rows_value nextTurns
  case hr =>
    go_simp
    exact ⟨rfl, rfl⟩
  case h =>
    go_wp2
    go_ret
    exact SE_mk

set_option maxHeartbeats 800000 in
theorem stampErrF6 (F : Interp) (at_ : Int) (x0 : Int) (x1 : Int) (w : World) (hF : F.answers w.tape) (b : Nat) (c0 : w.cell? ⟨b, 0, none⟩ = some (.iface 23 (.int .u32 x0))) (c1 : w.cell? ⟨b, 1, none⟩ = some (.iface 23 (.int .u32 x1))) :
    Calls Ybaf.prog 25 #[.int .i64 at_, .string ⟨#[116, 104, 101, 32, 115, 116, 97, 109, 112, 39, 115, 32, 109, 101, 109, 98, 101, 114, 32, 108, 105, 115, 116, 32, 99, 104, 101, 99, 107, 32, 105, 115, 32, 37, 48, 56, 120, 44, 32, 110, 111, 116, 32, 37, 48, 56, 120, 58, 32, 105, 116, 115, 32, 103, 114, 111, 117, 112, 32, 108, 105, 115, 116, 115, 32, 111, 116, 104, 101, 114, 32, 109, 101, 109, 98, 101, 114, 115, 44, 32, 111, 114, 32, 108, 105, 115, 116, 115, 32, 116, 104, 101, 109, 32, 105, 110, 32, 97, 110, 111, 116, 104, 101, 114, 32, 111, 114, 100, 101, 114]⟩, .slice (some ⟨b, 0, none⟩) 2 2] w (SE at_ w) := by
  have hF' := answers_open hF
  go_enter Ybaf.func25, Ybaf.ntmps25
  go_wp2
  apply rows_value nextTurns
  case hr =>
    go_simp
    exact ⟨rfl, rfl⟩
  case h =>
    go_wp2
    go_ret
    exact SE_mk

end Go.Proofs.YbulkbcnsFmt
