/-
  THE stampReader's METHODS over 'Rd': uvarint (24), fixed32 (26), rest (28): FOR EVERY F.
-/
import Derived.Test.YbulkbcnsFmtReader
import Derived.Deep.RegionWith
namespace Go.Proofs.YbulkbcnsFmt
open Go.RowKit Go.Extern.Stop Go.Stop Go.Extern
set_option linter.unusedVariables false

theorem Rd.cut {w : World} {R g o c : Nat} {l : List UInt8} {off : Nat} (h : Rd w R g o c l off) : ∀ j (hj : j < (l.drop off).length), w.cell? ⟨g, o + off + j, none⟩ = some (.int .u8 ((l.drop off)[j]).toNat) := by
  intro j hj
  have hj' : off + j < l.length := by simp at hj; omega
  have := h.cells (off + j) hj'
  rw [List.getElem_drop, Nat.add_assoc]
  exact this

theorem Rd.uv {w : World} {R g o c : Nat} {l : List UInt8} {off : Nat} (h : Rd w R g o c l off) (q : Nat) :
    Calls Ybaf.prog 21 #[.slice (some ⟨g, o + off, none⟩) (l.length - off) (c - off)] (w.drewN q) fun e w' => e = .returned (.tuple #[.int .u64 (Lib.uvarintDec (l.drop off)).1, .int .i64 (Lib.uvarintDec (l.drop off)).2]) ∧ w' = w.drewN q :=
  Ybaf.binary_Uvarint g (o + off) (l.length - off) (c - off) (l.drop off) (w.drewN q) List.length_drop (fun j hj => h.cut j hj)

theorem Rd.sh {w : World} {R g o c : Nat} {l : List UInt8} {off : Nat} (h : Rd w R g o c l off) (q : Nat) :
    Calls Ybaf.prog 29 #[.slice (some ⟨g, o + off, none⟩) (l.length - off) (c - off), .int .i64 (Lib.uvarintDec (l.drop off)).2] (w.drewN q) fun e w' => e = .returned (.bool (short (l.drop off) (Lib.uvarintDec (l.drop off)).2)) ∧ w' = w.drewN q := by
  have hr := uvarintDec_range (l.drop off)
  generalize hd : (Lib.uvarintDec (l.drop off)).2 = d at hr ⊢
  have hl : (l.drop off).length = l.length - off := List.length_drop
  by_cases h1 : d < 1
  · rw [short_low h1]; exact shortest_low _ d _ h1
  · by_cases h2 : d = 1
    · subst h2; exact shortest_one _ _
    · obtain ⟨k, rfl⟩ := Int.eq_ofNat_of_zero_le (show 0 ≤ d by omega)
      have hk : k - 1 < (l.drop off).length := by omega
      have hc := h.cut (k - 1) hk
      have := shortest_high g (o + off) (l.length - off) (c - off) k _ (w.drewN q) (by omega) (by omega) (by have := h.cm; have := h.lc; omega) hc
      rw [nz_byte] at this
      rw [short_high (by omega)]
      have e : (((k : Int) - 1).toNat) = k - 1 := by omega
      have e' : (l.drop off).getD (k - 1) 0 = (l.drop off)[k - 1] := by rw [List.getD_eq_getElem?_getD, List.getElem?_eq_getElem hk]; rfl
      rw [e, e']
      exact this

theorem uvarint_no (F : Interp) (R g o c : Nat) (l : List UInt8) (off : Nat) (named : ByteArray) (w : World) (hF : F.answers w.tape) (h : Rd w R g o c l off) (hu : rdU (l.drop off) = none) :
    Calls Ybaf.prog 24 #[.pointer (some ⟨R, 0, none⟩), .string named] w (SE2 (.int .u64 0) off w) := by
  have hs : short (l.drop off) (Lib.uvarintDec (l.drop off)).2 = false := by
    unfold rdU at hu
    split at hu
    · cases hu
    · rename_i h; simpa using h
  by_cases hc : c = off
  · have := h.lc; have := h.le
    have e : l.length = off := by omega
    have hb := h.b
    rw [e, hc] at hb
    exact uvarint_bad_end F R g o off named w hF hb h.i (by have := h.cm; omega)
  · exact uvarint_bad_in F R g o l.length c off _ _ named w hF h.b h.i h.lc h.cm h.le hc (fun q => h.uv q) (fun q => by have := h.sh q; rw [hs] at this; exact this)

theorem uvarint_ok (R g o c : Nat) (l : List UInt8) (off : Nat) (named : ByteArray) (w : World) (h : Rd w R g o c l off) (v k : Nat) (hu : rdU (l.drop off) = some (v, k)) :
    Calls Ybaf.prog 24 #[.pointer (some ⟨R, 0, none⟩), .string named] w fun e w' => e = .returned (.tuple #[.int .u64 v, .nilIface]) ∧ Rd w' R g o c l (off + k) ∧ w.grownBy w' (some R) := by
  obtain ⟨hk1, hk2, hv, e2, e1, hs⟩ := rdU_bounds hu
  have hl : (l.drop off).length = l.length - off := List.length_drop
  have hc : ¬ c = off := by have := h.lc; omega
  have HU := h.uv
  have HS := h.sh
  rw [hs, e2] at HS
  rw [e1, e2] at HU
  refine (uvarint_good_in R g o l.length c off v k named w h.b h.i h.fz h.lc h.cm h.le hc (by have := h.le; omega) HU HS).mono ?_
  rintro e w' ⟨rfl, q, rfl⟩
  refine ⟨rfl, ?_, grown_drewN (grown_set (World.grownBy.refl w _) 1 _) q⟩
  have hg : w.grownBy ((w.setCell ⟨R, 1, none⟩ (.int .i64 ((off : Int) + k))).drewN q) (some R) := grown_drewN (grown_set (World.grownBy.refl w _) 1 _) q
  have hb := h.b
  have hi := h.i
  have hf := h.fz
  refine h.step hg ?_ ?_ ?_ (by have := h.le; omega)
  · go_simp
  · go_simp
  · go_simp

theorem new_cell_drewN (w : World) (q : Nat) (x : Value) (t : TypeId) : ((w.drewN q).alloc (.cells #[x] t)).cell? ⟨w.heap.size, 0, none⟩ = some x := by
  have := cell_one_new (w.drewN q) x t 0 x rfl
  rw [WideShapes.add_plain] at this
  exact this

set_option maxHeartbeats 800000 in
theorem fixed_no (F : Interp) (R g o n c off : Nat) (named : ByteArray) (w : World) (hF : F.answers w.tape) (hb : w.cell? ⟨R, 0, none⟩ = some (.slice (some ⟨g, o, none⟩) n c)) (hi : w.cell? ⟨R, 1, none⟩ = some (.int .i64 off)) (hnc : n ≤ c) (hcm : c ≤ maxLen) (hoff : off ≤ n) (hs : n - off < 4) :
    Calls Ybaf.prog 26 #[.pointer (some ⟨R, 0, none⟩), .string named] w (SE2 (.int .u32 0) off w) := by
  unfold maxLen at hcm
  have h4 : (n : Int) - (off : Int) < 4 := by omega
  go_enter Ybaf.func26, Ybaf.ntmps26
  go_wp2
  go_quiet (fail)
  go_wp2_with (first | (go_at_call 25; refine (stampErrF2 F _ named _ (by exact hF) _ (by exact new_cell_drewN _ _ _ _)).mono ?_; rintro e w' hse; obtain ⟨k, rfl, hk, hk', hcl, hbl⟩ := SE_alloc hse))
  go_ret2
  exact ⟨k, rfl, hk, hk', hcl, below_drewN' hbl⟩

theorem four_store {w w1 : World} {R off : Nat} {x : Value} (hx : w.cell? ⟨R, 0, none⟩ = some x) (hlt : R < w.heap.size) (hb1 : Below w.heap.size w w1) : w1.cell? ⟨R, 0, none⟩ = some x := (hb1.cell (p := ⟨R, 0, none⟩) hlt).trans hx

set_option maxHeartbeats 800000 in
theorem fixed_in (R g o n c off : Nat) (X : Int) (named : ByteArray) (w : World) (hb : w.cell? ⟨R, 0, none⟩ = some (.slice (some ⟨g, o, none⟩) n c)) (hi : w.cell? ⟨R, 1, none⟩ = some (.int .i64 off)) (hf : w.frozen? ⟨R, 1, none⟩ = false) (hnc : n ≤ c) (hcm : c ≤ maxLen) (hoff : off ≤ n) (hs : 4 ≤ n - off)
    (HP : Hid (∀ q, Calls Ybaf.prog 31 #[.agg #[], .slice (some ⟨g, o + off, none⟩) (n - off) (c - off)] (w.drewN q) fun e w' => e = .returned (.int .u32 X) ∧ Below w.heap.size w w')) :
    Calls Ybaf.prog 26 #[.pointer (some ⟨R, 0, none⟩), .string named] w fun e w' => e = .returned (.tuple #[.int .u32 X, .nilIface]) ∧ ∃ w1, Below w.heap.size w w1 ∧ w' = w1.setCell ⟨R, 1, none⟩ (.int .i64 ((off : Int) + 4)) := by
  unfold maxLen at hcm
  have h4 : ¬ ((n : Int) - (off : Int) < 4) := by omega
  have hc : ¬ c = off := by omega
  have hlt : R < w.heap.size := World.block_lt_of_cell? _ _ hb
  go_enter Ybaf.func26, Ybaf.ntmps26
  go_wp2
  go_quiet (fail)
  go_wp2
  go_region_with (go_at_call 31; refine (HP.out _).mono ?_; rintro e w1 ⟨rfl, hb1⟩; have hi1 : w1.cell? ⟨R, 1, none⟩ = some (.int .i64 off) := (hb1.cell (p := ⟨R, 1, none⟩) hlt).trans hi; have hf1 : w1.frozen? ⟨R, 1, none⟩ = false := (hb1.frozen (p := ⟨R, 1, none⟩) hlt).trans hf)
  all_goals
    go_wp2
    go_ret2
    exact ⟨rfl, _, hb1, rfl⟩

set_option maxHeartbeats 800000 in
theorem rest_in (R g o n c off : Nat) (w : World) (hb : w.cell? ⟨R, 0, none⟩ = some (.slice (some ⟨g, o, none⟩) n c)) (hi : w.cell? ⟨R, 1, none⟩ = some (.int .i64 off)) (hnc : n ≤ c) (hcm : c ≤ maxLen) (hoff : off ≤ n) (hc : ¬ c = off) :
    Calls Ybaf.prog 28 #[.pointer (some ⟨R, 0, none⟩)] w fun e w' => e = .returned (.slice (some ⟨g, o + off, none⟩) (n - off) (c - off)) ∧ ∃ q, w' = w.drewN q := by
  unfold maxLen at hcm
  go_enter Ybaf.func28, Ybaf.ntmps28
  go_wp2
  go_quiet (fail)
  go_wp2
  go_ret
  exact ⟨rfl, _, rfl⟩

set_option maxHeartbeats 800000 in
theorem rest_end (R g o off : Nat) (w : World) (hb : w.cell? ⟨R, 0, none⟩ = some (.slice (some ⟨g, o, none⟩) off off)) (hi : w.cell? ⟨R, 1, none⟩ = some (.int .i64 off)) (hcm : off ≤ maxLen) :
    Calls Ybaf.prog 28 #[.pointer (some ⟨R, 0, none⟩)] w fun e w' => e = .returned (.slice (some ⟨g, o, none⟩) 0 0) ∧ ∃ q, w' = w.drewN q := by
  unfold maxLen at hcm
  go_enter Ybaf.func28, Ybaf.ntmps28
  go_wp2
  go_quiet (fail)
  go_wp2
  go_ret
  exact ⟨rfl, _, rfl⟩
end Go.Proofs.YbulkbcnsFmt
