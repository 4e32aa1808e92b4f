/-
  THE stampReader over 'Rd', relative to the world w0 in which the reader's block (number w0.heap.size) is the first new one; slices.Grow (27) of a nil slice.
-/
import Derived.Test.YbulkbcnsFmtReader2
namespace Go.Proofs.YbulkbcnsFmt
open Go.RowKit Go.Extern.Stop Go.Stop Go.Extern
set_option linter.unusedVariables false

theorem fixed_bad (F : Interp) (R g o c : Nat) (l : List UInt8) (off : Nat) (named : ByteArray) (w : World) (hF : F.answers w.tape) (h : Rd w R g o c l off) (hs : l.length - off < 4) :
    Calls Ybaf.prog 26 #[.pointer (some ⟨R, 0, none⟩), .string named] w (SE2 (.int .u32 0) off w) :=
  fixed_no F R g o l.length c off named w hF h.b h.i h.lc h.cm h.le hs

theorem take4 {m : List UInt8} (h : 4 ≤ m.length) : m.take 4 = [m[0], m[1], m[2], m[3]] := by
  match m, h with
  | a :: b :: c :: d :: t, _ => rfl

theorem fixed_ok (R g o c : Nat) (l : List UInt8) (off : Nat) (named : ByteArray) (w : World) (h : Rd w R g o c l off) (hs : ¬ l.length - off < 4) :
    Calls Ybaf.prog 26 #[.pointer (some ⟨R, 0, none⟩), .string named] w fun e w' => e = .returned (.tuple #[.int .u32 (Lib.leNat ((l.drop off).take 4)), .nilIface]) ∧ Rd w' R g o c l (off + 4) ∧ w.grownBy w' (some R) := by
  have hl : (l.drop off).length = l.length - off := List.length_drop
  have hlt : R < w.heap.size := World.block_lt_of_cell? _ _ h.b
  have H := fixed_in R g o l.length c off (Lib.leNat ((l.drop off).take 4)) named w h.b h.i h.fz h.lc h.cm h.le (by omega) (fun q => by
    have c0 := h.cut 0 (by omega)
    have c1 := h.cut 1 (by omega)
    have c2 := h.cut 2 (by omega)
    have c3 := h.cut 3 (by omega)
    rw [take4 (by omega)]
    refine (Ybaf.binary_LE_Uint32 g (o + off) (l.length - off) (c - off) _ _ _ _ (w.drewN q) (by omega) c0 c1 c2 c3).mono ?_
    rintro e w' ⟨rfl, hb⟩
    exact ⟨rfl, below_drewN' hb⟩)
  refine H.mono ?_
  rintro e w' ⟨rfl, w1, hb1, rfl⟩
  have hg : w.grownBy (w1.setCell ⟨R, 1, none⟩ (.int .i64 ((off : Int) + 4))) (some R) := grown_set (grown_of_below hb1 _) 1 _
  refine ⟨rfl, h.step hg ?_ ?_ ?_ (by omega), hg⟩
  · have := (hb1.cell (p := ⟨R, 0, none⟩) hlt).trans h.b
    go_simp
  · have := (hb1.cell (p := ⟨R, 1, none⟩) hlt).trans h.i
    go_simp
  · have := (hb1.frozen (p := ⟨R, 1, none⟩) hlt).trans h.fz
    go_simp

/-- b[off:], as the model cuts it. -/
def cutV (g o n c off : Nat) : Value := if c = off then .slice (some ⟨g, o, none⟩) 0 0 else .slice (some ⟨g, o + off, none⟩) (n - off) (c - off)

theorem rest_any (R g o c : Nat) (l : List UInt8) (off : Nat) (w : World) (h : Rd w R g o c l off) :
    Calls Ybaf.prog 28 #[.pointer (some ⟨R, 0, none⟩)] w fun e w' => e = .returned (cutV g o l.length c off) ∧ ∃ q, w' = w.drewN q := by
  unfold cutV
  by_cases hc : c = off
  · have := h.lc; have := h.le
    have e : l.length = off := by omega
    have hb := h.b
    rw [e, hc] at hb
    rw [if_pos hc]
    exact rest_end R g o off w hb h.i (by have := h.cm; omega)
  · rw [if_neg hc]
    exact rest_in R g o l.length c off w h.b h.i h.lc h.cm h.le hc

theorem cutV_BV {w : World} {g o c : Nat} {l : List UInt8} {off : Nat} (lc : l.length ≤ c) (cm : c ≤ maxLen) (le : off ≤ l.length) (cells : ∀ j (hj : j < l.length), w.cell? ⟨g, o + j, none⟩ = some (.int .u8 (l[j]).toNat)) : BV w (cutV g o l.length c off) (l.drop off) := by
  unfold cutV
  have hl : (l.drop off).length = l.length - off := List.length_drop
  by_cases hc : c = off
  · rw [if_pos hc]
    have e : l.drop off = [] := List.eq_nil_of_length_eq_zero (by omega)
    rw [e]
    exact ⟨_, 0, rfl, Nat.le_refl _, Nat.zero_le _, fun h => by simp at h⟩
  · rw [if_neg hc]
    refine ⟨_, c - off, by rw [hl], by omega, by omega, fun _ => ⟨g, o + off, rfl, fun j hj => ?_⟩⟩
    have hj' : off + j < l.length := by omega
    have := cells (off + j) hj'
    rw [List.getElem_drop, Nat.add_assoc]
    exact this

theorem info36 : (Ybaf.prog.info? 36).map (fun i => (i.zero, i.size, i.bytes)) = some (some (.int .u64 0), 1, 8) := by kernel_rfl

/-- slices.Grow of a nil slice of uint64s. -/
theorem grow_nil (n : Nat) (w : World) (hn : n ≤ 1000) :
    Calls Ybaf.prog 27 #[.slice none 0 0, .int .i64 n] w fun e w' => ∃ v, e = .returned v ∧ w'.ownsRow w.heap.size 36 1 v 0 [] ∧ Below w.heap.size w w' := by
  obtain ⟨i0, hi, hz0, hz1, hz2⟩ := info_parts info36
  by_cases h0 : n = 0
  · subst h0
    refine (Any8.slices_Grow_room Ybaf.grow27 none 0 0 0 w (by omega) (by omega) (by omega) (by omega)).mono ?_
    rintro e w' ⟨rfl, rfl⟩
    exact ⟨_, rfl, World.ownsRow_nil _ _ _ _, Below.refl _ _⟩
  · refine (Any8.slices_Grow_grow Ybaf.grow27 i0 (.int .u64 0) hi hz0 (by omega) none 0 0 n [] w (by omega) (by omega) (by rw [hz2]; omega) (by omega) (by simp) (fun _ => rfl) (fun a h => by cases h)).mono ?_
    rintro e w' ⟨rfl, rfl⟩
    have hcap := grownCap_ge w (0 + n) 0 36
    have hcap2 := grownCap_le_maxLen w (0 + n) 0 36 (by unfold maxLen; omega)
    have hs : (#[] ++ Builtin.zeroCells (Value.int .u64 0).cells (0 + n - 0) ++ Builtin.zeroCells (Value.int .u64 0).cells (grownCap w (0 + n) 0 36 - (0 + n))).size = grownCap w (0 + n) 0 36 * 1 := by
      generalize grownCap w (0 + n) 0 36 = C at hcap hcap2
      simp [Builtin.zeroCells, Value.cells]
      omega
    exact ⟨_, rfl, World.ownsRow_made (base := w.heap.size) (e := 36) (size := 1) w.drew _ _ (Nat.le_refl _) hcap2 hs, ((Below.refl _ _).drew).alloc (Nat.le_refl _) _⟩
end Go.Proofs.YbulkbcnsFmt
