/-
  (*Group).readStamp (function 17), the ways that it refuses ahead of the counts: FOR EVERY F.
-/
import Derived.Test.YbulkbcnsFmtReader3
namespace Go.Proofs.YbulkbcnsFmt
open Go.RowKit Go.Extern.Stop Go.Stop Go.Extern
set_option linter.unusedVariables false

/-- As 'SE', of a function of three results, the error the third, the second nil. -/
def SE3 (at_ : Int) (w : World) (e : Ending) (w' : World) : Prop :=
  ∃ x k, e = .returned (.tuple #[x, .slice none 0 0, .iface 39 (.pointer (some ⟨k, 0, none⟩))]) ∧ w.heap.size ≤ k ∧ k < w'.heap.size ∧ w'.cell? ⟨k, 0, none⟩ = some (.int .i64 at_) ∧ Below w.heap.size w w'

/-- The reader's block, just laid. -/
abbrev boxed (w : World) (v : Value) : World := w.alloc (.cells #[v, .int .i64 0] 70)
theorem boxed_below (w : World) (v : Value) : Below w.heap.size w (boxed w v) := (Below.refl _ _).alloc (Nat.le_refl _) _
theorem BV_later {w w' : World} {v : Value} {l : List UInt8} (h : BV w v l) (hb : Below w.heap.size w w') : BV w' v l := by
  obtain ⟨a, c, rfl, h1, h2, h3⟩ := h
  refine ⟨a, c, rfl, h1, h2, fun hp => ?_⟩
  obtain ⟨g, o, rfl, hc⟩ := h3 hp
  exact ⟨g, o, rfl, fun j hj => cell_later hb (hc j hj)⟩

theorem rs_begin_no (F : Interp) (v : Value) (l : List UInt8) (named : ByteArray) (w : World) (hF : F.answers w.tape) (hv : BV w v l) (hh : (l.head? == some 3) = false) :
    Calls Ybaf.prog 23 #[.pointer (some ⟨w.heap.size, 0, none⟩), .int .u8 3, .string named] (boxed w v) (SE 0 w) :=
  (begin_no F w.heap.size v l named (boxed w v) hF (BV_later hv (boxed_below w v)) (by unfold boxed; go_simp) hh).mono fun e w' h => SE_alloc h

/-- A slice that bears a first byte, where it lies. -/
def At (w : World) (v : Value) (l : List UInt8) (g o c : Nat) : Prop := v = .slice (some ⟨g, o, none⟩) l.length c ∧ l.length ≤ c ∧ c ≤ maxLen ∧ g < w.heap.size ∧ ∀ j (hj : j < l.length), w.cell? ⟨g, o + j, none⟩ = some (.int .u8 (l[j]).toNat)
theorem At_of {w : World} {v : Value} {l : List UInt8} (h : BV w v l) (hp : 0 < l.length) : ∃ g o c, At w v l g o c := by
  obtain ⟨a, c, rfl, h1, h2, h3⟩ := h
  obtain ⟨g, o, rfl, hc⟩ := h3 hp
  exact ⟨g, o, c, rfl, h1, h2, World.block_lt_of_cell? _ _ (hc 0 hp), hc⟩
theorem At.bv {w : World} {v : Value} {l : List UInt8} {g o c : Nat} (h : At w v l g o c) : BV w v l := by
  obtain ⟨rfl, h1, h2, _, h3⟩ := h
  exact ⟨_, c, rfl, h1, h2, fun _ => ⟨g, o, rfl, h3⟩⟩

theorem rs_begin_ok (v : Value) (l : List UInt8) (g o c : Nat) (named : ByteArray) (w : World) (hv : At w v l g o c) (hh : (l.head? == some 3) = true) :
    Calls Ybaf.prog 23 #[.pointer (some ⟨w.heap.size, 0, none⟩), .int .u8 3, .string named] (boxed w v) fun e w' => e = .returned .nilIface ∧ Rd w' w.heap.size g o c l 1 ∧ Below w.heap.size w w' := by
  refine (begin_ok w.heap.size v l named (boxed w v) (.int .i64 0) (BV_later hv.bv (boxed_below w v)) (by unfold boxed; go_simp) (by unfold boxed; go_simp) (by unfold boxed; go_simp) hh).mono ?_
  rintro e w' ⟨rfl, rfl⟩
  obtain ⟨rfl, h1, h2, hg, h3⟩ := hv
  have hl : 1 ≤ l.length := by cases l <;> simp_all
  have hB : Below w.heap.size w ((boxed w (.slice (some ⟨g, o, none⟩) l.length c)).setCell ⟨w.heap.size, 1, none⟩ (.int .i64 1)) := (boxed_below w _).setCell (Nat.le_refl _) _
  refine ⟨rfl, ⟨?_, ?_, ?_, h1, h2, fun j hj => cell_later hB (h3 j hj), by omega, hl⟩, hB⟩
  · unfold boxed; go_simp
  · unfold boxed; go_simp
  · unfold boxed; go_simp

theorem rs_uvarint_no (F : Interp) (g o c : Nat) (l : List UInt8) (off : Nat) (named : ByteArray) (w w1 : World) (hF : F.answers w.tape) (h : Rd w1 w.heap.size g o c l off) (hB : Below w.heap.size w w1) (hu : rdU (l.drop off) = none) :
    Calls Ybaf.prog 24 #[.pointer (some ⟨w.heap.size, 0, none⟩), .string named] w1 (SE2 (.int .u64 0) off w) := by
  refine (uvarint_no F w.heap.size g o c l off named w1 (by rw [hB.tape]; exact hF) h hu).mono ?_
  rintro e w' ⟨k, rfl, hk, hk', hc, hb⟩
  have := hB.size
  exact ⟨k, rfl, by omega, hk', hc, hB.trans (hb.mono hB.size)⟩

theorem rs_uvarint_ok (g o c : Nat) (l : List UInt8) (off : Nat) (named : ByteArray) (w w1 : World) (h : Rd w1 w.heap.size g o c l off) (hB : Below w.heap.size w w1) (v k : Nat) (hu : rdU (l.drop off) = some (v, k)) :
    Calls Ybaf.prog 24 #[.pointer (some ⟨w.heap.size, 0, none⟩), .string named] w1 fun e w' => e = .returned (.tuple #[.int .u64 v, .nilIface]) ∧ Rd w' w.heap.size g o c l (off + k) ∧ Below w.heap.size w w' ∧ w1.grownBy w' (some w.heap.size) := by
  refine (uvarint_ok w.heap.size g o c l off named w1 h v k hu).mono ?_
  rintro e w' ⟨rfl, hr, hg⟩
  exact ⟨rfl, hr, hB.grown hg hB.size (fun k hk => by cases hk; exact Nat.le_refl _), hg⟩

theorem rs_fixed_bad (F : Interp) (g o c : Nat) (l : List UInt8) (off : Nat) (named : ByteArray) (w w1 : World) (hF : F.answers w.tape) (h : Rd w1 w.heap.size g o c l off) (hB : Below w.heap.size w w1) (hs : l.length - off < 4) :
    Calls Ybaf.prog 26 #[.pointer (some ⟨w.heap.size, 0, none⟩), .string named] w1 (SE2 (.int .u32 0) off w) := by
  refine (fixed_bad F w.heap.size g o c l off named w1 (by rw [hB.tape]; exact hF) h hs).mono ?_
  rintro e w' ⟨k, rfl, hk, hk', hc, hb⟩
  have := hB.size
  exact ⟨k, rfl, by omega, hk', hc, hB.trans (hb.mono hB.size)⟩

theorem rs_fixed_ok (g o c : Nat) (l : List UInt8) (off : Nat) (named : ByteArray) (w w1 : World) (h : Rd w1 w.heap.size g o c l off) (hB : Below w.heap.size w w1) (hs : ¬ l.length - off < 4) :
    Calls Ybaf.prog 26 #[.pointer (some ⟨w.heap.size, 0, none⟩), .string named] w1 fun e w' => e = .returned (.tuple #[.int .u32 (Lib.leNat ((l.drop off).take 4)), .nilIface]) ∧ Rd w' w.heap.size g o c l (off + 4) ∧ Below w.heap.size w w' := by
  refine (fixed_ok w.heap.size g o c l off named w1 h hs).mono ?_
  rintro e w' ⟨rfl, hr, hg⟩
  exact ⟨rfl, hr, hB.grown hg hB.size (fun k hk => by cases hk; exact Nat.le_refl _)⟩

theorem rs_stampF5 (F : Interp) (at_ x0 x1 : Int) (w w1 : World) (hF : F.answers w.tape) (hB : Below w.heap.size w w1) :
    Calls Ybaf.prog 25 #[.int .i64 at_, .string ⟨#[116, 104, 101, 32, 115, 116, 97, 109, 112, 32, 105, 115, 32, 102, 111, 114, 32, 97, 32, 103, 114, 111, 117, 112, 32, 111, 102, 32, 37, 100, 32, 109, 101, 109, 98, 101, 114, 115, 44, 32, 110, 111, 116, 32, 37, 100]⟩, .slice (some ⟨w1.heap.size, 0, none⟩) 2 2] (w1.alloc (.cells #[.iface 36 (.int .u64 x0), .iface 3 (.int .i64 x1)] 20)) (SE at_ w) := by
  have hB1 : Below w.heap.size w (w1.alloc (.cells #[.iface 36 (.int .u64 x0), .iface 3 (.int .i64 x1)] 20)) := hB.alloc hB.size _
  refine (stampErrF5 F at_ x0 x1 _ (by rw [hB1.tape]; exact hF) w1.heap.size (by go_simp) (by go_simp)).mono ?_
  intro e w' h
  exact SE_below hB1 h

theorem rs_stampF6 (F : Interp) (at_ x0 x1 : Int) (w w1 : World) (hF : F.answers w.tape) (hB : Below w.heap.size w w1) :
    Calls Ybaf.prog 25 #[.int .i64 at_, .string ⟨#[116, 104, 101, 32, 115, 116, 97, 109, 112, 39, 115, 32, 109, 101, 109, 98, 101, 114, 32, 108, 105, 115, 116, 32, 99, 104, 101, 99, 107, 32, 105, 115, 32, 37, 48, 56, 120, 44, 32, 110, 111, 116, 32, 37, 48, 56, 120, 58, 32, 105, 116, 115, 32, 103, 114, 111, 117, 112, 32, 108, 105, 115, 116, 115, 32, 111, 116, 104, 101, 114, 32, 109, 101, 109, 98, 101, 114, 115, 44, 32, 111, 114, 32, 108, 105, 115, 116, 115, 32, 116, 104, 101, 109, 32, 105, 110, 32, 97, 110, 111, 116, 104, 101, 114, 32, 111, 114, 100, 101, 114]⟩, .slice (some ⟨w1.heap.size, 0, none⟩) 2 2] (w1.alloc (.cells #[.iface 23 (.int .u32 x0), .iface 23 (.int .u32 x1)] 20)) (SE at_ w) := by
  have hB1 : Below w.heap.size w (w1.alloc (.cells #[.iface 23 (.int .u32 x0), .iface 23 (.int .u32 x1)] 20)) := hB.alloc hB.size _
  refine (stampErrF6 F at_ x0 x1 _ (by rw [hB1.tape]; exact hF) w1.heap.size (by go_simp) (by go_simp)).mono ?_
  intro e w' h
  exact SE_below hB1 h

set_option maxHeartbeats 1600000 in
theorem rs_form (F : Interp) (G n cms : Nat) (ams : Option Addr) (ck : Int) (av : Option Addr) (m cv : Nat) (l : List UInt8) (w : World) (hF : F.answers w.tape) (hG0 : w.cell? ⟨G, 0, none⟩ = some (.slice ams n cms)) (hG4 : w.cell? ⟨G, 4, none⟩ = some (.int .u32 ck)) (hn : n ≤ 1000) (hv : BV w (.slice av m cv) l) (hh : (l.head? == some 3) = false) :
    Calls Ybaf.prog 17 #[.pointer (some ⟨G, 0, none⟩), .slice none 0 0, (.slice av m cv)] w (SE3 0 w) := by
  go_enter Ybaf.func17, Ybaf.ntmps17
  go_wp2_with (first | (go_at_call 23; refine (rs_begin_no F (.slice av m cv) l _ w hF hv hh).mono ?_; rintro e w' ⟨k, rfl, hk⟩))
  go_ret3
  exact ⟨_, k, rfl, hk⟩

set_option maxHeartbeats 1600000 in
theorem rs_num (F : Interp) (G n cms : Nat) (ams : Option Addr) (ck : Int) (l : List UInt8) (g o c : Nat) (w : World) (hF : F.answers w.tape) (hG0 : w.cell? ⟨G, 0, none⟩ = some (.slice ams n cms)) (hG4 : w.cell? ⟨G, 4, none⟩ = some (.int .u32 ck)) (hn : n ≤ 1000) (hv : At w (.slice (some ⟨g, o, none⟩) l.length c) l g o c) (hh : (l.head? == some 3) = true) (hu : rdU (l.drop 1) = none) :
    Calls Ybaf.prog 17 #[.pointer (some ⟨G, 0, none⟩), .slice none 0 0, (.slice (some ⟨g, o, none⟩) l.length c)] w (SE3 1 w) := by
  go_enter Ybaf.func17, Ybaf.ntmps17
  go_wp2_with (first | (go_at_call 23; refine (rs_begin_ok (.slice (some ⟨g, o, none⟩) l.length c) l g o c _ w hv hh).mono ?_; rintro e w1 ⟨rfl, hr1, hB1⟩; have i1 := hr1.i; have p10 := cell_later hB1 hG0; have p14 := cell_later hB1 hG4) | (go_at_call 24; refine (rs_uvarint_no F g o c l 1 _ w _ hF hr1 hB1 hu).mono ?_; rintro e w' ⟨k, rfl, hk⟩))
  go_ret3
  exact ⟨_, k, rfl, hk⟩

set_option maxHeartbeats 1600000 in
theorem rs_mem (F : Interp) (G n cms : Nat) (ams : Option Addr) (ck : Int) (l : List UInt8) (g o c : Nat) (vn j : Nat) (w : World) (hF : F.answers w.tape) (hG0 : w.cell? ⟨G, 0, none⟩ = some (.slice ams n cms)) (hG4 : w.cell? ⟨G, 4, none⟩ = some (.int .u32 ck)) (hn : n ≤ 1000) (hv : At w (.slice (some ⟨g, o, none⟩) l.length c) l g o c) (hh : (l.head? == some 3) = true) (hu : rdU (l.drop 1) = some (vn, j)) (hvn : ((vn : Int) != (n : Int)) = true) :
    Calls Ybaf.prog 17 #[.pointer (some ⟨G, 0, none⟩), .slice none 0 0, (.slice (some ⟨g, o, none⟩) l.length c)] w (SE3 1 w) := by
  go_enter Ybaf.func17, Ybaf.ntmps17
  go_wp2_with (first | (go_at_call 23; refine (rs_begin_ok (.slice (some ⟨g, o, none⟩) l.length c) l g o c _ w hv hh).mono ?_; rintro e w1 ⟨rfl, hr1, hB1⟩; have i1 := hr1.i; have p10 := cell_later hB1 hG0; have p14 := cell_later hB1 hG4) | (go_at_call 24; refine (rs_uvarint_ok g o c l 1 _ w _ hr1 hB1 vn j hu).mono ?_; rintro e w2 ⟨rfl, hr2, hB2, _⟩; have i2 := hr2.i; have p20 := cell_later hB2 hG0; have p24 := cell_later hB2 hG4) | (go_at_call 25; refine (rs_stampF5 F _ _ _ w _ hF hB2).mono ?_; rintro e w' ⟨k, rfl, hk⟩))
  go_ret3
  exact ⟨_, k, rfl, hk⟩

set_option maxHeartbeats 1600000 in
theorem rs_short (F : Interp) (G n cms : Nat) (ams : Option Addr) (ck : Int) (l : List UInt8) (g o c : Nat) (vn j : Nat) (w : World) (hF : F.answers w.tape) (hG0 : w.cell? ⟨G, 0, none⟩ = some (.slice ams n cms)) (hG4 : w.cell? ⟨G, 4, none⟩ = some (.int .u32 ck)) (hn : n ≤ 1000) (hv : At w (.slice (some ⟨g, o, none⟩) l.length c) l g o c) (hh : (l.head? == some 3) = true) (hu : rdU (l.drop 1) = some (vn, j)) (hvn : ((vn : Int) != (n : Int)) = false) (hs : l.length - (1 + j) < 4) :
    Calls Ybaf.prog 17 #[.pointer (some ⟨G, 0, none⟩), .slice none 0 0, (.slice (some ⟨g, o, none⟩) l.length c)] w (SE3 ((1 + j : Nat) : Int) w) := by
  go_enter Ybaf.func17, Ybaf.ntmps17
  go_wp2_with (first | (go_at_call 23; refine (rs_begin_ok (.slice (some ⟨g, o, none⟩) l.length c) l g o c _ w hv hh).mono ?_; rintro e w1 ⟨rfl, hr1, hB1⟩; have i1 := hr1.i; have p10 := cell_later hB1 hG0; have p14 := cell_later hB1 hG4) | (go_at_call 24; refine (rs_uvarint_ok g o c l 1 _ w _ hr1 hB1 vn j hu).mono ?_; rintro e w2 ⟨rfl, hr2, hB2, _⟩; have i2 := hr2.i; have p20 := cell_later hB2 hG0; have p24 := cell_later hB2 hG4) | (go_at_call 26; refine (rs_fixed_bad F g o c l (1 + j) _ w _ hF hr2 hB2 hs).mono ?_; rintro e w' ⟨k, rfl, hk⟩))
  go_ret3
  exact ⟨_, k, rfl, hk⟩

set_option maxHeartbeats 1600000 in
theorem rs_check (F : Interp) (G n cms : Nat) (ams : Option Addr) (ck : Int) (l : List UInt8) (g o c : Nat) (vn j : Nat) (w : World) (hF : F.answers w.tape) (hG0 : w.cell? ⟨G, 0, none⟩ = some (.slice ams n cms)) (hG4 : w.cell? ⟨G, 4, none⟩ = some (.int .u32 ck)) (hn : n ≤ 1000) (hv : At w (.slice (some ⟨g, o, none⟩) l.length c) l g o c) (hh : (l.head? == some 3) = true) (hu : rdU (l.drop 1) = some (vn, j)) (hvn : ((vn : Int) != (n : Int)) = false) (hs : ¬ l.length - (1 + j) < 4) (hck : ((Lib.leNat ((l.drop (1 + j)).take 4) : Int) != ck) = true) :
    Calls Ybaf.prog 17 #[.pointer (some ⟨G, 0, none⟩), .slice none 0 0, (.slice (some ⟨g, o, none⟩) l.length c)] w (SE3 ((1 + j : Nat) : Int) w) := by
  go_enter Ybaf.func17, Ybaf.ntmps17
  go_wp2_with (first | (go_at_call 23; refine (rs_begin_ok (.slice (some ⟨g, o, none⟩) l.length c) l g o c _ w hv hh).mono ?_; rintro e w1 ⟨rfl, hr1, hB1⟩; have i1 := hr1.i; have p10 := cell_later hB1 hG0; have p14 := cell_later hB1 hG4) | (go_at_call 24; refine (rs_uvarint_ok g o c l 1 _ w _ hr1 hB1 vn j hu).mono ?_; rintro e w2 ⟨rfl, hr2, hB2, _⟩; have i2 := hr2.i; have p20 := cell_later hB2 hG0; have p24 := cell_later hB2 hG4) | (go_at_call 26; refine (rs_fixed_ok g o c l (1 + j) _ w _ hr2 hB2 hs).mono ?_; rintro e w3 ⟨rfl, hr3, hB3⟩; have i3 := hr3.i; have p30 := cell_later hB3 hG0; have p34 := cell_later hB3 hG4) | (go_at_call 25; refine (rs_stampF6 F _ _ _ w _ hF hB3).mono ?_; rintro e w' ⟨k, rfl, hk⟩))
  go_ret3
  exact ⟨_, k, rfl, hk⟩
end Go.Proofs.YbulkbcnsFmt
