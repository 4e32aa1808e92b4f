/-
  THE stampReader's METHODS: begin (23), shortest (29), uvarint (24), fixed32 (26), rest (28): FOR EVERY F.
-/
import Derived.Test.YbulkbcnsFmtForms
import Derived.Test.YbulkbcnsFmtPlain
import Derived.Test.YbulkbcnsFmtShelf2
import Derived.Deep.QuietTactic
import Derived.BigQuiet
import Derived.Outline
namespace Go.Proofs.YbulkbcnsFmt
open Go.RowKit Go.Extern.Stop Go.Stop Go.Extern
set_option linter.unusedVariables false

theorem short_one (l : List UInt8) : short l 1 = true := rfl
theorem short_low {l : List UInt8} {n : Int} (h : n < 1) : short l n = false := by
  have h1 : (n == 1) = false := by rw [beq_eq_false_iff_ne]; omega
  have h2 : decide (1 < n) = false := by simp; omega
  simp only [short, h1, h2, Bool.false_and, Bool.or_false]
theorem short_high {l : List UInt8} {n : Int} (h : 1 < n) : short l n = (l.getD (n - 1).toNat 0 != 0) := by
  have h1 : (n == 1) = false := by rw [beq_eq_false_iff_ne]; omega
  have h2 : decide (1 < n) = true := by simp; omega
  simp only [short, h1, h2, Bool.true_and, Bool.false_or]

theorem shortest_low (v : Value) (n : Int) (w : World) (h : n < 1) : Calls Ybaf.prog 29 #[v, .int .i64 n] w fun e w' => e = .returned (.bool false) ∧ w' = w := by
  have h1 : (n == 1) = false := by rw [beq_eq_false_iff_ne]; omega
  have h2 : decide (1 < n) = false := by simp; omega
  go_enter Ybaf.func29, Ybaf.ntmps29
  go_wp2
  go_ret
  exact ⟨rfl, rfl⟩
theorem shortest_one (v : Value) (w : World) : Calls Ybaf.prog 29 #[v, .int .i64 1] w fun e w' => e = .returned (.bool true) ∧ w' = w := by
  go_enter Ybaf.func29, Ybaf.ntmps29
  go_wp2
  go_ret
  exact ⟨rfl, rfl⟩
theorem shortest_high (g o m c k : Nat) (x : Int) (w : World) (h : 1 < k) (hm : k ≤ m) (hm2 : m ≤ maxLen) (hc : w.cell? ⟨g, o + (k - 1), none⟩ = some (.int .u8 x)) :
    Calls Ybaf.prog 29 #[.slice (some ⟨g, o, none⟩) m c, .int .i64 k] w fun e w' => e = .returned (.bool (x != 0)) ∧ w' = w := by
  obtain ⟨q, rfl⟩ : ∃ q, k = q + 1 := ⟨k - 1, by omega⟩
  unfold maxLen at hm2
  have e0 : (((q + 1 : Nat) : Int)) = (q : Int) + 1 := by omega
  rw [e0]
  have h1 : ((q : Int) + 1 == 1) = false := by rw [beq_eq_false_iff_ne]; omega
  have h2 : decide (1 < (q : Int) + 1) = true := by simp; omega
  have h3 : (q : Int) < (m : Int) := by omega
  have hc' : w.cell? ⟨g, o + q, none⟩ = some (.int .u8 x) := hc
  clear hc
  go_enter Ybaf.func29, Ybaf.ntmps29
  go_wp2
  go_ret
  exact ⟨rfl, rfl⟩

theorem nz_byte (x : UInt8) : ((x.toNat : Int) != 0) = (x != 0) := by
  by_cases h : x = 0
  · subst h; rfl
  · have h1 : (x != 0) = true := by simp [h]
    have h2 : ((x.toNat : Int) != 0) = true := by
      rw [bne_iff_ne]
      intro h3
      apply h
      apply UInt8.toNat_inj.1
      have : x.toNat = 0 := by omega
      simpa using this
    rw [h1, h2]

/-- THE READER AT BLOCK R: it reads the bytes l, which lie at (g, o), and stands at place off. -/
structure Rd (w : World) (R g o c : Nat) (l : List UInt8) (off : Nat) : Prop where
  b : w.cell? ⟨R, 0, none⟩ = some (.slice (some ⟨g, o, none⟩) l.length c)
  i : w.cell? ⟨R, 1, none⟩ = some (.int .i64 off)
  fz : w.frozen? ⟨R, 1, none⟩ = false
  lc : l.length ≤ c
  cm : c ≤ maxLen
  cells : ∀ j (hj : j < l.length), w.cell? ⟨g, o + j, none⟩ = some (.int .u8 (l[j]).toNat)
  ne : g ≠ R
  le : off ≤ l.length

theorem grown_set {w w1 : World} {R : Nat} (h : w.grownBy w1 (some R)) (i : Nat) (u : Value) : w.grownBy (w1.setCell ⟨R, i, none⟩ u) (some R) :=
  ⟨h.os, h.tape, h.output, by simpa using h.size, fun k hk hne => by
    rw [Below.heap_setCell _ _ _ _ (fun e => hne (by simp [e]))]
    exact h.block k hk hne⟩
theorem grown_drewN {w w1 : World} {row : Option Nat} (h : w.grownBy w1 row) (q : Nat) : w.grownBy (w1.drewN q) row := ⟨h.os, h.tape, h.output, h.size, h.block⟩
theorem grown_drew {w w1 : World} {row : Option Nat} (h : w.grownBy w1 row) : w.grownBy w1.drew row := ⟨h.os, h.tape, h.output, h.size, h.block⟩
theorem grown_of_below {w w1 : World} (h : Below w.heap.size w w1) (row : Option Nat) : w.grownBy w1 row := ⟨h.os, h.tape, h.output, h.size, fun k hk _ => h.block k hk⟩

theorem Rd.step {w w' : World} {R g o c : Nat} {l : List UInt8} {off off' : Nat} (h : Rd w R g o c l off) (hg : w.grownBy w' (some R))
    (hb : w'.cell? ⟨R, 0, none⟩ = some (.slice (some ⟨g, o, none⟩) l.length c)) (hi : w'.cell? ⟨R, 1, none⟩ = some (.int .i64 off')) (hf : w'.frozen? ⟨R, 1, none⟩ = false) (hl : off' ≤ l.length) : Rd w' R g o c l off' :=
  ⟨hb, hi, hf, h.lc, h.cm, fun j hj => hg.cell (h.cells j hj) (fun e => h.ne (by simpa using e)), h.ne, hl⟩

theorem begins_any (v : Value) (l : List UInt8) (w : World) (form : UInt8) (hv : BV w v l) :
    Calls Ybaf.prog 19 #[v, .int .u8 form.toNat] w fun e w' => e = .returned (.bool (l.head? == some form)) ∧ w' = w := by
  obtain ⟨a, c, rfl, hlc, hcm, hcell⟩ := hv
  cases l with
  | nil => exact begins_empty a c _ w
  | cons x t =>
    obtain ⟨g, o, rfl, hce⟩ := hcell (by simp)
    have h0 := hce 0 (by simp)
    simp only [Nat.add_zero, List.getElem_cons_zero] at h0
    have := begins_first g o (t.length + 1) c x.toNat form.toNat w (by omega) h0
    have e : (((x.toNat : Int) == (form.toNat : Int))) = ((x :: t).head? == some form) := by
      by_cases hx : x = form
      · subst hx; simp
      · have h1 : ((x :: t).head? == some form) = false := by simp [hx]
        rw [h1, beq_eq_false_iff_ne]
        intro h2
        exact hx (UInt8.toNat_inj.1 (by omega))
    rw [e] at this
    exact this

theorem formErr_any (F : Interp) (v : Value) (l : List UInt8) (form : Int) (named : ByteArray) (w : World) (hF : F.answers w.tape) (hv : BV w v l) :
    Calls Ybaf.prog 20 #[v, .int .u8 form, .string named] w (SE 0 w) := by
  obtain ⟨a, c, rfl, hlc, hcm, hcell⟩ := hv
  cases l with
  | nil => exact formErr_empty F a c form named w hF
  | cons x t =>
    obtain ⟨g, o, rfl, hce⟩ := hcell (by simp)
    have h0 := hce 0 (by simp)
    simp only [Nat.add_zero, List.getElem_cons_zero] at h0
    exact formErr_first F g o (t.length + 1) c x.toNat form named w hF (by omega) h0

set_option maxHeartbeats 800000 in
theorem begin_no (F : Interp) (R : Nat) (v : Value) (l : List UInt8) (named : ByteArray) (w : World) (hF : F.answers w.tape) (hv : BV w v l) (hb : w.cell? ⟨R, 0, none⟩ = some v) (hh : (l.head? == some 3) = false) :
    Calls Ybaf.prog 23 #[.pointer (some ⟨R, 0, none⟩), .int .u8 3, .string named] w (SE 0 w) := by
  have H1 : Hid (Calls Ybaf.prog 19 #[v, .int .u8 3] w fun e w' => e = .returned (.bool false) ∧ w' = w) := by
    have := begins_any v l w 3 hv
    rw [hh] at this
    exact this
  have H2 : Hid (Calls Ybaf.prog 20 #[v, .int .u8 3, .string named] w (SE 0 w)) := formErr_any F v l 3 named w hF hv
  clear hv hh
  go_enter Ybaf.func23, Ybaf.ntmps23
  go_wp2_with (first | (go_at_call 19; refine H1.out.mono ?_; rintro e w' ⟨rfl, rfl⟩) | (go_at_call 20; refine H2.out.mono ?_; rintro e w' ⟨k, rfl, hk⟩))
  go_ret
  exact ⟨k, rfl, hk⟩

set_option maxHeartbeats 800000 in
theorem begin_ok (R : Nat) (v : Value) (l : List UInt8) (named : ByteArray) (w : World) (x : Value) (hv : BV w v l) (hb : w.cell? ⟨R, 0, none⟩ = some v) (hi : w.cell? ⟨R, 1, none⟩ = some x) (hf : w.frozen? ⟨R, 1, none⟩ = false) (hh : (l.head? == some 3) = true) :
    Calls Ybaf.prog 23 #[.pointer (some ⟨R, 0, none⟩), .int .u8 3, .string named] w fun e w' => e = .returned .nilIface ∧ w' = w.setCell ⟨R, 1, none⟩ (.int .i64 1) := by
  have H1 : Hid (Calls Ybaf.prog 19 #[v, .int .u8 3] w fun e w' => e = .returned (.bool true) ∧ w' = w) := by
    have := begins_any v l w 3 hv
    rw [hh] at this
    exact this
  clear hv hh
  go_enter Ybaf.func23, Ybaf.ntmps23
  go_wp2_with (first | (go_at_call 19; refine H1.out.mono ?_; rintro e w' ⟨rfl, rfl⟩))
  go_ret
  exact ⟨rfl, rfl⟩

/-- As 'SE', of a function of two results, the error the second. -/
def SE2 (x : Value) (at_ : Int) (w : World) (e : Ending) (w' : World) : Prop :=
  ∃ k, e = .returned (.tuple #[x, .iface 39 (.pointer (some ⟨k, 0, none⟩))]) ∧ w.heap.size ≤ k ∧ k < w'.heap.size ∧ w'.cell? ⟨k, 0, none⟩ = some (.int .i64 at_) ∧ Below w.heap.size w w'

theorem below_drewN' {B : Nat} {w w' : World} {q : Nat} (h : Below B (w.drewN q) w') : Below B w w' := ⟨h.os, h.tape, h.output, h.size, h.block⟩

set_option maxHeartbeats 800000 in
theorem uvarint_bad_end (F : Interp) (R g o off : Nat) (named : ByteArray) (w : World) (hF : F.answers w.tape) (hb : w.cell? ⟨R, 0, none⟩ = some (.slice (some ⟨g, o, none⟩) off off)) (hi : w.cell? ⟨R, 1, none⟩ = some (.int .i64 off)) (hcm : off ≤ maxLen) :
    Calls Ybaf.prog 24 #[.pointer (some ⟨R, 0, none⟩), .string named] w (SE2 (.int .u64 0) off w) := by
  unfold maxLen at hcm
  go_enter Ybaf.func24, Ybaf.ntmps24
  go_wp2
  go_quiet (fail)
  go_wp2_with (first | (go_at_call 21; refine (Ybaf.binary_Uvarint_empty _ _ _).mono ?_; rintro e w' ⟨rfl, rfl⟩) | (go_at_call 29; refine (shortest_low _ 0 _ (by omega)).mono ?_; rintro e w' ⟨rfl, rfl⟩) | (go_at_call 22; refine (uvarintErr F _ _ _ _ (by exact hF)).mono ?_; rintro e w' ⟨k, rfl, hk, hk', hcl, hbl⟩))
  go_ret2
  exact ⟨k, rfl, hk, hk', hcl, below_drewN' hbl⟩

set_option maxHeartbeats 800000 in
theorem uvarint_bad_in (F : Interp) (R g o n c off d1 : Nat) (d2 : Int) (named : ByteArray) (w : World) (hF : F.answers w.tape) (hb : w.cell? ⟨R, 0, none⟩ = some (.slice (some ⟨g, o, none⟩) n c)) (hi : w.cell? ⟨R, 1, none⟩ = some (.int .i64 off)) (hnc : n ≤ c) (hcm : c ≤ maxLen) (hoff : off ≤ n) (hc : ¬ c = off)
    (HU : Hid (∀ q, Calls Ybaf.prog 21 #[.slice (some ⟨g, o + off, none⟩) (n - off) (c - off)] (w.drewN q) fun e w' => e = .returned (.tuple #[.int .u64 d1, .int .i64 d2]) ∧ w' = w.drewN q))
    (HS : Hid (∀ q, Calls Ybaf.prog 29 #[.slice (some ⟨g, o + off, none⟩) (n - off) (c - off), .int .i64 d2] (w.drewN q) fun e w' => e = .returned (.bool false) ∧ w' = w.drewN q)) :
    Calls Ybaf.prog 24 #[.pointer (some ⟨R, 0, none⟩), .string named] w (SE2 (.int .u64 0) off w) := by
  unfold maxLen at hcm
  go_enter Ybaf.func24, Ybaf.ntmps24
  go_wp2
  go_quiet (fail)
  go_wp2_with (first | (go_at_call 21; refine (HU.out _).mono ?_; rintro e w' ⟨rfl, rfl⟩) | (go_at_call 29; refine (HS.out _).mono ?_; rintro e w' ⟨rfl, rfl⟩) | (go_at_call 22; refine (uvarintErr F _ _ _ _ (by exact hF)).mono ?_; rintro e w' ⟨k, rfl, hk, hk', hcl, hbl⟩))
  go_ret2
  exact ⟨k, rfl, hk, hk', hcl, below_drewN' hbl⟩

set_option maxHeartbeats 800000 in
theorem uvarint_good_in (R g o n c off d1 d2 : Nat) (named : ByteArray) (w : World) (hb : w.cell? ⟨R, 0, none⟩ = some (.slice (some ⟨g, o, none⟩) n c)) (hi : w.cell? ⟨R, 1, none⟩ = some (.int .i64 off)) (hf : w.frozen? ⟨R, 1, none⟩ = false) (hnc : n ≤ c) (hcm : c ≤ maxLen) (hoff : off ≤ n) (hc : ¬ c = off) (hd : off + d2 ≤ n)
    (HU : Hid (∀ q, Calls Ybaf.prog 21 #[.slice (some ⟨g, o + off, none⟩) (n - off) (c - off)] (w.drewN q) fun e w' => e = .returned (.tuple #[.int .u64 d1, .int .i64 d2]) ∧ w' = w.drewN q))
    (HS : Hid (∀ q, Calls Ybaf.prog 29 #[.slice (some ⟨g, o + off, none⟩) (n - off) (c - off), .int .i64 d2] (w.drewN q) fun e w' => e = .returned (.bool true) ∧ w' = w.drewN q)) :
    Calls Ybaf.prog 24 #[.pointer (some ⟨R, 0, none⟩), .string named] w fun e w' => e = .returned (.tuple #[.int .u64 d1, .nilIface]) ∧ ∃ q, w' = (w.setCell ⟨R, 1, none⟩ (.int .i64 ((off : Int) + d2))).drewN q := by
  unfold maxLen at hcm
  go_enter Ybaf.func24, Ybaf.ntmps24
  go_wp2
  go_quiet (fail)
  go_wp2_with (first | (go_at_call 21; refine (HU.out _).mono ?_; rintro e w' ⟨rfl, rfl⟩) | (go_at_call 29; refine (HS.out _).mono ?_; rintro e w' ⟨rfl, rfl⟩))
  go_ret2
  exact ⟨rfl, _, rfl⟩
end Go.Proofs.YbulkbcnsFmt
