/-
  (*Group).DecodeMessage (function 10): FOR EVERY F.
-/
import Derived.Test.YbulkbcnsFmtFill
namespace Go.Proofs.YbulkbcnsFmt
open Go.RowKit Go.Extern.Stop Go.Stop Go.Extern Go.WideMaps Go.Maps
set_option linter.unusedVariables false

/-- DecodeMessage, where it refuses. -/
def DMno (at_ : Int) (w : World) (e : Ending) (w' : World) : Prop :=
  ∃ k, e = .returned (.tuple #[.map none, .slice none 0 0, .iface 39 (.pointer (some ⟨k, 0, none⟩))]) ∧ w.heap.size ≤ k ∧ k < w'.heap.size ∧ w'.cell? ⟨k, 0, none⟩ = some (.int .i64 at_) ∧ Below w.heap.size w w'
/-- DecodeMessage, where it does not. -/
def DMok (n g o c : Nat) (l : List UInt8) (cs : List Nat) (off : Nat) (w : World) (e : Ending) (w' : World) : Prop :=
  ∃ X, e = .returned (.tuple #[.map (some X), cutV g o l.length c off, .nilIface]) ∧ w.heap.size ≤ X ∧ w'.ownsMap (H := Unit) Ybaf.prog 9 (plainElem Ybaf.prog 36) X n (FD cs n) ∧ Below w.heap.size w w'

theorem GV.later {w w' : World} {G M n : Nat} {ck : Int} (h : GV w G M n ck) (hb : Below w.heap.size w w') : GV w' G M n ck :=
  ⟨cell_later hb h.m, cell_later hb h.c, fun j hj => cell_later hb (h.names j hj)⟩

/-- fill, as DecodeMessage calls it. -/
theorem fill_call (M n G : Nat) (ck : Int) (dv : Value) (cs : List Nat) (w0 w : World) (hn : n ≤ 600) (hb : Below w0.heap.size w0 w) (hG : GV w0 G M n ck) (hd : w.ownsRow (w0.heap.size + 1) 36 1 dv cs.length (ucells cs)) (hl : cs.length = n) (hc : ∀ c ∈ cs, c < 18446744073709551616) :
    Calls Ybaf.prog 18 #[.map (some w.heap.size), .slice (some ⟨M, 0, none⟩) n n, dv] (w.alloc (.map #[] 0)) fun e w' => e = .returned (.map (some w.heap.size)) ∧ w'.ownsMap (H := Unit) Ybaf.prog 9 (plainElem Ybaf.prog 36) w.heap.size n (FD cs n) ∧ Below w0.heap.size w0 w' := by
  have hX : (w.alloc (.map #[] 0)).heap[w.heap.size]? = some (.map #[] 0) := (MapKept.heap_alloc w _).1
  have hB1 : Below w0.heap.size w0 (w.alloc (.map #[] 0)) := hb.alloc hb.size _
  have fin : ∀ (e : Ending) (w' : World), (e = .returned (.map (some w.heap.size)) ∧ w'.ownsMap (H := Unit) Ybaf.prog 9 (plainElem Ybaf.prog 36) w.heap.size n (FD cs n) ∧ (w.alloc (.map #[] 0)).grownBy w' (some w.heap.size)) → (e = .returned (.map (some w.heap.size)) ∧ w'.ownsMap (H := Unit) Ybaf.prog 9 (plainElem Ybaf.prog 36) w.heap.size n (FD cs n) ∧ Below w0.heap.size w0 w') := by
    rintro e w' ⟨h1, h2, h3⟩
    exact ⟨h1, h2, hB1.grown h3 hB1.size (fun k hk => by cases hk; exact hb.size)⟩
  by_cases h0 : n = 0
  · subst h0
    have hform : ∃ ao cap, dv = .slice ao 0 cap := by
      rcases hd.2 with ⟨h, _⟩ | ⟨g, cap, cur, h, _⟩
      · exact ⟨_, _, h⟩
      · rw [hl] at h; exact ⟨_, _, h⟩
    obtain ⟨ao, cap, rfl⟩ := hform
    exact (fill_none w.heap.size M cap ao cs _ hX).mono fin
  · have hform : ∃ D cap, dv = .slice (some ⟨D, 0, none⟩) n cap := by
      rcases hd.2 with ⟨_, h⟩ | ⟨g, cap, cur, h, _⟩
      · omega
      · rw [hl] at h; exact ⟨_, _, h⟩
    obtain ⟨D, cap, rfl⟩ := hform
    rw [hl] at hd
    have hlt := hd.lt D rfl
    have hMlt : M < w0.heap.size := World.block_lt_of_cell? _ _ (hG.names 0 (by omega))
    have hws := hb.size
    refine (fill_some w.heap.size M n cap D cs _ hn hX (fun j hj => cell_later hB1 (hG.names j hj)) (by omega) ?_ (by omega) ?_).mono fin
    · intro j hj
      have := (hd.alloc (.map #[] 0)).cellAt j (by omega)
      rw [this]
      exact ucells_get cs j (by omega)
    · intro j
      by_cases hj : j < cs.length
      · have e : cs.getD j 0 = cs[j] := by rw [List.getD_eq_getElem?_getD, List.getElem?_eq_getElem hj]; rfl
        rw [e]
        exact hc _ (List.getElem_mem hj)
      · have e : cs.getD j 0 = 0 := by rw [List.getD_eq_getElem?_getD, List.getElem?_eq_none (by omega)]; rfl
        rw [e]
        omega

set_option maxHeartbeats 1600000 in
theorem dm_no (G cv m : Nat) (av : Option Addr) (d : Int) (w : World)
    (H : Hid (Calls Ybaf.prog 17 #[.pointer (some ⟨G, 0, none⟩), .slice none 0 0, .slice av m cv] w (SE3 d w))) :
    Calls Ybaf.prog 10 #[.pointer (some ⟨G, 0, none⟩), .slice av m cv] w (DMno d w) := by
  go_enter Ybaf.func10, Ybaf.ntmps10
  go_wp2_with (first | (go_at_call 17; refine H.out.mono ?_; rintro e w' ⟨x, k, rfl, hk⟩))
  go_ret3
  exact ⟨k, rfl, hk⟩

set_option maxHeartbeats 1600000 in
theorem dm_ok (G M n cv m g o off : Nat) (ck : Int) (av : Option Addr) (l : List UInt8) (cs : List Nat) (w : World) (hn : n ≤ 600) (hG : GV w G M n ck) (HL : Hid (cs.length = n)) (HC : Hid (∀ c ∈ cs, c < 18446744073709551616))
    (H : Hid (Calls Ybaf.prog 17 #[.pointer (some ⟨G, 0, none⟩), .slice none 0 0, .slice av m cv] w (RSok g o cv l cs off w))) :
    Calls Ybaf.prog 10 #[.pointer (some ⟨G, 0, none⟩), .slice av m cv] w (DMok n g o cv l cs off w) := by
  have hmm := @run_makeMap Ybaf.prog
  go_enter Ybaf.func10, Ybaf.ntmps10
  go_wp2_with (first | (go_at_call 17; refine H.out.mono ?_; rintro e w1 ⟨dv, rfl, hd, hb⟩; have c1 : (w1.alloc (.map #[] 0)).cell? ⟨G, 0, none⟩ = some (.slice (some ⟨M, 0, none⟩) n n) := cell_later (hb.alloc hb.size _) hG.m) | (go_at_call 18; refine (fill_call M n G ck dv cs w w1 hn hb hG hd HL.out HC.out).mono ?_; rintro e w2 ⟨rfl, hm, hb2⟩))
  go_ret3
  exact ⟨_, rfl, hb.size, hm, hb2⟩

theorem dm_any (F : Interp) (G M n ck : Nat) (av : Option Addr) (m cv : Nat) (l : List UInt8) (w : World) (hF : F.answers w.tape) (hG : GV w G M n ck) (hn : n ≤ 600) (hv : BV w (.slice av m cv) l) :
    Calls Ybaf.prog 10 #[.pointer (some ⟨G, 0, none⟩), .slice av m cv] w fun e w' => match dec n ck l with
      | .inl d => DMno d w e w'
      | .inr (cs, off) => ∃ g o, At w (.slice av m cv) l g o cv ∧ DMok n g o cv l cs off w e w' := by
  have H := rs_any F G n n ck (some ⟨M, 0, none⟩) av m cv l w hF hG.m hG.c (by omega) hv
  cases hd : dec n ck l with
  | inl d =>
    rw [hd] at H
    exact dm_no G cv m av d w H
  | inr p =>
    obtain ⟨cs, off⟩ := p
    rw [hd] at H
    have hi := dec_inr hd
    have hp : 0 < l.length := by have := hi.2.2; omega
    obtain ⟨g, o, c, hat⟩ := At_of hv hp
    have hat' := hat
    obtain ⟨hval, _⟩ := hat'
    injection hval with e1 e2 e3
    subst e1 e2 e3
    have H' : Calls Ybaf.prog 17 #[.pointer (some ⟨G, 0, none⟩), .slice none 0 0, .slice (some ⟨g, o, none⟩) l.length cv] w (RSok g o cv l cs off w) := by
      refine H.mono ?_
      rintro e w' ⟨g', o', hat2, h⟩
      obtain ⟨hval2, _⟩ := hat2
      injection hval2 with e1
      injection e1 with e1
      injection e1 with e1 e2
      subst e1 e2
      exact h
    refine (dm_ok G M n cv l.length g o off ck _ l cs w hn hG hi.2.1 hi.2.2.2.2 H').mono ?_
    intro e w' h
    exact ⟨g, o, hat, h⟩
end Go.Proofs.YbulkbcnsFmt
