/-
  WORDS FOR THIS SEAT: a block's cells written out ('Blk'); what a call may turn ('Turn').
-/
import Derived.Test.YbulkbctqDoorMap
import Derived.Conc.MuLone
import Derived.Deep.Draws
import Derived.Deep.QuietTactic
import Derived.BigQuiet
import Derived.Deep.RegionWith
namespace Go.Proofs.YbulkbctqDoor
open Go.RowKit Go.MuLone
set_option linter.unusedVariables false
set_option linter.unusedSimpArgs false

/-- Block b holds just these cells, none frozen. -/
def Blk (w : World) (b : Nat) (cs : Array Value) (t : TypeId) : Prop := w.heap[b]? = some (.cells cs t (0, 0))
theorem Blk.cell {w : World} {b : Nat} {cs : Array Value} {t : TypeId} (h : Blk w b cs t) (i : Nat) : w.cell? ⟨b, i, none⟩ = cs[i]? := cell_of_row w b i cs t (0, 0) h
theorem Blk.frozen {w : World} {b : Nat} {cs : Array Value} {t : TypeId} (h : Blk w b cs t) (i : Nat) : w.frozen? ⟨b, i, none⟩ = false := frozen_of_row w b i cs t h
theorem Blk.lt {w : World} {b : Nat} {cs : Array Value} {t : TypeId} (h : Blk w b cs t) : b < w.heap.size := (Array.getElem?_eq_some_iff.1 h).1
theorem Blk.set {w : World} {b : Nat} {cs : Array Value} {t : TypeId} (h : Blk w b cs t) (i : Nat) (v : Value) : Blk (w.setCell ⟨b, i, none⟩ v) b (cs.setIfInBounds i v) t := heap_setCell_same w b i cs t v h
theorem Blk.other {w : World} {b c : Nat} {cs : Array Value} {t : TypeId} (h : Blk w b cs t) (i : Nat) (v : Value) (hne : b ≠ c) : Blk (w.setCell ⟨c, i, none⟩ v) b cs t := (Below.heap_setCell w ⟨c, i, none⟩ v b hne).trans h
theorem Blk.alloc {w : World} {b : Nat} {cs : Array Value} {t : TypeId} (h : Blk w b cs t) (o : Obj) : Blk (w.alloc o) b cs t := (Below.heap_alloc w o b h.lt).trans h
theorem Blk.new (w : World) (cs : Array Value) (t : TypeId) : Blk (w.alloc (.cells cs t)) w.heap.size cs t := heap_alloc_new w _
theorem Blk.drewN {w : World} {b : Nat} {cs : Array Value} {t : TypeId} (h : Blk w b cs t) (q : Nat) : Blk (w.drewN q) b cs t := h

/-- w' is w, but for the blocks of S and for new ones. -/
structure Turn (S : Nat → Prop) (w w' : World) : Prop where
  os : w'.os = w.os
  tape : w'.tape = w.tape
  output : w'.output = w.output
  size : w.heap.size ≤ w'.heap.size
  block : ∀ k, k < w.heap.size → ¬ S k → w'.heap[k]? = w.heap[k]?
theorem Turn.refl (S : Nat → Prop) (w : World) : Turn S w w := ⟨rfl, rfl, rfl, Nat.le_refl _, fun _ _ _ => rfl⟩
theorem Turn.trans {S S' : Nat → Prop} {a b c : World} (h : Turn S a b) (k : Turn S' b c) (hs : ∀ i, S' i → S i ∨ a.heap.size ≤ i) : Turn S a c :=
  ⟨k.os.trans h.os, k.tape.trans h.tape, k.output.trans h.output, Nat.le_trans h.size k.size, fun i hi hn => (k.block i (Nat.lt_of_lt_of_le hi h.size) (fun hs' => (hs i hs').elim hn (fun h' => by omega))).trans (h.block i hi hn)⟩
theorem Turn.mono {S S' : Nat → Prop} {a b : World} (h : Turn S a b) (hs : ∀ i, S i → S' i) : Turn S' a b := ⟨h.os, h.tape, h.output, h.size, fun i hi hn => h.block i hi (fun h' => hn (hs i h'))⟩
theorem Turn.of_below {S : Nat → Prop} {a b : World} (h : Below a.heap.size a b) : Turn S a b := ⟨h.os, h.tape, h.output, h.size, fun k hk _ => h.block k hk⟩
theorem Turn.set {S : Nat → Prop} {a b : World} (h : Turn S a b) (c i : Nat) (v : Value) (hc : S c ∨ a.heap.size ≤ c) : Turn S a (b.setCell ⟨c, i, none⟩ v) :=
  ⟨h.os, h.tape, h.output, by simpa using h.size, fun k hk hn => (Below.heap_setCell b ⟨c, i, none⟩ v k (fun e => by subst e; exact hc.elim hn (fun h' => by omega))).trans (h.block k hk hn)⟩
theorem Turn.alloc {S : Nat → Prop} {a b : World} (h : Turn S a b) (o : Obj) : Turn S a (b.alloc o) :=
  ⟨h.os, h.tape, h.output, by have := h.size; simp; omega, fun k hk hn => (Below.heap_alloc b o k (Nat.lt_of_lt_of_le hk h.size)).trans (h.block k hk hn)⟩
theorem Turn.drewN {S : Nat → Prop} {a b : World} (h : Turn S a b) (q : Nat) : Turn S a (b.drewN q) := ⟨h.os, h.tape, h.output, h.size, h.block⟩
theorem Turn.drew {S : Nat → Prop} {a b : World} (h : Turn S a b) : Turn S a b.drew := ⟨h.os, h.tape, h.output, h.size, h.block⟩
theorem Turn.below {a b : World} {S : Nat → Prop} (h : Turn S a b) (hs : ∀ i, S i → a.heap.size ≤ i) : Below a.heap.size a b := ⟨h.os, h.tape, h.output, h.size, fun k hk => h.block k hk (fun h' => by have := hs k h'; omega)⟩
theorem Turn.blk {S : Nat → Prop} {w w' : World} {b : Nat} {cs : Array Value} {t : TypeId} (h : Turn S w w') (hb : Blk w b cs t) (hn : ¬ S b) : Blk w' b cs t := (h.block b hb.lt hn).trans hb
theorem Turn.cell {S : Nat → Prop} {w w' : World} {a : Addr} {v : Value} (h : Turn S w w') (hb : w.cell? a = some v) (hn : ¬ S a.block) : w'.cell? a = some v :=
  (World.cell?_of_block (h.block a.block (World.block_lt_of_cell? _ _ hb) hn)).trans hb

/-- A store and the store back of what was there turn nothing. -/
theorem set_back (cs : Array Value) (i j : Nat) (x y v : Value) (hi : cs[i]? = some y) (hij : i ≠ j) : ((cs.setIfInBounds i x).setIfInBounds j v).setIfInBounds i y = cs.setIfInBounds j v := by
  apply Array.ext_getElem?
  intro k
  simp only [Array.getElem?_setIfInBounds, Array.size_setIfInBounds]
  by_cases h1 : i = k
  · subst h1
    have hlt : i < cs.size := (Array.getElem?_eq_some_iff.1 hi).1
    have hy : y = cs[i] := by rw [Array.getElem?_eq_getElem hlt] at hi; exact (Option.some.inj hi).symm
    simp [hlt, Ne.symm hij, hy]
  · by_cases h2 : j = k
    · subst h2; simp [h1]
    · simp [h1, h2]

set_option maxHeartbeats 1600000 in
/-- (*room).take (function 12), where nobody waits and there is room. -/
theorem room_take_ok (b off wc : Nat) (wa : Option Addr) (cv : Value) (size free : Int) (cs : Array Value) (t : TypeId) (w : World) (h0 : 0 ≤ size) (hsz : size ≤ free) (hfr : free ≤ 100000000) (hb : Blk w b cs t)
    (c0 : cs[off]? = some (.int .i32 0)) (c2 : cs[off + 2]? = some (.int .i64 free)) (c3 : cs[off + 3]? = some (.slice wa 0 wc)) :
    Calls Ybad.prog 12 #[.pointer (some ⟨b, off, none⟩), cv, .int .i64 size] w fun e w' => e = .returned .nilIface ∧ Blk w' b (cs.setIfInBounds (off + 2) (.int .i64 (free - size))) t ∧ Turn (fun k => k = b) w w' := by
  have d0 : w.cell? ⟨b, off, none⟩ = some (.int .i32 0) := (hb.cell off).trans c0
  have d2 : w.cell? ⟨b, off + 2, none⟩ = some (.int .i64 free) := (hb.cell (off + 2)).trans c2
  have d3 : w.cell? ⟨b, off + 3, none⟩ = some (.slice wa 0 wc) := (hb.cell (off + 3)).trans c3
  have f0 := hb.frozen off
  have f2 := hb.frozen (off + 2)
  go_enter Ybad.func12, Ybad.ntmps12
  go_wp2_with (first | (go_at_call 10; refine (lock_free Ybad.muLib ⟨b, off, none⟩ _ d0 f0).mono ?_; rintro e w1 ⟨rfl, rfl⟩) | (go_at_call 11; refine (unlock_held Ybad.muLib ⟨b, off, none⟩ _ (by go_simp) (by go_simp)).mono ?_; rintro e w1 ⟨rfl, rfl⟩))
  go_ret
  refine ⟨rfl, ?_, ((((Turn.refl (fun k => k = b) w).set b off _ (.inl rfl)).set b (off + 2) _ (.inl rfl)).set b off _ (.inl rfl))⟩
  have := ((hb.set off (.int .i32 1)).set (off + 2) (.int .i64 (free - size))).set off (.int .i32 0)
  rw [set_back cs off (off + 2) _ _ _ c0 (by omega)] at this
  exact this

set_option maxHeartbeats 1600000 in
/-- (*room).grant (function 22), where nobody waits. -/
theorem grant_none (b off wc : Nat) (wa : Option Addr) (w : World) (d3 : w.cell? ⟨b, off + 3, none⟩ = some (.slice wa 0 wc)) :
    Calls Ybad.prog 22 #[.pointer (some ⟨b, off, none⟩)] w fun e w' => e = .returned (.tuple #[]) ∧ ∃ q, w' = w.drewN q := by
  have hd : decide ((0 : Int) < 0) = false := by decide
  go_enter Ybad.func22, Ybad.ntmps22
  go_wp2
  refine wp_loop_rounds 1 ?_
  rw [rounds_succ]
  go_wp2
  go_quiet (fail)
  go_wp2
  go_end0
  exact ⟨rfl, _, rfl⟩

set_option maxHeartbeats 1600000 in
/-- (*room).give (function 14), where nobody waits. -/
theorem give_any (b off wc : Nat) (wa : Option Addr) (size free : Int) (cs : Array Value) (t : TypeId) (w : World) (h0 : 0 ≤ size) (hsz : size ≤ 100000000) (hf0 : 0 ≤ free) (hfr : free ≤ 100000000) (hb : Blk w b cs t)
    (c0 : cs[off]? = some (.int .i32 0)) (c2 : cs[off + 2]? = some (.int .i64 free)) (c3 : cs[off + 3]? = some (.slice wa 0 wc)) :
    Calls Ybad.prog 14 #[.pointer (some ⟨b, off, none⟩), .int .i64 size] w fun e w' => e = .returned (.tuple #[]) ∧ Blk w' b (cs.setIfInBounds (off + 2) (.int .i64 (free + size))) t ∧ Turn (fun k => k = b) w w' := by
  have d0 : w.cell? ⟨b, off, none⟩ = some (.int .i32 0) := (hb.cell off).trans c0
  have d2 : w.cell? ⟨b, off + 2, none⟩ = some (.int .i64 free) := (hb.cell (off + 2)).trans c2
  have d3 : w.cell? ⟨b, off + 3, none⟩ = some (.slice wa 0 wc) := (hb.cell (off + 3)).trans c3
  have f0 := hb.frozen off
  have f2 := hb.frozen (off + 2)
  go_enter_defers Ybad.func14, Ybad.ntmps14
  go_wp2_with (first | (go_at_call 10; refine (lock_free Ybad.muLib ⟨b, off, none⟩ _ d0 f0).mono ?_; rintro e w1 ⟨rfl, rfl⟩) | (go_at_call 22; refine (grant_none b off wc wa _ (by go_simp)).mono ?_; rintro e w1 ⟨rfl, q, rfl⟩))
  refine leaves_cons (f := 11) (args := #[.pointer (some ⟨b, off, none⟩)]) (by simp) (by simp [go_sem]) ?_
  refine (unlock_deferred Ybad.muLib ⟨b, off, none⟩ .returning _ (by go_simp) (by go_simp)).mono ?_
  rintro e u' w'' ⟨rfl, rfl, rfl⟩
  refine ⟨_, results_none rfl _ _ _, rfl, ?_, (((((Turn.refl (fun k => k = b) w).set b off _ (.inl rfl)).set b (off + 2) _ (.inl rfl)).drewN q).set b off _ (.inl rfl))⟩
  have := (((hb.set off (.int .i32 1)).set (off + 2) (.int .i64 (free + size))).drewN q).set off (.int .i32 0)
  rw [set_back cs off (off + 2) _ _ _ c0 (by omega)] at this
  exact this
end Go.Proofs.YbulkbctqDoor
