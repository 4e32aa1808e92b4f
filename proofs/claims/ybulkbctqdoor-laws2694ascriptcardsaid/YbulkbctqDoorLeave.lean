/-
  (*bodyRooms).leave (function 13): it counts the request off; the last one deletes the host's entry.
-/
import Derived.Test.YbulkbctqDoorMap2
namespace Go.Proofs.YbulkbctqDoor
open Go.RowKit Go.MuLone
set_option linter.unusedVariables false
set_option linter.unusedSimpArgs false

theorem set_same (cs : Array Value) (i : Nat) (x y : Value) (hi : cs[i]? = some y) : (cs.setIfInBounds i x).setIfInBounds i y = cs := by
  apply Array.ext_getElem?
  intro k
  simp only [Array.getElem?_setIfInBounds, Array.size_setIfInBounds]
  by_cases h1 : i = k
  · subst h1
    have hlt : i < cs.size := (Array.getElem?_eq_some_iff.1 hi).1
    have hy : y = cs[i] := by rw [Array.getElem?_eq_getElem hlt] at hi; exact (Option.some.inj hi).symm
    simp [hlt, hy]
  · simp [h1]

set_option maxHeartbeats 1600000 in
theorem leave_keep (Bk S : Nat) (a4 : Addr) (i : Int) (cb cs : Array Value) (tb ts : TypeId) (w : World) (n : Int) (hn : 2 ≤ n) (hn' : n ≤ 100000000) (hb : Blk w Bk cb tb) (hs : Blk w S cs ts) (hne : Bk ≠ S)
    (c4 : cb[4]? = some (.int .i32 0)) (s4 : cs[4]? = some (.int .i64 n)) :
    Calls Ybad.prog 13 #[.pointer (some ⟨Bk, 0, none⟩), K a4 i, .pointer (some ⟨S, 0, none⟩)] w fun e w' => e = .returned (.tuple #[]) ∧ Blk w' S (cs.setIfInBounds 4 (.int .i64 (n - 1))) ts ∧ Blk w' Bk cb tb ∧ Turn (fun k => k = S ∨ k = Bk) w w' := by
  have d4 : w.cell? ⟨Bk, 4, none⟩ = some (.int .i32 0) := (hb.cell 4).trans c4
  have e4 : w.cell? ⟨S, 4, none⟩ = some (.int .i64 n) := (hs.cell 4).trans s4
  have f4 := hb.frozen 4
  have g4 := hs.frozen 4
  have l1 := hb.lt
  have l2 := hs.lt
  unfold K
  go_enter_defers Ybad.func13, Ybad.ntmps13
  go_wp2_with (first | (go_at_call 10; refine (lock_free Ybad.muLib ⟨Bk, 4, none⟩ _ (by go_simp) (by go_simp)).mono ?_; rintro e w1 ⟨rfl, rfl⟩))
  refine leaves_cons (f := 11) (args := #[.pointer (some ⟨Bk, 4, none⟩)]) (by simp) (by simp [go_sem]) ?_
  refine (unlock_deferred Ybad.muLib ⟨Bk, 4, none⟩ .returning _ (by go_simp) (by go_simp)).mono ?_
  rintro e u' w'' ⟨rfl, rfl, rfl⟩
  refine ⟨_, results_none rfl _ _ _, rfl, ?_, ?_, ?_⟩
  · exact ((((hs.other 4 _ hne.symm).set 4 _).alloc _).other 4 _ hne.symm)
  · have := ((((hb.set 4 (.int .i32 1)).other (c := S) 4 (.int .i64 (n - 1)) hne).alloc (.cells #[.int .u64 0, .int .u64 (lo i), .pointer (some a4), .int .u8 33] 49)).set 4 (.int .i32 0))
    rw [set_same cb 4 _ _ c4] at this
    exact this
  · exact ((((Turn.refl _ w).set Bk 4 _ (.inl (.inr rfl))).set S 4 _ (.inl (.inl rfl))).alloc _).set Bk 4 _ (.inl (.inr rfl))

set_option maxHeartbeats 1600000 in
theorem leave_last (Bk S X clock j s : Nat) (a4 : Addr) (i : Int) (cb cs : Array Value) (tb ts : TypeId) (w : World) (ents : List (Int × Nat)) (es : Array MapEntry) (hb : Blk w Bk cb tb) (hs : Blk w S cs ts) (hne : Bk ≠ S) (hX1 : X ≠ Bk) (hX2 : X ≠ S)
    (hX : w.heap[X]? = some (.map es clock)) (hk : keysOf a4 ents es.toList) (hq : findIx i ents 0 = some (j, s))
    (c4 : cb[4]? = some (.int .i32 0)) (c6 : cb[6]? = some (.map (some X))) (s4 : cs[4]? = some (.int .i64 1)) :
    Calls Ybad.prog 13 #[.pointer (some ⟨Bk, 0, none⟩), K a4 i, .pointer (some ⟨S, 0, none⟩)] w fun e w' => e = .returned (.tuple #[]) ∧ Blk w' S (cs.setIfInBounds 4 (.int .i64 0)) ts ∧ Blk w' Bk cb tb ∧ MapIs w' a4 X (dropKey i ents) ∧ Turn (fun k => k = S ∨ k = Bk ∨ k = X) w w' := by
  have d4 : w.cell? ⟨Bk, 4, none⟩ = some (.int .i32 0) := (hb.cell 4).trans c4
  have d6 : w.cell? ⟨Bk, 6, none⟩ = some (.map (some X)) := (hb.cell 6).trans c6
  have e4 : w.cell? ⟨S, 4, none⟩ = some (.int .i64 1) := (hs.cell 4).trans s4
  have f4 := hb.frozen 4
  have g4 := hs.frozen 4
  have l1 := hb.lt
  have l2 := hs.lt
  have l3 := (Array.getElem?_eq_some_iff.1 hX).1
  unfold K
  go_enter_defers Ybad.func13, Ybad.ntmps13
  go_wp2_with (first | (go_at_call 10; refine (lock_free Ybad.muLib ⟨Bk, 4, none⟩ _ (by go_simp) (by go_simp)).mono ?_; rintro e w1 ⟨rfl, rfl⟩))
  have hW : Turn (fun k => k = S ∨ k = Bk) w (((w.setCell ⟨Bk, 4, none⟩ (.int .i32 1)).setCell ⟨S, 4, none⟩ (.int .i64 0)).alloc (.cells #[.int .u64 0, .int .u64 (lo i), .pointer (some a4), .int .u8 33] 49)).drew := ((((Turn.refl _ w).set Bk 4 _ (.inl (.inr rfl))).set S 4 _ (.inl (.inl rfl))).alloc _).drew
  have hX' := (hW.block X l3 (by rintro (h | h); exact hX2 h; exact hX1 h)).trans hX
  have hdel := delete_run a4 i X clock j s es ents _ 0 hX' hk hq
  go_region
  obtain ⟨-, hj, hke⟩ := keysOf_erase i ents es.toList 0 j s hk hq
  have hlt4 : 4 < cb.size := (Array.getElem?_eq_some_iff.1 c4).1
  have hbW := (((hb.set 4 (.int .i32 1)).other (c := S) 4 (.int .i64 0) hne).alloc (.cells #[.int .u64 0, .int .u64 (lo i), .pointer (some a4), .int .u8 33] 49)).drewN 1 |>.put (o := .map (es.eraseIdxIfInBounds j) clock) hX1.symm
  have hsW := (((hs.other (c := Bk) 4 (.int .i32 1) hne.symm).set 4 (.int .i64 0)).alloc (.cells #[.int .u64 0, .int .u64 (lo i), .pointer (some a4), .int .u8 33] 49)).drewN 1 |>.put (o := .map (es.eraseIdxIfInBounds j) clock) hX2.symm
  refine leaves_cons (f := 11) (args := #[.pointer (some ⟨Bk, 4, none⟩)]) (by simp) (by simp [go_sem]) ?_
  refine (unlock_deferred Ybad.muLib ⟨Bk, 4, none⟩ .returning _ ((hbW.cell 4).trans (by simp [hlt4])) (hbW.frozen 4)).mono ?_
  rintro e u' w'' ⟨rfl, rfl, rfl⟩
  refine ⟨_, results_none rfl _ _ _, rfl, hsW.other 4 _ hne.symm, ?_, ⟨_, clock, (Below.heap_setCell _ ⟨Bk, 4, none⟩ _ X hX1).trans (put_map hX'), ?_⟩, ((hW.mono (fun k h => h.elim .inl (fun h => .inr (.inl h)))).put X _ (.inl (.inr (.inr rfl)))).set Bk 4 _ (.inl (.inr (.inl rfl)))⟩
  · have := hbW.set 4 (.int .i32 0)
    rw [set_same cb 4 _ _ c4] at this
    exact this
  · have hj' : j < es.size := by simpa using hj
    simpa [Array.eraseIdxIfInBounds, hj'] using hke
end Go.Proofs.YbulkbctqDoor
