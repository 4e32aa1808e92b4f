/-
  (*bodyRooms).take (function 8), where both rooms have room.
-/
import Derived.Test.YbulkbctqDoorRel
namespace Go.Proofs.YbulkbctqDoor
open Go.RowKit Go.MuLone
set_option linter.unusedVariables false
set_option linter.unusedSimpArgs false

/-- A host's share: its free bytes, its waiting row, its requests. -/
def share (f : Int) (wv : Value) (n : Int) : Array Value := #[.int .i32 0, .int .u32 0, .int .i64 f, wv, .int .i64 n]
/-- The hosts once host i has a share at S. -/
def addKey (i : Int) (S : Nat) (ents : List (Int × Nat)) : List (Int × Nat) := match findIx i ents 0 with
  | none => ents ++ [(i, S)]
  | some _ => ents
/-- The host's share before the take: a fresh one, or the one on record. -/
def Before (w : World) (Bk X : Nat) (i : Int) (ents : List (Int × Nat)) (f : Int) (wv : Value) (n : Int) : Prop :=
  (findIx i ents 0 = none ∧ f = 4194304 ∧ wv = .slice none 0 0 ∧ n = 0) ∨ (∃ j S, findIx i ents 0 = some (j, S) ∧ Blk w S (share f wv n) 70 ∧ S ≠ Bk ∧ S ≠ X)
/-- Which share it is. -/
def Which (w : World) (i : Int) (ents : List (Int × Nat)) (S : Nat) : Prop := (findIx i ents 0 = none ∧ w.heap.size ≤ S) ∨ ∃ j, findIx i ents 0 = some (j, S)
/-- What the look-up of host i answers. -/
def lookPtr (i : Int) (ents : List (Int × Nat)) : Option Addr := match findIx i ents 0 with
  | some q => some ⟨q.2, 0, Option.none⟩
  | none => Option.none
theorem look_ptr (a4 : Addr) (i : Int) (X clock : Nat) (es : Array MapEntry) (ents : List (Int × Nat)) (w : World) (hX : w.heap[X]? = some (.map es clock)) (h : keysOf a4 ents es.toList) :
    (Instr.lookup 65 (.map (some X)) (.agg #[.int .u64 0, .int .u64 (lo i), .pointer (some a4), .int .u8 33]) false).run Ybad.prog w = .ok (.pointer (lookPtr i ents)) w := by
  rw [look_run a4 i X clock es ents w hX h]
  unfold lookPtr
  cases findIx i ents 0 <;> rfl
def bodyL (all X : Value) (fr : Int) (m : Int) : Array Value := #[.int .i32 0, .int .u32 0, .int .i64 fr, all, .int .i32 m, .int .u32 0, X]

/-- The boxes that the closure captures. -/
structure Boxes (w : World) (p4 p6 p7 t Bk S : Nat) (i : Int) (a4 : Addr) (size : Int) : Prop where
  q4 : Blk w p4 #[.pointer (some ⟨Bk, 0, none⟩)] 23
  q6 : Blk w p6 #[.int .u64 0, .int .u64 (lo i), .pointer (some a4), .int .u8 33] 49
  q7 : Blk w p7 #[.int .i64 size] 2
  qt : Blk w t #[.pointer (some ⟨S, 0, none⟩)] 68
theorem Boxes.turn {w w' : World} {p4 p6 p7 t Bk S : Nat} {i : Int} {a4 : Addr} {size : Int} {T : Nat → Prop} (h : Boxes w p4 p6 p7 t Bk S i a4 size) (k : Turn T w w') (h4 : ¬ T p4) (h6 : ¬ T p6) (h7 : ¬ T p7) (ht : ¬ T t) : Boxes w' p4 p6 p7 t Bk S i a4 size :=
  ⟨k.blk h.q4 h4, k.blk h.q6 h6, k.blk h.q7 h7, k.blk h.qt ht⟩
theorem share_req (f : Int) (wv : Value) (n m : Int) : (share f wv n).setIfInBounds 4 (.int .i64 m) = share f wv m := rfl
theorem share_free (f g : Int) (wv : Value) (n : Int) : (share f wv n).setIfInBounds 2 (.int .i64 g) = share g wv n := rfl
theorem body_free (f g m : Int) (wv X : Value) : (bodyL wv X f m).setIfInBounds 2 (.int .i64 g) = bodyL wv X g m := rfl
theorem body_mu (f m k : Int) (wv X : Value) : (bodyL wv X f m).setIfInBounds 4 (.int .i32 k) = bodyL wv X f k := rfl

set_option maxHeartbeats 6400000 in
theorem take_ok (Bk X ca ca' : Nat) (wa wa' : Option Addr) (a4 : Addr) (cv : Value) (i : Int) (w : World) (ents : List (Int × Nat)) (fr size f n : Int)
    (h0 : 0 ≤ size) (hsz : size ≤ f) (hf : f ≤ 4194304) (hr0 : size ≤ fr) (hr1 : fr ≤ 16777216) (hn0 : 0 ≤ n) (hn1 : n ≤ 10000)
    (hb : Blk w Bk (bodyL (.slice wa 0 ca) (.map (some X)) fr 0) 67) (hX1 : X ≠ Bk) (hm : MapIs w a4 X ents) (hbef : Before w Bk X i ents f (.slice wa' 0 ca') n) :
    Calls Ybad.prog 8 #[.pointer (some ⟨Bk, 0, none⟩), cv, K a4 i, .int .i64 size] w fun e w' => ∃ (S p4 p6 p7 t : Nat), e = .returned (.tuple #[.func (.func 15) #[] #[.pointer (some ⟨p4, 0, none⟩), .pointer (some ⟨p7, 0, none⟩), .pointer (some ⟨t, 0, none⟩), .pointer (some ⟨p6, 0, none⟩)], .nilIface]) ∧ w.heap.size ≤ p4 ∧ w.heap.size ≤ p6 ∧ w.heap.size ≤ p7 ∧ w.heap.size ≤ t ∧ Which w i ents S ∧ S ≠ p4 ∧ S ≠ p6 ∧ S ≠ p7 ∧ S ≠ t ∧ S ≠ Bk ∧ S ≠ X ∧
      Blk w' S (share (f - size) (.slice wa' 0 ca') (n + 1)) 70 ∧ Boxes w' p4 p6 p7 t Bk S i a4 size ∧ Blk w' Bk (bodyL (.slice wa 0 ca) (.map (some X)) (fr - size) 0) 67 ∧ MapIs w' a4 X (addKey i S ents) ∧ Turn (fun k => k = Bk ∨ k = X ∨ k = S) w w' := by
  obtain ⟨es, clock, hX, hk⟩ := hm
  have l1 := hb.lt
  have l3 := (Array.getElem?_eq_some_iff.1 hX).1
  unfold K
  go_enter Ybad.func8, Ybad.ntmps8
  go_upto_region 0 with fail
  go_cut [4, 6, 7, 8, 9] from 10 (fun s4 s6 s7 s8 s9 wx => ∃ p4 p6 p7, s4 = .pointer (some ⟨p4, 0, none⟩) ∧ s6 = .pointer (some ⟨p6, 0, none⟩) ∧ s7 = .pointer (some ⟨p7, 0, none⟩) ∧ s8 = .nilFunc ∧ s9 = .nilIface ∧ w.heap.size ≤ p4 ∧ w.heap.size ≤ p6 ∧ w.heap.size ≤ p7 ∧
    Blk wx p4 #[.pointer (some ⟨Bk, 0, none⟩)] 23 ∧ Blk wx p6 #[.int .u64 0, .int .u64 (lo i), .pointer (some a4), .int .u8 33] 49 ∧ Blk wx p7 #[.int .i64 size] 2 ∧ Turn (fun _ => False) w wx)
  case first =>
    go_wp2_with fail
    go_meet
    refine ⟨w.heap.size, w.heap.size + 1, w.heap.size + 2, rfl, rfl, rfl, rfl, rfl, by omega, by omega, by omega, ?_, ?_, ?_, (((Turn.refl _ w).alloc _).alloc _).alloc _⟩
    · exact ((Blk.new w _ _).alloc _).alloc _
    · have := (Blk.new (w.alloc (.cells #[.pointer (some ⟨Bk, 0, none⟩)] 23)) #[.int .u64 0, .int .u64 (lo i), .pointer (some a4), .int .u8 33] 49).alloc (.cells #[.int .i64 size] 2)
      rw [show (w.alloc (.cells #[.pointer (some ⟨Bk, 0, none⟩)] 23)).heap.size = w.heap.size + 1 by simp] at this
      exact this
    · have := (Blk.new ((w.alloc (.cells #[.pointer (some ⟨Bk, 0, none⟩)] 23)).alloc (.cells #[.int .u64 0, .int .u64 (lo i), .pointer (some a4), .int .u8 33] 49)) #[.int .i64 size] 2)
      rw [show ((w.alloc (.cells #[.pointer (some ⟨Bk, 0, none⟩)] 23)).alloc (.cells #[.int .u64 0, .int .u64 (lo i), .pointer (some a4), .int .u8 33] 49)).heap.size = w.heap.size + 2 by simp] at this
      exact this
  case rest =>
    obtain ⟨p4, p6, p7, rfl, rfl, rfl, rfl, rfl, g4, g6, g7, q4, q6, q7, tA⟩ := hcut
    have n4 : p4 ≠ Bk := by omega
    have n6 : p6 ≠ Bk := by omega
    have n7 : p7 ≠ Bk := by omega
    have hbA := tA.blk hb (fun h => h)
    have lA := hbA.lt
    have lA4 := q4.lt
    have lA6 := q6.lt
    have lA7 := q7.lt
    have hXA := (tA.block X l3 (fun h => h)).trans hX
    have d4 := hbA.cell 4
    have d6 := hbA.cell 6
    have f4 := hbA.frozen 4
    have e4 := q4.cell 0
    have e60 := q6.cell 0
    have e61 := q6.cell 1
    have e62 := q6.cell 2
    have e63 := q6.cell 3
    simp [bodyL] at d4 d6 e4 e60 e61 e62 e63
    have tB : Turn (fun k => k = Bk) w (wc.setCell ⟨Bk, 4, none⟩ (.int .i32 1)) := (tA.mono (fun _ h => h.elim)).set Bk 4 _ (.inl rfl)
    have hXB := (tB.block X l3 hX1).trans hX
    have hl1 := look_ptr a4 i X clock es ents (wc.setCell ⟨Bk, 4, none⟩ (.int .i32 1)).drew hXB hk
    have hl2 := look_ptr a4 i X clock es ents ((wc.setCell ⟨Bk, 4, none⟩ (.int .i32 1)).alloc (.cells #[.pointer none] 68)).drew ((Below.heap_alloc _ _ X (Array.getElem?_eq_some_iff.1 hXB).1).trans hXB) hk
    go_upto_region 2 with (first | (go_at_call 10; refine (lock_free Ybad.muLib ⟨Bk, 4, none⟩ _ (by go_simp) (by go_simp)).mono ?_; rintro e w1 ⟨rfl, rfl⟩))
    go_cut [10] from 11 (fun s10 wx => ∃ t, s10 = .pointer (some ⟨t, 0, none⟩) ∧ w.heap.size ≤ t ∧ t ≠ p4 ∧ t ≠ p6 ∧ t ≠ p7 ∧ Blk wx p4 #[.pointer (some ⟨Bk, 0, none⟩)] 23 ∧ Blk wx p6 #[.int .u64 0, .int .u64 (lo i), .pointer (some a4), .int .u8 33] 49 ∧ Blk wx p7 #[.int .i64 size] 2 ∧ Blk wx t #[.pointer (lookPtr i ents)] 68 ∧ Turn (fun k => k = Bk) w wx ∧ Blk wx Bk (bodyL (.slice wa 0 ca) (.map (some X)) fr 1) 67)
    case first =>
      go_region
      all_goals
        go_wp2_with fail
        go_meet
        refine ⟨wc.heap.size, rfl, by have := tA.size; omega, by omega, by omega, by omega, ((q4.other 4 _ n4).alloc _).drewN 1, ((q6.other 4 _ n6).alloc _).drewN 1, ((q7.other 4 _ n7).alloc _).drewN 1, ?_, (tB.alloc _).drew, ?_⟩
        · have := (Blk.new (wc.setCell ⟨Bk, 4, none⟩ (.int .i32 1)) #[.pointer (lookPtr i ents)] 68).drewN 1
          rw [show (wc.setCell ⟨Bk, 4, none⟩ (.int .i32 1)).heap.size = wc.heap.size by simp] at this
          exact this
        · exact ((hbA.set 4 (.int .i32 1)).alloc (.cells #[.pointer (lookPtr i ents)] 68)).drewN 1
    case rest =>
      clear hl1 hl2 tB hXB e4 e60 e61 e62 e63 d4 d6 f4 lA lA4 lA6 lA7 hXA hbA q4 q6 q7 tA
      obtain ⟨t, rfl, gt, t4, t6, t7, q4, q6, q7, qt, tB, hbB⟩ := hcut
      have hXB := (tB.block X l3 hX1).trans hX
      have lB := hbB.lt
      have l4 := q4.lt
      have l6 := q6.lt
      have lt := qt.lt
      have lX := (Array.getElem?_eq_some_iff.1 hXB).1
      have d6 := hbB.cell 6
      have e4 := q4.cell 0
      have e60 := q6.cell 0
      have e61 := q6.cell 1
      have e62 := q6.cell 2
      have e63 := q6.cell 3
      have et := qt.cell 0
      have ft := qt.frozen 0
      simp [bodyL] at d6 e4 e60 e61 e62 e63 et
      go_upto_if 23 with fail
      go_cut [] from 11 (fun wx => ∃ S, Which w i ents S ∧ S ≠ Bk ∧ S ≠ X ∧ S ≠ p4 ∧ S ≠ p6 ∧ S ≠ p7 ∧ S ≠ t ∧ Blk wx S (share f (.slice wa' 0 ca') n) 70 ∧ Boxes wx p4 p6 p7 t Bk S i a4 size ∧ Blk wx Bk (bodyL (.slice wa 0 ca) (.map (some X)) fr 1) 67 ∧ MapIs wx a4 X (addKey i S ents) ∧ Turn (fun k => k = Bk ∨ k = X) w wx)
      case first =>
        rcases hbef with ⟨hno, rfl, hwv, rfl⟩ | ⟨j, S, hq, hS, nS1, nS2⟩
        · obtain ⟨rfl, rfl⟩ : wa' = none ∧ ca' = 0 := by cases hwv; exact ⟨rfl, rfl⟩
          have hlp : lookPtr i ents = none := by simp [lookPtr, hno]
          rw [hlp] at et
          simp only [hlp]
          go_wp2_with fail
          have tC : Turn (fun k => k = Bk) w ((wc.setCell ⟨t, 0, none⟩ (.pointer (some ⟨wc.heap.size, 0, none⟩))).alloc (.cells #[.int .i32 0, .int .u32 0, .int .i64 4194304, .slice none 0 0, .int .i64 0] 70)).drew := ((tB.set t 0 _ (.inr gt)).alloc _).drew
          have hXC := (tC.block X l3 hX1).trans hX
          have hst := store_run a4 i X clock wc.heap.size es ents _ hXC hk hno
          go_region
          all_goals
            go_wp2_with fail
            go_meet
            have hsz' := tB.size
            refine ⟨wc.heap.size, .inl ⟨hno, tB.size⟩, by omega, by omega, by omega, by omega, by have := q7.lt; omega, by omega, ?_, ⟨?_, ?_, ?_, ?_⟩, ?_, ?_, ?_⟩
            · have := (Blk.new (wc.setCell ⟨t, 0, none⟩ (.pointer (some ⟨wc.heap.size, 0, none⟩))) (share 4194304 (.slice none 0 0) 0) 70).drewN 1
              rw [show (wc.setCell ⟨t, 0, none⟩ (.pointer (some ⟨wc.heap.size, 0, none⟩))).heap.size = wc.heap.size by simp] at this
              exact this.put (by omega)
            · exact (((q4.other 0 _ t4.symm).alloc _).drewN 1).put (by omega)
            · exact (((q6.other 0 _ t6.symm).alloc _).drewN 1).put (by omega)
            · exact (((q7.other 0 _ t7.symm).alloc _).drewN 1).put (by omega)
            · exact (((qt.set 0 _).alloc _).drewN 1).put (by omega)
            · exact (((hbB.other 0 _ (by omega)).alloc _).drewN 1).put hX1.symm
            · refine ⟨_, _, put_map hXC, ?_⟩
              have := keysOf_push hk i wc.heap.size clock
              simp only [addKey, hno]
              exact this
            · exact (tC.mono (fun _ h => .inl h)).put X _ (.inl (.inr rfl))
        · have hlp : lookPtr i ents = some ⟨S, 0, none⟩ := by simp [lookPtr, hq]
          rw [hlp] at et qt
          simp only [hlp]
          go_wp2_with fail
          go_meet
          have lS := hS.lt
          refine ⟨S, .inr ⟨j, hq⟩, nS1, nS2, by omega, by omega, by omega, by omega, tB.blk hS nS1, ⟨q4, q6, q7, qt⟩, hbB, ⟨es, clock, hXB, ?_⟩, tB.mono (fun _ h => .inl h)⟩
          simp only [addKey, hq]
          exact hk
      case rest =>
        clear e4 e60 e61 e62 e63 d6 lB l4 l6 lt lX et ft q4 q6 q7 qt tB hbB hXB
        obtain ⟨S, hwh, s1, s2, s4, s6, s7, st, hS, hbx, hbC, hmC, tC⟩ := hcut
        have lB := hbC.lt
        have lS := hS.lt
        have e4 := hbx.q4.cell 0
        have et := hbx.qt.cell 0
        have e7 := hbx.q7.cell 0
        have v4 := hS.cell 4
        have fv4 := hS.frozen 4
        have d4 := hbC.cell 4
        have f4 := hbC.frozen 4
        simp [bodyL, share] at e4 et e7 v4 d4
        go_upto_region 8 with (first | (go_at_call 11; refine (unlock_held Ybad.muLib ⟨Bk, 4, none⟩ _ (by go_simp) (by go_simp)).mono ?_; rintro e w1 ⟨rfl, rfl⟩))
        have tD : Turn (fun k => k = Bk ∨ k = X ∨ k = S) w ((wc.setCell ⟨S, 4, none⟩ (.int .i64 (n + 1))).setCell ⟨Bk, 4, none⟩ (.int .i32 0)) := ((tC.mono (fun k h => h.elim .inl (fun h => .inr (.inl h)))).set S 4 _ (.inl (.inr (.inr rfl)))).set Bk 4 _ (.inl (.inl rfl))
        have tD' : Turn (fun k => k = Bk ∨ k = S) wc ((wc.setCell ⟨S, 4, none⟩ (.int .i64 (n + 1))).setCell ⟨Bk, 4, none⟩ (.int .i32 0)) := ((Turn.refl _ wc).set S 4 _ (.inl (.inr rfl))).set Bk 4 _ (.inl (.inl rfl))
        have hSD : Blk ((wc.setCell ⟨S, 4, none⟩ (.int .i64 (n + 1))).setCell ⟨Bk, 4, none⟩ (.int .i32 0)) S (share f (.slice wa' 0 ca') (n + 1)) 70 := (hS.set 4 (.int .i64 (n + 1))).other 4 _ s1
        have hbD : Blk ((wc.setCell ⟨S, 4, none⟩ (.int .i64 (n + 1))).setCell ⟨Bk, 4, none⟩ (.int .i32 0)) Bk (bodyL (.slice wa 0 ca) (.map (some X)) fr 0) 67 := (hbC.other 4 _ s1.symm).set 4 (.int .i32 0)
        have hbxD := hbx.turn tD' (by rintro (h | h); exact n4 h; exact s4 h.symm) (by rintro (h | h); exact n6 h; exact s6 h.symm) (by rintro (h | h); exact n7 h; exact s7 h.symm) (by rintro (h | h); (have := hb.lt; omega); exact st h.symm)
        have hmD := hmC.turn tD' (by rintro (h | h); exact hX1 h; exact s2 h.symm)
        go_cut [11] from 12 (fun s11 wx => s11 = .nilIface ∧ Blk wx S (share (f - size) (.slice wa' 0 ca') (n + 1)) 70 ∧ Boxes wx p4 p6 p7 t Bk S i a4 size ∧ Blk wx Bk (bodyL (.slice wa 0 ca) (.map (some X)) fr 0) 67 ∧ MapIs wx a4 X (addKey i S ents) ∧ Turn (fun k => k = Bk ∨ k = X ∨ k = S) w wx)
        case first =>
          go_region_with (go_at_call 12; refine (room_take_ok S 0 ca' wa' cv size f _ 70 _ h0 hsz (by omega) (hSD.drewN 1) rfl rfl rfl).mono ?_; rintro e w1 ⟨rfl, hS1, tE⟩)
          all_goals
            go_wp2_with fail
            go_meet
            exact ⟨rfl, hS1, (hbxD.turn ((Turn.refl (fun k => k = S) _).drewN 1) (fun h => s4 h.symm) (fun h => s6 h.symm) (fun h => s7 h.symm) (fun h => st h.symm)).turn tE (fun h => s4 h.symm) (fun h => s6 h.symm) (fun h => s7 h.symm) (fun h => st h.symm), tE.blk (hbD.drewN 1) s1.symm, (hmD.turn ((Turn.refl (fun k => k = S) _).drewN 1) (fun h => s2 h.symm)).turn tE (fun h => s2 h.symm), (tD.drewN 1).trans tE (fun _ h => .inl (.inr (.inr h)))⟩
        case rest =>
          clear tC hmC hbC hbx hS e4 et e7 v4 fv4 d4 f4 lB lS tD tD' hSD hbD hbxD hmD
          obtain ⟨rfl, hSD, hbxD, hbD, hmD, tD⟩ := hcut
          have e4 := hbxD.q4.cell 0
          have e7 := hbxD.q7.cell 0
          simp at e4 e7
          go_upto_region 12 with fail
          go_cut [11] from 12 (fun s11 wx => s11 = .nilIface ∧ Blk wx S (share (f - size) (.slice wa' 0 ca') (n + 1)) 70 ∧ Boxes wx p4 p6 p7 t Bk S i a4 size ∧ Blk wx Bk (bodyL (.slice wa 0 ca) (.map (some X)) (fr - size) 0) 67 ∧ MapIs wx a4 X (addKey i S ents) ∧ Turn (fun k => k = Bk ∨ k = X ∨ k = S) w wx)
          case first =>
            go_region_with (go_at_call 12; refine (room_take_ok Bk 0 ca wa cv size fr _ 67 _ h0 hr0 (by omega) (hbD.drewN 1) rfl rfl rfl).mono ?_; rintro e w1 ⟨rfl, hb1, tE⟩)
            all_goals
              go_wp2_with fail
              go_meet
              exact ⟨rfl, tE.blk (hSD.drewN 1) s1, (hbxD.turn ((Turn.refl (fun k => k = Bk) _).drewN 1) n4 n6 n7 (by have := hb.lt; omega)).turn tE n4 n6 n7 (by have := hb.lt; omega), hb1, (hmD.turn ((Turn.refl (fun k => k = Bk) _).drewN 1) hX1).turn tE hX1, (tD.drewN 1).trans tE (fun _ h => .inl (.inl h))⟩
          case rest =>
            clear hSD hbxD hbD hmD tD e4 e7
            obtain ⟨rfl, hSD, hbxD, hbD, hmD, tD⟩ := hcut
            go_wp2_with fail
            go_ret2
            exact ⟨S, p4, p6, p7, t, rfl, g4, g6, g7, gt, hwh, s4, s6, s7, st, s1, s2, hSD, hbxD, hbD, hmD, tD⟩
end Go.Proofs.YbulkbctqDoor
