/-
  (*bodyRooms).take (function 8), where a room lacks: it takes nothing and returns the context's error.
-/
import Derived.Test.YbulkbctqDoorWait
namespace Go.Proofs.YbulkbctqDoor
open Go.RowKit Go.MuLone
set_option linter.unusedVariables false
set_option linter.unusedSimpArgs false

theorem Turn.narrow {S S' : Nat → Prop} {a b : World} (h : Turn S a b) (hs : ∀ k, k < a.heap.size → S k → S' k) : Turn S' a b :=
  ⟨h.os, h.tape, h.output, h.size, fun k hk hn => h.block k hk (fun h' => hn (hs k hk h'))⟩
theorem neq_err (w : World) : (binOp .neq 37 (.iface 52 (.agg #[])) .nilIface).run Ybad.prog w = .ok (.bool true) w := by kernel_rfl
theorem findIx_append (i : Int) (S : Nat) : ∀ (ents : List (Int × Nat)) (n : Nat), findIx i ents n = none → findIx i (ents ++ [(i, S)]) n = some (n + ents.length, S)
  | [], n, _ => by simp [findIx]
  | p :: r, n, h => by
    unfold findIx at h
    by_cases hi : i = p.1
    · rw [if_pos hi] at h; cases h
    · rw [if_neg hi] at h
      have := findIx_append i S r (n + 1) h
      simp only [List.cons_append, findIx, if_neg hi, this, List.length_cons]
      congr 2
      omega
theorem dropKey_append (i : Int) (S : Nat) : ∀ (ents : List (Int × Nat)) (n : Nat), findIx i ents n = none → dropKey i (ents ++ [(i, S)]) = ents
  | [], n, _ => by simp [dropKey]
  | p :: r, n, h => by
    unfold findIx at h
    by_cases hi : i = p.1
    · rw [if_pos hi] at h; cases h
    · rw [if_neg hi] at h
      simp only [List.cons_append, dropKey, if_neg hi, dropKey_append i S r (n + 1) h]
theorem find_add {w : World} {i : Int} {ents : List (Int × Nat)} {S : Nat} (h : Which w i ents S) : ∃ j, findIx i (addKey i S ents) 0 = some (j, S) := by
  unfold addKey
  rcases h with ⟨hno, -⟩ | ⟨j, hq⟩
  · rw [hno]; exact ⟨_, findIx_append i S ents 0 hno⟩
  · rw [hq]; exact ⟨j, hq⟩
theorem less_add {w : World} {i n : Int} {ents : List (Int × Nat)} {S : Nat} (h : Which w i ents S) (hn : 0 ≤ n) (hnn : n = 0 → findIx i ents 0 = none) (hno' : findIx i ents 0 = none → n = 0) : lessOne (n + 1) i (addKey i S ents) = ents := by
  unfold addKey lessOne
  by_cases h0 : n = 0
  · subst h0
    rw [if_pos (by omega), hnn rfl]
    exact dropKey_append i S ents 0 (hnn rfl)
  · rw [if_neg (by omega)]
    cases hq : findIx i ents 0 with
    | none => exact absurd (hno' hq) h0
    | some q => rfl

set_option maxRecDepth 100000 in
set_option maxHeartbeats 6400000 in
theorem take_no1 (Bk X C r ca ca' base : Nat) (wa wa' : Option Addr) (a4 : Addr) (i : Int) (w : World) (ents : List (Int × Nat)) (fr size f n e d : Int)
    (h0 : 0 ≤ size) (hf0 : 0 ≤ f) (hf : f ≤ 4194304) (hs1 : size ≤ 100000000) (hr0 : 0 ≤ fr) (hr1 : fr ≤ 16777216) (hn0 : 0 ≤ n) (hn1 : n ≤ 10000) (he : 0 ≤ e) (he' : e ≤ 100000) (hd : 0 ≤ d) (hd' : d ≤ 100000)
    (hb : Blk w Bk (bodyL (.slice wa 0 ca) (.map (some X)) fr 0) 67) (hX1 : X ≠ Bk) (hm : MapIs w a4 X ents) (hbef : Before w Bk X i ents f (.slice wa' 0 ca') n) (hnn : n = 0 → findIx i ents 0 = none)
    (hC : Blk w C #[.chan (some r), .int .i64 e, .int .i64 d] 56) (hr : w.heap[r]? = some (.chan 0 #[] true 0 0 false)) (hbase : base ≤ w.heap.size) (hrowA : Row w base (.slice wa 0 ca)) (hrowS : Row w base (.slice wa' 0 ca')) (hsz : f < size) :
    Calls Ybad.prog 8 #[.pointer (some ⟨Bk, 0, none⟩), .iface 25 (.pointer (some ⟨C, 0, none⟩)), K a4 i, .int .i64 size] w fun x w' => x = .returned (.tuple #[.nilFunc, .iface 52 (.agg #[])]) ∧
      (∀ j S, findIx i ents 0 = some (j, S) → ∃ g cap, Blk w' S (share f (.slice (some ⟨g, 0, none⟩) 0 cap) n) 70 ∧ Row w' base (.slice (some ⟨g, 0, none⟩) 0 cap)) ∧ Blk w' Bk (bodyL (.slice wa 0 ca) (.map (some X)) fr 0) 67 ∧ MapIs w' a4 X ents ∧ Blk w' C #[.chan (some r), .int .i64 (e + 1), .int .i64 (d + 1)] 56 ∧ (∀ v, Row w base v → Row w' base v) ∧
      Turn (fun k => k = Bk ∨ k = X ∨ k = C ∨ (∃ j, findIx i ents 0 = some (j, k)) ∨ (Value.slice wa' 0 ca').ownBlock = some k ∨ (Value.slice wa 0 ca).ownBlock = some k) w w' := by
  have hnone : findIx i ents 0 = none → n = 0 := by
    intro h
    rcases hbef with ⟨-, -, -, k⟩ | ⟨j, S, hq, -⟩
    · exact k
    · rw [h] at hq; cases hq
  obtain ⟨es, clock, hX, hk⟩ := hm
  have l1 := hb.lt
  have l3 := (Array.getElem?_eq_some_iff.1 hX).1
  unfold K
  go_enter Ybad.func8, Ybad.ntmps8
  go_upto_region 0 with fail
  go_cut [4, 6, 7, 8, 9] from 10 (fun s4 s6 s7 s8 s9 wx => ∃ p4 p6 p7, s4 = .pointer (some ⟨p4, 0, none⟩) ∧ s6 = .pointer (some ⟨p6, 0, none⟩) ∧ s7 = .pointer (some ⟨p7, 0, none⟩) ∧ s8 = .nilFunc ∧ s9 = .nilIface ∧ w.heap.size ≤ p4 ∧ w.heap.size ≤ p6 ∧ w.heap.size ≤ p7 ∧
    Blk wx p4 #[.pointer (some ⟨Bk, 0, none⟩)] 23 ∧ Blk wx p6 #[.int .u64 0, .int .u64 (lo i), .pointer (some a4), .int .u8 33] 49 ∧ Blk wx p7 #[.int .i64 size] 2 ∧ Turn (fun _ => False) w wx)
  case first =>
    go_wp2_with fail
    go_meet
    refine ⟨w.heap.size, w.heap.size + 1, w.heap.size + 2, rfl, rfl, rfl, rfl, rfl, by omega, by omega, by omega, ?_, ?_, ?_, (((Turn.refl _ w).alloc _).alloc _).alloc _⟩
    · exact ((Blk.new w _ _).alloc _).alloc _
    · have := (Blk.new (w.alloc (.cells #[.pointer (some ⟨Bk, 0, none⟩)] 23)) #[.int .u64 0, .int .u64 (lo i), .pointer (some a4), .int .u8 33] 49).alloc (.cells #[.int .i64 size] 2)
      rw [show (w.alloc (.cells #[.pointer (some ⟨Bk, 0, none⟩)] 23)).heap.size = w.heap.size + 1 by simp] at this
      exact this
    · have := (Blk.new ((w.alloc (.cells #[.pointer (some ⟨Bk, 0, none⟩)] 23)).alloc (.cells #[.int .u64 0, .int .u64 (lo i), .pointer (some a4), .int .u8 33] 49)) #[.int .i64 size] 2)
      rw [show ((w.alloc (.cells #[.pointer (some ⟨Bk, 0, none⟩)] 23)).alloc (.cells #[.int .u64 0, .int .u64 (lo i), .pointer (some a4), .int .u8 33] 49)).heap.size = w.heap.size + 2 by simp] at this
      exact this
  case rest =>
    obtain ⟨p4, p6, p7, rfl, rfl, rfl, rfl, rfl, g4, g6, g7, q4, q6, q7, tA⟩ := hcut
    have n4 : p4 ≠ Bk := by omega
    have n6 : p6 ≠ Bk := by omega
    have n7 : p7 ≠ Bk := by omega
    have hbA := tA.blk hb (fun h => h)
    have lA := hbA.lt
    have lA4 := q4.lt
    have lA6 := q6.lt
    have lA7 := q7.lt
    have hXA := (tA.block X l3 (fun h => h)).trans hX
    have d4 := hbA.cell 4
    have d6 := hbA.cell 6
    have f4 := hbA.frozen 4
    have e4 := q4.cell 0
    have e60 := q6.cell 0
    have e61 := q6.cell 1
    have e62 := q6.cell 2
    have e63 := q6.cell 3
    simp [bodyL] at d4 d6 e4 e60 e61 e62 e63
    have tB : Turn (fun k => k = Bk) w (wc.setCell ⟨Bk, 4, none⟩ (.int .i32 1)) := (tA.mono (fun _ h => h.elim)).set Bk 4 _ (.inl rfl)
    have hXB := (tB.block X l3 hX1).trans hX
    have hl1 := look_ptr a4 i X clock es ents (wc.setCell ⟨Bk, 4, none⟩ (.int .i32 1)).drew hXB hk
    have hl2 := look_ptr a4 i X clock es ents ((wc.setCell ⟨Bk, 4, none⟩ (.int .i32 1)).alloc (.cells #[.pointer none] 68)).drew ((Below.heap_alloc _ _ X (Array.getElem?_eq_some_iff.1 hXB).1).trans hXB) hk
    go_upto_region 2 with (first | (go_at_call 10; refine (lock_free Ybad.muLib ⟨Bk, 4, none⟩ _ (by go_simp) (by go_simp)).mono ?_; rintro e w1 ⟨rfl, rfl⟩))
    go_cut [10] from 11 (fun s10 wx => ∃ t, s10 = .pointer (some ⟨t, 0, none⟩) ∧ w.heap.size ≤ t ∧ t ≠ p4 ∧ t ≠ p6 ∧ t ≠ p7 ∧ Blk wx p4 #[.pointer (some ⟨Bk, 0, none⟩)] 23 ∧ Blk wx p6 #[.int .u64 0, .int .u64 (lo i), .pointer (some a4), .int .u8 33] 49 ∧ Blk wx p7 #[.int .i64 size] 2 ∧ Blk wx t #[.pointer (lookPtr i ents)] 68 ∧ Turn (fun k => k = Bk) w wx ∧ Blk wx Bk (bodyL (.slice wa 0 ca) (.map (some X)) fr 1) 67)
    case first =>
      go_region
      all_goals
        go_wp2_with fail
        go_meet
        refine ⟨wc.heap.size, rfl, by have := tA.size; omega, by omega, by omega, by omega, ((q4.other 4 _ n4).alloc _).drewN 1, ((q6.other 4 _ n6).alloc _).drewN 1, ((q7.other 4 _ n7).alloc _).drewN 1, ?_, (tB.alloc _).drew, ?_⟩
        · have := (Blk.new (wc.setCell ⟨Bk, 4, none⟩ (.int .i32 1)) #[.pointer (lookPtr i ents)] 68).drewN 1
          rw [show (wc.setCell ⟨Bk, 4, none⟩ (.int .i32 1)).heap.size = wc.heap.size by simp] at this
          exact this
        · exact ((hbA.set 4 (.int .i32 1)).alloc (.cells #[.pointer (lookPtr i ents)] 68)).drewN 1
    case rest =>
      clear hl1 hl2 tB hXB e4 e60 e61 e62 e63 d4 d6 f4 lA lA4 lA6 lA7 hXA hbA q4 q6 q7 tA
      obtain ⟨t, rfl, gt, t4, t6, t7, q4, q6, q7, qt, tB, hbB⟩ := hcut
      have hXB := (tB.block X l3 hX1).trans hX
      have lB := hbB.lt
      have l4 := q4.lt
      have l6 := q6.lt
      have lt := qt.lt
      have lX := (Array.getElem?_eq_some_iff.1 hXB).1
      have d6 := hbB.cell 6
      have e4 := q4.cell 0
      have e60 := q6.cell 0
      have e61 := q6.cell 1
      have e62 := q6.cell 2
      have e63 := q6.cell 3
      have et := qt.cell 0
      have ft := qt.frozen 0
      simp [bodyL] at d6 e4 e60 e61 e62 e63 et
      go_upto_if 23 with fail
      go_cut [] from 11 (fun wx => ∃ S, Which w i ents S ∧ S ≠ Bk ∧ S ≠ X ∧ S ≠ p4 ∧ S ≠ p6 ∧ S ≠ p7 ∧ S ≠ t ∧ Blk wx S (share f (.slice wa' 0 ca') n) 70 ∧ Boxes wx p4 p6 p7 t Bk S i a4 size ∧ Blk wx Bk (bodyL (.slice wa 0 ca) (.map (some X)) fr 1) 67 ∧ MapIs wx a4 X (addKey i S ents) ∧ Turn (fun k => k = Bk ∨ k = X) w wx)
      case first =>
        rcases hbef with ⟨hno, rfl, hwv, rfl⟩ | ⟨j, S, hq, hS, nS1, nS2⟩
        · obtain ⟨rfl, rfl⟩ : wa' = none ∧ ca' = 0 := by cases hwv; exact ⟨rfl, rfl⟩
          have hlp : lookPtr i ents = none := by simp [lookPtr, hno]
          rw [hlp] at et
          simp only [hlp]
          go_wp2_with fail
          have tC : Turn (fun k => k = Bk) w ((wc.setCell ⟨t, 0, none⟩ (.pointer (some ⟨wc.heap.size, 0, none⟩))).alloc (.cells #[.int .i32 0, .int .u32 0, .int .i64 4194304, .slice none 0 0, .int .i64 0] 70)).drew := ((tB.set t 0 _ (.inr gt)).alloc _).drew
          have hXC := (tC.block X l3 hX1).trans hX
          have hst := store_run a4 i X clock wc.heap.size es ents _ hXC hk hno
          go_region
          all_goals
            go_wp2_with fail
            go_meet
            have hsz' := tB.size
            refine ⟨wc.heap.size, .inl ⟨hno, tB.size⟩, by omega, by omega, by omega, by omega, by have := q7.lt; omega, by omega, ?_, ⟨?_, ?_, ?_, ?_⟩, ?_, ?_, ?_⟩
            · have := (Blk.new (wc.setCell ⟨t, 0, none⟩ (.pointer (some ⟨wc.heap.size, 0, none⟩))) (share 4194304 (.slice none 0 0) 0) 70).drewN 1
              rw [show (wc.setCell ⟨t, 0, none⟩ (.pointer (some ⟨wc.heap.size, 0, none⟩))).heap.size = wc.heap.size by simp] at this
              exact this.put (by omega)
            · exact (((q4.other 0 _ t4.symm).alloc _).drewN 1).put (by omega)
            · exact (((q6.other 0 _ t6.symm).alloc _).drewN 1).put (by omega)
            · exact (((q7.other 0 _ t7.symm).alloc _).drewN 1).put (by omega)
            · exact (((qt.set 0 _).alloc _).drewN 1).put (by omega)
            · exact (((hbB.other 0 _ (by omega)).alloc _).drewN 1).put hX1.symm
            · refine ⟨_, _, put_map hXC, ?_⟩
              have := keysOf_push hk i wc.heap.size clock
              simp only [addKey, hno]
              exact this
            · exact (tC.mono (fun _ h => .inl h)).put X _ (.inl (.inr rfl))
        · have hlp : lookPtr i ents = some ⟨S, 0, none⟩ := by simp [lookPtr, hq]
          rw [hlp] at et qt
          simp only [hlp]
          go_wp2_with fail
          go_meet
          have lS := hS.lt
          refine ⟨S, .inr ⟨j, hq⟩, nS1, nS2, by omega, by omega, by omega, by omega, tB.blk hS nS1, ⟨q4, q6, q7, qt⟩, hbB, ⟨es, clock, hXB, ?_⟩, tB.mono (fun _ h => .inl h)⟩
          simp only [addKey, hq]
          exact hk
      case rest =>
        clear e4 e60 e61 e62 e63 d6 lB l4 l6 lt lX et ft q4 q6 q7 qt tB hbB hXB
        obtain ⟨S, hwh, s1, s2, s4, s6, s7, st, hS, hbx, hbC, hmC, tC⟩ := hcut
        have lB := hbC.lt
        have lS := hS.lt
        have e4 := hbx.q4.cell 0
        have et := hbx.qt.cell 0
        have e7 := hbx.q7.cell 0
        have v4 := hS.cell 4
        have fv4 := hS.frozen 4
        have d4 := hbC.cell 4
        have f4 := hbC.frozen 4
        simp [bodyL, share] at e4 et e7 v4 d4
        go_upto_region 8 with (first | (go_at_call 11; refine (unlock_held Ybad.muLib ⟨Bk, 4, none⟩ _ (by go_simp) (by go_simp)).mono ?_; rintro e w1 ⟨rfl, rfl⟩))
        have tD : Turn (fun k => k = Bk ∨ k = X ∨ k = S) w ((wc.setCell ⟨S, 4, none⟩ (.int .i64 (n + 1))).setCell ⟨Bk, 4, none⟩ (.int .i32 0)) := ((tC.mono (fun k h => h.elim .inl (fun h => .inr (.inl h)))).set S 4 _ (.inl (.inr (.inr rfl)))).set Bk 4 _ (.inl (.inl rfl))
        have tD' : Turn (fun k => k = Bk ∨ k = S) wc ((wc.setCell ⟨S, 4, none⟩ (.int .i64 (n + 1))).setCell ⟨Bk, 4, none⟩ (.int .i32 0)) := ((Turn.refl _ wc).set S 4 _ (.inl (.inr rfl))).set Bk 4 _ (.inl (.inl rfl))
        have hSD : Blk ((wc.setCell ⟨S, 4, none⟩ (.int .i64 (n + 1))).setCell ⟨Bk, 4, none⟩ (.int .i32 0)) S (share f (.slice wa' 0 ca') (n + 1)) 70 := (hS.set 4 (.int .i64 (n + 1))).other 4 _ s1
        have hbD : Blk ((wc.setCell ⟨S, 4, none⟩ (.int .i64 (n + 1))).setCell ⟨Bk, 4, none⟩ (.int .i32 0)) Bk (bodyL (.slice wa 0 ca) (.map (some X)) fr 0) 67 := (hbC.other 4 _ s1.symm).set 4 (.int .i32 0)
        have hbxD := hbx.turn tD' (by rintro (h | h); exact n4 h; exact s4 h.symm) (by rintro (h | h); exact n6 h; exact s6 h.symm) (by rintro (h | h); exact n7 h; exact s7 h.symm) (by rintro (h | h); (have := hb.lt; omega); exact st h.symm)
        have hmD := hmC.turn tD' (by rintro (h | h); exact hX1 h; exact s2 h.symm)
        have lS70 : S < w.heap.size → ∃ cs, Blk w S cs 70 := by
          intro h
          rcases hwh with ⟨-, k⟩ | ⟨j, k⟩
          · omega
          · rcases hbef with ⟨hno, -⟩ | ⟨j', S', hq, hS', -, -⟩
            · rw [hno] at k; cases k
            · rw [hq] at k; cases k; exact ⟨_, hS'⟩
        have lC := hC.lt
        have lr := (Array.getElem?_eq_some_iff.1 hr).1
        have nCB : C ≠ Bk := hC.ne hb (by decide)
        have nCX : C ≠ X := hC.ne_map hX
        have nCS : C ≠ S := by
          rintro rfl
          obtain ⟨x, hx⟩ := lS70 lC
          exact (hC.ne hx (by decide)) rfl
        have nrB : r ≠ Bk := (hb.ne_chan hr).symm
        have nrX : r ≠ X := by rintro rfl; rw [hX] at hr; cases hr
        have nrS : r ≠ S := by
          rintro rfl
          obtain ⟨x, hx⟩ := lS70 lr
          exact (hx.ne_chan hr) rfl
        have hCD := tD.blk hC (by rintro (h | h | h); exact nCB h; exact nCX h; exact nCS h)
        have hrD := (tD.block r lr (by rintro (h | h | h); exact nrB h; exact nrX h; exact nrS h)).trans hr
        have rowsD : ∀ v, Row w base v → Row ((wc.setCell ⟨S, 4, none⟩ (.int .i64 (n + 1))).setCell ⟨Bk, 4, none⟩ (.int .i32 0)) base v := fun v hv => hv.turn tD (fun g x hg k => by
          rcases k with k | k | k
          · subst k; exact (hg.ne hb (by decide)) rfl
          · subst k; exact (hg.ne_map hX) rfl
          · subst k; obtain ⟨y, hy⟩ := lS70 hg.lt; exact (hg.ne hy (by decide)) rfl)
        have own84 : ∀ v k, Row w base v → v.ownBlock = some k → ∃ cur, Blk w k cur 84 := by
          intro v k hv hk
          rcases hv with rfl | ⟨g', cap', cur', rfl, _, h3, _⟩
          · simp [Value.ownBlock] at hk
          · simp [Value.ownBlock] at hk; subst hk; exact ⟨cur', h3⟩
        have ownlt : ∀ k, (Value.slice wa' 0 ca').ownBlock = some k → k < w.heap.size := fun k hk => by obtain ⟨x, hx⟩ := own84 _ k hrowS hk; exact hx.lt
        have ownB : (Value.slice wa' 0 ca').ownBlock ≠ some Bk := fun h => by obtain ⟨x, hx⟩ := own84 _ Bk hrowS h; exact (hb.ne hx (by decide)) rfl
        have ownX : (Value.slice wa' 0 ca').ownBlock ≠ some X := fun h => by obtain ⟨x, hx⟩ := own84 _ X hrowS h; exact (hx.ne_map hX) rfl
        have sD := tD.size
        go_cut [11] from 12 (fun s11 wx => s11 = .iface 52 (.agg #[]) ∧ ∃ g cap, Blk wx S (share f (.slice (some ⟨g, 0, none⟩) 0 cap) (n + 1)) 70 ∧ Row wx base (.slice (some ⟨g, 0, none⟩) 0 cap) ∧ Boxes wx p4 p6 p7 t Bk S i a4 size ∧ Blk wx Bk (bodyL (.slice wa 0 ca) (.map (some X)) fr 0) 67 ∧ MapIs wx a4 X (addKey i S ents) ∧ Blk wx C #[.chan (some r), .int .i64 (e + 1), .int .i64 (d + 1)] 56 ∧ (∀ v, Row w base v → Row wx base v) ∧ Turn (fun k => k = Bk ∨ k = X ∨ k = S ∨ k = C ∨ (Value.slice wa' 0 ca').ownBlock = some k) w wx)
        case first =>
          have oS : ∀ k, (k = S ∨ k = C ∨ (Value.slice wa' 0 ca').ownBlock = some k) → k = S ∨ k < w.heap.size := by
            rintro k (h | h | h)
            · exact .inl h
            · exact .inr (by omega)
            · exact .inr (ownlt k h)
          go_region_with (go_at_call 12; refine (room_take_no S 0 C r base (.slice wa' 0 ca') size f e d _ 70 _ hf0 hsz hs1 he he' hd hd' (hSD.drewN 1) rfl rfl rfl ((rowsD _ hrowS).drewN 1) (by simp at sD ⊢; omega) (hCD.drewN 1) hrD (by decide) (by decide)).mono ?_; rintro x w1 ⟨rfl, g, cap, hS1, hrow1, hC1, rows1, tE⟩)
          all_goals
            go_wp2_with fail
            go_meet
            refine ⟨rfl, g, cap, hS1, hrow1, ?_, tE.blk (hbD.drewN 1) ?_, (hmD.turn ((Turn.refl (fun k => k = S) _).drewN 1) (fun h => s2 h.symm)).turn tE ?_, hC1, fun v hv => rows1 v ((rowsD v hv).drewN 1), ((tD.mono (fun k h => h.elim .inl (fun h => h.elim (fun h => .inr (.inl h)) (fun h => .inr (.inr (.inl h)))))).drewN 1).trans tE (fun _ h => .inl (.inr (.inr h)))⟩
            · refine (hbxD.turn ((Turn.refl (fun k => k = S) _).drewN 1) (fun h => s4 h.symm) (fun h => s6 h.symm) (fun h => s7 h.symm) (fun h => st h.symm)).turn tE ?_ ?_ ?_ ?_
              · intro h; rcases oS _ h with h | h <;> omega
              · intro h; rcases oS _ h with h | h <;> omega
              · intro h; rcases oS _ h with h | h <;> omega
              · intro h; rcases oS _ h with h | h <;> omega
            · rintro (h | h | h); exact s1 h.symm; exact nCB h.symm; exact ownB h
            · rintro (h | h | h); exact s2 h.symm; exact nCX h.symm; exact ownX h
        case rest =>
          clear tC hmC hbC hbx hS e4 et e7 v4 fv4 d4 f4 lB lS tD tD' hSD hbD hbxD hmD hCD hrD rowsD sD
          obtain ⟨rfl, g, cap, hSD, hrow1, hbxD, hbD, hmD, hCD, rowsD, tD⟩ := hcut
          have e4 := hbxD.q4.cell 0
          have et := hbxD.qt.cell 0
          have e60 := hbxD.q6.cell 0
          have e61 := hbxD.q6.cell 1
          have e62 := hbxD.q6.cell 2
          have e63 := hbxD.q6.cell 3
          simp at e4 et e60 e61 e62 e63
          obtain ⟨j, hfd⟩ : ∃ j, findIx i (addKey i S ents) 0 = some (j, S) := find_add hwh
          have hnq := neq_err
          have LV := leave_any Bk S X j S a4 i _ _ 67 70 _ (addKey i S ents) (n + 1) (by omega) (by omega) hbD hSD s1.symm hX1 s2.symm hmD hfd rfl rfl rfl
          rw [less_add hwh hn0 hnn hnone, share_req, show n + 1 - 1 = n by omega] at LV
          go_wp2_with (go_at_call 13; refine LV.mono ?_; rintro x w9 ⟨rfl, hS9, hb9, hm9, t9⟩)
          go_ret2
          have oX : ∀ k, (k = S ∨ k = Bk ∨ k = X) → (∀ y, ¬ Blk wc k y 84) := by
            rintro k (h | h | h) y hy
            · subst h; exact (hy.ne hSD (by decide)) rfl
            · subst h; exact (hy.ne hbD (by decide)) rfl
            · subst h; obtain ⟨a, b, hh, -⟩ := hmD; exact (hy.ne_map hh) rfl
          refine ⟨rfl, ?_, hb9, hm9, t9.blk hCD (by rintro (h | h | h); exact nCS h; exact nCB h; exact nCX h), fun v hv => (rowsD v hv).turn t9 (fun k y hy h => oX k h y hy), ?_⟩
          · intro j' S' hq
            have : S' = S := by
              rcases hwh with ⟨hno, -⟩ | ⟨j2, k⟩
              · rw [hno] at hq; cases hq
              · rw [k] at hq; cases hq; rfl
            subst this
            exact ⟨g, cap, hS9, hrow1.turn t9 (fun k y hy h => oX k h y hy)⟩
          · refine (tD.trans (t9.mono (S' := fun k => k = Bk ∨ k = X ∨ k = S ∨ k = C ∨ (Value.slice wa' 0 ca').ownBlock = some k) (by rintro k (h | h | h); exact .inr (.inr (.inl h)); exact .inl h; exact .inr (.inl h))) (fun _ h => .inl h)).narrow ?_
            rintro k hk (h | h | h | h | h)
            · exact .inl h
            · exact .inr (.inl h)
            · subst h
              rcases hwh with ⟨-, q⟩ | ⟨j2, q⟩
              · omega
              · exact .inr (.inr (.inr (.inl ⟨j2, q⟩)))
            · exact .inr (.inr (.inl h))
            · exact .inr (.inr (.inr (.inr (.inl h))))
end Go.Proofs.YbulkbctqDoor
