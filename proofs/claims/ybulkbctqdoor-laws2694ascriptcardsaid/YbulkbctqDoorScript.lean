/-
  LawS2694AScript (function 3), walked.
-/
import Derived.Test.YbulkbctqDoorCut
namespace Go.Proofs.YbulkbctqDoor
open Go.RowKit Go.MuLone
set_option linter.unusedVariables false
set_option linter.unusedSimpArgs false

set_option maxRecDepth 100000 in
set_option maxHeartbeats 6400000 in
theorem script_walk (av : Option Addr) (b o n cap : Nat) (a4 : Addr) (w : World) (hz : Zs w a4) (hn : n ≤ 1024) (hav : 0 < n → av = some ⟨b, o, none⟩)
    (hst : ∀ k, k < n → ∃ op ho sz : Int, 0 ≤ op ∧ op ≤ 255 ∧ 0 ≤ ho ∧ ho ≤ 255 ∧ 0 ≤ sz ∧ sz ≤ 4294967295 ∧ w.cell? ⟨b, o + k * 3, none⟩ = some (.int .u8 op) ∧ w.cell? ⟨b, o + k * 3 + 1, none⟩ = some (.int .u8 ho) ∧ w.cell? ⟨b, o + k * 3 + 2, none⟩ = some (.int .u32 sz)) :
    Calls Ybad.prog 3 #[.slice av n cap] w fun e w' => e = .returned (.bool true) ∧ Below w.heap.size w w' := by
  go_enter Ybad.func3, Ybad.ntmps3
  go_upto_region 10 with (first
    | (go_at_call 5; refine (anew_any a4 _).mono ?_; rintro e w1 ⟨Bk, X, rfl, lB1, lX1, hXB, hb1, hm1, hB1⟩)
    | (go_at_call 6; refine (anewctx_any _).mono ?_; rintro e w2 ⟨C, r, rfl, lc, lr, hrc, hc2, hr2, hB2⟩))
  have hs0 : (w2.alloc (.cells (six (usedOf [])) 27)).heap.size = w2.heap.size + 1 := by simp
  have T2 : Turn (fun _ => False) w1 ((w2.alloc (.cells (six (usedOf [])) 27)).alloc (.cells (six (reqsOf [])) 28)) := ((Turn.of_below hB2).alloc _).alloc _
  have T2' : Turn (fun _ => False) w2 ((w2.alloc (.cells (six (usedOf [])) 27)).alloc (.cells (six (reqsOf [])) 28)) := ((Turn.refl _ w2).alloc _).alloc _
  have hB3 := below_turn hB1 T2 (fun _ h => h.elim)
  have F : ∃ W, W = (w2.alloc (.cells (six (usedOf [])) 27)).alloc (.cells (six (reqsOf [])) 28) ∧ Whole w W Bk X C r w2.heap.size (w2.heap.size + 1) a4 (.int .i64 0) (.slice none 0 0) (.int .i64 0) 0 := by
    refine ⟨_, rfl, [], [], 0, rfl, rfl, by simp, by simp, ⟨hB3, lB1, lX1, Nat.le_trans hB1.size lc, ⟨none, 0, .inl rfl, T2.blk hb1 (fun h => h)⟩, hm1.turn T2 (fun h => h), T2'.blk hc2 (fun h => h), (T2'.block r (Array.getElem?_eq_some_iff.1 hr2).1 (fun h => h)).trans hr2, ?_, ?_, ?_, by simp, ?_, by simp [allOf], ?_, by simp⟩, (Blk.new w2 _ _).alloc _, ?_, World.ownsRow_nil _ _ 34 3⟩
    · intro i S h; simp [look] at h
    · intro i; simp [look, reqsOf]
    · intro i i' S h; simp [look] at h
    · intro x hx; simp at hx
    · intro i; simp [usedOf]
    · have := Blk.new (w2.alloc (.cells (six (usedOf [])) 27)) (six (reqsOf [])) 28
      rw [hs0] at this
      exact this
  obtain ⟨W, hW, hwh⟩ := F
  have gU : w.heap.size ≤ w2.heap.size := Nat.le_trans hB1.size hB2.size
  rw [show (w2.alloc (.cells #[.int .i64 0, .int .i64 0, .int .i64 0, .int .i64 0, .int .i64 0, .int .i64 0] 27)).alloc (.cells #[.int .i64 0, .int .i64 0, .int .i64 0, .int .i64 0, .int .i64 0, .int .i64 0] 28) = W from hW.symm]
  obtain ⟨U, hU⟩ : ∃ U, U = w2.heap.size := ⟨_, rfl⟩
  obtain ⟨R, hR⟩ : ∃ R, R = w2.heap.size + 1 := ⟨_, rfl⟩
  rw [← hR, ← hU] at hwh
  rw [← hR, ← hU]
  have gR : w.heap.size ≤ R := by omega
  rw [← hU] at gU
  clear hU hR hW hB3 T2 T2' hs0 hB1 hB2 hm1 hb1 hc2 hr2 hrc lc lr hXB lB1 lX1
  clear w1 w2
  go_wp2_with fail
  go_loopw [7, 8, 9, 31] (fun s7 s8 s9 s31 wr => RelW w Bk X C r U R a4 n s7 s8 s9 s31 wr) (fun _ _ _ i _ => n - (intOf i).toNat)
  case atStart => exact ⟨0, rfl, Nat.zero_le _, hwh⟩
  case round =>
    obtain ⟨k, rfl, hk, hl, ents, fl, rfl, rfl, hfl, hll, hcore, hU, hR, hown⟩ := hrel
    by_cases hkn : k < n
    · obtain rfl := hav (by omega)
      clear hav
      obtain ⟨op, ho, sz, o0, o1, h0, h1, z0, z1, hc0, hc1, hc2⟩ := hst k hkn
      have e0 := cell_later hcore.bel hc0
      have e1 := cell_later hcore.bel hc1
      have e2 := cell_later hcore.bel hc2
      go_upto_region 13 with fail
      obtain ⟨ga, gc, rfl⟩ : ∃ ga gc, u8 = .slice ga hl.length gc := by
        rcases hown.2 with ⟨q, q'⟩ | ⟨g, c, cur, q, _⟩
        · exact ⟨none, 0, by rw [q, q']⟩
        · exact ⟨_, _, q⟩
      have F : ∃ W1 D, W1 = wr.alloc (.cells #[.int .u8 op, .int .u8 ho, .int .u32 sz] 32) ∧ D = wr.heap.size ∧ Core w W1 Bk X C r a4 hl ents fl ∧ Blk W1 U (six (usedOf hl)) 27 ∧ Blk W1 R (six (reqsOf hl)) 28 ∧ W1.ownsRow w.heap.size 34 3 (.slice ga hl.length gc) hl.length (hl.flatMap Held.cells) ∧ Blk W1 D #[.int .u8 op, .int .u8 ho, .int .u32 sz] 32 :=
        ⟨_, _, rfl, rfl, hcore.turn (T := fun _ => False) ((Turn.refl _ wr).alloc _) (fun _ h => h.elim), hU.alloc _, hR.alloc _, hown.alloc _, Blk.new _ _ _⟩
      obtain ⟨W1, D, hW1, hD, hcore1, hU1, hR1, hown1, hD1⟩ := F
      rw [← hW1, ← hD]
      clear hcore hU hR hown hW1 hD e0 e1 e2
      have d0 := hD1.cell 0
      have d1 := hD1.cell 1
      have d2 := hD1.cell 2
      simp at d0 d1 d2
      go_cut [43] (fun s43 wx => s43 = .bool (decide (op % 3 = 2 ∧ 0 < hl.length)) ∧ W1 = wx)
      case first =>
        as_aux_lemma =>
          by_cases q1 : op % 3 = 2
          · have q1b : (op % 3 == 2) = true := by simp [q1]
            by_cases q2 : 0 < hl.length
            · have q2b : decide ((0 : Int) < hl.length) = true := decide_eq_true (by omega)
              go_wp2
              go_meet
              exact ⟨by simp [q1, q2], rfl⟩
            · have q2b : decide ((0 : Int) < hl.length) = false := decide_eq_false (by omega)
              go_wp2
              go_meet
              exact ⟨by simp [q1, q2], rfl⟩
          · have q1b : (op % 3 == 2) = false := by simp [q1]
            go_wp2
            go_meet
            exact ⟨by simp [q1], rfl⟩
      case rest =>
        as_aux_lemma =>
          obtain ⟨rfl, rfl⟩ := hcut
          go_upto_if 43 with fail
          go_cut [7, 8, 9] (fun s7 s8 s9 wx => Whole w wx Bk X C r U R a4 s7 s8 s9 (k + 1))
          case first =>
            as_aux_lemma =>
              by_cases q : op % 3 = 2 ∧ 0 < hl.length
              · as_aux_lemma =>
                  have qb : decide (op % 3 = 2 ∧ 0 < hl.length) = true := decide_eq_true q
                  obtain ⟨q1, q2⟩ := q
                  obtain ⟨m, hm⟩ : ∃ m : Nat, ho % (hl.length : Int) = m := ⟨(ho % (hl.length : Int)).toNat, by have := Int.emod_nonneg ho (by omega : (hl.length : Int) ≠ 0); omega⟩
                  have hml : m < hl.length := by have := Int.emod_lt_of_pos ho (by omega : (0 : Int) < hl.length); omega
                  obtain ⟨x, hx⟩ : ∃ x, hl[m]? = some x := ⟨_, List.getElem?_eq_getElem hml⟩
                  have hl0 : (hl.length : Int) ≠ 0 := by omega
                  have hl0b : ((hl.length : Int) == 0) = false := beq_eq_false_iff_ne.2 hl0
                  have hll9 : hl.length ≤ 2000 := by omega
                  obtain ⟨g, cur, rfl, hg0, hgb, hcap, hmax, hcsz, htk⟩ : ∃ g cur, ga = some ⟨g, 0, none⟩ ∧ w.heap.size ≤ g ∧ Blk W1 g cur 34 ∧ hl.length ≤ gc ∧ gc ≤ maxLen ∧ cur.size = gc * 3 ∧ cur.toList.take (hl.length * 3) = hl.flatMap Held.cells := by
                    rcases hown1.2 with ⟨h, h'⟩ | ⟨g, c, cur, h, h1, h2, h3, h4, h5, h6⟩
                    · omega
                    · cases h; exact ⟨g, cur, rfl, h1, h2, h3, h4, h5, h6⟩
                  have cx : ∀ j, j < 3 → cur[m * 3 + j]? = x.cells[j]? := fun j hj => row_get hl m x hx cur htk j hj
                  have k0 : W1.cell? ⟨g, m * 3, none⟩ = some (.int .i64 x.h) := (hgb.cell (m * 3)).trans (cx 0 (by omega))
                  have k1 : W1.cell? ⟨g, m * 3 + 1, none⟩ = some (.int .i64 x.size) := (hgb.cell (m * 3 + 1)).trans (cx 1 (by omega))
                  have k2 : W1.cell? ⟨g, m * 3 + 2, none⟩ = some x.fn := (hgb.cell (m * 3 + 2)).trans (cx 2 (by omega))
                  go_upto_region 15 with fail
                  rw [hm]
                  unfold Held.fn at k2
                  go_upto_region 16 with fail
                  have F : ∃ W2 D2, W2 = W1.alloc (.cells #[.int .i64 x.h, .int .i64 x.size, x.fn] 34) ∧ D2 = W1.heap.size ∧ Core w W2 Bk X C r a4 hl ents fl ∧ Blk W2 U (six (usedOf hl)) 27 ∧ Blk W2 R (six (reqsOf hl)) 28 ∧ Blk W2 g cur 34 ∧ Blk W2 D2 #[.int .i64 x.h, .int .i64 x.size, x.fn] 34 ∧ g < D2 :=
                    ⟨_, _, rfl, rfl, hcore1.turn (T := fun _ => False) ((Turn.refl _ W1).alloc _) (fun _ h => h.elim), hU1.alloc _, hR1.alloc _, hgb.alloc _, Blk.new _ _ _, hgb.lt⟩
                  obtain ⟨W2, D2, hW2, hD2, hcoreW, hUW, hRW, hgW, hDW, hgD⟩ := F
                  simp only [Held.fn] at hW2 hDW
                  rw [← hW2, ← hD2]
                  clear hW2 hD2
                  have y0 := hDW.cell 0
                  have y1 := hDW.cell 1
                  have y2 := hDW.cell 2
                  simp at y0 y1 y2
                  obtain ⟨xm, hxm⟩ : ∃ xm : Nat, x.h = xm := ⟨x.h.toNat, by have := (hcoreW.held x (List.mem_of_getElem? hx)).1; omega⟩
                  have hxm6 : xm < 6 := by have := (hcoreW.held x (List.mem_of_getElem? hx)).2.1; omega
                  obtain ⟨un0, un1⟩ := hcoreW.nn x.h
                  have le1 := hcoreW.le1
                  have le2 := hcoreW.le2 x.h
                  have hxs := (hcoreW.held x (List.mem_of_getElem? hx)).2.2
                  obtain ⟨xs0, xs1, _⟩ := hxs
                  obtain ⟨rn0, rn1⟩ := reqsOf_nn x.h hl
                  have rp := reqsOf_pos (List.mem_of_getElem? hx)
                  go_upto_region 17 with (go_at_call 15; refine (core_release hcoreW m x hx hll9).mono ?_; rintro e w3 ⟨rfl, ents', hcore3, kp3, s3⟩)
                  have hU3 := kp3 U _ 27 (.inl rfl) hUW
                  have hR3 := kp3 R _ 28 (.inr (.inl rfl)) hRW
                  have hg3 := kp3 g _ 34 (.inr (.inr (.inl rfl))) hgW
                  have hD3 := kp3 D2 _ 34 (.inr (.inr (.inl rfl))) hDW
                  rw [hxm] at un0 un1 le2 rn0 rn1 rp
                  have hUR : U ≠ R := hU3.ne hR3 (by decide)
                  have hRU : R ≠ U := hUR.symm
                  have nDU : D2 ≠ U := hD3.ne hU3 (by decide)
                  have nDR : D2 ≠ R := hD3.ne hR3 (by decide)
                  have z0 : w3.cell? ⟨D2, 0, none⟩ = some (.int .i64 xm) := by rw [← hxm]; exact hD3.cell 0
                  have z1 : w3.cell? ⟨D2, 1, none⟩ = some (.int .i64 x.size) := hD3.cell 1
                  have p1 := (hU3.cell xm).trans (six_get _ xm hxm6)
                  have p2 := (hR3.cell xm).trans (six_get _ xm hxm6)
                  have p3 := hU3.frozen xm
                  have p4 := hR3.frozen xm
                  have al0 : 0 ≤ allOf hl := by omega
                  clear y0 y1 y2 k0 k1 k2 d0 d1 d2
                  go_cut [] (fun wx => wx = (w3.setCell ⟨U, xm, none⟩ (.int .i64 (usedOf hl xm - x.size))).drew)
                  case first =>
                    as_aux_lemma =>
                      go_region
                      all_goals
                        go_wp2_with fail
                        go_meet
                        exact rfl
                  case rest =>
                    as_aux_lemma =>
                      subst hcut
                      go_upto_region 20 with fail
                      obtain ⟨w4, hw4, hcore4, hU4, hR4, hg4⟩ := counts_sub hxm6 hxm hx hcore3 hU3 hR3 gU gR hg3
                      rw [← hw4]
                      clear hw4 hU3 hR3 hcore3 hg3 hD3 z0 z1 p1 p2 p3 p4 kp3 s3
                      obtain ⟨A, hA, hAr⟩ : ∃ A : Addr, (if gc = m + 1 then some (⟨g, 0, none⟩ : Addr) else some ⟨g, (m + 1) * 3, none⟩) = some A ∧ (gc = m + 1 ∨ A = ⟨g, (m + 1) * 3, none⟩) := by
                        by_cases h : gc = m + 1
                        · exact ⟨_, if_pos h, .inl h⟩
                        · exact ⟨_, if_neg h, .inr rfl⟩
                      obtain ⟨w5, hrun, T5, own5⟩ := erase_row 29 (show Blk w4.drew.drew g cur 34 from hg4) hml hcap hmax hcsz htk A hAr
                      clear hAr
                      refine wp_thenF (region_cut _ (by simp [Act.eval]) (by simp [Act.eval]) (by simp) hml hcap hmax hA hrun ?_)
                      go_simp
                      go_wp2_with fail
                      go_meet
                      have hw := whole_row (k := k + 1) (T := fun q => q = g) hcore4 hU4 hR4 (by omega) (by rw [List.length_eraseIdx_of_lt hml]; omega) ((((Turn.refl _ w4).drew.drew).trans T5 (fun _ h => .inl h))) (fun q h _ => by rw [h]; exact ⟨hg0, cur, hg4⟩) (own5 _ hg0)
                      rw [allOf_erase x hl m hx] at hw
                      exact hw
              · have qb : decide (op % 3 = 2 ∧ 0 < hl.length) = false := decide_eq_false q
                obtain ⟨m, hm⟩ : ∃ m : Nat, ho % 6 = m := ⟨(ho % 6).toNat, by omega⟩
                have hm6 : m < 6 := by omega
                have u1 := (hU1.cell m).trans (six_get _ m hm6)
                have u2' := (hR1.cell m).trans (six_get _ m hm6)
                obtain ⟨un0, un1⟩ := hcore1.nn m
                have fl0 := hcore1.f0
                have le1 := hcore1.le1
                have le2 := hcore1.le2 m
                have al0 : 0 ≤ allOf hl := by omega
                obtain ⟨rn0, rn1⟩ := reqsOf_nn m hl
                have hUR : U ≠ R := hU1.ne hR1 (by decide)
                have hRU : R ≠ U := hUR.symm
                have hll9 : hl.length ≤ 2000 := by omega
                go_upto_region 23 with (go_at_call 7; refine (asize_any sz _ z0 z1).mono ?_; rintro e w1 ⟨size, rfl, g0, g1, rfl⟩)
                go_cut [16] (fun s16 wx => s16 = .bool (decide (size ≤ 4194304 - usedOf hl m ∧ size ≤ 16777216 - allOf hl)) ∧ W1 = wx)
                case first =>
                  as_aux_lemma =>
                    by_cases p1 : size ≤ 4194304 - usedOf hl m
                    · have p1b : decide (size ≤ 4194304 - usedOf hl m) = true := decide_eq_true p1
                      by_cases p2 : size ≤ 16777216 - allOf hl
                      · have p2b : decide (size ≤ 16777216 - allOf hl) = true := decide_eq_true p2
                        go_wp2
                        go_meet
                        exact ⟨congrArg Value.bool (decide_eq_true (p := size ≤ 4194304 - usedOf hl m ∧ size ≤ 16777216 - allOf hl) ⟨p1, p2⟩).symm, rfl⟩
                      · have p2b : decide (size ≤ 16777216 - allOf hl) = false := decide_eq_false p2
                        go_wp2
                        go_meet
                        exact ⟨congrArg Value.bool (decide_eq_false (p := size ≤ 4194304 - usedOf hl m ∧ size ≤ 16777216 - allOf hl) (fun h => absurd h.2 (by omega))).symm, rfl⟩
                    · have p1b : decide (size ≤ 4194304 - usedOf hl m) = false := decide_eq_false p1
                      go_wp2
                      go_meet
                      exact ⟨congrArg Value.bool (decide_eq_false (p := size ≤ 4194304 - usedOf hl m ∧ size ≤ 16777216 - allOf hl) (fun h => absurd h.1 (by omega))).symm, rfl⟩
                case rest =>
                  as_aux_lemma =>
                    obtain ⟨rfl, rfl⟩ := hcut
                    have hll' : hl.length ≤ 2000 := by omega
                    have hfl' : fl ≤ 2000 := by omega
                    by_cases c : size ≤ 4194304 - usedOf hl m ∧ size ≤ 16777216 - allOf hl
                    · have cb : decide (size ≤ 4194304 - usedOf hl m ∧ size ≤ 16777216 - allOf hl) = true := decide_eq_true c
                      have hfx := fn_eqlx
                      obtain ⟨i0, hi, hzz⟩ := Option.map_eq_some_iff.1 info34
                      simp only [Prod.mk.injEq] at hzz
                      obtain ⟨hz0, hz1, hz2⟩ := hzz
                      go_upto_region 31 with (first
                        | (go_at_call 9
                           refine (host_any m a4 _ (by omega) (by omega) (hz.later hcore1.bel)).mono ?_
                           rintro e w2 ⟨rfl, hB2⟩
                           have hcore2 := hcore1.turn (T := fun _ => False) (Turn.of_below hB2) (fun _ h => h.elim)
                           have hU2 : Blk w2 U (six (usedOf hl)) 27 := (Turn.of_below (S := fun _ => False) hB2).blk hU1 (fun h => h)
                           have hR2 : Blk w2 R (six (reqsOf hl)) 28 := (Turn.of_below (S := fun _ => False) hB2).blk hR1 (fun h => h))
                        | (go_at_call 8
                           refine (core_take_ok hcore2 m size (by omega) g0 c.1 c.2 hll' _).mono ?_
                           rintro e w3 ⟨⟨xh, xs, p4, p6, p7, t⟩, ents', hx1, hx2, rfl, hcore3, kp3, s3⟩
                           simp only at hx1 hx2
                           subst hx1
                           subst hx2
                           simp only [Held.fn]
                           have hU3 := kp3 U _ 27 (.inl rfl) hU2
                           have hR3 := kp3 R _ 28 (.inr (.inl rfl)) hR2
                           have v1 := (hU3.cell m).trans (six_get _ m hm6)
                           have v2 := (hR3.cell m).trans (six_get _ m hm6)
                           have v3 := hU3.frozen m
                           have v4 := hR3.frozen m))
                      have hown3 := own_turn (own_turn hown1 (fun g cur hg => (Turn.of_below (S := fun _ => False) hB2).blk hg (fun h => h))) (fun g cur hg => kp3 g cur 34 (.inr (.inr (.inl rfl))) hg)
                      obtain ⟨w4, hw4, hcore4, hU4, hR4, hown4⟩ := counts_add (x := ⟨m, xs, p4, p6, p7, t⟩) hm6 rfl hcore3 hU3 hR3 gU gR hown3
                      simp only at hw4
                      rw [← hw4]
                      clear hw4 hU3 hR3 hcore3 hown3 v1 v2 v3 v4 hcore2 hU2 hR2 kp3 s3 hB2 u1 u2'
                      have hb4 := hcore4.bel.size
                      go_wp2_with (at_builtin; refine wpList_append_own _ rfl (.tmp 133) (.tmp 138) 29 rfl w.heap.size 34 i0 (.agg #[.int .i64 0, .int .i64 0, .nilFunc]) 3 24 Ybad.underlying29 hi hz0 hz1 hz2 rfl (by decide) _ _ _ rfl (hown4.alloc _) ⟨w4.heap.size, 0, none⟩ 1 1 [.int .i64 m, .int .i64 xs, .func (.func 15) #[] #[.pointer (some ⟨p4, 0, none⟩), .pointer (some ⟨p7, 0, none⟩), .pointer (some ⟨t, 0, none⟩), .pointer (some ⟨p6, 0, none⟩)]] rfl rfl (cells3_new _ _ _ _) (by simp [Value.oneCell']) (by unfold maxLen; omega) (by omega) (by simp; omega) ?_)
                      intro v' w5 hown6 hg _
                      go_wp2
                      go_meet
                      have Tg : Turn (fun k => (Value.slice ga hl.length gc).ownBlock = some k) w4 w5 := ((Turn.refl (fun k => (Value.slice ga hl.length gc).ownBlock = some k) w4).alloc (.cells #[.int .i64 m, .int .i64 xs, .func (.func 15) #[] #[.pointer (some ⟨p4, 0, none⟩), .pointer (some ⟨p7, 0, none⟩), .pointer (some ⟨t, 0, none⟩), .pointer (some ⟨p6, 0, none⟩)]] 34)).trans (S' := fun k => (Value.slice ga hl.length gc).ownBlock = some k) ⟨hg.os, hg.tape, hg.output, hg.size, fun k hk hn => hg.block k hk (fun h => hn h.symm)⟩ (fun _ h => .inl h)
                      have := whole_row (k := k + 1) hcore4 hU4 hR4 (by omega) (by simp; omega) Tg (fun g h _ => own_block hown4 h) (v := v') (by simpa [Held.cells, Held.fn] using hown6)
                      rw [allOf_append] at this
                      exact this
                    · have cb : decide (size ≤ 4194304 - usedOf hl m ∧ size ≤ 16777216 - allOf hl) = false := decide_eq_false c
                      have hnn := fn_neqn
                      have hee := eql_err
                      have hta := ta_err
                      go_wp2_with (first
                        | (go_at_call 9
                           refine (host_any m a4 _ (by omega) (by omega) (hz.later hcore1.bel)).mono ?_
                           rintro e w2 ⟨rfl, hB2⟩
                           have hcore2 := hcore1.turn (T := fun _ => False) (Turn.of_below hB2) (fun _ h => h.elim)
                           have hU2 : Blk w2 U (six (usedOf hl)) 27 := (Turn.of_below (S := fun _ => False) hB2).blk hU1 (fun h => h)
                           have hR2 : Blk w2 R (six (reqsOf hl)) 28 := (Turn.of_below (S := fun _ => False) hB2).blk hR1 (fun h => h))
                        | (go_at_call 8
                           refine (core_take_no hcore2 m size (by omega) g0 (by omega) c hll' hfl').mono ?_
                           rintro e w3 ⟨rfl, hcore3, kp3, s3⟩))
                      go_meet
                      have hU3 := kp3 U _ 27 (.inl rfl) hU2
                      have hR3 := kp3 R _ 28 (.inr (.inl rfl)) hR2
                      have hown3 := own_turn (own_turn hown1 (fun g cur hg => (Turn.of_below (S := fun _ => False) hB2).blk hg (fun h => h))) (fun g cur hg => kp3 g cur 34 (.inr (.inr (.inl rfl))) hg)
                      exact whole_row (T := fun _ => False) hcore3 hU3 hR3 (by omega) (by omega) ((Turn.refl _ w3).alloc _) (fun _ h => h.elim) (hown3.alloc _)
          case rest =>
            as_aux_lemma =>
              obtain ⟨hl2, ents2, fl2, rfl, rfl, hfl2, hll2, hcore2, hU2, hR2, hown2⟩ := hcut
              obtain ⟨V, hV⟩ : ∃ V, V = wc := ⟨_, rfl⟩
              subst hV
              obtain ⟨wa, ca, hrA, hb⟩ := hcore2.room
              have c1 := hcore2.ctx.cell 1
              have b2 := hb.cell 2
              have b3 := hb.cell 3
              have b6 := hb.cell 6
              simp [bodyL] at c1 b2 b3 b6
              obtain ⟨un0, un1⟩ := hcore2.nn 0
              have le1 := hcore2.le1
              have al0 : 0 ≤ allOf hl2 := by omega
              have fl0 := hcore2.f0
              clear hcore1 hU1 hR1 hown1 hD1 d0 d1 d2
              go_wp2_with fail
              go_loopw [21, 22] (fun s21 s22 wx => ∃ m : Nat, s22 = .int .i64 m ∧ m ≤ 6 ∧ s21 = .int .i64 (cnt ents2 m) ∧ Below V.heap.size V wx) (fun _ i _ => 6 - (intOf i).toNat)
              case atStart => exact ⟨0, rfl, by omega, rfl, Below.refl _ _⟩
              case round =>
                obtain ⟨m, rfl, hm6, rfl, hBx⟩ := hrel
                have tx : Turn (fun _ => False) V wr := Turn.of_below hBx
                have hcx := hcore2.turn tx (fun _ h => h.elim)
                have hbx := tx.blk hb (fun h => h)
                obtain ⟨es, ck, hXx, hkx⟩ := hcx.map
                have lX := (Array.getElem?_eq_some_iff.1 hXx).1
                have b6x := hbx.cell 6
                simp [bodyL] at b6x
                by_cases hlt : m < 6
                · go_upto_region 46 with fail
                  go_cut [23] (fun s23 wy => s23 = .pointer (lookPtr m ents2) ∧ Below wr.heap.size wr wy)
                  case first =>
                    as_aux_lemma =>
                      have hzx : Zs wr.drew a4 := ⟨(hz.later hcx.bel).z4, (hz.later hcx.bel).z0⟩
                      go_region_with (go_at_call 9; refine (host_any m a4 _ (by omega) (by omega) hzx).mono ?_; rintro e w1 ⟨he1, hB1⟩; unfold K at he1; subst he1; have b61 : w1.cell? ⟨Bk, 6, none⟩ = some (.map (some X)) := cell_later hB1 (show wr.drew.cell? ⟨Bk, 6, none⟩ = some (.map (some X)) from b6x); have hl1 := look_ptr a4 m X ck es ents2 w1 ((hB1.block X lX).trans hXx) hkx)
                      all_goals
                        go_wp2_with fail
                        go_meet
                        exact ⟨rfl, ⟨hB1.os, hB1.tape, hB1.output, hB1.size, hB1.block⟩⟩
                  case rest =>
                    as_aux_lemma =>
                      obtain ⟨rfl, hBy⟩ := hcut
                      have hBy' : Below V.heap.size V wc := hBx.trans (hBy.mono hBx.size)
                      have ty : Turn (fun _ => False) V wc := Turn.of_below hBy'
                      have hcy := hcore2.turn ty (fun _ h => h.elim)
                      have u1 := ((ty.blk hU2 (fun h => h)).cell m).trans (six_get _ m hlt)
                      have u2' := ((ty.blk hR2 (fun h => h)).cell m).trans (six_get _ m hlt)
                      obtain ⟨un0, un1⟩ := hcore2.nn m
                      have le2 := hcore2.le2 m
                      obtain ⟨rn0, rn1⟩ := reqsOf_nn m hl2
                      have hcm : cnt ents2 m ≤ 6 := by
                        have : ∀ j, cnt ents2 j ≤ j := by
                          intro j
                          induction j with
                          | zero => simp [cnt]
                          | succ j ih => simp only [cnt]; split <;> omega
                        have := this m
                        omega
                      by_cases z : reqsOf hl2 m = 0
                      · have hn := (hcore2.none m).2 z
                        have hp : lookPtr m ents2 = none := by rw [lookPtr_look, hn]; rfl
                        have zb : (reqsOf hl2 m == 0) = true := by simp [z]
                        have hcnt : cnt ents2 (m + 1) = cnt ents2 m := by simp [cnt, hn]
                        rw [hp]
                        go_wp2_with fail
                        go_roundw
                        case rel => exact ⟨m + 1, by simp, by omega, by rw [hcnt], hBy'⟩
                        case measure => simp [intOf]; omega
                      · obtain ⟨S, hS⟩ : ∃ S, look m ents2 = some S := by
                          cases hq : look m ents2 with
                          | none => exact absurd ((hcore2.none m).1 hq) z
                          | some S => exact ⟨S, rfl⟩
                        have hp : lookPtr m ents2 = some ⟨S, 0, none⟩ := by rw [lookPtr_look, hS]; rfl
                        have zb : (reqsOf hl2 m == 0) = false := by simp [z]
                        have hcnt : cnt ents2 (m + 1) = cnt ents2 m + 1 := by simp [cnt, hS]
                        obtain ⟨_, wx, cx, _, hSb⟩ := hcy.shares m S hS
                        have s2 := hSb.cell 2
                        have s3 := hSb.cell 3
                        have s4 := hSb.cell 4
                        simp [share] at s2 s3 s4
                        rw [hp]
                        go_upto_region 51 with fail
                        go_quiet (fail)
                        go_wp2_with fail
                        go_roundw
                        case rel => exact ⟨m + 1, by simp, by omega, by rw [hcnt]; simp, ⟨hBy'.os, hBy'.tape, hBy'.output, hBy'.size, hBy'.block⟩⟩
                        case measure => simp [intOf]; omega
                · obtain rfl : m = 6 := by omega
                  have hlen := fun ty => len_run X ck es wr ty hXx
                  have hsz6 : es.size = cnt ents2 6 := by
                    rw [cnt_six ents2 hcore2.keys ?_]
                    · have := keysOf_length hkx; simpa using this
                    · intro q hq
                      have hm' : look q.1 ents2 ≠ none := fun h => (look_not_mem.1 h) (List.mem_map_of_mem hq)
                      obtain ⟨x, hx, e⟩ := reqsOf_some q.1 hl2 (fun h => hm' ((hcore2.none q.1).2 h))
                      have := hcore2.held x hx
                      rw [← e]
                      exact ⟨this.1, this.2.1⟩
                  simp only [hsz6] at hlen
                  go_wp2_with fail
                  go_roundw
                  case rel => exact ⟨k + 1, by simp, by omega, hl2, ents2, fl2, rfl, rfl, hfl2, hll2, hcx, tx.blk hU2 (fun h => h), tx.blk hR2 (fun h => h), own_turn hown2 (fun g cur hg => tx.blk hg (fun h => h))⟩
                  case measure => simp [intOf]; omega
    · go_wp2_with fail
      go_ret
      exact ⟨rfl, hcore.bel⟩
end Go.Proofs.YbulkbctqDoor
