/-
  The release keeps 'Core'.
-/
import Derived.Test.YbulkbctqDoorCore
namespace Go.Proofs.YbulkbctqDoor
open Go.RowKit Go.MuLone
set_option linter.unusedVariables false
set_option linter.unusedSimpArgs false
section
variable {w0 w w' : World} {Bk X C r : Nat} {a4 : Addr} {hl : List Held} {ents : List (Int × Nat)} {fails : Int}

theorem look_less (n i i' : Int) (hk : (ents.map Prod.fst).Nodup) : look i' (lessOne n i ents) = if i' = i ∧ n = 1 then none else look i' ents := by
  unfold lessOne
  by_cases hn : n = 1
  · rw [if_pos hn]
    by_cases hi : i' = i
    · rw [if_pos ⟨hi, hn⟩, hi]
      exact look_not_mem.2 (dropKey_keys i ents hk).2.1
    · rw [if_neg (fun h => hi h.1)]
      exact look_drop_ne hi ents
  · rw [if_neg hn, if_neg (fun h => hn h.2)]

theorem core_release (h : Core w0 w Bk X C r a4 hl ents fails) (k : Nat) (x : Held) (hx : hl[k]? = some x) (hlen : hl.length ≤ 2000) :
    Calls Ybad.prog 15 #[.pointer (some ⟨x.p4, 0, none⟩), .pointer (some ⟨x.p7, 0, none⟩), .pointer (some ⟨x.t, 0, none⟩), .pointer (some ⟨x.p6, 0, none⟩)] w fun e w' => e = .returned (.tuple #[]) ∧ ∃ ents', Core w0 w' Bk X C r a4 (hl.eraseIdx k) ents' fails ∧ Keep w w' ∧ w.heap.size ≤ w'.heap.size := by
  obtain ⟨wa, ca, hrA, hb⟩ := h.room
  have hmem : x ∈ hl := List.mem_of_getElem? hx
  obtain ⟨a1, a2, a3, a4', S, hS, hbx⟩ := h.held x hmem
  obtain ⟨gS, wa', ca', hrS, hSb⟩ := h.shares x.h S hS
  obtain ⟨es, ck, hX, hk⟩ := id h.map
  obtain ⟨j, hj⟩ := look_some hS
  have n0 := h.nn x.h
  have n1 := reqsOf_nn x.h hl
  have np := reqsOf_pos hmem
  have l1 := h.le1
  have l2 := h.le2 x.h
  have hBS : Bk ≠ S := hb.ne hSb (by decide)
  refine (release_any x.p4 x.p7 x.t x.p6 Bk S X j S ca ca' wa wa' a4 x.h _ _ 67 70 w ents (reqsOf hl x.h) (16777216 - allOf hl) (4194304 - usedOf hl x.h) x.size np (by omega) a3 a4' (by omega) (by omega) (by omega) (by omega) hb hSb hBS (hb.ne_map hX).symm (hSb.ne_map hX).symm h.map hj rfl rfl rfl rfl rfl rfl rfl rfl rfl hbx.q4 hbx.q7 hbx.qt hbx.q6
    (hbx.q4.ne hb (by decide)) (hbx.q4.ne hSb (by decide)) (hbx.q7.ne hb (by decide)) (hbx.q7.ne hSb (by decide)) (hbx.qt.ne hb (by decide)) (hbx.qt.ne hSb (by decide)) (hbx.q6.ne hb (by decide)) (hbx.q6.ne hSb (by decide))).mono ?_
  rintro e w' ⟨rfl, hb', hS', hm', T⟩
  rw [body_free] at hb'
  rw [share_free, share_req] at hS'
  have nT : ∀ k cs ty, Blk w k cs ty → ty ≠ 67 → ty ≠ 70 → ¬ (k = S ∨ k = Bk ∨ k = X) := by
    rintro k cs ty hk1 t1 t2 (e | e | e)
    · subst e; exact (hk1.ne hSb t2) rfl
    · subst e; exact (hk1.ne hb t1) rfl
    · subst e; exact (hk1.ne_map hX) rfl
  have rows : ∀ v, Row w w0.heap.size v → Row w' w0.heap.size v := fun v hv => hv.turn T (fun g cur hg => nT g cur 84 hg (by decide) (by decide))
  have hla := fun i' => look_less (reqsOf hl x.h) x.h i' h.keys
  have hu := fun i => usedOf_erase x i hl k hx
  have hq := fun i => reqsOf_erase x i hl k hx
  have hal := allOf_erase x hl k hx
  have hsub : ∀ y ∈ hl.eraseIdx k, y ∈ hl := fun y hy => List.mem_of_mem_eraseIdx hy
  refine ⟨rfl, lessOne (reqsOf hl x.h) x.h ents, ⟨below_turn h.bel T ?_, h.gB, h.gX, h.gC, ⟨wa, ca, rows _ hrA, ?_⟩, hm', T.blk h.ctx (nT _ _ _ h.ctx (by decide) (by decide)), ?_, ?_, ?_, ?_, ?_, ?_, ?_, ?_, h.f0⟩, ?_, T.size⟩
  · rintro k (e | e | e)
    · rw [e]; exact gS
    · rw [e]; exact h.gB
    · rw [e]; exact h.gX
  · rw [hal, show (16777216 : Int) - (allOf hl - x.size) = 16777216 - allOf hl + x.size by omega]
    exact hb'
  · refine (T.block r (Array.getElem?_eq_some_iff.1 h.chan).1 ?_).trans h.chan
    rintro (e | e | e)
    · subst e; exact (hSb.ne_chan h.chan) rfl
    · subst e; exact (hb.ne_chan h.chan) rfl
    · subst e; have := h.chan; rw [hX] at this; cases this
  · intro i' S1 hS1
    rw [hla] at hS1
    by_cases hc : i' = x.h ∧ reqsOf hl x.h = 1
    · rw [if_pos hc] at hS1; cases hS1
    rw [if_neg hc] at hS1
    by_cases hi' : i' = x.h
    · subst hi'
      rw [hS] at hS1
      cases hS1
      refine ⟨gS, wa', ca', rows _ hrS, ?_⟩
      rw [hu, hq, if_pos rfl, if_pos rfl, show (4194304 : Int) - (usedOf hl x.h - x.size) = 4194304 - usedOf hl x.h + x.size by omega]
      exact hS'
    · obtain ⟨g, wx, cx, q1, q2⟩ := h.shares i' S1 hS1
      rw [hu, hq, if_neg (Ne.symm hi'), if_neg (Ne.symm hi'), Int.sub_zero, Int.sub_zero]
      refine ⟨g, wx, cx, rows _ q1, T.blk q2 ?_⟩
      rintro (e | e | e)
      · subst e; exact hi' (h.inj i' x.h S1 hS1 hS)
      · subst e; exact (q2.ne hb (by decide)) rfl
      · subst e; exact (q2.ne_map hX) rfl
  · intro i'
    rw [hla, hq]
    by_cases hi' : i' = x.h
    · subst hi'
      rw [if_pos rfl]
      by_cases h1 : reqsOf hl x.h = 1
      · rw [if_pos ⟨rfl, h1⟩]; simp [h1]
      · rw [if_neg (fun h => h1 h.2)]
        constructor
        · intro e; rw [hS] at e; cases e
        · intro e; omega
    · rw [if_neg (fun h => hi' h.1), if_neg (Ne.symm hi'), Int.sub_zero]; exact h.none i'
  · intro i1 i2 S1 e1 e2
    rw [hla] at e1 e2
    split at e1
    · cases e1
    · split at e2
      · cases e2
      · exact h.inj i1 i2 S1 e1 e2
  · unfold lessOne
    split
    · exact (dropKey_keys x.h ents h.keys).1
    · exact h.keys
  · intro y hy
    obtain ⟨b1, b2, b3, b4, S1, hS1, hbx'⟩ := h.held y (hsub y hy)
    refine ⟨b1, b2, b3, b4, S1, ?_, hbx'.turn T (nT _ _ _ hbx'.q4 (by decide) (by decide)) (nT _ _ _ hbx'.q6 (by decide) (by decide)) (nT _ _ _ hbx'.q7 (by decide) (by decide)) (nT _ _ _ hbx'.qt (by decide) (by decide))⟩
    rw [hla, if_neg]
    · exact hS1
    · rintro ⟨c1, c2⟩
      have := reqsOf_pos hy
      rw [hq, c1, if_pos rfl] at this
      omega
  · rw [hal]; omega
  · intro i'
    rw [hu]
    have := h.le2 i'
    split <;> omega
  · intro k cs ty ho hk1
    exact T.blk hk1 (nT k cs ty hk1 (by rintro rfl; revert ho; unfold Oth; decide) (by rintro rfl; revert ho; unfold Oth; decide))
end
end Go.Proofs.YbulkbctqDoor
