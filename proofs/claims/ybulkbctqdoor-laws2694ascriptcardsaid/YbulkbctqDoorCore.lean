/-
  'Core': the rooms, the map of hosts, the context and the held closures as the plain lists tell them; take and release keep it.
-/
import Derived.Test.YbulkbctqDoorGhost
namespace Go.Proofs.YbulkbctqDoor
open Go.RowKit Go.MuLone
set_option linter.unusedVariables false
set_option linter.unusedSimpArgs false

structure Core (w0 w : World) (Bk X C r : Nat) (a4 : Addr) (hl : List Held) (ents : List (Int × Nat)) (fails : Int) : Prop where
  bel : Below w0.heap.size w0 w
  gB : w0.heap.size ≤ Bk
  gX : w0.heap.size ≤ X
  gC : w0.heap.size ≤ C
  room : ∃ wa ca, Row w w0.heap.size (.slice wa 0 ca) ∧ Blk w Bk (bodyL (.slice wa 0 ca) (.map (some X)) (16777216 - allOf hl) 0) 67
  map : MapIs w a4 X ents
  ctx : Blk w C #[.chan (some r), .int .i64 fails, .int .i64 fails] 56
  chan : w.heap[r]? = some (.chan 0 #[] true 0 0 false)
  shares : ∀ i S, look i ents = some S → w0.heap.size ≤ S ∧ ∃ wa ca, Row w w0.heap.size (.slice wa 0 ca) ∧ Blk w S (share (4194304 - usedOf hl i) (.slice wa 0 ca) (reqsOf hl i)) 70
  none : ∀ i, look i ents = none ↔ reqsOf hl i = 0
  inj : ∀ i i' S, look i ents = some S → look i' ents = some S → i = i'
  keys : (ents.map Prod.fst).Nodup
  held : ∀ x ∈ hl, 0 ≤ x.h ∧ x.h < 6 ∧ 0 ≤ x.size ∧ x.size ≤ 4194304 ∧ ∃ S, look x.h ents = some S ∧ Boxes w x.p4 x.p6 x.p7 x.t Bk S x.h a4 x.size
  le1 : allOf hl ≤ 16777216
  le2 : ∀ i, usedOf hl i ≤ 4194304
  f0 : 0 ≤ fails
/-- The types of the script's own variables. -/
def Oth (t : TypeId) : Prop := t = 27 ∨ t = 28 ∨ t = 34 ∨ t = 32
def Keep (w w' : World) : Prop := ∀ k cs t, Oth t → Blk w k cs t → Blk w' k cs t

theorem below_turn {w0 w w' : World} {T : Nat → Prop} (h : Below w0.heap.size w0 w) (t : Turn T w w') (hT : ∀ k, T k → w0.heap.size ≤ k) : Below w0.heap.size w0 w' :=
  ⟨t.os.trans h.os, t.tape.trans h.tape, t.output.trans h.output, Nat.le_trans h.size t.size, fun k hk => (t.block k (Nat.lt_of_lt_of_le hk h.size) (fun h' => by have := hT k h'; omega)).trans (h.block k hk)⟩

theorem Row.ge {w : World} {base : Nat} {v : Value} (h : Row w base v) {k : Nat} (hk : v.ownBlock = some k) : base ≤ k ∧ ∃ cur, Blk w k cur 84 := by
  rcases h with rfl | ⟨g', cap', cur', rfl, h2, h3, _⟩
  · simp [Value.ownBlock] at hk
  · simp [Value.ownBlock] at hk; subst hk; exact ⟨h2, cur', h3⟩

section
variable {w0 w w' : World} {Bk X C r : Nat} {a4 : Addr} {hl : List Held} {ents : List (Int × Nat)} {fails : Int}

/-- What leaves the rooms' blocks alone keeps it. -/
theorem Core.turn {T : Nat → Prop} (h : Core w0 w Bk X C r a4 hl ents fails) (t : Turn T w w') (hT : ∀ k, T k → k < w.heap.size → w0.heap.size ≤ k ∧ ∃ cs t, Oth t ∧ Blk w k cs t) : Core w0 w' Bk X C r a4 hl ents fails := by
  have t' : Turn (fun k => T k ∧ k < w.heap.size) w w' := t.narrow (fun k hk h => ⟨h, hk⟩)
  have nT : ∀ k cs ty, Blk w k cs ty → ¬ Oth ty → ¬ (T k ∧ k < w.heap.size) := by
    rintro k cs ty hb ho ⟨h1, h2⟩
    obtain ⟨_, cs', ty', h3, h4⟩ := hT k h1 h2
    exact (hb.ne h4 (fun e => ho (e ▸ h3))) rfl
  have rows : ∀ v, Row w w0.heap.size v → Row w' w0.heap.size v := fun v hv => hv.turn t' (fun g cur hg => nT g cur 84 hg (by unfold Oth; decide))
  obtain ⟨es, ck, hX, hk⟩ := h.map
  refine ⟨below_turn h.bel t' (fun k hk => (hT k hk.1 hk.2).1), h.gB, h.gX, h.gC, ?_, h.map.turn t' ?_, t'.blk h.ctx (nT _ _ _ h.ctx (by unfold Oth; decide)), ?_, ?_, h.none, h.inj, h.keys, ?_, h.le1, h.le2, h.f0⟩
  · obtain ⟨wa, ca, h1, h2⟩ := h.room
    exact ⟨wa, ca, rows _ h1, t'.blk h2 (nT _ _ _ h2 (by unfold Oth; decide))⟩
  · rintro ⟨h1, h2⟩
    obtain ⟨_, cs', ty', h3, h4⟩ := hT X h1 h2
    exact (h4.ne_map hX) rfl
  · refine (t'.block r (Array.getElem?_eq_some_iff.1 h.chan).1 ?_).trans h.chan
    rintro ⟨h1, h2⟩
    obtain ⟨_, cs', ty', h3, h4⟩ := hT r h1 h2
    exact (h4.ne_chan h.chan) rfl
  · intro i S hS
    obtain ⟨g, wa, ca, h1, h2⟩ := h.shares i S hS
    exact ⟨g, wa, ca, rows _ h1, t'.blk h2 (nT _ _ _ h2 (by unfold Oth; decide))⟩
  · intro x hx
    obtain ⟨a1, a2, a3, a4', S, hS, hbx⟩ := h.held x hx
    exact ⟨a1, a2, a3, a4', S, hS, hbx.turn t' (nT _ _ _ hbx.q4 (by unfold Oth; decide)) (nT _ _ _ hbx.q6 (by unfold Oth; decide)) (nT _ _ _ hbx.q7 (by unfold Oth; decide)) (nT _ _ _ hbx.qt (by unfold Oth; decide))⟩

theorem Core.nn (h : Core w0 w Bk X C r a4 hl ents fails) (i : Int) : 0 ≤ usedOf hl i ∧ usedOf hl i ≤ allOf hl := usedOf_nn i hl (fun x hx => (h.held x hx).2.2.1)

/-- The share as take finds it. -/
theorem Core.before (h : Core w0 w Bk X C r a4 hl ents fails) (i : Int) : ∃ wa ca, Row w w0.heap.size (.slice wa 0 ca) ∧ Before w Bk X i ents (4194304 - usedOf hl i) (.slice wa 0 ca) (reqsOf hl i) ∧ (reqsOf hl i = 0 → usedOf hl i = 0) := by
  have hz : reqsOf hl i = 0 → usedOf hl i = 0 := by
    intro hr
    have : ∀ hl : List Held, reqsOf hl i = 0 → usedOf hl i = 0 := by
      intro hl
      induction hl with
      | nil => intro _; rfl
      | cons x r ih =>
        intro h
        have := reqsOf_nn i r
        simp only [reqsOf, usedOf] at h ⊢
        by_cases hx : x.h = i
        · rw [if_pos hx] at h; omega
        · rw [if_neg hx] at h ⊢; rw [ih (by omega)]; rfl
    exact this hl hr
  cases hq : look i ents with
  | none =>
    have h0 := (h.none i).1 hq
    exact ⟨Option.none, 0, .inl rfl, .inl ⟨look_none.1 hq, by rw [hz h0]; rfl, rfl, h0⟩, hz⟩
  | some S =>
    obtain ⟨g, wa, ca, h1, h2⟩ := h.shares i S hq
    obtain ⟨j, hj⟩ := look_some hq
    obtain ⟨wa', ca', _, hb⟩ := h.room
    obtain ⟨es, ck, hX, hk⟩ := h.map
    exact ⟨wa, ca, h1, .inr ⟨j, S, hj, h2, h2.ne hb (by decide), h2.ne_map hX⟩, hz⟩

theorem look_add {i : Int} {S : Nat} (hw : Which w i ents S) (i' : Int) : look i' (addKey i S ents) = if i' = i then some S else look i' ents := by
  unfold addKey
  rcases hw with ⟨hno, -⟩ | ⟨j, hq⟩
  · rw [hno]
    simp only
    rw [look_append]
    by_cases h : i' = i
    · subst h; rw [look_none.2 hno]
    · rw [if_neg h, if_neg h]; cases look i' ents <;> rfl
  · rw [hq]
    by_cases h : i' = i
    · subst h; rw [if_pos rfl]; exact find_look hq
    · rw [if_neg h]

/-- take, where there is room. -/
theorem core_take_ok (h : Core w0 w Bk X C r a4 hl ents fails) (i size : Int) (hi : 0 ≤ i ∧ i < 6) (hs : 0 ≤ size) (h1 : size ≤ 4194304 - usedOf hl i) (h2 : size ≤ 16777216 - allOf hl) (hlen : hl.length ≤ 2000) (cv : Value) :
    Calls Ybad.prog 8 #[.pointer (some ⟨Bk, 0, none⟩), cv, K a4 i, .int .i64 size] w fun e w' => ∃ (x : Held) (ents' : List (Int × Nat)), x.h = i ∧ x.size = size ∧ e = .returned (.tuple #[x.fn, .nilIface]) ∧ Core w0 w' Bk X C r a4 (hl ++ [x]) ents' fails ∧ Keep w w' ∧ w.heap.size ≤ w'.heap.size := by
  obtain ⟨wa, ca, hrA, hb⟩ := h.room
  obtain ⟨wa', ca', hrS, hbef, hz⟩ := h.before i
  obtain ⟨es, ck, hX, hk⟩ := id h.map
  have n0 := h.nn i
  have n1 := reqsOf_nn i hl
  refine (take_ok Bk X ca ca' wa wa' a4 cv i w ents (16777216 - allOf hl) size (4194304 - usedOf hl i) (reqsOf hl i) hs h1 (by omega) h2 (by omega) n1.1 (by omega) hb (hb.ne_map hX).symm h.map hbef).mono ?_
  rintro e w' ⟨S, p4, p6, p7, t, rfl, g4, g6, g7, gt, hwh, s4, s6, s7, st, s1, s2, hS, hbx, hb', hm', T⟩
  have lS70 : S < w.heap.size → ∃ cs, Blk w S cs 70 := by
    intro hlt
    rcases hwh with ⟨-, k⟩ | ⟨j, k⟩
    · omega
    · obtain ⟨_, _, _, _, hx⟩ := h.shares i S (find_look k); exact ⟨_, hx⟩
  have gS : w0.heap.size ≤ S := by
    rcases hwh with ⟨-, k⟩ | ⟨j, k⟩
    · exact Nat.le_trans h.bel.size k
    · exact (h.shares i S (find_look k)).1
  have nT : ∀ k cs ty, Blk w k cs ty → ty ≠ 67 → ty ≠ 70 → ¬ (k = Bk ∨ k = X ∨ k = S) := by
    rintro k cs ty hk1 t1 t2 (e | e | e)
    · subst e; exact (hk1.ne hb t1) rfl
    · subst e; exact (hk1.ne_map hX) rfl
    · subst e; obtain ⟨y, hy⟩ := lS70 hk1.lt; exact (hk1.ne hy t2) rfl
  have rows : ∀ v, Row w w0.heap.size v → Row w' w0.heap.size v := fun v hv => hv.turn T (fun g cur hg => nT g cur 84 hg (by decide) (by decide))
  have hla := look_add hwh
  have hoth : ∀ i' S', i' ≠ i → look i' ents = some S' → S' ≠ S := by
    rintro i' S' hne hl' rfl
    rcases hwh with ⟨-, k⟩ | ⟨j, k⟩
    · obtain ⟨_, _, _, _, hx⟩ := h.shares i' S' hl'; have := hx.lt; omega
    · exact hne (h.inj i' i S' hl' (find_look k))
  refine ⟨⟨i, size, p4, p6, p7, t⟩, addKey i S ents, rfl, rfl, rfl, ⟨below_turn h.bel T ?_, h.gB, h.gX, h.gC, ⟨wa, ca, rows _ hrA, ?_⟩, hm', T.blk h.ctx (nT _ _ _ h.ctx (by decide) (by decide)), ?_, ?_, ?_, ?_, ?_, ?_, ?_, ?_, h.f0⟩, ?_, T.size⟩
  · rintro k (e | e | e)
    · rw [e]; exact h.gB
    · rw [e]; exact h.gX
    · rw [e]; exact gS
  · rw [allOf_append]
    rw [show (16777216 : Int) - (allOf hl + size) = 16777216 - allOf hl - size by omega]
    exact hb'
  · refine (T.block r (Array.getElem?_eq_some_iff.1 h.chan).1 ?_).trans h.chan
    rintro (e | e | e)
    · subst e; exact (hb.ne_chan h.chan) rfl
    · subst e; have := h.chan; rw [hX] at this; cases this
    · subst e; obtain ⟨y, hy⟩ := lS70 (Array.getElem?_eq_some_iff.1 h.chan).1; exact (hy.ne_chan h.chan) rfl
  · intro i' S' hS'
    rw [hla] at hS'
    by_cases hi' : i' = i
    · subst hi'
      rw [if_pos rfl] at hS'
      cases hS'
      refine ⟨gS, wa', ca', rows _ hrS, ?_⟩
      rw [usedOf_append, reqsOf_append, if_pos rfl, if_pos rfl, show (4194304 : Int) - (usedOf hl i' + size) = 4194304 - usedOf hl i' - size by omega]
      exact hS
    · rw [if_neg hi'] at hS'
      obtain ⟨g, wx, cx, q1, q2⟩ := h.shares i' S' hS'
      rw [usedOf_append, reqsOf_append, if_neg (Ne.symm hi'), if_neg (Ne.symm hi'), Int.add_zero, Int.add_zero]
      refine ⟨g, wx, cx, rows _ q1, T.blk q2 ?_⟩
      rintro (e | e | e)
      · subst e; exact (q2.ne hb (by decide)) rfl
      · subst e; exact (q2.ne_map hX) rfl
      · exact hoth i' S' hi' hS' e
  · intro i'
    rw [hla, reqsOf_append]
    have := reqsOf_nn i' hl
    by_cases hi' : i' = i
    · subst hi'; rw [if_pos rfl, if_pos rfl]; constructor
      · intro e; cases e
      · intro e; omega
    · rw [if_neg hi', if_neg (Ne.symm hi'), Int.add_zero]; exact h.none i'
  · intro i1 i2 S' e1 e2
    rw [hla] at e1 e2
    by_cases a1 : i1 = i
    · by_cases a2 : i2 = i
      · rw [a1, a2]
      · rw [if_pos a1] at e1; rw [if_neg a2] at e2; cases e1; exact absurd rfl (hoth i2 S a2 e2)
    · by_cases a2 : i2 = i
      · rw [if_neg a1] at e1; rw [if_pos a2] at e2; cases e2; exact absurd rfl (hoth i1 S a1 e1)
      · rw [if_neg a1] at e1; rw [if_neg a2] at e2; exact h.inj i1 i2 S' e1 e2
  · unfold addKey
    cases hq : findIx i ents 0 with
    | some q => exact h.keys
    | none =>
      simp only [List.map_append, List.map_cons, List.map_nil]
      refine List.nodup_append.2 ⟨h.keys, by simp, ?_⟩
      intro a ha b hb hab
      simp only [List.mem_singleton] at hb
      rw [hab, hb] at ha
      exact (look_not_mem.1 (look_none.2 hq)) ha
  · intro x hx
    rcases List.mem_append.1 hx with hx | hx
    · obtain ⟨a1, a2, a3, a4', S', hS', hbx'⟩ := h.held x hx
      refine ⟨a1, a2, a3, a4', S', ?_, hbx'.turn T (nT _ _ _ hbx'.q4 (by decide) (by decide)) (nT _ _ _ hbx'.q6 (by decide) (by decide)) (nT _ _ _ hbx'.q7 (by decide) (by decide)) (nT _ _ _ hbx'.qt (by decide) (by decide))⟩
      rw [hla]
      by_cases hxi : x.h = i
      · rw [if_pos hxi]
        rcases hwh with ⟨k, -⟩ | ⟨j, k⟩
        · rw [hxi, look_none.2 k] at hS'; cases hS'
        · rw [hxi, find_look k] at hS'; exact hS'
      · rw [if_neg hxi]; exact hS'
    · simp only [List.mem_singleton] at hx
      subst hx
      exact ⟨hi.1, hi.2, hs, by simp only; omega, S, by rw [hla, if_pos rfl], hbx⟩
  · rw [allOf_append]; simp only; omega
  · intro i'
    rw [usedOf_append]
    have := h.le2 i'
    by_cases hi' : i' = i
    · subst hi'; simp only [if_pos]; omega
    · simp only [if_neg (Ne.symm hi')]; omega
  · intro k cs ty ho hk1
    exact T.blk hk1 (nT k cs ty hk1 (by rintro rfl; revert ho; unfold Oth; decide) (by rintro rfl; revert ho; unfold Oth; decide))

/-- take, where there is none. -/
theorem core_take_no (h : Core w0 w Bk X C r a4 hl ents fails) (i size : Int) (hi : 0 ≤ i ∧ i < 6) (hs : 0 ≤ size) (hs1 : size ≤ 100000000) (hno : ¬ (size ≤ 4194304 - usedOf hl i ∧ size ≤ 16777216 - allOf hl)) (hlen : hl.length ≤ 2000) (hf : fails ≤ 2000) :
    Calls Ybad.prog 8 #[.pointer (some ⟨Bk, 0, none⟩), .iface 25 (.pointer (some ⟨C, 0, none⟩)), K a4 i, .int .i64 size] w fun e w' => e = .returned (.tuple #[.nilFunc, .iface 52 (.agg #[])]) ∧ Core w0 w' Bk X C r a4 hl ents (fails + 1) ∧ Keep w w' ∧ w.heap.size ≤ w'.heap.size := by
  obtain ⟨wa, ca, hrA, hb⟩ := h.room
  obtain ⟨wa', ca', hrS, hbef, hz⟩ := h.before i
  obtain ⟨es, ck, hX, hk⟩ := id h.map
  have n0 := h.nn i
  have n1 := reqsOf_nn i hl
  have l2 := h.le2 i
  have l1 := h.le1
  have f0 := h.f0
  have hnn : reqsOf hl i = 0 → findIx i ents 0 = none := fun e => look_none.1 ((h.none i).2 e)
  have fin : ∀ w', (∀ i' S, look i' ents = some S → ∃ wx cx, Row w' w0.heap.size (.slice wx 0 cx) ∧ Blk w' S (share (4194304 - usedOf hl i') (.slice wx 0 cx) (reqsOf hl i')) 70) → (∃ wx cx, Row w' w0.heap.size (.slice wx 0 cx) ∧ Blk w' Bk (bodyL (.slice wx 0 cx) (.map (some X)) (16777216 - allOf hl) 0) 67) → MapIs w' a4 X ents → Blk w' C #[.chan (some r), .int .i64 (fails + 1), .int .i64 (fails + 1)] 56 →
      Turn (fun k => k = Bk ∨ k = X ∨ k = C ∨ (∃ j, findIx i ents 0 = some (j, k)) ∨ (Value.slice wa' 0 ca').ownBlock = some k ∨ (Value.slice wa 0 ca).ownBlock = some k) w w' → Core w0 w' Bk X C r a4 hl ents (fails + 1) ∧ Keep w w' ∧ w.heap.size ≤ w'.heap.size := by
    intro w' q1 q2 q3 q4 T
    have nT : ∀ k cs ty, Blk w k cs ty → ty ≠ 67 → ty ≠ 70 → ty ≠ 56 → ty ≠ 84 → ¬ (k = Bk ∨ k = X ∨ k = C ∨ (∃ j, findIx i ents 0 = some (j, k)) ∨ (Value.slice wa' 0 ca').ownBlock = some k ∨ (Value.slice wa 0 ca).ownBlock = some k) := by
      rintro k cs ty hk1 t1 t2 t3 t4 (e | e | e | ⟨j, e⟩ | e | e)
      · subst e; exact (hk1.ne hb t1) rfl
      · subst e; exact (hk1.ne_map hX) rfl
      · subst e; exact (hk1.ne h.ctx t3) rfl
      · obtain ⟨_, _, _, _, hx⟩ := h.shares i k (find_look e); exact (hk1.ne hx t2) rfl
      · obtain ⟨_, y, hy⟩ := hrS.ge e; exact (hk1.ne hy t4) rfl
      · obtain ⟨_, y, hy⟩ := hrA.ge e; exact (hk1.ne hy t4) rfl
    refine ⟨⟨below_turn h.bel T ?_, h.gB, h.gX, h.gC, q2, q3, q4, ?_, fun i' S hS => ⟨(h.shares i' S hS).1, q1 i' S hS⟩, h.none, h.inj, h.keys, ?_, h.le1, h.le2, by omega⟩, ?_, T.size⟩
    · rintro k (e | e | e | ⟨j, e⟩ | e | e)
      · rw [e]; exact h.gB
      · rw [e]; exact h.gX
      · rw [e]; exact h.gC
      · exact (h.shares i k (find_look e)).1
      · exact (hrS.ge e).1
      · exact (hrA.ge e).1
    · refine (T.block r (Array.getElem?_eq_some_iff.1 h.chan).1 ?_).trans h.chan
      rintro (e | e | e | ⟨j, e⟩ | e | e)
      · subst e; exact (hb.ne_chan h.chan) rfl
      · subst e; have := h.chan; rw [hX] at this; cases this
      · subst e; exact (h.ctx.ne_chan h.chan) rfl
      · obtain ⟨_, _, _, _, hx⟩ := h.shares i r (find_look e); exact (hx.ne_chan h.chan) rfl
      · obtain ⟨_, y, hy⟩ := hrS.ge e; exact (hy.ne_chan h.chan) rfl
      · obtain ⟨_, y, hy⟩ := hrA.ge e; exact (hy.ne_chan h.chan) rfl
    · intro x hx
      obtain ⟨a1, a2, a3, a4', S', hS', hbx'⟩ := h.held x hx
      exact ⟨a1, a2, a3, a4', S', hS', hbx'.turn T (nT _ _ _ hbx'.q4 (by decide) (by decide) (by decide) (by decide)) (nT _ _ _ hbx'.q6 (by decide) (by decide) (by decide) (by decide)) (nT _ _ _ hbx'.q7 (by decide) (by decide) (by decide) (by decide)) (nT _ _ _ hbx'.qt (by decide) (by decide) (by decide) (by decide))⟩
    · intro k cs ty ho hk1
      exact T.blk hk1 (nT k cs ty hk1 (by rintro rfl; revert ho; unfold Oth; decide) (by rintro rfl; revert ho; unfold Oth; decide) (by rintro rfl; revert ho; unfold Oth; decide) (by rintro rfl; revert ho; unfold Oth; decide))
  have other : ∀ w', (∀ v, Row w w0.heap.size v → Row w' w0.heap.size v) → Turn (fun k => k = Bk ∨ k = X ∨ k = C ∨ (∃ j, findIx i ents 0 = some (j, k)) ∨ (Value.slice wa' 0 ca').ownBlock = some k ∨ (Value.slice wa 0 ca).ownBlock = some k) w w' → ∀ i' S, i' ≠ i → look i' ents = some S → ∃ wx cx, Row w' w0.heap.size (.slice wx 0 cx) ∧ Blk w' S (share (4194304 - usedOf hl i') (.slice wx 0 cx) (reqsOf hl i')) 70 := by
    intro w' rows T i' S hne hS
    obtain ⟨g, wx, cx, q1, q2⟩ := h.shares i' S hS
    refine ⟨wx, cx, rows _ q1, T.blk q2 ?_⟩
    rintro (e | e | e | ⟨j, e⟩ | e | e)
    · subst e; exact (q2.ne hb (by decide)) rfl
    · subst e; exact (q2.ne_map hX) rfl
    · subst e; exact (q2.ne h.ctx (by decide)) rfl
    · exact hne (h.inj i' i S hS (find_look e))
    · obtain ⟨_, y, hy⟩ := hrS.ge e; exact (q2.ne hy (by decide)) rfl
    · obtain ⟨_, y, hy⟩ := hrA.ge e; exact (q2.ne hy (by decide)) rfl
  by_cases hc : size ≤ 4194304 - usedOf hl i
  · refine (take_no2 Bk X C r ca ca' w0.heap.size wa wa' a4 i w ents (16777216 - allOf hl) size (4194304 - usedOf hl i) (reqsOf hl i) fails fails hs (by omega) (by omega) hs1 (by omega) (by omega) n1.1 (by omega) f0 (by omega) f0 (by omega) hb (hb.ne_map hX).symm h.map hbef hnn h.ctx h.chan h.bel.size hrA hrS hc (by omega)).mono ?_
    rintro e w' ⟨rfl, q1, ⟨g, cap, q2, q3⟩, q4, q5, q6, T⟩
    refine ⟨rfl, fin w' ?_ ⟨_, _, q3, q2⟩ q4 q5 T⟩
    intro i' S hS
    by_cases hi' : i' = i
    · subst hi'
      obtain ⟨j, hj⟩ := look_some hS
      exact ⟨wa', ca', q6 _ hrS, q1 j S hj⟩
    · exact other w' q6 T i' S hi' hS
  · refine (take_no1 Bk X C r ca ca' w0.heap.size wa wa' a4 i w ents (16777216 - allOf hl) size (4194304 - usedOf hl i) (reqsOf hl i) fails fails hs (by omega) (by omega) hs1 (by omega) (by omega) n1.1 (by omega) f0 (by omega) f0 (by omega) hb (hb.ne_map hX).symm h.map hbef hnn h.ctx h.chan h.bel.size hrA hrS (by omega)).mono ?_
    rintro e w' ⟨rfl, q1, q2, q4, q5, q6, T⟩
    refine ⟨rfl, fin w' ?_ ⟨wa, ca, q6 _ hrA, q2⟩ q4 q5 T⟩
    intro i' S hS
    by_cases hi' : i' = i
    · subst hi'
      obtain ⟨j, hj⟩ := look_some hS
      obtain ⟨g, cap, z1, z2⟩ := q1 j S hj
      exact ⟨_, _, z2, z1⟩
    · exact other w' q6 T i' S hi' hS
end
end Go.Proofs.YbulkbctqDoor
