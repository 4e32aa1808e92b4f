/-
  (*room).take (function 12), where there is no room and the context is done: it takes nothing and returns the context's error.
-/
import Derived.Test.YbulkbctqDoorDel
import Derived.Deep.RegionLawGrows
namespace Go.Proofs.YbulkbctqDoor
open Go.RowKit Go.MuLone
set_option linter.unusedVariables false
set_option linter.unusedSimpArgs false

/-- A room's waiting row, empty: nil, or of a block of claims' pointers. -/
def Row (w : World) (base : Nat) (v : Value) : Prop := v = .slice none 0 0 ∨ ∃ g cap cur, v = .slice (some ⟨g, 0, none⟩) 0 cap ∧ base ≤ g ∧ Blk w g cur 84 ∧ 1 ≤ cap ∧ cap ≤ maxLen ∧ cur.size = cap
theorem Row.turn {w w' : World} {base : Nat} {v : Value} {T : Nat → Prop} (h : Row w base v) (t : Turn T w w') (hn : ∀ g cur, Blk w g cur 84 → ¬ T g) : Row w' base v := by
  rcases h with h | ⟨g, cap, cur, h1, h2, h3, h4⟩
  · exact .inl h
  · exact .inr ⟨g, cap, cur, h1, h2, t.blk h3 (hn g cur h3), h4⟩
theorem Row.set {w : World} {base : Nat} {v : Value} (h : Row w base v) (b i : Nat) (x : Value) : Row (w.setCell ⟨b, i, none⟩ x) base v := by
  rcases h with h | ⟨g, cap, cur, h1, h2, h3, h4, h5, h6⟩
  · exact .inl h
  · by_cases hg : g = b
    · subst hg
      exact .inr ⟨g, cap, _, h1, h2, h3.set i x, h4, h5, by simpa using h6⟩
    · exact .inr ⟨g, cap, cur, h1, h2, h3.other i x hg, h4, h5, h6⟩
theorem Row.alloc {w : World} {base : Nat} {v : Value} (h : Row w base v) (o : Obj) : Row (w.alloc o) base v := by
  rcases h with h | ⟨g, cap, cur, h1, h2, h3, h4⟩
  · exact .inl h
  · exact .inr ⟨g, cap, cur, h1, h2, h3.alloc o, h4⟩
theorem Row.drewN {w : World} {base : Nat} {v : Value} (h : Row w base v) (q : Nat) : Row (w.drewN q) base v := h
theorem Blk.ne {w : World} {b b' : Nat} {cs cs' : Array Value} {t t' : TypeId} (h : Blk w b cs t) (h' : Blk w b' cs' t') (hne : t ≠ t') : b ≠ b' := by
  rintro rfl
  unfold Blk at h h'
  rw [h] at h'
  injection h' with h'
  injection h' with _ h'
  exact hne h'
theorem Blk.ne_map {w : World} {b X : Nat} {cs : Array Value} {t : TypeId} {es : Array MapEntry} {ck : Nat} (h : Blk w b cs t) (h' : w.heap[X]? = some (.map es ck)) : b ≠ X := by
  rintro rfl
  unfold Blk at h
  rw [h] at h'
  cases h'
theorem Blk.ne_chan {w : World} {b X n s r : Nat} {cs buf : Array Value} {t : TypeId} {cl tm : Bool} (h : Blk w b cs t) (h' : w.heap[X]? = some (.chan n buf cl s r tm)) : b ≠ X := by
  rintro rfl
  unfold Blk at h
  rw [h] at h'
  cases h'
theorem info84 : (Ybad.prog.info? 84).map (fun i => (i.zero, i.size, i.bytes)) = some (some (.pointer none), 1, 8) := by kernel_rfl

theorem wait_append (base c : Nat) (wv : Value) (W : World) (N : Nat) (ty : TypeId) (hrow : Row W base wv) (hb : base ≤ W.heap.size) (hN : Blk W N #[.pointer (some ⟨c, 0, none⟩)] 84) :
    ∃ g cap cur W', (Builtin.append_ #[62, 62] ty #[wv, .slice (some ⟨N, 0, none⟩) 1 1]).run Ybad.prog W = .ok (.slice (some ⟨g, 0, none⟩) 1 cap) W' ∧ base ≤ g ∧ Blk W' g cur 84 ∧ 1 ≤ cap ∧ cap ≤ maxLen ∧ cur.size = cap ∧ cur[0]? = some (.pointer (some ⟨c, 0, none⟩)) ∧
      Turn (fun k => wv.ownBlock = some k) W W' ∧ (wv.ownBlock = some g ∨ W.heap.size ≤ g) ∧ (∀ v, Row W base v → Row W' base v) := by
  obtain ⟨i0, hi, hz⟩ := Option.map_eq_some_iff.1 info84
  simp only [Prod.mk.injEq] at hz
  obtain ⟨hz0, hz1, hz2⟩ := hz
  have hnews : ∀ (j : Nat) u, [Value.pointer (some ⟨c, 0, none⟩)][j]? = some u → W.cell? ((⟨N, 0, none⟩ : Addr).add j) = some u := by
    intro j u hj
    rcases j with _ | j
    · simp at hj; subst hj; exact (hN.cell 0)
    · simp at hj
  rcases hrow with rfl | ⟨g, cap, cur, rfl, h2, h3, h4, h5, h6⟩
  · obtain ⟨v', W', hr, ho, hg, hiff⟩ := run_append_own (P := Ybad.prog) W W.heap.size 62 ty 84 i0 (.pointer none) 1 8 Ybad.underlying62 hi hz0 hz1 hz2 rfl (by decide) (.slice none 0 0) 0 [] (World.ownsRow_nil W _ 84 1) ⟨N, 0, none⟩ 1 1 [.pointer (some ⟨c, 0, none⟩)] rfl hnews (by simp [Value.oneCell']) (by unfold maxLen; omega) (by omega) (Nat.le_refl _)
    rcases ho.2 with ⟨_, h0⟩ | ⟨g, cap, cur, rfl, hg1, hg2, hg3, hg4, hg5, hg6⟩
    · omega
    · have T : Turn (fun k => (Value.slice none 0 0).ownBlock = some k) W W' := ⟨hg.os, hg.tape, hg.output, hg.size, fun k hk hn => hg.block k hk (fun h => hn h.symm)⟩
      refine ⟨g, cap, cur, W', hr, by omega, hg2, by simpa using hg3, hg4, by simpa using hg5, ?_, T, .inr hg1, fun v hv => hv.turn T (fun _ _ _ h => by simp [Value.ownBlock] at h)⟩
      have := congrArg (·[0]?) hg6
      simpa [List.getElem?_take] using this
  · have hpos : 0 < cur.size := by omega
    have hr := run_append_room (P := Ybad.prog) W 62 ty 84 i0 Ybad.underlying62 hi g 0 cap cur h3 ⟨N, 0, none⟩ 1 1 [.pointer (some ⟨c, 0, none⟩)] (by simp [hz1]) hnews (by simp [Value.oneCell']) (by omega) (by simp; omega)
    have hset : W.setRow g ([] ++ [Value.pointer (some ⟨c, 0, none⟩)] ++ cur.toList.drop 1).toArray = W.setCell ⟨g, 0, none⟩ (.pointer (some ⟨c, 0, none⟩)) := by
      have e : cur.setIfInBounds 0 (.pointer (some ⟨c, 0, none⟩)) = ([] ++ [Value.pointer (some ⟨c, 0, none⟩)] ++ cur.toList.drop 1).toArray := by
        apply Array.ext_getElem?
        intro k
        rcases k with _ | k
        · simp [Array.getElem?_setIfInBounds, hpos]
        · simp [Array.getElem?_setIfInBounds, Nat.add_comm]
      exact (e ▸ setCell_eq_setRow W g 0 cur 84 (0, 0) _ h3).symm
    simp only [Nat.zero_mul, List.take_zero, Nat.zero_add, List.length_cons, List.length_nil] at hr
    rw [hset] at hr
    exact ⟨g, cap, _, _, hr, h2, h3.set 0 _, h4, h5, by simpa using h6, by simp [Array.getElem?_setIfInBounds, hpos], (Turn.refl _ W).set g 0 _ (.inl rfl), .inl rfl, fun v hv => hv.set g 0 _⟩

/-- A piece from which there is no other way out, then the rest. -/
theorem wpN_thenF {P : Program} {Q : Exit → Act → World → Prop} {a : Act} {w : World} {x y : Code} (h : ∀ K : Act → World → Prop, (∀ a w, wpN P y Q a w → K a w) → x.wp P (Exit.then K (fun _ _ _ => False)) a w) : wpN P (Code.seq x y) Q a w :=
  wpN_seq (wpN_of_wp (wp_mono (h _ fun _ _ h => h) (fun e a w hq => by cases e <;> first | exact hq | exact hq.elim)))
theorem wpN_last {P : Program} {N : Act → World → Prop} {Q : Exit → Act → World → Prop} {a : Act} {w : World} {x : Code} (h : ∀ K : Act → World → Prop, (∀ a w, N a w → K a w) → x.wp P (Exit.then K Q) a w) : wpN P x (Exit.then N Q) a w :=
  wpN_of_wp (h _ fun _ _ h => h)
theorem set_fin (cs : Array Value) (i j : Nat) (a x v y : Value) (hi : cs[i]? = some y) (hij : i ≠ j) : (((cs.setIfInBounds j a).setIfInBounds i x).setIfInBounds j v).setIfInBounds i y = cs.setIfInBounds j v := by
  apply Array.ext_getElem?
  intro k
  simp only [Array.getElem?_setIfInBounds, Array.size_setIfInBounds]
  by_cases h1 : i = k
  · subst h1
    have hlt : i < cs.size := (Array.getElem?_eq_some_iff.1 hi).1
    have hy : y = cs[i] := by rw [Array.getElem?_eq_getElem hlt] at hi; exact (Option.some.inj hi).symm
    simp [hlt, Ne.symm hij, hy]
  · by_cases h2 : j = k
    · subst h2; simp [h1]
    · simp [h1, h2]
theorem Row.turn1 {w w' : World} {base g : Nat} {v : Value} {cur cur' : Array Value} (h : Row w base v) (t : Turn (fun k => k = g) w w') (h1 : Blk w g cur 84) (h2 : Blk w' g cur' 84) (hs : cur'.size = cur.size) : Row w' base v := by
  rcases h with h | ⟨g', cap, cur1, e1, e2, e3, e4, e5, e6⟩
  · exact .inl h
  · by_cases hg : g' = g
    · subst hg
      unfold Blk at e3 h1
      rw [e3] at h1
      injection h1 with h1
      injection h1 with h1 _
      subst h1
      exact .inr ⟨g', cap, cur', e1, e2, h2, e4, e5, by omega⟩
    · exact .inr ⟨g', cap, cur1, e1, e2, t.blk e3 hg, e4, e5, e6⟩
theorem step_append_run {P : Program} {ops : Array Oper} {o : Oper} {a : Act} {w w' : World} {K : Act → World → Prop} {Q : Exit → Act → World → Prop} {E : Prop}
    (hg : o.guard = none) (s x : Operand) (t : TypeId) (hop : o.op = Op.call { callee := Callee.builtin Builtin.append, args := #[s, x], argTypes := #[t, t] })
    (v1 v2 v' : Value) (hs : a.eval s = v1) (hx : a.eval x = v2) (hrun : (Builtin.append_ #[t, t] o.type #[v1, v2]).run P w = .ok v' w') (hK : K (a.put o.dst v') w') :
    if Region.wanted o (yielded ops a.tmps) = true then Oper.wp P o a w K Q else E := by
  have hw : Region.wanted o (yielded ops a.tmps) = true := by simp [Region.wanted, hg]
  rw [if_pos hw]
  unfold Oper.wp
  simp [execOp, hop, resolve, invoke, builtin, hs, hx, hrun, Result.andThen]
  exact hK

theorem meth_done (a : Addr) (w : World) : (method 240 25 (.pointer (some a)) "Done").run Ybad.prog w = .ok (58, .pointer (some a)) w := by kernel_rfl
theorem meth_err (a : Addr) (w : World) : (method 240 25 (.pointer (some a)) "Err").run Ybad.prog w = .ok (59, .pointer (some a)) w := by kernel_rfl

set_option maxRecDepth 100000 in
set_option maxHeartbeats 6400000 in
theorem room_take_no (b off C r base : Nat) (wv : Value) (size free e d : Int) (cs : Array Value) (t : TypeId) (w : World) (h0 : 0 ≤ free) (hsz : free < size) (hfr : size ≤ 100000000) (he : 0 ≤ e) (he' : e ≤ 100000) (hd : 0 ≤ d) (hd' : d ≤ 100000) (hb : Blk w b cs t)
    (c0 : cs[off]? = some (.int .i32 0)) (c2 : cs[off + 2]? = some (.int .i64 free)) (c3 : cs[off + 3]? = some wv) (hrow : Row w base wv) (hbase : base ≤ w.heap.size)
    (hC : Blk w C #[.chan (some r), .int .i64 e, .int .i64 d] 56) (hr : w.heap[r]? = some (.chan 0 #[] true 0 0 false)) (ht : t ≠ 56) (ht' : t ≠ 84) :
    Calls Ybad.prog 12 #[.pointer (some ⟨b, off, none⟩), .iface 25 (.pointer (some ⟨C, 0, none⟩)), .int .i64 size] w fun x w' => x = .returned (.iface 52 (.agg #[])) ∧
      ∃ g cap, Blk w' b (cs.setIfInBounds (off + 3) (.slice (some ⟨g, 0, none⟩) 0 cap)) t ∧ Row w' base (.slice (some ⟨g, 0, none⟩) 0 cap) ∧ Blk w' C #[.chan (some r), .int .i64 (e + 1), .int .i64 (d + 1)] 56 ∧ (∀ v, Row w base v → Row w' base v) ∧ Turn (fun k => k = b ∨ k = C ∨ wv.ownBlock = some k) w w' := by
  obtain ⟨wa, ca, rfl⟩ : ∃ wa ca, wv = .slice wa 0 ca := by
    rcases hrow with rfl | ⟨g, cap, cur, rfl, _⟩
    · exact ⟨none, 0, rfl⟩
    · exact ⟨_, _, rfl⟩
  have d0 : w.cell? ⟨b, off, none⟩ = some (.int .i32 0) := (hb.cell off).trans c0
  have d2 : w.cell? ⟨b, off + 2, none⟩ = some (.int .i64 free) := (hb.cell (off + 2)).trans c2
  have d3 : w.cell? ⟨b, off + 3, none⟩ = some (.slice wa 0 ca) := (hb.cell (off + 3)).trans c3
  have f0 := hb.frozen off
  have f2 := hb.frozen (off + 2)
  have f3 := hb.frozen (off + 3)
  have hle : decide (size ≤ free) = false := by simp; omega
  have hmk := makeChan54
  have hmd := meth_done
  have hme := meth_err
  have hbC : b ≠ C := hb.ne hC ht
  have hbr : b ≠ r := hb.ne_chan hr
  have hCr : C ≠ r := hC.ne_chan hr
  have hlr := (Array.getElem?_eq_some_iff.1 hr).1
  refine callsN_of_wp Ybad.func12 rfl ?_
  simp only [Ybad.ntmps12, List.size_toArray, List.length_cons, List.length_nil, Nat.reduceAdd, Nat.reduceSub, Array.replicate_succ, Array.replicate_zero, List.push_toArray, List.append_toArray, List.nil_append, List.cons_append]
  refine wpN_then (fun K hK => ?_)
  go_wp2
  refine wpN_then (fun K hK => ?_)
  go_wp2_with (first | (go_at_call 10; refine (lock_free Ybad.muLib ⟨b, off, none⟩ _ d0 f0).mono ?_; rintro e w1 ⟨rfl, rfl⟩))
  refine wpN_then (fun K hK => ?_)
  go_wp2
  refine wpN_then (fun K hK => ?_)
  go_wp2
  have hz1 : ((w.setCell ⟨b, off, none⟩ (.int .i32 1)).alloc (.chan 0 #[] false 0 0 false)).heap.size = w.heap.size + 1 := by simp
  have hz2 : (((w.setCell ⟨b, off, none⟩ (.int .i32 1)).alloc (.chan 0 #[] false 0 0 false)).alloc (.cells #[.int .i64 size, .chan (some w.heap.size)] 86)).heap.size = w.heap.size + 1 + 1 := by simp
  have F : ∃ W, W = (((w.setCell ⟨b, off, none⟩ (.int .i32 1)).alloc (.chan 0 #[] false 0 0 false)).alloc (.cells #[.int .i64 size, .chan (some w.heap.size)] 86)).alloc (.cells #[.pointer (some ⟨w.heap.size + 1, 0, none⟩)] 84) ∧ Turn (fun k => k = b) w W ∧ Blk W b (cs.setIfInBounds off (.int .i32 1)) t ∧
      W.heap[w.heap.size]? = some (.chan 0 #[] false 0 0 false) ∧ Blk W (w.heap.size + 1) #[.int .i64 size, .chan (some w.heap.size)] 86 ∧ Blk W (w.heap.size + 1 + 1) #[.pointer (some ⟨w.heap.size + 1, 0, none⟩)] 84 ∧ (∀ v, Row w base v → Row W base v) := by
    refine ⟨_, rfl, ((((Turn.refl (fun k => k = b) w).set b off _ (.inl rfl)).alloc _).alloc _).alloc _, (((hb.set off _).alloc _).alloc _).alloc _, ?_, ?_, ?_, fun v hv => (((hv.set b off _).alloc _).alloc _).alloc _⟩
    · refine (Below.heap_alloc _ _ _ (by rw [hz2]; omega)).trans ((Below.heap_alloc _ _ _ (by rw [hz1]; omega)).trans ?_)
      have := heap_alloc_new (w.setCell ⟨b, off, none⟩ (.int .i32 1)) (.chan 0 #[] false 0 0 false)
      rw [show (w.setCell ⟨b, off, none⟩ (.int .i32 1)).heap.size = w.heap.size by simp] at this
      exact this
    · have := Blk.new ((w.setCell ⟨b, off, none⟩ (.int .i32 1)).alloc (.chan 0 #[] false 0 0 false)) #[.int .i64 size, .chan (some w.heap.size)] 86
      rw [hz1] at this
      exact this.alloc _
    · have := Blk.new (((w.setCell ⟨b, off, none⟩ (.int .i32 1)).alloc (.chan 0 #[] false 0 0 false)).alloc (.cells #[.int .i64 size, .chan (some w.heap.size)] 86)) #[.pointer (some ⟨w.heap.size + 1, 0, none⟩)] 84
      rw [hz2] at this
      exact this
  obtain ⟨W, hW, T1, hb1, hch1, hcl1, h71, rows1⟩ := F
  rw [← hW]
  clear hW hz1 hz2
  obtain ⟨chn, c, t7, hchn, hc, ht7⟩ : ∃ chn c t7, chn = w.heap.size ∧ c = w.heap.size + 1 ∧ t7 = w.heap.size + 1 + 1 := ⟨_, _, _, rfl, rfl, rfl⟩
  rw [← ht7, ← hc] at h71
  rw [← hc, ← hchn] at hcl1
  rw [← hchn] at hch1
  rw [← ht7, ← hc, ← hchn]
  have m1 : w.heap.size ≤ chn := by omega
  have m2 : chn < c := by omega
  have m3 : c < t7 := by omega
  clear hchn hc ht7
  have hz1 : (W.alloc (.cells #[.pointer (some ⟨c, 0, none⟩)] 84)).heap.size = W.heap.size + 1 := by simp
  obtain ⟨g, cap, cur, W2, hrun, gb, hg2, cap1, cap2, cur1, cur0, T2, gor, rows2⟩ := wait_append base c (.slice wa 0 ca) (W.alloc (.cells #[.pointer (some ⟨c, 0, none⟩)] 84)).drew W.heap.size 62 ((rows1 _ hrow).alloc _) (by have := T1.size; simp; omega) ((Blk.new W _ _).drewN 1)
  have own84 : ∀ k, (Value.slice wa 0 ca).ownBlock = some k → ∃ cur, Blk w k cur 84 := by
    intro k hk
    rcases hrow with h | ⟨g', cap', cur', h, _, h3, _⟩
    · cases h; simp [Value.ownBlock] at hk
    · cases h; simp [Value.ownBlock] at hk; subst hk; exact ⟨cur', h3⟩
  have ownb : (Value.slice wa 0 ca).ownBlock ≠ some b := fun h => by obtain ⟨x, hx⟩ := own84 b h; exact (hb.ne hx ht') rfl
  have ownC : (Value.slice wa 0 ca).ownBlock ≠ some C := fun h => by obtain ⟨x, hx⟩ := own84 C h; exact (hC.ne hx (by decide)) rfl
  have ownr : (Value.slice wa 0 ca).ownBlock ≠ some r := fun h => by obtain ⟨x, hx⟩ := own84 r h; exact (hx.ne_chan hr) rfl
  have ownlt : ∀ k, (Value.slice wa 0 ca).ownBlock = some k → k < w.heap.size := fun k hk => by obtain ⟨x, hx⟩ := own84 k hk; exact hx.lt
  have hb2 : Blk W2 b (cs.setIfInBounds off (.int .i32 1)) t := T2.blk ((hb1.alloc _).drewN 1) ownb
  have g3 : W2.cell? ⟨b, off + 3, none⟩ = some (.slice wa 0 ca) := (hb2.cell (off + 3)).trans (by simp [Array.getElem?_setIfInBounds, c3])
  have k3 := hb2.frozen (off + 3)
  have e3 : W.cell? ⟨b, off + 3, none⟩ = some (.slice wa 0 ca) := (hb1.cell (off + 3)).trans (by simp [Array.getElem?_setIfInBounds, c3])
  have e7 := h71.cell 0
  simp at e7
  have lb1 := hb1.lt
  have l71 := h71.lt
  have hgb : g ≠ b := (hg2.ne hb2 ht'.symm)
  have T3 : Turn (fun k => k = b ∨ (Value.slice wa 0 ca).ownBlock = some k) W ((W2.setCell ⟨b, off + 3, none⟩ (.slice (some ⟨g, 0, none⟩) 1 cap)).setCell ⟨b, off, none⟩ (.int .i32 0)) :=
    ((((Turn.refl (fun k => k = b ∨ (Value.slice wa 0 ca).ownBlock = some k) W).alloc _).drew.trans (T2.mono (fun _ h => .inr h)) (fun _ h => .inl h)).set b (off + 3) _ (.inl (.inl rfl))).set b off _ (.inl (.inl rfl))
  have F : ∃ W4, W4 = (W2.setCell ⟨b, off + 3, none⟩ (.slice (some ⟨g, 0, none⟩) 1 cap)).setCell ⟨b, off, none⟩ (.int .i32 0) ∧ Turn (fun k => k = b ∨ (Value.slice wa 0 ca).ownBlock = some k) W W4 ∧ Blk W4 b (cs.setIfInBounds (off + 3) (.slice (some ⟨g, 0, none⟩) 1 cap)) t ∧ Blk W4 g cur 84 ∧ (∀ v, Row w base v → Row W4 base v) := by
    refine ⟨_, rfl, T3, ?_, (hg2.other _ _ hgb).other _ _ hgb, fun v hv => ((rows2 v ((rows1 v hv).alloc _)).set _ _ _).set _ _ _⟩
    have := (hb2.set (off + 3) (.slice (some ⟨g, 0, none⟩) 1 cap)).set off (.int .i32 0)
    rw [set_back cs off (off + 3) _ _ _ c0 (by omega)] at this
    exact this
  obtain ⟨W4, hW4, T4, hb4, hg4, rows4⟩ := F
  have v0 : (W2.setCell ⟨b, off + 3, none⟩ (.slice (some ⟨g, 0, none⟩) 1 cap)).cell? ⟨b, off, none⟩ = some (.int .i32 1) := ((hb2.set (off + 3) (.slice (some ⟨g, 0, none⟩) 1 cap)).cell off).trans (by have := (Array.getElem?_eq_some_iff.1 c0).1; simp [Array.getElem?_setIfInBounds, this])
  have vf := (hb2.set (off + 3) (.slice (some ⟨g, 0, none⟩) 1 cap)).frozen off
  have q1 := T1.size
  have q2 := hC.lt
  have q3 := hb.lt
  have out : ∀ k, w.heap.size ≤ k → ¬ (k = b ∨ (Value.slice wa 0 ca).ownBlock = some k) := by
    rintro k hk (h | h)
    · omega
    · have := ownlt k h; omega
  have hC4 := T4.blk (T1.blk hC hbC.symm) (by rintro (h | h); exact hbC h.symm; exact ownC h)
  have hr4 : W4.heap[r]? = some (.chan 0 #[] true 0 0 false) := (T4.block r (by omega) (by rintro (h | h); exact hbr h.symm; exact ownr h)).trans ((T1.block r hlr (fun h => hbr h.symm)).trans hr)
  have hch4 : W4.heap[chn]? = some (.chan 0 #[] false 0 0 false) := (T4.block chn (Array.getElem?_eq_some_iff.1 hch1).1 (out chn m1)).trans hch1
  have hcl4 := T4.blk hcl1 (out c (by omega))
  have h74 := T4.blk h71 (out t7 (by omega))
  have TW4 : Turn (fun k => k = b ∨ k = C ∨ (Value.slice wa 0 ca).ownBlock = some k) w W4 := (T1.mono (fun _ h => .inl h)).trans T4 (fun k h => .inl (h.elim .inl (fun h => .inr (.inr h))))
  refine wpN_thenF (fun K hK => ?_)
  go_region_law (refine step_append_run rfl (.tmp 46) (.tmp 48) 62 rfl _ _ _ (by simp [Act.eval, Act.put]) (by simp [Act.eval, Act.put]) hrun ?_)
  all_goals
    refine hK _ _ ?_
    clear hK K
    refine wpN_then (fun K hK => ?_)
    go_wp2_with (go_at_call 11; refine (unlock_held Ybad.muLib ⟨b, off, none⟩ _ v0 vf).mono ?_; rintro e w1 ⟨rfl, rfl⟩)
    rw [← hW4]
    clear T3 hW4 v0 vf hrun T2 rows2 g3 k3 hg2 hb2 rows1
    have x7 := h74.cell 0
    have xc := hcl4.cell 1
    simp at x7 xc
    refine wpN_seq ?_
    refine wpN_then (fun K hK => ?_)
    go_wp2_with (go_at_call 58; refine (done_any C r e d _ hd (by omega) hC4).mono ?_; rintro e w5 ⟨rfl, hC5, T5⟩)
    have hch5 : w5.heap[chn]? = some (.chan 0 #[] false 0 0 false) := (T5.block chn (Array.getElem?_eq_some_iff.1 hch4).1 (by omega)).trans hch4
    have hr5 : w5.heap[r]? = some (.chan 0 #[] true 0 0 false) := (T5.block r (Array.getElem?_eq_some_iff.1 hr4).1 hCr.symm).trans hr4
    refine wpN_sel2_then (c := chn) (d := r) (z := .agg #[]) (z' := .agg #[]) rfl (by simp [go_sem, execOp, Go.Conc.rcase, Act.eval]) hch5 hr5 (fun K hK => ?_)
    go_wp2
    refine wpN_last (fun K hK => ?_)
    go_wp2
    have hb5 := T5.blk hb4 hbC
    have hg5 := T5.blk hg4 (hg4.ne hC4 (by decide))
    have hcl5 := T5.blk hcl4 (hcl4.ne hC4 (by decide))
    have h75 := T5.blk h74 (h74.ne hC4 (by decide))
    have off3 : off + 3 < cs.size := (Array.getElem?_eq_some_iff.1 c3).1
    have off0 : off < cs.size := (Array.getElem?_eq_some_iff.1 c0).1
    have y0 : w5.cell? ⟨b, off, none⟩ = some (.int .i32 0) := (hb5.cell off).trans (by simp [Array.getElem?_setIfInBounds, c0])
    have yf := hb5.frozen off
    refine wpN_then (fun K hK => ?_)
    go_wp2_with (go_at_call 10; refine (lock_free Ybad.muLib ⟨b, off, none⟩ _ y0 yf).mono ?_; rintro e w1 ⟨rfl, rfl⟩)
    refine wpN_then (fun K hK => ?_)
    go_wp2
    have z7 := h75.cell 0
    have zc := hcl5.cell 1
    simp at z7 zc
    have lb5 := hb5.lt
    have lc5 := hcl5.lt
    have l75 := h75.lt
    have bc : c ≠ b := by omega
    have b7 : t7 ≠ b := by omega
    have gb5 : g ≠ b := hgb
    refine wpN_seq ?_
    refine wpN_then (fun K hK => ?_)
    go_wp2
    have hch6 : (w5.setCell ⟨b, off, none⟩ (.int .i32 1)).heap[chn]? = some (.chan 0 #[] false 0 0 false) := (Below.heap_setCell w5 ⟨b, off, none⟩ _ chn (by simp; omega)).trans hch5
    refine wpN_sel1_then (c := chn) (z := .agg #[]) rfl (by simp [go_sem, execOp, Go.Conc.rcase, Act.eval]) hch6 (fun K hK => ?_)
    go_wp2
    have hb6 := hb5.set off (.int .i32 1)
    have hg6 : Blk (w5.setCell ⟨b, off, none⟩ (.int .i32 1)) g cur 84 := hg5.other off _ gb5
    have h76 : Blk (w5.setCell ⟨b, off, none⟩ (.int .i32 1)) t7 #[.pointer (some ⟨c, 0, none⟩)] 84 := h75.other off _ b7
    have x3 : (w5.setCell ⟨b, off, none⟩ (.int .i32 1)).cell? ⟨b, off + 3, none⟩ = some (.slice (some ⟨g, 0, none⟩) 1 cap) := (hb6.cell (off + 3)).trans (by simp [Array.getElem?_setIfInBounds, off3])
    refine wpN_last (fun K hK => ?_)
    go_wp2_with (go_at_call 20; refine (delete_it g cap c t7 cur _ hg6 cur0 cap1 (by unfold maxLen at cap2; omega) ((h76.cell 0).trans rfl)).mono ?_; rintro e w7 ⟨rfl, hg7, T7⟩; have hb7 := T7.blk hb6 gb5.symm; have x37 := (hb7.cell (off + 3)).trans (show _ = some (.slice (some ⟨g, 0, none⟩) 1 cap) by simp [Array.getElem?_setIfInBounds, off3]); have x3f := hb7.frozen (off + 3))
    have hb8 := hb7.set (off + 3) (.slice (some ⟨g, 0, none⟩) 0 cap)
    have hC6 : Blk (w5.setCell ⟨b, off, none⟩ (.int .i32 1)) C #[.chan (some r), .int .i64 e, .int .i64 (d + 1)] 56 := hC5.other off _ hbC.symm
    have hgC : C ≠ g := hC6.ne hg6 (by decide)
    have hC8 : Blk (w7.setCell ⟨b, off + 3, none⟩ (.slice (some ⟨g, 0, none⟩) 0 cap)) C #[.chan (some r), .int .i64 e, .int .i64 (d + 1)] 56 := (T7.blk hC6 hgC).other (off + 3) _ hbC.symm
    have d38 := (hb8.cell (off + 3)).trans (show _ = some (.slice (some ⟨g, 0, none⟩) 0 cap) by simp [Array.getElem?_setIfInBounds, off3])
    refine wpN_of_wp ?_
    go_wp2_with (first | (go_at_call 22; refine (grant_none b off cap (some ⟨g, 0, none⟩) _ d38).mono ?_; rintro e w1 ⟨rfl, q, rfl⟩) | (go_at_call 59; refine (err_any C r e (d + 1) _ he (by omega) (hC8.drewN q)).mono ?_; rintro e w9 ⟨rfl, hC9, T9⟩))
    have hb9 := T9.blk (hb8.drewN q) hbC
    have u9 := (hb9.cell off).trans (show _ = some (.int .i32 1) by simp [Array.getElem?_setIfInBounds, off0])
    refine leaves_cons (f := 11) (args := #[.pointer (some ⟨b, off, none⟩)]) (by simp) (by simp [go_sem]) ?_
    refine (unlock_deferred Ybad.muLib ⟨b, off, none⟩ .returning _ u9 (hb9.frozen off)).mono ?_
    rintro e u' w'' ⟨rfl, rfl, rfl⟩
    have hg8 := hg7.other (off + 3) (.slice (some ⟨g, 0, none⟩) 0 cap) gb5
    have hg9 := T9.blk (hg8.drewN q) hgC.symm
    have TF : Turn (fun k => k = b ∨ k = C ∨ (Value.slice wa 0 ca).ownBlock = some k) w (w9.setCell ⟨b, off, none⟩ (.int .i32 0)) :=
      ((((((TW4.trans T5 (fun _ h => .inl (.inr (.inl h)))).set b off _ (.inl (.inl rfl))).trans T7 (fun k h => by
        subst h
        rcases gor with h | h
        · exact .inl (.inr (.inr h))
        · refine .inr ?_
          simp at h
          omega)).set b (off + 3) _ (.inl (.inl rfl))).drewN q).trans T9 (fun _ h => .inl (.inr (.inl h)))).set b off _ (.inl (.inl rfl))
    have rowsF : ∀ v, Row w base v → Row (w9.setCell ⟨b, off, none⟩ (.int .i32 0)) base v := fun v hv =>
      ((((((rows4 v hv).turn T5 (fun k x hx h => by subst h; exact (hx.ne hC4 (by decide)) rfl)).set b off _).turn1 T7 hg6 hg7 (by simp)).set b (off + 3) _).drewN q |>.turn T9 (fun k x hx h => by subst h; exact (hx.ne (hC8.drewN q) (by decide)) rfl)).set b off _
    refine ⟨_, results_tmp rfl _ _ _, rfl, g, cap, ?_, .inr ⟨g, cap, _, rfl, gb, hg9.other off _ gb5, cap1, cap2, by simpa using cur1⟩, hC9.other off _ hbC.symm, rowsF, TF⟩
    have := hb9.set off (.int .i32 0)
    rw [set_fin cs off (off + 3) _ _ _ _ c0 (by omega)] at this
    exact this
end Go.Proofs.YbulkbctqDoor
