/-
  A 'select' INSIDE A WALK: 'wpN' is the walk's goal for frames of the kind that a call makes (a select asks for that); its rules; the regions that open with a select.
-/
import Derived.Test.YbulkbctqDoorTake
import Derived.Conc.LoneSelectN
import Derived.Defers
namespace Go.Proofs.YbulkbctqDoor
open Go.RowKit Go.MuLone Go.Conc
set_option linter.unusedVariables false
set_option linter.unusedSimpArgs false

/-- The goal of a walk, for frames that are not 'early'. -/
def wpN (P : Program) (c : Code) (Q : Exit → Act → World → Prop) (a : Act) (w : World) : Prop :=
  ∀ (b : Frame) (k : List Item) (cs : List Frame), b.kind ≠ .early →
    ∃ e a' w', Q e a' w' ∧ Arrives P (lone (b.at a (.code c :: k)) cs w) b k cs e a' w'
section
variable {P : Program} {Q : Exit → Act → World → Prop} {a : Act} {w : World}
theorem wpN_of_wp {c : Code} (h : c.wp P Q a w) : wpN P c Q a w := fun b k cs _ => h b k cs
theorem wpN_seq {x y : Code} (h : wpN P x (Exit.then (wpN P y Q) Q) a w) : wpN P (Code.seq x y) Q a w := by
  intro b k cs hb
  obtain ⟨e, a₁, w₁, hq, harr⟩ := h b (.code y :: k) cs hb
  cases e with
  | normal =>
    obtain ⟨e₂, a₂, w₂, hq₂, harr₂⟩ := hq b k cs hb
    exact ⟨e₂, a₂, w₂, hq₂, .of_steps (.head step_seq harr) harr₂⟩
  | exit id => exact ⟨_, a₁, w₁, hq, .of_steps (.one step_seq) (.pass (x := .code y) rfl (fun _ _ => .inl (by simp)) harr)⟩
  | goto l => exact ⟨_, a₁, w₁, hq, .of_steps (.one step_seq) (.pass (x := .code y) rfl (fun _ _ => .inl (by simp)) harr)⟩
  | ret => exact ⟨_, a₁, w₁, hq, .of_steps (.one step_seq) (.pass (x := .code y) rfl (fun _ _ => .inl (by simp)) harr)⟩
  | panic ch => exact ⟨_, a₁, w₁, hq, .of_steps (.one step_seq) (.pass (x := .code y) rfl (fun _ _ => .inl (by simp)) harr)⟩
  | outgrown => exact ⟨_, a₁, w₁, hq, .of_steps (.one step_seq) (.pass (x := .code y) rfl (fun _ _ => .inl (by simp)) harr)⟩
/-- A piece that the walk takes, then the rest. -/
theorem wpN_then {x y : Code} (h : ∀ K : Act → World → Prop, (∀ a w, wpN P y Q a w → K a w) → x.wp P (Exit.then K Q) a w) : wpN P (Code.seq x y) Q a w :=
  wpN_seq (wpN_of_wp (h _ fun _ _ h => h))
theorem callsN_of_wp {f : FuncId} {fn : Func} {c : Code} {args : Array Value} {w : World} {R : Ending → World → Prop}
    (hf : P.funcs[f]? = some fn) (hb : fn.body = some c)
    (h : wpN P c (bodyPostD P fn R) { tmps := args ++ Array.replicate (fn.ntmps - args.size) undef, defers := [] } w) : Calls P f args w R := by
  intro cs
  let b : Frame := { (default : Frame) with fn := f, kind := .normal }
  have henter : Frame.enter P f args .normal =
      b.at { tmps := args ++ Array.replicate (fn.ntmps - args.size) undef, defers := [] } [.code c] := by
    simp [Frame.enter, Frame.at, hf, hb, b]
  obtain ⟨e, a', w', hq, harr⟩ := h b [] cs (by simp [b])
  rw [← henter] at harr
  cases e with
  | normal =>
    obtain ⟨e', w'', fr', hR, hs, hfn, hl⟩ := leaves_steps a'.defers .returning w' { b.at a' [] with mode := .returning } cs rfl rfl rfl hf rfl hq
    exact ⟨e', w'', fr', hR, Comes.of_steps (Steps.trans harr (.one step_end)) hs, hfn, hl⟩
  | ret =>
    obtain ⟨todo, hs₀⟩ := harr
    obtain ⟨e', w'', fr', hR, hs, hfn, hl⟩ := leaves_steps a'.defers .returning w' { b.at a' todo with mode := .returning } cs rfl rfl rfl hf rfl hq
    exact ⟨e', w'', fr', hR, Comes.of_steps hs₀ hs, hfn, hl⟩
  | panic chain =>
    obtain ⟨todo, hs₀⟩ := harr
    obtain ⟨e', w'', fr', hR, hs, hfn, hl⟩ := leaves_steps a'.defers (.panicking chain) w' { b.at a' todo with mode := .panicking chain } cs rfl rfl rfl hf rfl hq
    exact ⟨e', w'', fr', hR, Comes.of_steps hs₀ hs, hfn, hl⟩
  | exit id => exact hq.elim
  | goto l => exact hq.elim
  | outgrown => exact ⟨.outgrown, w', b, hq, harr.resolve_left (by simp [b]), rfl, trivial⟩

theorem res_two (x y : Nat) (z z' : Value) : commResult #[rcase x z, rcase y z'] .select ((1 : Nat) : Int) z' false = .tuple #[goInt 1, .bool false, z, z'] := by
  simp [commResult, rcase, List.zipIdx_cons]
theorem res_none (x : Nat) (z : Value) : commResult #[rcase x z] .select (-1) undef false = .tuple #[goInt (-1), .bool false, z] := by
  simp [commResult, rcase, List.zipIdx_cons]

/-- A region whose first operation is a select of two receives: the first channel open and empty, the second closed. -/
theorem wpN_sel2 {id : Nat} {ops : Array Oper} {o : Oper} {rest : List Nat} {c d cap cap' s s' r r' : Nat} {tm tm' : Bool} {z z' : Value} (ho : ops[0]? = some o) (hl : List.range ops.size = 0 :: rest) (hw : Region.wanted o (yielded ops a.tmps) = true)
    (hr : (execOp a.eval o).run P w = .ok (.comm #[rcase c z, rcase d z'] true .select) w) (hc : w.heap[c]? = some (.chan cap #[] false s r tm)) (hd : w.heap[d]? = some (.chan cap' #[] true s' r' tm'))
    (h : wpOps P ops Q rest (a.put o.dst (.tuple #[goInt 1, .bool false, z, z'])) w) : wpN P (Code.region id ops false) Q a w := by
  intro b k cs hb
  obtain ⟨e, a', w', q, harr⟩ := wp_ops rest _ w h b k cs
  refine ⟨e, a', w', q, .of_steps (.head step_region (.one ?_)) harr⟩
  have hst := step_lone_sel_recv_shut (fr := b.at a (.inRegion ops (0 :: rest) :: k)) (cs := cs) (k := 1) (c := d) (z := z') (cap := cap') (s := s') (r := r') (tm := tm') (stepG_comm (cases := #[rcase c z, rcase d z']) (blocking := true) (shape := .select) (w' := w) ho hw hb hr) rfl (fun m c' hm hc' => ?_) hd
  · rw [hl, lone_eq_solo, hst, Frame.finish_at, res_two, ho]
    rfl
  · rcases m with _ | _ | m
    · simp only [List.getElem?_toArray, List.getElem?_cons_zero, Option.some.injEq] at hc'
      subst hc'
      exact noWay_recv hc
    · exact absurd rfl hm
    · simp at hc'

/-- A region whose first operation is a select of one receive with a default, the channel open and empty. -/
theorem wpN_sel1 {id : Nat} {ops : Array Oper} {o : Oper} {rest : List Nat} {c cap s r : Nat} {tm : Bool} {z : Value} (ho : ops[0]? = some o) (hl : List.range ops.size = 0 :: rest) (hw : Region.wanted o (yielded ops a.tmps) = true)
    (hr : (execOp a.eval o).run P w = .ok (.comm #[rcase c z] false .select) w) (hc : w.heap[c]? = some (.chan cap #[] false s r tm))
    (h : wpOps P ops Q rest (a.put o.dst (.tuple #[goInt (-1), .bool false, z])) w) : wpN P (Code.region id ops false) Q a w := by
  intro b k cs hb
  obtain ⟨e, a', w', q, harr⟩ := wp_ops rest _ w h b k cs
  refine ⟨e, a', w', q, .of_steps (.head step_region (.one ?_)) harr⟩
  have hst := step_lone_sel_default (fr := b.at a (.inRegion ops (0 :: rest) :: k)) (cs := cs) (stepG_comm (cases := #[rcase c z]) (blocking := false) (shape := .select) (w' := w) ho hw hb hr) (fun cc hcc => ?_)
  · rw [hl, lone_eq_solo, hst, Frame.finish_at, res_none, ho]
    rfl
  · simp only [List.mem_toArray, List.mem_cons, List.not_mem_nil, or_false] at hcc
    subst hcc
    exact noWay_recv hc
theorem range_cons (n : Nat) : List.range (n + 1) = 0 :: List.range' 1 n := by
  rw [List.range_eq_range', List.range'_succ]
/-- .. and the rest of the region by the walk, then what follows. -/
theorem wpN_sel2_then {id : Nat} {o : Oper} {l : List Oper} {y : Code} {c d cap cap' s s' r r' : Nat} {tm tm' : Bool} {z z' : Value} (hw : Region.wanted o (yielded (o :: l).toArray a.tmps) = true)
    (hr : (execOp a.eval o).run P w = .ok (.comm #[rcase c z, rcase d z'] true .select) w) (hc : w.heap[c]? = some (.chan cap #[] false s r tm)) (hd : w.heap[d]? = some (.chan cap' #[] true s' r' tm'))
    (h : ∀ K : Act → World → Prop, (∀ a w, wpN P y Q a w → K a w) → wpList P (o :: l).toArray (Exit.then K Q) l (a.put o.dst (.tuple #[goInt 1, .bool false, z, z'])) w) : wpN P (Code.seq (Code.region id (o :: l).toArray false) y) Q a w := by
  refine wpN_seq (wpN_sel2 (rest := List.range' 1 l.length) rfl (by simpa using range_cons l.length) hw hr hc hd ?_)
  rw [wpOps_eq_wpList l 1 (by intro j; simp [Nat.add_comm])]
  exact h _ (fun _ _ h => h)
theorem wpN_sel1_then {id : Nat} {o : Oper} {l : List Oper} {y : Code} {c cap s r : Nat} {tm : Bool} {z : Value} (hw : Region.wanted o (yielded (o :: l).toArray a.tmps) = true)
    (hr : (execOp a.eval o).run P w = .ok (.comm #[rcase c z] false .select) w) (hc : w.heap[c]? = some (.chan cap #[] false s r tm))
    (h : ∀ K : Act → World → Prop, (∀ a w, wpN P y Q a w → K a w) → wpList P (o :: l).toArray (Exit.then K Q) l (a.put o.dst (.tuple #[goInt (-1), .bool false, z])) w) : wpN P (Code.seq (Code.region id (o :: l).toArray false) y) Q a w := by
  refine wpN_seq (wpN_sel1 (rest := List.range' 1 l.length) rfl (by simpa using range_cons l.length) hw hr hc ?_)
  rw [wpOps_eq_wpList l 1 (by intro j; simp [Nat.add_comm])]
  exact h _ (fun _ _ h => h)
end
end Go.Proofs.YbulkbctqDoor
