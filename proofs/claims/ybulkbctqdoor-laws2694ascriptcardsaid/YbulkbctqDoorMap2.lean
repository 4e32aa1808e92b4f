/-
  THE MAP OF HOSTS, as a list of (host, block of its share): look-up, store, delete, len as run equations.
-/
import Derived.Test.YbulkbctqDoorBase
namespace Go.Proofs.YbulkbctqDoor
open Go.RowKit Go.MuLone
set_option linter.unusedVariables false
set_option linter.unusedSimpArgs false

/-- The entries are these hosts', each with the pointer to its share. -/
def keysOf (a4 : Addr) (ents : List (Int × Nat)) (es : List MapEntry) : Prop := es.map (fun e => (e.key, e.val)) = ents.map (fun p => (K a4 p.1, Value.pointer (some ⟨p.2, 0, none⟩)))
def findIx (i : Int) : List (Int × Nat) → Nat → Option (Nat × Nat)
  | [], _ => none
  | p :: r, n => if i = p.1 then some (n, p.2) else findIx i r (n + 1)
def dropKey (i : Int) : List (Int × Nat) → List (Int × Nat)
  | [] => []
  | p :: r => if i = p.1 then r else p :: dropKey i r

theorem keysOf_cons {a4 : Addr} {ents : List (Int × Nat)} {e : MapEntry} {es : List MapEntry} (h : keysOf a4 ents (e :: es)) : ∃ p r, ents = p :: r ∧ e.key = K a4 p.1 ∧ e.val = .pointer (some ⟨p.2, 0, none⟩) ∧ keysOf a4 r es := by
  cases ents with
  | nil => simp [keysOf] at h
  | cons p r =>
    simp only [keysOf, List.map_cons, List.cons.injEq, Prod.mk.injEq] at h
    exact ⟨p, r, rfl, h.1.1, h.1.2, h.2⟩
theorem keysOf_nil {a4 : Addr} {ents : List (Int × Nat)} (h : keysOf a4 ents []) : ents = [] := by
  cases ents with
  | nil => rfl
  | cons p r => simp [keysOf] at h
theorem keysOf_length {a4 : Addr} {ents : List (Int × Nat)} {es : List MapEntry} (h : keysOf a4 ents es) : es.length = ents.length := by
  have := congrArg List.length h
  simpa using this

theorem findAsk (a4 : Addr) (i : Int) (w : World) : ∀ (es : List MapEntry) (ents : List (Int × Nat)) (n : Nat), keysOf a4 ents es → (Instr.findAsking 49 (K a4 i) es n).run Ybad.prog w = .ok ((findIx i ents n).map fun q => (q.1, Value.pointer (some ⟨q.2, 0, none⟩))) w
  | [], ents, n, h => by rw [keysOf_nil h]; rfl
  | e :: es, ents, n, h => by
    obtain ⟨p, r, rfl, hk, hv, hr⟩ := keysOf_cons h
    have ih := findAsk a4 i w es r (n + 1) hr
    have he := eqK a4 i p.1 w
    rw [← hk] at he
    unfold Instr.findAsking findIx
    by_cases hi : i = p.1
    · rw [decide_eq_true hi] at he
      rw [if_pos hi]
      simp [he, hv]
    · rw [decide_eq_false hi] at he
      rw [if_neg hi]
      simp [he, ih]

theorem findNow_agg (cs : Array Value) (d : TypeDesc) (hd : ∀ k, d ≠ .int k) (h1 : d ≠ .string) (h2 : d ≠ .bool) (es : List MapEntry) (n : Nat) : Instr.findNow d (.agg cs) es n = if es = [] then some none else none := by
  cases es with
  | nil => rfl
  | cons e es => cases d <;> simp_all [Instr.findNow, Instr.sameNow]

theorem findK (a4 : Addr) (i : Int) (w : World) (es : List MapEntry) (ents : List (Int × Nat)) (h : keysOf a4 ents es) : (Instr.findKey 49 (K a4 i) es).run Ybad.prog w = .ok ((findIx i ents 0).map fun q => (q.1, Value.pointer (some ⟨q.2, 0, none⟩))) w := by
  have hask := findAsk a4 i w es ents 0 h
  unfold Instr.findKey
  have hn := findNow_agg #[.int .u64 0, .int .u64 (lo i), .pointer (some a4), .int .u8 33]
  cases es with
  | nil =>
    rw [keysOf_nil h]
    simp [run_underlying Ybad.underlying49, Instr.findNow, findIx]
  | cons e es =>
    unfold K at hask ⊢
    simp [run_underlying Ybad.underlying49, Instr.findNow, Instr.sameNow, hask]

/-- The world with another object in block X. -/
def put (w : World) (X : Nat) (o : Obj) : World := { w with heap := w.heap.setIfInBounds X o }

theorem look_run (a4 : Addr) (i : Int) (X clock : Nat) (es : Array MapEntry) (ents : List (Int × Nat)) (w : World) (hX : w.heap[X]? = some (.map es clock)) (h : keysOf a4 ents es.toList) :
    (Instr.lookup 65 (.map (some X)) (.agg #[.int .u64 0, .int .u64 (lo i), .pointer (some a4), .int .u8 33]) false).run Ybad.prog w = .ok (match findIx i ents 0 with | some q => .pointer (some ⟨q.2, 0, none⟩) | none => .pointer none) w := by
  have hf := findK a4 i w es.toList ents h
  have hc := checkK es.isEmpty a4 i w
  have hz : (zeroValue 68).run Ybad.prog w = .ok (.pointer none) w := Ybad.zeroValue68 w
  unfold K at hf hc
  unfold Instr.lookup
  cases hq : findIx i ents 0 with
  | none =>
    rw [hq] at hf
    simp [run_underlying Ybad.underlying65, MapKept.run_getObj_map hX, hf, hc, hz]
  | some q =>
    rw [hq] at hf
    simp [run_underlying Ybad.underlying65, MapKept.run_getObj_map hX, hf, hc]

/-- The map's cell X holds the hosts 'ents'. -/
def MapIs (w : World) (a4 : Addr) (X : Nat) (ents : List (Int × Nat)) : Prop := ∃ es clock, w.heap[X]? = some (.map es clock) ∧ keysOf a4 ents es.toList
theorem keysOf_push {a4 : Addr} {ents : List (Int × Nat)} {es : Array MapEntry} (h : keysOf a4 ents es.toList) (i : Int) (s clock : Nat) : keysOf a4 (ents ++ [(i, s)]) (es.push ⟨K a4 i, .pointer (some ⟨s, 0, none⟩), clock⟩).toList := by
  unfold keysOf at h ⊢
  simp [h]
theorem keysOf_erase {a4 : Addr} (i : Int) : ∀ (ents : List (Int × Nat)) (es : List MapEntry) (n j s : Nat), keysOf a4 ents es → findIx i ents n = some (j, s) → n ≤ j ∧ j < n + es.length ∧ keysOf a4 (dropKey i ents) (es.eraseIdx (j - n))
  | [], es, n, j, s, _, hf => by simp [findIx] at hf
  | p :: r, [], n, j, s, h, _ => by simp [keysOf] at h
  | p :: r, e :: es, n, j, s, h, hf => by
    obtain ⟨p', r', hpr, hk, hv, hr⟩ := keysOf_cons h
    cases hpr
    unfold findIx at hf
    unfold dropKey
    by_cases hi : i = p.1
    · rw [if_pos hi] at hf ⊢
      cases hf
      simpa using hr
    · rw [if_neg hi] at hf ⊢
      obtain ⟨h1, h2, h3⟩ := keysOf_erase i r es (n + 1) j s hr hf
      refine ⟨by omega, by simp; omega, ?_⟩
      obtain ⟨m, rfl⟩ : ∃ m, j = n + 1 + m := ⟨j - (n + 1), by omega⟩
      have e1 : n + 1 + m - n = m + 1 := by omega
      have e2 : n + 1 + m - (n + 1) = m := by omega
      rw [e1]; rw [e2] at h3
      unfold keysOf at h3 ⊢
      simp [h3, hk, hv]
theorem store_run (a4 : Addr) (i : Int) (X clock s : Nat) (es : Array MapEntry) (ents : List (Int × Nat)) (w : World) (hX : w.heap[X]? = some (.map es clock)) (h : keysOf a4 ents es.toList) (hno : findIx i ents 0 = none) :
    (Instr.mapUpdate 65 (.map (some X)) (.agg #[.int .u64 0, .int .u64 (lo i), .pointer (some a4), .int .u8 33]) (.pointer (some ⟨s, 0, none⟩))).run Ybad.prog w = .ok () (put w X (.map (es.push ⟨K a4 i, .pointer (some ⟨s, 0, none⟩), clock⟩) (clock + 1))) := by
  have hf := findK a4 i w es.toList ents h
  have hc := checkK false a4 i w
  rw [hno] at hf
  unfold K at hf hc
  simp [Instr.mapUpdate, run_underlying Ybad.underlying65, MapKept.run_getObj_map hX, hf, hc, MapKept.run_setObj_map _ hX, Result.andThen, put, K]
theorem delete_run (a4 : Addr) (i : Int) (X clock j s : Nat) (es : Array MapEntry) (ents : List (Int × Nat)) (w : World) (ty : TypeId) (hX : w.heap[X]? = some (.map es clock)) (h : keysOf a4 ents es.toList) (hq : findIx i ents 0 = some (j, s)) :
    (Builtin.delete_ #[65, 49] ty #[.map (some X), .agg #[.int .u64 0, .int .u64 (lo i), .pointer (some a4), .int .u8 33]]).run Ybad.prog w = .ok (.tuple #[]) (put w X (.map (es.eraseIdxIfInBounds j) clock)) := by
  have hf := findK a4 i w es.toList ents h
  have hc := checkK es.isEmpty a4 i w
  rw [hq] at hf
  unfold K at hf hc
  simp [Builtin.delete_, run_underlying Ybad.underlying65, MapKept.run_getObj_map hX, hf, hc, MapKept.run_setObj_map _ hX, Result.andThen, put]
theorem len_run (X clock : Nat) (es : Array MapEntry) (w : World) (ty : TypeId) (hX : w.heap[X]? = some (.map es clock)) :
    (Builtin.len_ #[65] ty #[.map (some X)]).run Ybad.prog w = .ok (.int .i64 es.size) w := by
  simp [Builtin.len_, run_underlying Ybad.underlying65, MapKept.run_getObj_map hX, Result.andThen]
  rfl

theorem put_map {w : World} {X : Nat} {o o' : Obj} (hX : w.heap[X]? = some o) : (put w X o').heap[X]? = some o' := (MapKept.heap_set hX).1
theorem put_other {w : World} {X b : Nat} {o' : Obj} (hne : b ≠ X) : (put w X o').heap[b]? = w.heap[b]? := by
  simp [put, Array.getElem?_setIfInBounds, Ne.symm hne]
theorem put_size (w : World) (X : Nat) (o : Obj) : (put w X o).heap.size = w.heap.size := by simp [put]
theorem put_cell {w : World} {X : Nat} {o : Obj} {a : Addr} (hne : a.block ≠ X) : (put w X o).cell? a = w.cell? a := World.cell?_of_block (put_other hne)
theorem Turn.put {S : Nat → Prop} {a b : World} (h : Turn S a b) (X : Nat) (o : Obj) (hX : S X ∨ a.heap.size ≤ X) : Turn S a (put b X o) :=
  ⟨h.os, h.tape, h.output, by rw [put_size]; exact h.size, fun k hk hn => (put_other (fun e => by subst e; exact hX.elim hn (fun h' => by omega))).trans (h.block k hk hn)⟩
theorem Blk.put {w : World} {X b : Nat} {cs : Array Value} {t : TypeId} {o : Obj} (h : Blk w b cs t) (hne : b ≠ X) : Blk (put w X o) b cs t := (put_other hne).trans h
theorem MapIs.turn {S : Nat → Prop} {w w' : World} {a4 : Addr} {X : Nat} {ents : List (Int × Nat)} (h : MapIs w a4 X ents) (t : Turn S w w') (hn : ¬ S X) : MapIs w' a4 X ents := by
  obtain ⟨es, clock, h1, h2⟩ := h
  exact ⟨es, clock, (t.block X (Array.getElem?_eq_some_iff.1 h1).1 hn).trans h1, h2⟩
theorem MapIs.size {w : World} {a4 : Addr} {X : Nat} {ents : List (Int × Nat)} {es : Array MapEntry} {clock : Nat} (h : MapIs w a4 X ents) (h1 : w.heap[X]? = some (.map es clock)) : es.size = ents.length := by
  obtain ⟨es', clock', h1', h2⟩ := h
  rw [h1] at h1'
  cases h1'
  have := keysOf_length h2
  simpa using this
end Go.Proofs.YbulkbctqDoor
