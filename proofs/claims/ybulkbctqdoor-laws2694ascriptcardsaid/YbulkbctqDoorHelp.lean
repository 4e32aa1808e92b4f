/-
  What LawS2694AScript's walk (Script) needs: the counts, the row of the held ones.
-/
import Derived.Test.YbulkbctqDoorCore2
import Derived.LoopTactic
import Derived.Laws.EntriesVeiled
namespace Go.Proofs.YbulkbctqDoor
open Go.RowKit Go.MuLone
set_option linter.unusedVariables false
set_option linter.unusedSimpArgs false

def six (f : Int → Int) : Array Value := #[.int .i64 (f 0), .int .i64 (f 1), .int .i64 (f 2), .int .i64 (f 3), .int .i64 (f 4), .int .i64 (f 5)]
theorem six_get (f : Int → Int) (m : Nat) (hm : m < 6) : (six f)[m]? = some (.int .i64 (f m)) := by
  rcases (by omega : m = 0 ∨ m = 1 ∨ m = 2 ∨ m = 3 ∨ m = 4 ∨ m = 5) with rfl | rfl | rfl | rfl | rfl | rfl <;> rfl
theorem six_set (f g : Int → Int) (m : Nat) (hm : m < 6) (h : ∀ i : Int, i ≠ m → g i = f i) : (six f).setIfInBounds m (.int .i64 (g m)) = six g := by
  rcases (by omega : m = 0 ∨ m = 1 ∨ m = 2 ∨ m = 3 ∨ m = 4 ∨ m = 5) with rfl | rfl | rfl | rfl | rfl | rfl <;> simp [six, h]

theorem asize_any (x : Int) (w : World) (h0 : 0 ≤ x) (h1 : x ≤ 4294967295) : Calls Ybad.prog 7 #[.int .u32 x] w fun e w' => ∃ s : Int, e = .returned (.int .i64 s) ∧ 0 ≤ s ∧ s ≤ 6291456 ∧ w = w' := by
  go_enter Ybad.func7, Ybad.ntmps7
  go_wp2
  · go_ret
    exact ⟨_, rfl, by omega, by omega, rfl⟩
  · go_ret
    exact ⟨_, rfl, by omega, by omega, rfl⟩

theorem fn_neqn (w : World) : (binOp .neq 1 .nilFunc .nilFunc).run Ybad.prog w = .ok (.bool false) w := by kernel_rfl
theorem fn_eqlx (cs : Array Value) (w : World) : (binOp .eql 1 (.func (.func 15) #[] cs) .nilFunc).run Ybad.prog w = .ok (.bool false) w := by kernel_rfl
theorem eql_err (w : World) : (binOp .eql 37 (.iface 52 (.agg #[])) .nilIface).run Ybad.prog w = .ok (.bool false) w := by kernel_rfl
theorem ta_err (w : World) : (Instr.typeAssert (.iface 52 (.agg #[])) 37 52 true).run Ybad.prog w = .ok (.tuple #[.agg #[], .bool true]) w := by kernel_rfl
theorem info34 : (Ybad.prog.info? 34).map (fun i => (i.zero, i.size, i.bytes)) = some (some (.agg #[.int .i64 0, .int .i64 0, .nilFunc]), 3, 24) := by kernel_rfl
theorem cells3_new (w : World) (x y z : Value) (j : Nat) (u : Value) (h : [x, y, z][j]? = some u) : (w.alloc (.cells #[x, y, z] 34)).cell? ((⟨w.heap.size, 0, none⟩ : Addr).add j) = some u := by
  have hb := Blk.new w #[x, y, z] 34
  have e : (⟨w.heap.size, 0, none⟩ : Addr).add j = ⟨w.heap.size, j, none⟩ := by cases j <;> simp [Addr.add]
  rw [e, hb.cell j]
  simpa using h

theorem own_turn {w w' : World} {base n : Nat} {v : Value} {xs : List Value} (h : w.ownsRow base 34 3 v n xs) (hk : ∀ g cur, Blk w g cur 34 → Blk w' g cur 34) : w'.ownsRow base 34 3 v n xs := by
  refine ⟨h.1, ?_⟩
  rcases h.2 with q | ⟨g, cap, cur, h1, h2, h3, h4⟩
  · exact .inl q
  · exact .inr ⟨g, cap, cur, h1, h2, hk g cur h3, h4⟩
theorem own_block {w : World} {base n : Nat} {v : Value} {xs : List Value} (h : w.ownsRow base 34 3 v n xs) {k : Nat} (hk : v.ownBlock = some k) : base ≤ k ∧ ∃ cur, Blk w k cur 34 := by
  rcases h.2 with ⟨rfl, _⟩ | ⟨g, cap, cur, rfl, h2, h3, h4⟩
  · simp [Value.ownBlock] at hk
  · simp [Value.ownBlock] at hk; subst hk; exact ⟨h2, cur, h3⟩

theorem flat_get (x : Held) : ∀ (hl : List Held) (m : Nat), hl[m]? = some x → ∀ j, j < 3 → (hl.flatMap Held.cells)[m * 3 + j]? = x.cells[j]?
  | [], m, h, j, hj => by simp at h
  | y :: r, 0, h, j, hj => by
    simp at h; subst h
    simp only [List.flatMap_cons, Nat.zero_mul, Nat.zero_add]
    rw [List.getElem?_append_left (by simp [Held.cells]; omega)]
  | y :: r, m + 1, h, j, hj => by
    simp at h
    simp only [List.flatMap_cons]
    rw [List.getElem?_append_right (by simp [Held.cells]; omega), ← flat_get x r m h j hj]
    congr 1
    simp [Held.cells]
    omega
theorem flat_length : ∀ hl : List Held, (hl.flatMap Held.cells).length = hl.length * 3
  | [] => rfl
  | y :: r => by simp only [List.flatMap_cons, List.length_append, flat_length r, List.length_cons]; simp [Held.cells]; omega
theorem row_get (hl : List Held) (m : Nat) (x : Held) (hx : hl[m]? = some x) (cur : Array Value) (h : cur.toList.take (hl.length * 3) = hl.flatMap Held.cells) (j : Nat) (hj : j < 3) : cur[m * 3 + j]? = x.cells[j]? := by
  have hm : m < hl.length := (List.getElem?_eq_some_iff.1 hx).1
  rw [← flat_get x hl m hx j hj, ← h, List.getElem?_take, if_pos (by omega)]
  simp

/-- What stands at the loop's head. -/
def Whole (w0 wr : World) (Bk X C r U R : Nat) (a4 : Addr) (s7 s8 s9 : Value) (k : Nat) : Prop :=
  ∃ (hl : List Held) (ents : List (Int × Nat)) (fl : Int), s7 = .int .i64 (allOf hl) ∧ s9 = .int .i64 fl ∧ fl ≤ k ∧ hl.length ≤ k ∧ Core w0 wr Bk X C r a4 hl ents fl ∧ Blk wr U (six (usedOf hl)) 27 ∧ Blk wr R (six (reqsOf hl)) 28 ∧ wr.ownsRow w0.heap.size 34 3 s8 hl.length (hl.flatMap Held.cells)
/-- The two counts laid down. -/
theorem counts_add {w w3 : World} {Bk X C r U R : Nat} {a4 : Addr} {hl : List Held} {ents' : List (Int × Nat)} {fl : Int} {m : Nat} {x : Held}
    (hm6 : m < 6) (hx : x.h = m) (hcore3 : Core w w3 Bk X C r a4 (hl ++ [x]) ents' fl) (hU3 : Blk w3 U (six (usedOf hl)) 27) (hR3 : Blk w3 R (six (reqsOf hl)) 28) (gU : w.heap.size ≤ U) (gR : w.heap.size ≤ R)
    {v : Value} {n : Nat} {xs : List Value} (hown3 : w3.ownsRow w.heap.size 34 3 v n xs) :
    ∃ w4, w4 = (w3.setCell ⟨U, m, none⟩ (.int .i64 (usedOf hl m + x.size))).setCell ⟨R, m, none⟩ (.int .i64 (reqsOf hl m + 1)) ∧ Core w w4 Bk X C r a4 (hl ++ [x]) ents' fl ∧ Blk w4 U (six (usedOf (hl ++ [x]))) 27 ∧ Blk w4 R (six (reqsOf (hl ++ [x]))) 28 ∧ w4.ownsRow w.heap.size 34 3 v n xs := by
  have hUR : U ≠ R := hU3.ne hR3 (by decide)
  refine ⟨_, rfl, hcore3.turn (T := fun k => k = U ∨ k = R) (((Turn.refl _ w3).set U m _ (.inl (.inl rfl))).set R m _ (.inl (.inr rfl))) ?_, ?_, ?_, own_turn hown3 (fun g cur hg => (hg.other m _ (hg.ne hU3 (by decide))).other m _ (hg.ne hR3 (by decide)))⟩
  · rintro k (h | h) _
    · subst h; exact ⟨gU, _, 27, .inl rfl, hU3⟩
    · subst h; exact ⟨gR, _, 28, .inr (.inl rfl), hR3⟩
  · have e := six_set (usedOf hl) (usedOf (hl ++ [x])) m hm6 (fun i hi => by rw [usedOf_append, if_neg (by rw [hx]; exact hi.symm)]; omega)
    rw [usedOf_append, if_pos hx] at e
    rw [← e]
    exact (hU3.set m _).other m _ hUR
  · have e := six_set (reqsOf hl) (reqsOf (hl ++ [x])) m hm6 (fun i hi => by rw [reqsOf_append, if_neg (by rw [hx]; exact hi.symm)]; omega)
    rw [reqsOf_append, if_pos hx] at e
    rw [← e]
    exact (hR3.other m _ hUR.symm).set m _
/-- The row of the held ones turned, nothing else. -/
theorem whole_row {w w4 w5 : World} {Bk X C r U R : Nat} {a4 : Addr} {hl : List Held} {ents : List (Int × Nat)} {fl : Int} {k : Nat} {T : Nat → Prop} {v : Value}
    (hcore : Core w w4 Bk X C r a4 hl ents fl) (hU : Blk w4 U (six (usedOf hl)) 27) (hR : Blk w4 R (six (reqsOf hl)) 28) (hfl : fl ≤ k) (hll : hl.length ≤ k)
    (ht : Turn T w4 w5) (hT : ∀ g, T g → g < w4.heap.size → w.heap.size ≤ g ∧ ∃ cur, Blk w4 g cur 34) (hown : w5.ownsRow w.heap.size 34 3 v hl.length (hl.flatMap Held.cells)) :
    Whole w w5 Bk X C r U R a4 (.int .i64 (allOf hl)) v (.int .i64 fl) k := by
  have t' : Turn (fun k => T k ∧ k < w4.heap.size) w4 w5 := ht.narrow (fun k hk h => ⟨h, hk⟩)
  refine ⟨hl, ents, fl, rfl, rfl, hfl, hll, hcore.turn t' ?_, t'.blk hU ?_, t'.blk hR ?_, hown⟩
  · rintro g ⟨h1, h2⟩ _
    obtain ⟨q, cur, hc⟩ := hT g h1 h2
    exact ⟨q, cur, 34, .inr (.inr (.inl rfl)), hc⟩
  · rintro ⟨h1, h2⟩
    obtain ⟨q, cur, hc⟩ := hT _ h1 h2
    exact (hc.ne hU (by decide)) rfl
  · rintro ⟨h1, h2⟩
    obtain ⟨q, cur, hc⟩ := hT _ h1 h2
    exact (hc.ne hR (by decide)) rfl
def RelW (w0 : World) (Bk X C r U R : Nat) (a4 : Addr) (n : Nat) (s7 s8 s9 s31 : Value) (wr : World) : Prop :=
  ∃ k : Nat, s31 = .int .i64 k ∧ k ≤ n ∧ Whole w0 wr Bk X C r U R a4 s7 s8 s9 k

/-- The two counts laid down, one less. -/
theorem counts_sub {w w3 : World} {Bk X C r U R g : Nat} {a4 : Addr} {hl : List Held} {ents' : List (Int × Nat)} {fl : Int} {m k : Nat} {x : Held} {cur : Array Value}
    (hm6 : m < 6) (hx : x.h = m) (hk : hl[k]? = some x) (hcore3 : Core w w3 Bk X C r a4 (hl.eraseIdx k) ents' fl) (hU3 : Blk w3 U (six (usedOf hl)) 27) (hR3 : Blk w3 R (six (reqsOf hl)) 28) (gU : w.heap.size ≤ U) (gR : w.heap.size ≤ R)
    (hg3 : Blk w3 g cur 34) :
    ∃ w4, w4 = (w3.setCell ⟨U, m, none⟩ (.int .i64 (usedOf hl m - x.size))).setCell ⟨R, m, none⟩ (.int .i64 (reqsOf hl m - 1)) ∧ Core w w4 Bk X C r a4 (hl.eraseIdx k) ents' fl ∧ Blk w4 U (six (usedOf (hl.eraseIdx k))) 27 ∧ Blk w4 R (six (reqsOf (hl.eraseIdx k))) 28 ∧ Blk w4 g cur 34 := by
  have hUR : U ≠ R := hU3.ne hR3 (by decide)
  refine ⟨_, rfl, hcore3.turn (T := fun k => k = U ∨ k = R) (((Turn.refl _ w3).set U m _ (.inl (.inl rfl))).set R m _ (.inl (.inr rfl))) ?_, ?_, ?_, (hg3.other m _ (hg3.ne hU3 (by decide))).other m _ (hg3.ne hR3 (by decide))⟩
  · rintro k (h | h) _
    · subst h; exact ⟨gU, _, 27, .inl rfl, hU3⟩
    · subst h; exact ⟨gR, _, 28, .inr (.inl rfl), hR3⟩
  · have e := six_set (usedOf hl) (usedOf (hl.eraseIdx k)) m hm6 (fun i hi => by rw [usedOf_erase x i hl k hk, if_neg (by rw [hx]; exact hi.symm)]; omega)
    rw [usedOf_erase x m hl k hk, if_pos hx] at e
    rw [← e]
    exact (hU3.set m _).other m _ hUR
  · have e := six_set (reqsOf hl) (reqsOf (hl.eraseIdx k)) m hm6 (fun i hi => by rw [reqsOf_erase x i hl k hk, if_neg (by rw [hx]; exact hi.symm)]; omega)
    rw [reqsOf_erase x m hl k hk, if_pos hx] at e
    rw [← e]
    exact (hR3.other m _ hUR.symm).set m _
theorem flat_take (hl : List Held) : ∀ m, (hl.flatMap Held.cells).take (m * 3) = (hl.take m).flatMap Held.cells := by
  induction hl with
  | nil => intro m; simp
  | cons y r ih =>
    intro m
    cases m with
    | zero => simp
    | succ m =>
      simp only [List.flatMap_cons, List.take_succ_cons]
      rw [List.take_append, List.take_of_length_le (by simp [Held.cells]; omega), ← ih m]
      congr 2
      simp [Held.cells]
      omega
theorem flat_drop (hl : List Held) : ∀ m, (hl.flatMap Held.cells).drop (m * 3) = (hl.drop m).flatMap Held.cells := by
  induction hl with
  | nil => intro m; simp
  | cons y r ih =>
    intro m
    cases m with
    | zero => simp
    | succ m =>
      simp only [List.flatMap_cons, List.drop_succ_cons]
      rw [List.drop_append, List.drop_eq_nil_of_le (by simp [Held.cells]; omega), ← ih m, List.nil_append]
      congr 1
      simp [Held.cells]
      omega
theorem held_one (hl : List Held) : ∀ u ∈ hl.flatMap Held.cells, u.oneCell' = true := by
  intro u hu
  obtain ⟨x, _, hx⟩ := List.mem_flatMap.1 hu
  simp [Held.cells, Held.fn] at hx
  rcases hx with rfl | rfl | rfl <;> rfl
/-- append(hs[:m], hs[m+1:]...) on the row of the held ones. -/
theorem erase_row {w4 : World} {g gc m : Nat} {cur : Array Value} {hl : List Held} (ty : TypeId) (hg : Blk w4 g cur 34) (hm : m < hl.length) (hcap : hl.length ≤ gc) (hmax : gc ≤ maxLen) (hcsz : cur.size = gc * 3)
    (htk : cur.toList.take (hl.length * 3) = hl.flatMap Held.cells) (A : Addr) (hA : gc = m + 1 ∨ A = ⟨g, (m + 1) * 3, none⟩) :
    ∃ w5, (Builtin.append_ #[29, 29] ty #[.slice (some ⟨g, 0, none⟩) m gc, .slice (some A) (hl.length - (m + 1)) (gc - (m + 1))]).run Ybad.prog w4 = .ok (.slice (some ⟨g, 0, none⟩) (m + (hl.length - (m + 1))) gc) w5 ∧ Turn (fun k => k = g) w4 w5 ∧
      ∀ base, base ≤ g → w5.ownsRow base 34 3 (.slice (some ⟨g, 0, none⟩) (m + (hl.length - (m + 1))) gc) (hl.eraseIdx m).length ((hl.eraseIdx m).flatMap Held.cells) := by
  obtain ⟨i0, hi, hz⟩ := Option.map_eq_some_iff.1 info34
  simp only [Prod.mk.injEq] at hz
  obtain ⟨hz0, hz1, hz2⟩ := hz
  have hnl : ((hl.drop (m + 1)).flatMap Held.cells).length = (hl.length - (m + 1)) * 3 := by rw [flat_length, List.length_drop]
  have hnews : ∀ (j : Nat) u, ((hl.drop (m + 1)).flatMap Held.cells)[j]? = some u → w4.cell? (A.add j) = some u := by
    intro j u hu
    have hj := (List.getElem?_eq_some_iff.1 hu).1
    rw [hnl] at hj
    rcases hA with h | rfl
    · omega
    · rw [Addr.add_lit, hg.cell]
      rw [← flat_drop, List.getElem?_drop, ← htk, List.getElem?_take, if_pos (by omega)] at hu
      simpa using hu
  have hr := run_append_room (P := Ybad.prog) w4 29 ty 34 i0 Ybad.underlying29 hi g m gc cur hg A (hl.length - (m + 1)) (gc - (m + 1)) _ (by rw [hz1]; exact hnl) hnews (held_one _) (by omega) (by rw [hnl, hz1]; omega)
  rw [hz1, hnl] at hr
  refine ⟨_, hr, ⟨rfl, rfl, rfl, by simp, fun k _ hk => setRow_other w4 g k _ hk⟩, fun base hb => ⟨flat_length _, .inr ⟨g, gc, _, by rw [List.length_eraseIdx_of_lt hm, show m + (hl.length - (m + 1)) = hl.length - 1 by omega], hb, setRow_heap w4 g cur _ 34 _ hg, by rw [List.length_eraseIdx_of_lt hm]; omega, hmax, ?_, ?_⟩⟩⟩
  · simp [hnl, hcsz]; omega
  · rw [List.length_eraseIdx_of_lt hm, List.eraseIdx_eq_take_drop_succ, List.flatMap_append, ← flat_take, ← htk, List.take_take, Nat.min_eq_left (by omega)]
    rw [show (List.take (m * 3) cur.toList ++ (hl.drop (m + 1)).flatMap Held.cells ++ cur.toList.drop (m * 3 + (hl.length - (m + 1)) * 3)).toArray.toList = List.take (m * 3) cur.toList ++ (hl.drop (m + 1)).flatMap Held.cells ++ cur.toList.drop (m * 3 + (hl.length - (m + 1)) * 3) from rfl]
    rw [List.take_append_of_le_length (by simp [hnl, hcsz]; omega)]
    rw [List.take_of_length_le (by simp [hnl, hcsz]; omega)]
end Go.Proofs.YbulkbctqDoor
