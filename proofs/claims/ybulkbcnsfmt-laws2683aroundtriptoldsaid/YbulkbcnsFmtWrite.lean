/-
  zzs2683astamp (function 9).
-/
import Derived.Test.YbulkbcnsFmtDecode
import Derived.Test.YbulkbcnsFmtPlain2
import Derived.Laws.AppendOwnNone
namespace Go.Proofs.YbulkbcnsFmt
open Go.RowKit Go.Extern.Stop Go.Stop Go.Extern Go.WideMaps Go.Maps
set_option linter.unusedVariables false

/-- 'append(b, xs...)', b the call's own, xs whatever slice: nil or not. -/
theorem wpList_append_own_any {P : Program} (w : World) {ops : Array Oper} {rest : List Oper} {o : Oper} {a : Act} {Q : Exit → Act → World → Prop} (hgd : o.guard = none) (s x : Operand) (t : TypeId)
    (ho : o.op = .call { callee := .builtin .append, args := #[s, x], argTypes := #[t, t] })
    (base : Nat) (e : TypeId) (i : TypeInfo) (z : Value) (size bytes : Nat) (ht : P.underlying t = some (.slice e)) (hi : P.info? e = some i) (hz : i.zero = some z)
    (hsize : i.size = size) (hby : i.bytes = bytes) (hzs : z.cells.size = size) (hsz : 0 < size)
    (v : Value) (n : Nat) (xs : List Value) (hs : a.eval s = v) (hown : w.ownsRow base e size v n xs)
    (ao : Option Addr) (m c : Nat) (news : List Value) (hx : a.eval x = .slice ao m c) (hl : news.length = m * size) (hnone : ao = none → m = 0 ∧ c = 0) (hnews : ∀ ad, ao = some ad → ∀ j u, news[j]? = some u → w.cell? (ad.add j) = some u) (h1 : ∀ u ∈ news, u.oneCell' = true)
    (h63 : n + m ≤ maxLen) (hbytes : (n + m) * bytes ≤ 140737488355328) (hbase : base ≤ w.heap.size)
    (h : ∀ v' w', w'.ownsRow base e size v' (n + m) (xs ++ news) → w.grownBy w' v.ownBlock → wpList P ops Q rest (a.put o.dst v') w') : wpList P ops Q (o :: rest) a w := by
  cases ao with
  | some ad => exact wpList_append_own w hgd s x t ho base e i z size bytes ht hi hz hsize hby hzs hsz v n xs hs hown ad m c news hx hl (hnews ad rfl) h1 h63 hbytes hbase (fun v' w' a b _ => h v' w' a b)
  | none =>
    obtain ⟨rfl, rfl⟩ := hnone rfl
    have hn : news = [] := List.eq_nil_of_length_eq_zero (by simpa using hl)
    subst hn
    exact wpList_append_own_none hgd s x t ho base e i size ht hi v n xs hs hown hx (h v w (by simpa using hown) (World.grownBy.refl _ _))

theorem flat_len : ∀ cs : List Nat, (∀ c ∈ cs, c < 18446744073709551616) → (cs.flatMap Lib.uvarint).length ≤ 10 * cs.length
  | [], _ => by simp
  | c :: t, h => by
    have h1 := Lib.uvarint_length64 (h c (by simp))
    have h2 := flat_len t (fun x hx => h x (by simp [hx]))
    simp only [List.flatMap_cons, List.length_append, List.length_cons]
    omega

theorem take_flat (cs : List Nat) (k : Nat) (hk : k < cs.length) : (cs.take (k + 1)).flatMap Lib.uvarint = (cs.take k).flatMap Lib.uvarint ++ Lib.uvarint (cs.getD k 0) := by
  have e : cs.getD k 0 = cs[k] := by rw [List.getD_eq_getElem?_getD, List.getElem?_eq_getElem hk]; rfl
  rw [List.take_succ_eq_append_getElem hk, e]
  simp only [List.flatMap_append, List.flatMap_cons, List.flatMap_nil, List.append_nil]

/-- What has been written behind k rounds. -/
def preL (n ck : Nat) (cs : List Nat) (k : Nat) : List UInt8 := [3] ++ Lib.uvarint n ++ Lib.leBytes 4 ck ++ (cs.take k).flatMap Lib.uvarint
theorem preL_len (n ck : Nat) (cs : List Nat) (k : Nat) (hn : n ≤ 1000) (hk : k ≤ 1000) (hc : ∀ c ∈ cs, c < 18446744073709551616) : (preL n ck cs k).length ≤ 10100 := by
  have h1 := Lib.uvarint_length64 (show n < 18446744073709551616 by omega)
  have h2 := flat_len (cs.take k) (fun c h => hc c (List.mem_of_mem_take h))
  have h3 : (cs.take k).length ≤ k := List.length_take_le _ _
  unfold preL
  simp only [List.length_append, List.length_cons, List.length_nil, leBytes_length]
  omega

/-- THE LOOP's RELATION in zzs2683astamp. -/
def RelS (n ck : Nat) (cs : List Nat) (w : World) (bv i : Value) (wr : World) : Prop :=
  ∃ k, k ≤ n ∧ i = .int .i64 k ∧ wr.ownsRow w.heap.size 5 1 bv (preL n ck cs k).length (Lib.byteCells (preL n ck cs k)) ∧ Below w.heap.size w wr

theorem relS_step {n ck k x : Nat} {cs : List Nat} {w wr w2 : World} {v' : Value} (hlt : k < n) (hl : cs.length = n) (hx : x = cs.getD k 0) (hB : Below w.heap.size w wr) (hb2 : Below w.heap.size wr w2)
    (ho2 : w2.ownsRow w.heap.size 5 1 v' ((preL n ck cs k).length + (Lib.uvarint x).length) (Lib.byteCells (preL n ck cs k) ++ Lib.byteCells (Lib.uvarint x))) : RelS n ck cs w v' (.int .i64 (k + 1 : Nat)) w2 := by
  have e : preL n ck cs (k + 1) = preL n ck cs k ++ Lib.uvarint x := by
    unfold preL
    rw [take_flat cs k (by omega), ← hx]
    simp
  refine ⟨k + 1, hlt, rfl, ?_, hB.trans hb2⟩
  rw [e, List.length_append, Lib.byteCells_append]
  exact ho2

theorem getD_lt {cs : List Nat} (h : ∀ c ∈ cs, c < 18446744073709551616) (j : Nat) : cs.getD j 0 < 18446744073709551616 := by
  by_cases hj : j < cs.length
  · have e : cs.getD j 0 = cs[j] := by rw [List.getD_eq_getElem?_getD, List.getElem?_eq_getElem hj]; rfl
    rw [e]
    exact h _ (List.getElem_mem hj)
  · have e : cs.getD j 0 = 0 := by rw [List.getD_eq_getElem?_getD, List.getElem?_eq_none (by omega)]; rfl
    rw [e]
    omega

set_option maxHeartbeats 3200000 in
theorem stamp_pos (n cc ck np cp : Nat) (gc oc : Nat) (ap : Option Addr) (cs : List Nat) (pl : List UInt8) (w : World) (hn : n ≤ 600) (hp : np ≤ 4096) (hck : ck < 4294967296) (HL : Hid (cs.length = n)) (HB : Hid (∀ c ∈ cs, c < 18446744073709551616)) (HP : Hid (pl.length = np))
    (HA : Hid (∀ j, j < n → w.cell? ⟨gc, oc + j, none⟩ = some (.int .u64 (cs.getD j 0))))
    (HN : Hid (ap = none → np = 0 ∧ cp = 0)) (HC : Hid (∀ w1, Below w.heap.size w w1 → ∀ ad, ap = some ad → ∀ j u, (Lib.byteCells pl)[j]? = some u → w1.cell? (ad.add j) = some u)) :
    Calls Ybaf.prog 9 #[.slice (some ⟨gc, oc, none⟩) n cc, .int .u32 ck, .slice ap np cp] w fun e w' => ∃ v', e = .returned v' ∧ w'.ownsRow w.heap.size 5 1 v' (stampL cs ck pl).length (Lib.byteCells (stampL cs ck pl)) ∧ Below w.heap.size w w' := by
  obtain ⟨i0, hi, hz0, hz1, hz2⟩ := info_parts info5
  have hu := Lib.uvarint_length64 (show n < 18446744073709551616 by omega)
  go_enter Ybaf.func9, Ybaf.ntmps9
  go_wp2_with (first | (at_builtin; refine wpList_append_own _ rfl (.tmp 9) (.tmp 10) 24 rfl w.heap.size 5 i0 (.int .u8 0) 1 1 Ybaf.underlying24 hi hz0 hz1 hz2 rfl (by decide) _ _ _ rfl (World.ownsRow_nil _ _ _ _) ⟨w.heap.size, 0, none⟩ 1 1 [.int .u8 3] rfl rfl (cell_one_new _ _ _) (by simp [Value.oneCell']) (by unfold maxLen; omega) (by omega) (by simp) ?_))
  intro v1 w1 hown1 hg1 _
  have hB1 : Below w.heap.size w w1 := ((Below.refl _ _).alloc (Nat.le_refl _) _).grown hg1 (by simp) (fun k hk => by cases hk)
  have hown1' : w1.ownsRow w.heap.size 5 1 v1 1 (Lib.byteCells [3]) := hown1
  clear hown1 hg1
  go_wp2_with (first | (go_at_call 13; refine (Ybaf.binary_AppendUvarint w.heap.size 1 n (by omega) v1 _ _ hown1' hB1.size (by omega)).mono ?_; rintro e w2 ⟨v2, rfl, ho2, hb2⟩; have hB2 := hB1.trans hb2) | (go_at_call 16; refine (Ybaf.binary_LE_AppendUint32 w.heap.size _ ck hck v2 _ _ ho2 hB2.size (by omega)).mono ?_; rintro e w3 ⟨v3, rfl, ho3, hb3⟩; have hB3 := hB2.trans hb3))
  have hRel : RelS n ck cs w v3 (.int .i64 0) w3 := by
    refine ⟨0, Nat.zero_le _, rfl, ?_, hB3⟩
    have e : preL n ck cs 0 = [3] ++ Lib.uvarint n ++ Lib.leBytes 4 ck := by unfold preL; simp
    rw [e, List.length_append, List.length_append, Lib.byteCells_append, Lib.byteCells_append, leBytes_length]
    exact ho3
  clear ho2 ho3 hown1' hb2 hb3 hB1 hB2 hB3
  go_loopw [7, 8] (fun bv i wr => RelS n ck cs w bv i wr) (fun _ i _ => n - (intOf i).toNat)
  case atStart => exact hRel
  case round =>
    obtain ⟨k, hk, rfl, hown, hB⟩ := hrel
    clear hRel
    have hpl := preL_len n ck cs k (by omega) (by omega) HB.out
    obtain ⟨pk, hpk⟩ : ∃ pk, pk = preL n ck cs k := ⟨_, rfl⟩
    rw [← hpk] at hown hpl
    have HPK : Hid (pk = preL n ck cs k) := hpk
    clear hpk
    by_cases hlt : k < n
    · have c2 : wr.cell? ⟨gc, oc + k, none⟩ = some (.int .u64 (cs.getD k 0)) := cell_later hB (HA.out k hlt)
      have hb : cs.getD k 0 < 18446744073709551616 := getD_lt HB.out k
      obtain ⟨x, hx⟩ : ∃ x, x = cs.getD k 0 := ⟨_, rfl⟩
      rw [← hx] at c2 hb
      have Hx : Hid (x = cs.getD k 0) := hx
      clear hx
      go_wp2_with (first | (go_at_call 13; refine (Ybaf.binary_AppendUvarint w.heap.size pk.length x hb _ _ _ hown hB.size (by omega)).mono ?_; rintro e w2 ⟨v2, rfl, ho2, hb2⟩))
      have R3 : RelS n ck cs w v2 (.int .i64 (k + 1 : Nat)) w2 := relS_step hlt HL.out Hx.out hB hb2 (by rw [← HPK.out]; exact ho2)
      clear ho2 hb2 hown hB
      go_roundw
      case rel => exact R3
      case measure => simp [intOf]; omega
    · obtain rfl : k = n := by omega
      go_wp2_with (first | (at_builtin; refine wpList_append_own_any _ rfl (.tmp 33) (.tmp 34) 24 rfl w.heap.size 5 i0 (.int .u8 0) 1 1 Ybaf.underlying24 hi hz0 hz1 hz2 rfl (by decide) _ _ _ rfl hown ap np cp (Lib.byteCells pl) rfl (by rw [Lib.byteCells_length, HP.out]; simp) HN.out (HC.out _ hB) (bcells_one pl) (by unfold maxLen; omega) (by omega) hB.size ?_))
      intro v5 w5 hown5 hg5
      have hst : Hid (stampL cs ck pl = pk ++ pl) := by
        show stampL cs ck pl = pk ++ pl
        rw [HPK.out]
        unfold stampL preL
        rw [HL.out, List.take_of_length_le (by rw [HL.out]; exact Nat.le_refl _)]
      have hlt5 := hown.lt
      have hB5 : Below w.heap.size w w5 := hB.grown hg5 hB.size (fun b hb => (hlt5 b hb).1)
      have hfin : w5.ownsRow w.heap.size 5 1 v5 (stampL cs ck pl).length (Lib.byteCells (stampL cs ck pl)) := by
        rw [hst.out, List.length_append, Lib.byteCells_append, HP.out]
        exact hown5
      clear hown5 hg5 hown
      go_wp2
      go_ret
      exact ⟨_, rfl, hfin, hB5⟩

set_option maxHeartbeats 3200000 in
theorem stamp_zero (cc ck np cp : Nat) (ac : Option Addr) (ap : Option Addr) (cs : List Nat) (pl : List UInt8) (w : World) (hn : 0 ≤ 600) (hp : np ≤ 4096) (hck : ck < 4294967296) (HL : Hid (cs.length = 0)) (HB : Hid (∀ c ∈ cs, c < 18446744073709551616)) (HP : Hid (pl.length = np))
    
    (HN : Hid (ap = none → np = 0 ∧ cp = 0)) (HC : Hid (∀ w1, Below w.heap.size w w1 → ∀ ad, ap = some ad → ∀ j u, (Lib.byteCells pl)[j]? = some u → w1.cell? (ad.add j) = some u)) :
    Calls Ybaf.prog 9 #[.slice ac 0 cc, .int .u32 ck, .slice ap np cp] w fun e w' => ∃ v', e = .returned v' ∧ w'.ownsRow w.heap.size 5 1 v' (stampL cs ck pl).length (Lib.byteCells (stampL cs ck pl)) ∧ Below w.heap.size w w' := by
  obtain ⟨i0, hi, hz0, hz1, hz2⟩ := info_parts info5
  have hu := Lib.uvarint_length64 (show 0 < 18446744073709551616 by omega)
  go_enter Ybaf.func9, Ybaf.ntmps9
  go_wp2_with (first | (at_builtin; refine wpList_append_own _ rfl (.tmp 9) (.tmp 10) 24 rfl w.heap.size 5 i0 (.int .u8 0) 1 1 Ybaf.underlying24 hi hz0 hz1 hz2 rfl (by decide) _ _ _ rfl (World.ownsRow_nil _ _ _ _) ⟨w.heap.size, 0, none⟩ 1 1 [.int .u8 3] rfl rfl (cell_one_new _ _ _) (by simp [Value.oneCell']) (by unfold maxLen; omega) (by omega) (by simp) ?_))
  intro v1 w1 hown1 hg1 _
  have hB1 : Below w.heap.size w w1 := ((Below.refl _ _).alloc (Nat.le_refl _) _).grown hg1 (by simp) (fun k hk => by cases hk)
  have hown1' : w1.ownsRow w.heap.size 5 1 v1 1 (Lib.byteCells [3]) := hown1
  clear hown1 hg1
  go_wp2_with (first | (go_at_call 13; refine (Ybaf.binary_AppendUvarint w.heap.size 1 0 (by omega) v1 _ _ hown1' hB1.size (by omega)).mono ?_; rintro e w2 ⟨v2, rfl, ho2, hb2⟩; have hB2 := hB1.trans hb2) | (go_at_call 16; refine (Ybaf.binary_LE_AppendUint32 w.heap.size _ ck hck v2 _ _ ho2 hB2.size (by omega)).mono ?_; rintro e w3 ⟨v3, rfl, ho3, hb3⟩; have hB3 := hB2.trans hb3))
  have hRel : RelS 0 ck cs w v3 (.int .i64 0) w3 := by
    refine ⟨0, Nat.zero_le _, rfl, ?_, hB3⟩
    have e : preL 0 ck cs 0 = [3] ++ Lib.uvarint 0 ++ Lib.leBytes 4 ck := by unfold preL; simp
    rw [e, List.length_append, List.length_append, Lib.byteCells_append, Lib.byteCells_append, leBytes_length]
    exact ho3
  clear ho2 ho3 hown1' hb2 hb3 hB1 hB2 hB3
  go_loopw [7, 8] (fun bv i wr => RelS 0 ck cs w bv i wr) (fun _ i _ => 0 - (intOf i).toNat)
  case atStart => exact hRel
  case round =>
    obtain ⟨k, hk, rfl, hown, hB⟩ := hrel
    clear hRel
    have hpl := preL_len 0 ck cs k (by omega) (by omega) HB.out
    obtain ⟨pk, hpk⟩ : ∃ pk, pk = preL 0 ck cs k := ⟨_, rfl⟩
    rw [← hpk] at hown hpl
    have HPK : Hid (pk = preL 0 ck cs k) := hpk
    clear hpk
    obtain rfl : k = 0 := by omega
    · go_wp2_with (first | (at_builtin; refine wpList_append_own_any _ rfl (.tmp 33) (.tmp 34) 24 rfl w.heap.size 5 i0 (.int .u8 0) 1 1 Ybaf.underlying24 hi hz0 hz1 hz2 rfl (by decide) _ _ _ rfl hown ap np cp (Lib.byteCells pl) rfl (by rw [Lib.byteCells_length, HP.out]; simp) HN.out (HC.out _ hB) (bcells_one pl) (by unfold maxLen; omega) (by omega) hB.size ?_))
      intro v5 w5 hown5 hg5
      have hst : Hid (stampL cs ck pl = pk ++ pl) := by
        show stampL cs ck pl = pk ++ pl
        rw [HPK.out]
        unfold stampL preL
        rw [HL.out, List.take_of_length_le (by rw [HL.out]; exact Nat.le_refl _)]
      have hlt5 := hown.lt
      have hB5 : Below w.heap.size w w5 := hB.grown hg5 hB.size (fun b hb => (hlt5 b hb).1)
      have hfin : w5.ownsRow w.heap.size 5 1 v5 (stampL cs ck pl).length (Lib.byteCells (stampL cs ck pl)) := by
        rw [hst.out, List.length_append, Lib.byteCells_append, HP.out]
        exact hown5
      clear hown5 hg5 hown
      go_wp2
      go_ret
      exact ⟨_, rfl, hfin, hB5⟩
end Go.Proofs.YbulkbcnsFmt
