/-
  LawS2691CRoundTrip (function 3) over splitBody (6): the walks. What is plain of varints and of slices as bytes is seat b2683aF's own text, turned to this program.
-/
import Derived.Test.YbulkbcsaShelf
import Derived.WalkKit
import Derived.WalkSpells
import Derived.KernelRfl
import Derived.Lib.Varint
import Derived.Lib.VarintDec
import Derived.Laws.AppendOwnNone
import Derived.Deep.QuietTactic
import Derived.BigQuiet
import Derived.Outline
namespace Go.Proofs.Ybulkbcsa
open Go.RowKit
set_option linter.unusedVariables false

theorem pow_split (i : Nat) : 2 ^ (7 * (i + 1)) = 128 * 2 ^ (7 * i) := by
  rw [Nat.mul_add, Nat.pow_add, Nat.mul_comm]
theorem spelt (x P acc : Nat) : acc + x % 128 * P + x / 128 * (128 * P) = acc + x * P := by
  have h : x = 128 * (x / 128) + x % 128 := (Nat.div_add_mod x 128).symm
  have h2 : x * P = (128 * (x / 128) + x % 128) * P := by rw [← h]
  rw [h2, Nat.add_mul, Nat.mul_comm (x / 128) (128 * P), Nat.mul_comm 128 P, Nat.mul_assoc P 128 (x / 128), Nat.mul_comm P (128 * (x / 128))]
  omega

theorem uvarintFrom_back : ∀ (m x : Nat), x < m → ∀ (i acc : Nat) (r : List UInt8), i ≤ 9 → x < 2 ^ (64 - 7 * i) → Lib.uvarintFrom i acc (Lib.uvarint x ++ r) = (acc + x * 2 ^ (7 * i), (i : Int) + (Lib.uvarint x).length)
  | 0, x, h, _, _, _, _, _ => by omega
  | m + 1, x, h, i, acc, r, hi, hx => by
    by_cases hs : x < 128
    · rw [Lib.uvarint_small hs]
      have hb : (x.toUInt8).toNat = x := by simp; omega
      simp only [List.cons_append, List.nil_append, Lib.uvarintFrom, List.length_cons, List.length_nil]
      rw [if_neg (by omega), hb, if_pos hs, if_neg]
      · simp
      · rintro ⟨rfl, h1⟩
        simp at hx
        omega
    · have hbig : 128 ≤ x := by omega
      rw [Lib.uvarint_big hbig]
      have hb : ((x % 128 + 128).toUInt8).toNat = x % 128 + 128 := by simp; omega
      have hi8 : i ≤ 8 := by
        by_cases h9 : i = 9
        · subst h9; simp at hx; omega
        · omega
      simp only [List.cons_append, Lib.uvarintFrom, List.length_cons]
      rw [if_neg (by omega), hb, if_neg (by omega)]
      have hx' : x / 128 < 2 ^ (64 - 7 * (i + 1)) := by
        have e : 2 ^ (64 - 7 * i) = 2 ^ (64 - 7 * (i + 1)) * 128 := by
          rw [show 64 - 7 * i = (64 - 7 * (i + 1)) + 7 by omega, Nat.pow_add]
        rw [e] at hx
        exact (Nat.div_lt_iff_lt_mul (by omega)).2 hx
      rw [uvarintFrom_back m (x / 128) (by omega) (i + 1) _ r (by omega) hx']
      have e1 : (x % 128 + 128) % 128 = x % 128 := by omega
      rw [e1, pow_split, spelt]
      simp
      omega

theorem uvarintDec_back (x : Nat) (r : List UInt8) (hx : x < 18446744073709551616) : Lib.uvarintDec (Lib.uvarint x ++ r) = (x, ((Lib.uvarint x).length : Int)) := by
  have := uvarintFrom_back (x + 1) x (by omega) 0 0 r (by omega) (by simpa using hx)
  unfold Lib.uvarintDec
  rw [this]
  simp

/-- The value is a slice (nil too) whose elements are the bytes l. -/
def BV (w : World) (v : Value) (l : List UInt8) : Prop :=
  ∃ a c, v = .slice a l.length c ∧ l.length ≤ c ∧ c ≤ maxLen ∧ (0 < l.length → ∃ g o, a = some ⟨g, o, none⟩ ∧ ∀ j (hj : j < l.length), w.cell? ⟨g, o + j, none⟩ = some (.int .u8 (l[j]).toNat))

/-- What the walk is told of a slice of integers that came in (as the kit's skeleton has it). -/
def IsRow (k : IntKind) (w : World) (a : Option Addr) (len cap : Nat) (zs : List Int) : Prop :=
  (a = none ∧ len = 0 ∧ cap = 0 ∧ zs = []) ∨
  ∃ x, a = some x ∧ len ≤ cap ∧ cap ≤ maxLen ∧ zs.length = cap ∧ (∀ i, i < zs.length → w.cell? (x.add i) = some (.int k (zs.getD i 0))) ∧ ∀ n ∈ zs, (Lit.int k n).wf = true

theorem u8_bounds {z : Int} (h : (Lit.int .u8 z).wf = true) : 0 ≤ z ∧ z ≤ 255 := by
  simpa [Lit.wf, IntKind.min, IntKind.max, IntKind.signed, IntKind.bits] using h

def toB (z : Int) : UInt8 := UInt8.ofNat z.toNat
theorem toB_toNat {z : Int} (h0 : 0 ≤ z) (h1 : z ≤ 255) : ((toB z).toNat : Int) = z := by
  unfold toB
  rw [UInt8.toNat_ofNat']
  omega

theorem BV_of_row {w : World} {a : Option Addr} {len cap : Nat} {zs : List Int} (h : IsRow .u8 w a len cap zs) : BV w (.slice a len cap) ((zs.take len).map toB) := by
  rcases h with ⟨rfl, rfl, rfl, rfl⟩ | ⟨x, rfl, hl, hm, hz, hc, hw⟩
  · exact ⟨none, 0, rfl, Nat.le_refl _, Nat.zero_le _, fun h => by simp at h⟩
  · have hlen : ((zs.take len).map toB).length = len := by simp; omega
    refine ⟨some x, cap, by rw [hlen], by omega, hm, fun hpos => ?_⟩
    rw [hlen] at hpos
    obtain ⟨b, off, spot⟩ := x
    have hspot : spot = none := by simpa [Addr.add] using World.cell?_spot (hc 0 (by omega))
    subst hspot
    refine ⟨b, off, rfl, fun j hj => ?_⟩
    rw [hlen] at hj
    have hj' : j < zs.length := by omega
    have h1 := hc j hj'
    have hb := u8_bounds (hw zs[j] (List.getElem_mem hj'))
    have e1 : zs.getD j 0 = zs[j] := by simp [List.getD, hj']
    have e2 : ((zs.take len).map toB)[j]'(by omega) = toB zs[j] := by simp
    rw [e2, toB_toNat hb.1 hb.2, ← e1]
    rw [← WideShapes.add_plain]
    exact h1

/-- A list of bytes, as cells. -/
def bcells (l : List UInt8) : List Value := l.map fun b => Value.int .u8 b.toNat
theorem bcells_length (l : List UInt8) : (bcells l).length = l.length := by simp [bcells]
theorem bcells_one (l : List UInt8) : ∀ u ∈ bcells l, u.oneCell' = true := by
  intro u hu
  obtain ⟨_, _, rfl⟩ := List.mem_map.1 hu
  rfl
theorem bcells_get (l : List UInt8) (j : Nat) (hj : j < l.length) : (bcells l)[j]? = some (.int .u8 (l[j]).toNat) := by simp [bcells, hj]
theorem bcells_of {w : World} {l : List UInt8} {g o : Nat} (h : ∀ j (hj : j < l.length), w.cell? ⟨g, o + j, none⟩ = some (.int .u8 (l[j]).toNat)) :
    ∀ j u, (bcells l)[j]? = some u → w.cell? ((⟨g, o, none⟩ : Addr).add j) = some u := by
  intro j u hu
  have hj : j < l.length := by have := (List.getElem?_eq_some_iff.1 hu).1; rwa [bcells_length] at this
  rw [bcells_get l j hj] at hu
  rw [← Option.some.inj hu, WideShapes.add_plain]
  exact h j hj

/-- A slice that the call owns, whose cells are bytes, as a list of bytes. -/
theorem BV_of_own {w : World} {B g n c : Nat} {l : List UInt8} (h : w.ownsRow B 5 1 (.slice (some ⟨g, 0, none⟩) n c) n (bcells l)) : BV w (.slice (some ⟨g, 0, none⟩) n c) l := by
  have hl : l.length = n := by have := h.1; rw [bcells_length] at this; omega
  have hcap : n ≤ c ∧ c ≤ maxLen := by
    rcases h.2 with ⟨h1, _⟩ | ⟨g', cap, cur, h1, _, _, hnc, hcm, _, _⟩
    · cases h1
    · injection h1 with _ _ h3
      subst h3
      exact ⟨hnc, hcm⟩
  refine ⟨_, c, by rw [hl], by omega, hcap.2, fun _ => ⟨g, 0, rfl, fun j hj => ?_⟩⟩
  have := h.cells (g := g) rfl j _ (bcells_get l j hj)
  rwa [WideShapes.add_plain] at this

/-- 'append(b, xs...)', b the call's own, xs whatever slice: nil or not. -/
theorem wpList_append_own_any {P : Program} (w : World) {ops : Array Oper} {rest : List Oper} {o : Oper} {a : Act} {Q : Exit → Act → World → Prop} (hgd : o.guard = none) (s x : Operand) (t : TypeId)
    (ho : o.op = .call { callee := .builtin .append, args := #[s, x], argTypes := #[t, t] })
    (base : Nat) (e : TypeId) (i : TypeInfo) (z : Value) (size bytes : Nat) (ht : P.underlying t = some (.slice e)) (hi : P.info? e = some i) (hz : i.zero = some z)
    (hsize : i.size = size) (hby : i.bytes = bytes) (hzs : z.cells.size = size) (hsz : 0 < size)
    (v : Value) (n : Nat) (xs : List Value) (hs : a.eval s = v) (hown : w.ownsRow base e size v n xs)
    (ao : Option Addr) (m c : Nat) (news : List Value) (hx : a.eval x = .slice ao m c) (hl : news.length = m * size) (hnone : ao = none → m = 0 ∧ c = 0) (hnews : ∀ ad, ao = some ad → ∀ j u, news[j]? = some u → w.cell? (ad.add j) = some u) (h1 : ∀ u ∈ news, u.oneCell' = true)
    (h63 : n + m ≤ maxLen) (hbytes : (n + m) * bytes ≤ 140737488355328) (hbase : base ≤ w.heap.size)
    (h : ∀ v' w', w'.ownsRow base e size v' (n + m) (xs ++ news) → w.grownBy w' v.ownBlock → wpList P ops Q rest (a.put o.dst v') w') : wpList P ops Q (o :: rest) a w := by
  cases ao with
  | some ad => exact wpList_append_own w hgd s x t ho base e i z size bytes ht hi hz hsize hby hzs hsz v n xs hs hown ad m c news hx hl (hnews ad rfl) h1 h63 hbytes hbase (fun v' w' a b _ => h v' w' a b)
  | none =>
    obtain ⟨rfl, rfl⟩ := hnone rfl
    have hn : news = [] := List.eq_nil_of_length_eq_zero (by simpa using hl)
    subst hn
    exact wpList_append_own_none hgd s x t ho base e i size ht hi v n xs hs hown hx (h v w (by simpa using hown) (World.grownBy.refl _ _))

/-- bytes.Equal over 'BV'. -/
theorem equal_any (p1 p2 : Option Addr) (n c m d : Nat) (l1 l2 : List UInt8) (w : World) (h1 : BV w (.slice p1 n c) l1) (h2 : BV w (.slice p2 m d) l2) :
    Calls Yba.prog 7 #[.slice p1 n c, .slice p2 m d] w fun e w' => e = .returned (.bool (l1 == l2)) ∧ w' = w := by
  have key : ∀ (p : Option Addr) (n c : Nat) (l : List UInt8), BV w (.slice p n c) l → l.length = n ∧ Lib.BytesIn w p n (l.map fun b => (b.toNat : Int)) := by
    intro p n c l h
    obtain ⟨a, c', he, h1, h2, h3⟩ := h
    injection he with e1 e2 e3
    subst e1 e2 e3
    refine ⟨rfl, fun hp => ?_⟩
    obtain ⟨g, o, rfl, hc⟩ := h3 hp
    refine ⟨g, o, rfl, fun i hi => ?_⟩
    rw [hc i hi]
    simp [hi]
  have hb : ∀ l : List UInt8, Lib.bytesOf (l.map fun b => (b.toNat : Int)) = l := by
    intro l
    induction l with
    | nil => rfl
    | cons b t ih =>
      have e : UInt8.ofNat ((b.toNat : Int)).toNat = b := by rw [Int.toNat_natCast, UInt8.ofNat_toNat]
      simp only [Lib.bytesOf, List.map_cons, e] at ih ⊢
      rw [ih]
  have k1 := key p1 n c l1 h1
  have k2 := key p2 m d l2 h2
  have := Yba.bytes_Equal_all p1 p2 n c m d (l1.map fun b => (b.toNat : Int)) (l2.map fun b => (b.toNat : Int)) w (by simpa using k1.1) (by simpa using k2.1) k1.2 k2.2
  rw [hb, hb] at this
  exact this


theorem BV_later {w w' : World} {v : Value} {l : List UInt8} (h : BV w v l) (hb : Below w.heap.size w w') : BV w' v l := by
  obtain ⟨a, c, rfl, h1, h2, h3⟩ := h
  refine ⟨a, c, rfl, h1, h2, fun hp => ?_⟩
  obtain ⟨g, o, rfl, hc⟩ := h3 hp
  exact ⟨g, o, rfl, fun j hj => cell_later hb (hc j hj)⟩
theorem info5 : (Yba.prog.info? 5).map (fun i => (i.zero, i.size, i.bytes)) = some (some (.int .u8 0), 1, 1) := by kernel_rfl
theorem eqSl22 (a : Option Addr) (n c : Nat) (w : World) : (binOp .eql 22 (.slice a n c) (.slice none 0 0)).run Yba.prog w = .ok (.bool a.isNone) w := Lib.run_eql_slice_nil w 22 5 a n c 0 0 Yba.underlying22
attribute [local go_sem] eqSl22

theorem split_zero (g L cap : Nat) (w : World) (HU : Hid (Calls Yba.prog 8 #[.slice (some ⟨g, 0, none⟩) L cap] w fun e w' => e = .returned (.tuple #[.int .u64 0, .int .i64 1]) ∧ w' = w)) :
    Calls Yba.prog 6 #[.slice (some ⟨g, 0, none⟩) L cap] w fun e w' => e = .returned (.tuple #[.slice none 0 0, .slice none 0 0, .bool false]) ∧ w' = w := by
  go_enter Yba.func6, Yba.ntmps6
  go_wp2_with (first | (go_at_call 8; refine HU.out.mono ?_; rintro e w' ⟨rfl, rfl⟩))
  go_ret3
  exact ⟨rfl, rfl⟩

set_option maxHeartbeats 1600000 in
theorem split_in (g u n m cap : Nat) (w : World) (hu : 1 ≤ u) (hu2 : u ≤ 10) (hn0 : 1 ≤ n) (hn : n ≤ 4096) (hm : m ≤ 4096) (hcap : u + n + m ≤ cap) (hcm : cap ≤ maxLen) (hne : ¬ cap = u + n)
    (HU : Hid (Calls Yba.prog 8 #[.slice (some ⟨g, 0, none⟩) (u + n + m) cap] w fun e w' => e = .returned (.tuple #[.int .u64 n, .int .i64 u]) ∧ w' = w)) :
    Calls Yba.prog 6 #[.slice (some ⟨g, 0, none⟩) (u + n + m) cap] w fun e w' => e = .returned (.tuple #[.slice (some ⟨g, u, none⟩) (u + n - u) (cap - u), .slice (some ⟨g, u + n, none⟩) (u + n + m - (u + n)) (cap - (u + n)), .bool true]) ∧ ∃ q, w' = w.drewN q := by
  unfold maxLen at hcm
  have e1 : decide ((u : Int) ≤ 0) = false := by rw [decide_eq_false_iff_not]; omega
  have e2 : ((n : Int) == 0) = false := by rw [beq_eq_false_iff_ne]; omega
  have e3 : ¬ cap = u := by omega
  go_enter Yba.func6, Yba.ntmps6
  go_wp2_with (first | (go_at_call 8; refine HU.out.mono ?_; rintro e w' ⟨rfl, rfl⟩))
  go_quiet (fail)
  go_wp2
  go_ret3
  exact ⟨rfl, _, rfl⟩

set_option maxHeartbeats 1600000 in
theorem split_end (g u n : Nat) (w : World) (hu : 1 ≤ u) (hu2 : u ≤ 10) (hn0 : 1 ≤ n) (hn : n ≤ 4096)
    (HU : Hid (Calls Yba.prog 8 #[.slice (some ⟨g, 0, none⟩) (u + n) (u + n)] w fun e w' => e = .returned (.tuple #[.int .u64 n, .int .i64 u]) ∧ w' = w)) :
    Calls Yba.prog 6 #[.slice (some ⟨g, 0, none⟩) (u + n) (u + n)] w fun e w' => e = .returned (.tuple #[.slice (some ⟨g, u, none⟩) (u + n - u) (u + n - u), .slice (some ⟨g, 0, none⟩) 0 0, .bool true]) ∧ ∃ q, w' = w.drewN q := by
  have e1 : decide ((u : Int) ≤ 0) = false := by rw [decide_eq_false_iff_not]; omega
  have e2 : ((n : Int) == 0) = false := by rw [beq_eq_false_iff_ne]; omega
  have e3 : ¬ u + n = u := by omega
  go_enter Yba.func6, Yba.ntmps6
  go_wp2_with (first | (go_at_call 8; refine HU.out.mono ?_; rintro e w' ⟨rfl, rfl⟩))
  go_quiet (fail)
  go_wp2
  go_ret3
  exact ⟨by simp, _, rfl⟩

/-- A part of a slice, as bytes. -/
theorem BV_part {w : World} {g L cap : Nat} {l : List UInt8} (h : BV w (.slice (some ⟨g, 0, none⟩) L cap) l) (lo n c' : Nat) (hn : lo + n ≤ l.length) (hc : n ≤ c') (hc' : c' ≤ maxLen) : BV w (.slice (some ⟨g, lo, none⟩) n c') ((l.drop lo).take n) := by
  obtain ⟨a, c, he, h1, h2, h3⟩ := h
  injection he with e1 e2 e3
  have hl : ((l.drop lo).take n).length = n := by simp; omega
  refine ⟨_, c', by rw [hl], by omega, hc', fun hp => ⟨g, lo, rfl, fun j hj => ?_⟩⟩
  rw [hl] at hj
  obtain ⟨g', o', hg, hce⟩ := h3 (by omega)
  rw [← e1] at hg
  injection hg with hg
  injection hg with hg1 hg2
  subst hg1 hg2
  have := hce (lo + j) (by omega)
  rw [Nat.zero_add] at this
  rw [List.getElem_take, List.getElem_drop]
  exact this

/-- splitBody, of a body as the law builds it. -/
theorem split_any (g L cap : Nat) (key val : List UInt8) (w : World) (hk : key.length ≤ 4096) (hv : val.length ≤ 4096) (h : BV w (.slice (some ⟨g, 0, none⟩) L cap) (Lib.uvarint key.length ++ key ++ val)) :
    Calls Yba.prog 6 #[.slice (some ⟨g, 0, none⟩) L cap] w fun e w' => (∃ q, w' = w.drewN q) ∧ if key.length = 0 then e = .returned (.tuple #[.slice none 0 0, .slice none 0 0, .bool false]) else
      ∃ p1 c1 p2 c2, e = .returned (.tuple #[.slice p1 key.length c1, .slice p2 val.length c2, .bool true]) ∧ BV w (.slice p1 key.length c1) key ∧ BV w (.slice p2 val.length c2) val := by
  have hu1 := Lib.uvarint_pos key.length
  have hu2 := Lib.uvarint_length64 (show key.length < 18446744073709551616 by omega)
  have h' := h
  obtain ⟨a, c, he, hlc, hcm, h3⟩ := h'
  injection he with e1 e2 e3
  subst e1 e2 e3
  have hL : (Lib.uvarint key.length ++ key ++ val).length = (Lib.uvarint key.length).length + key.length + val.length := by simp [Nat.add_assoc]
  have HU : Calls Yba.prog 8 #[.slice (some ⟨g, 0, none⟩) (Lib.uvarint key.length ++ key ++ val).length cap] w fun e w' => e = .returned (.tuple #[.int .u64 (key.length : Nat), .int .i64 ((Lib.uvarint key.length).length : Nat)]) ∧ w' = w := by
    obtain ⟨g', o', hg, hce⟩ := h3 (by omega)
    injection hg with hg
    injection hg with hg1 hg2
    subst hg1 hg2
    have := Yba.binary_Uvarint g 0 _ cap (Lib.uvarint key.length ++ key ++ val) w rfl hce
    rw [List.append_assoc, uvarintDec_back key.length (key ++ val) (by omega), ← List.append_assoc] at this
    exact this
  by_cases h0 : key.length = 0
  · rw [h0] at HU ⊢
    have e1 : (Lib.uvarint 0).length = 1 := by rw [Lib.uvarint_small (by omega)]; rfl
    rw [e1] at HU
    refine (split_zero g _ cap w HU).mono ?_
    rintro e w' ⟨rfl, rfl⟩
    exact ⟨⟨0, rfl⟩, by rw [if_pos rfl]⟩
  · obtain ⟨u, hu⟩ : ∃ u, u = (Lib.uvarint key.length).length := ⟨_, rfl⟩
    have hkd : ((Lib.uvarint key.length ++ key ++ val).drop u).take key.length = key := by
      rw [List.append_assoc, hu, List.drop_left]
      exact List.take_left
    have hvd : ((Lib.uvarint key.length ++ key ++ val).drop (u + key.length)).take val.length = val := by
      have : u + key.length = (Lib.uvarint key.length ++ key).length := by rw [List.length_append, hu]
      rw [this, List.drop_left, List.take_of_length_le (Nat.le_refl _)]
    have b1 := BV_part h u key.length (cap - u) (by omega) (by omega) (by omega)
    rw [hkd] at b1
    rw [← hu] at HU hL
    rw [hL] at HU ⊢
    by_cases hc : cap = u + key.length
    · have hv0 : val.length = 0 := by omega
      have hvn : val = [] := List.eq_nil_of_length_eq_zero hv0
      have b2 : BV w (.slice (some ⟨g, 0, none⟩) 0 0) val := by rw [hvn]; exact ⟨_, 0, rfl, Nat.le_refl _, Nat.zero_le _, fun h => by simp at h⟩
      rw [hv0, Nat.add_zero, hc] at HU ⊢
      refine (split_end g u key.length w (by omega) (by omega) (by omega) hk HU).mono ?_
      rintro e w' ⟨rfl, hq⟩
      refine ⟨hq, ?_⟩
      rw [if_neg h0]
      have e4 : u + key.length - u = key.length := by omega
      rw [e4]
      rw [hc, e4] at b1
      exact ⟨_, _, _, _, rfl, b1, b2⟩
    · have b2 := BV_part h (u + key.length) val.length (cap - (u + key.length)) (by omega) (by omega) (by omega)
      rw [hvd] at b2
      refine (split_in g u key.length val.length cap w (by omega) (by omega) (by omega) hk hv (by omega) hcm hc HU).mono ?_
      rintro e w' ⟨rfl, hq⟩
      refine ⟨hq, ?_⟩
      rw [if_neg h0]
      have e4 : u + key.length - u = key.length := by omega
      have e5 : u + key.length + val.length - (u + key.length) = val.length := by omega
      rw [e4, e5]
      exact ⟨_, _, _, _, rfl, b1, b2⟩

theorem rt_long (a0 a1 : Option Addr) (n c0 m c1 : Nat) (w : World) (h : 4096 < n ∨ 4096 < m) :
    Calls Yba.prog 3 #[.slice a0 n c0, .slice a1 m c1] w fun e w' => e = .returned (.bool true) ∧ Below w.heap.size w w' := by
  by_cases h1 : 4096 < n
  · have h1' : decide ((4096 : Int) < (n : Int)) = true := by rw [decide_eq_true_iff]; omega
    go_enter Yba.func3, Yba.ntmps3
    go_wp2
    go_ret
    exact ⟨rfl, Below.refl _ _⟩
  · have h1' : decide ((4096 : Int) < (n : Int)) = false := by rw [decide_eq_false_iff_not]; omega
    have h2 : 4096 < m := by omega
    have h2' : decide ((4096 : Int) < (m : Int)) = true := by rw [decide_eq_true_iff]; omega
    go_enter Yba.func3, Yba.ntmps3
    go_wp2
    go_ret
    exact ⟨rfl, Below.refl _ _⟩
end Go.Proofs.Ybulkbcsa
