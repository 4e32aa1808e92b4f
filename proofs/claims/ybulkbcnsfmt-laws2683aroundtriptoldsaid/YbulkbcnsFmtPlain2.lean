/-
  PLAIN LEAN, NO Go: what AppendUvarint writes, Uvarint reads, in its shortest form; a stamp that is written is read.
-/
import Derived.Test.YbulkbcnsFmtPlain
import Derived.Lib.EndianMore
namespace Go.Proofs.YbulkbcnsFmt
open Go

theorem pow_split (i : Nat) : 2 ^ (7 * (i + 1)) = 128 * 2 ^ (7 * i) := by
  rw [Nat.mul_add, Nat.pow_add, Nat.mul_comm]
theorem spelt (x P acc : Nat) : acc + x % 128 * P + x / 128 * (128 * P) = acc + x * P := by
  have h : x = 128 * (x / 128) + x % 128 := (Nat.div_add_mod x 128).symm
  have h2 : x * P = (128 * (x / 128) + x % 128) * P := by rw [← h]
  rw [h2, Nat.add_mul, Nat.mul_comm (x / 128) (128 * P), Nat.mul_comm 128 P, Nat.mul_assoc P 128 (x / 128), Nat.mul_comm P (128 * (x / 128))]
  omega

theorem uvarintFrom_back : ∀ (m x : Nat), x < m → ∀ (i acc : Nat) (r : List UInt8), i ≤ 9 → x < 2 ^ (64 - 7 * i) → Lib.uvarintFrom i acc (Lib.uvarint x ++ r) = (acc + x * 2 ^ (7 * i), (i : Int) + (Lib.uvarint x).length)
  | 0, x, h, _, _, _, _, _ => by omega
  | m + 1, x, h, i, acc, r, hi, hx => by
    by_cases hs : x < 128
    · rw [Lib.uvarint_small hs]
      have hb : (x.toUInt8).toNat = x := by simp; omega
      simp only [List.cons_append, List.nil_append, Lib.uvarintFrom, List.length_cons, List.length_nil]
      rw [if_neg (by omega), hb, if_pos hs, if_neg]
      · simp
      · rintro ⟨rfl, h1⟩
        simp at hx
        omega
    · have hbig : 128 ≤ x := by omega
      rw [Lib.uvarint_big hbig]
      have hb : ((x % 128 + 128).toUInt8).toNat = x % 128 + 128 := by simp; omega
      have hi8 : i ≤ 8 := by
        by_cases h9 : i = 9
        · subst h9; simp at hx; omega
        · omega
      simp only [List.cons_append, Lib.uvarintFrom, List.length_cons]
      rw [if_neg (by omega), hb, if_neg (by omega)]
      have hx' : x / 128 < 2 ^ (64 - 7 * (i + 1)) := by
        have e : 2 ^ (64 - 7 * i) = 2 ^ (64 - 7 * (i + 1)) * 128 := by
          rw [show 64 - 7 * i = (64 - 7 * (i + 1)) + 7 by omega, Nat.pow_add]
        rw [e] at hx
        exact (Nat.div_lt_iff_lt_mul (by omega)).2 hx
      rw [uvarintFrom_back m (x / 128) (by omega) (i + 1) _ r (by omega) hx']
      have e1 : (x % 128 + 128) % 128 = x % 128 := by omega
      rw [e1, pow_split, spelt]
      simp
      omega

theorem uvarintDec_back (x : Nat) (r : List UInt8) (hx : x < 18446744073709551616) : Lib.uvarintDec (Lib.uvarint x ++ r) = (x, ((Lib.uvarint x).length : Int)) := by
  have := uvarintFrom_back (x + 1) x (by omega) 0 0 r (by omega) (by simpa using hx)
  unfold Lib.uvarintDec
  rw [this]
  simp

theorem uvarint_last : ∀ (m x : Nat), x < m → 1 ≤ x → ∃ init b, Lib.uvarint x = init ++ [b] ∧ b ≠ 0
  | 0, x, h, _ => by omega
  | m + 1, x, h, h1 => by
    by_cases hs : x < 128
    · refine ⟨[], x.toUInt8, by rw [Lib.uvarint_small hs]; rfl, fun e => ?_⟩
      have hb : (x.toUInt8).toNat = x := by simp; omega
      rw [e] at hb
      simp at hb
      omega
    · obtain ⟨init, b, he, hb⟩ := uvarint_last m (x / 128) (by omega) (by omega)
      exact ⟨(x % 128 + 128).toUInt8 :: init, b, by rw [Lib.uvarint_big (by omega), he]; rfl, hb⟩

theorem rdU_back (x : Nat) (r : List UInt8) (hx : x < 18446744073709551616) : rdU (Lib.uvarint x ++ r) = some (x, (Lib.uvarint x).length) := by
  unfold rdU
  rw [uvarintDec_back x r hx]
  have hs : short (Lib.uvarint x ++ r) ((Lib.uvarint x).length : Int) = true := by
    by_cases h0 : x < 128
    · rw [Lib.uvarint_small h0]; rfl
    · obtain ⟨init, b, he, hb⟩ := uvarint_last (x + 1) x (by omega) (by omega)
      have hl : (Lib.uvarint x).length = init.length + 1 := by rw [he]; simp
      have h2 : 1 < (Lib.uvarint x).length := by
        rw [Lib.uvarint_big (by omega)]
        have := Lib.uvarint_pos (x / 128)
        simp
        omega
      have e : (Lib.uvarint x ++ r).getD ((((Lib.uvarint x).length : Int) - 1).toNat) 0 = b := by
        have e1 : (((Lib.uvarint x).length : Int) - 1).toNat = init.length := by omega
        rw [e1, he]
        simp
      unfold short
      rw [e]
      simp [hb]
      omega
  rw [if_pos hs]
  simp

/-- A stamp, as zzs2683astamp writes it. -/
def stampL (cs : List Nat) (ck : Nat) (pl : List UInt8) : List UInt8 := [3] ++ Lib.uvarint cs.length ++ Lib.leBytes 4 ck ++ cs.flatMap Lib.uvarint ++ pl

theorem leBytes_length : ∀ k v, (Lib.leBytes k v).length = k
  | 0, _ => rfl
  | k + 1, v => by simp [Lib.leBytes, leBytes_length k]

theorem drop_mid {α : Type} (a b : List α) (n : Nat) (h : n = a.length) : (a ++ b).drop n = b := by subst h; simp

theorem dec_stamp (n ck c2 : Nat) (cs : List Nat) (pl : List UInt8) (hn : cs.length = n) (hn2 : n < 18446744073709551616) (hc : c2 < 4294967296) :
    dec n ck (stampL cs c2 pl) = if c2 ≠ ck then .inl (1 + (Lib.uvarint n).length) else rdTo (stampL cs c2 pl) (1 + (Lib.uvarint n).length + 4) n := by
  unfold dec
  have h1 : (stampL cs c2 pl).head? = some 3 := rfl
  rw [if_neg (by simp [h1])]
  have hd1 : (stampL cs c2 pl).drop 1 = Lib.uvarint n ++ (Lib.leBytes 4 c2 ++ cs.flatMap Lib.uvarint ++ pl) := by
    unfold stampL; rw [hn]; simp
  rw [hd1, rdU_back n _ hn2]
  simp only
  rw [if_neg (by simp)]
  have hlen : (stampL cs c2 pl).length = 1 + (Lib.uvarint n).length + 4 + (cs.flatMap Lib.uvarint).length + pl.length := by
    unfold stampL; rw [hn]; simp only [List.length_append, List.length_cons, List.length_nil, leBytes_length]
  rw [if_neg (by omega)]
  have hd2 : (stampL cs c2 pl).drop (1 + (Lib.uvarint n).length) = Lib.leBytes 4 c2 ++ (cs.flatMap Lib.uvarint ++ pl) := by
    unfold stampL; rw [hn]
    have : [3] ++ Lib.uvarint n ++ Lib.leBytes 4 c2 ++ cs.flatMap Lib.uvarint ++ pl = ([3] ++ Lib.uvarint n) ++ (Lib.leBytes 4 c2 ++ (cs.flatMap Lib.uvarint ++ pl)) := by simp
    rw [this]
    exact drop_mid _ _ _ (by simp; omega)
  have ht : ((stampL cs c2 pl).drop (1 + (Lib.uvarint n).length)).take 4 = Lib.leBytes 4 c2 := by
    rw [hd2]
    have : (Lib.leBytes 4 c2).length = 4 := leBytes_length 4 c2
    rw [List.take_append_of_le_length (by omega), List.take_of_length_le (by omega)]
  rw [ht, Lib.leNat_leBytes 4 c2 (by simpa using hc)]

/-- The counts that are written are read. -/
theorem rdTo_back (pre : List UInt8) (pl : List UInt8) : ∀ (cs : List Nat) (done rest : List Nat), cs = done ++ rest → (∀ c ∈ cs, c < 18446744073709551616) →
    rdTo (pre ++ (cs.flatMap Lib.uvarint ++ pl)) pre.length done.length = .inr (done, pre.length + (done.flatMap Lib.uvarint).length) := by
  intro cs done
  induction hk : done.length generalizing done with
  | zero =>
    intro rest _ _
    have : done = [] := List.eq_nil_of_length_eq_zero hk
    subst this
    simp [rdTo]
  | succ k ih =>
    intro rest he hc
    obtain ⟨d', x, rfl⟩ : ∃ d' x, done = d' ++ [x] := by
      refine ⟨done.dropLast, done.getLast (by intro h; subst h; simp at hk), ?_⟩
      exact (List.dropLast_concat_getLast _).symm
    have hk' : d'.length = k := by simpa using hk
    have h1 := ih d' hk' ([x] ++ rest) (by rw [he]; simp) hc
    have hx : x < 18446744073709551616 := hc x (by rw [he]; simp)
    have hd : (pre ++ (cs.flatMap Lib.uvarint ++ pl)).drop (pre.length + (d'.flatMap Lib.uvarint).length) = Lib.uvarint x ++ (rest.flatMap Lib.uvarint ++ pl) := by
      have : pre ++ (cs.flatMap Lib.uvarint ++ pl) = (pre ++ d'.flatMap Lib.uvarint) ++ (Lib.uvarint x ++ (rest.flatMap Lib.uvarint ++ pl)) := by rw [he]; simp
      rw [this]
      exact drop_mid _ _ _ (by simp)
    have := rdTo_step h1 (by rw [hd]; exact rdU_back x _ hx)
    rw [this]
    simp
    omega

theorem rdTo_stamp (cs : List Nat) (ck : Nat) (pl : List UInt8) (hc : ∀ c ∈ cs, c < 18446744073709551616) :
    rdTo (stampL cs ck pl) (1 + (Lib.uvarint cs.length).length + 4) cs.length = .inr (cs, (stampL cs ck pl).length - pl.length) ∧ (stampL cs ck pl).drop ((stampL cs ck pl).length - pl.length) = pl := by
  have e : stampL cs ck pl = ([3] ++ Lib.uvarint cs.length ++ Lib.leBytes 4 ck) ++ (cs.flatMap Lib.uvarint ++ pl) := by unfold stampL; simp
  have hl : ([3] ++ Lib.uvarint cs.length ++ Lib.leBytes 4 ck).length = 1 + (Lib.uvarint cs.length).length + 4 := by
    simp only [List.length_append, List.length_cons, List.length_nil, leBytes_length]
  have h := rdTo_back ([3] ++ Lib.uvarint cs.length ++ Lib.leBytes 4 ck) pl cs cs [] (by simp) hc
  rw [← e, hl] at h
  have hlen : (stampL cs ck pl).length - pl.length = 1 + (Lib.uvarint cs.length).length + 4 + (cs.flatMap Lib.uvarint).length := by
    rw [e]
    simp only [List.length_append] at hl ⊢
    omega
  refine ⟨by rw [h, hlen], ?_⟩
  have e2 : stampL cs ck pl = ([3] ++ Lib.uvarint cs.length ++ Lib.leBytes 4 ck ++ cs.flatMap Lib.uvarint) ++ pl := rfl
  have hp : (stampL cs ck pl).length - pl.length = ([3] ++ Lib.uvarint cs.length ++ Lib.leBytes 4 ck ++ cs.flatMap Lib.uvarint).length := by
    rw [e2, List.length_append]; omega
  rw [hp]
  conv => lhs; rw [e2]
  exact drop_mid _ _ _ rfl
end Go.Proofs.YbulkbcnsFmt
