/-
  PLAIN LEAN, NO Go: reading varints in their shortest form, and a group stamp.
-/
import Derived.Lib.Varint
import Derived.Lib.VarintDec
import Derived.Lib.Endian
namespace Go.Proofs.YbulkbcnsFmt
open Go

theorem uvarintFrom_range : ∀ (l : List UInt8) (i acc : Nat), i ≤ 10 → -11 ≤ (Lib.uvarintFrom i acc l).2 ∧ (Lib.uvarintFrom i acc l).2 ≤ (i : Int) + l.length
  | [], i, acc, h => by simp [Lib.uvarintFrom]
  | b :: r, i, acc, h => by
    simp only [Lib.uvarintFrom]
    split
    · simp; omega
    · split
      · split
        · simp; omega
        · simp; omega
      · have := uvarintFrom_range r (i + 1) (acc + b.toNat % 128 * 2 ^ (7 * i)) (by omega)
        simp; omega

theorem uvarintDec_range (l : List UInt8) : -11 ≤ (Lib.uvarintDec l).2 ∧ (Lib.uvarintDec l).2 ≤ l.length := by
  have := uvarintFrom_range l 0 0 (by omega)
  unfold Lib.uvarintDec
  omega

/-- 'n is the length of a number in its shortest form', as the program's shortest says it. -/
def short (l : List UInt8) (n : Int) : Bool := n == 1 || (decide (1 < n) && l.getD (n - 1).toNat 0 != 0)

/-- A number at the front of l: its value and its length; none where the program refuses it. -/
def rdU (l : List UInt8) : Option (Nat × Nat) := if short l (Lib.uvarintDec l).2 then some ((Lib.uvarintDec l).1, (Lib.uvarintDec l).2.toNat) else none

theorem rdU_bounds {l : List UInt8} {v k : Nat} (h : rdU l = some (v, k)) : 1 ≤ k ∧ k ≤ l.length ∧ v < 18446744073709551616 ∧ (Lib.uvarintDec l).2 = k ∧ (Lib.uvarintDec l).1 = v ∧ short l (Lib.uvarintDec l).2 = true := by
  unfold rdU at h
  split at h
  · rename_i hs
    simp only [Option.some.injEq, Prod.mk.injEq] at h
    obtain ⟨rfl, rfl⟩ := h
    have hr := uvarintDec_range l
    have hp : 1 ≤ (Lib.uvarintDec l).2 := by
      have := hs
      simp [short] at this
      omega
    exact ⟨by omega, by omega, Lib.uvarintDec_lt l, by omega, rfl, hs⟩
  · cases h

/-- k counts, from place off0: what is refused where, or the counts and the place behind them. -/
def rdTo (l : List UInt8) (off0 : Nat) : Nat → Nat ⊕ (List Nat × Nat)
  | 0 => .inr ([], off0)
  | k + 1 => match rdTo l off0 k with
    | .inl e => .inl e
    | .inr (cs, o) => match rdU (l.drop o) with
      | none => .inl o
      | some (v, j) => .inr (cs ++ [v], o + j)

theorem rdTo_inr (l : List UInt8) (off0 : Nat) (h0 : off0 ≤ l.length) : ∀ k cs o, rdTo l off0 k = .inr (cs, o) → cs.length = k ∧ off0 ≤ o ∧ o ≤ l.length ∧ (∀ c ∈ cs, c < 18446744073709551616)
  | 0, cs, o, h => by
    simp [rdTo] at h
    obtain ⟨rfl, rfl⟩ := h
    exact ⟨rfl, Nat.le_refl _, h0, fun _ h => by cases h⟩
  | k + 1, cs, o, h => by
    simp only [rdTo] at h
    cases hk : rdTo l off0 k with
    | inl e => rw [hk] at h; cases h
    | inr p =>
      obtain ⟨cs', o'⟩ := p
      have ih := rdTo_inr l off0 h0 k cs' o' hk
      rw [hk] at h
      simp only at h
      cases hu : rdU (l.drop o') with
      | none => rw [hu] at h; cases h
      | some q =>
        obtain ⟨v, j⟩ := q
        rw [hu] at h
        simp only [Sum.inr.injEq, Prod.mk.injEq] at h
        obtain ⟨rfl, rfl⟩ := h
        have hb := rdU_bounds hu
        have hl : (l.drop o').length = l.length - o' := List.length_drop
        refine ⟨by simp [ih.1], by omega, by omega, fun c hc => ?_⟩
        rcases List.mem_append.1 hc with hc | hc
        · exact ih.2.2.2 c hc
        · simp at hc; subst hc; exact hb.2.2.1

theorem rdTo_inl (l : List UInt8) (off0 : Nat) (h0 : off0 ≤ l.length) : ∀ k e, rdTo l off0 k = .inl e → e ≤ l.length
  | 0, e, h => by simp [rdTo] at h
  | k + 1, e, h => by
    simp only [rdTo] at h
    cases hk : rdTo l off0 k with
    | inl e' =>
      rw [hk] at h
      simp only [Sum.inl.injEq] at h
      subst h
      exact rdTo_inl l off0 h0 k e' hk
    | inr p =>
      obtain ⟨cs', o'⟩ := p
      have ih := rdTo_inr l off0 h0 k cs' o' hk
      rw [hk] at h
      simp only at h
      cases hu : rdU (l.drop o') with
      | none =>
        rw [hu] at h
        simp only [Sum.inl.injEq] at h
        omega
      | some q => rw [hu] at h; cases h

theorem rdTo_step {l : List UInt8} {off0 k : Nat} {cs : List Nat} {o v j : Nat} (h : rdTo l off0 k = .inr (cs, o)) (hu : rdU (l.drop o) = some (v, j)) : rdTo l off0 (k + 1) = .inr (cs ++ [v], o + j) := by
  simp only [rdTo]; rw [h]; simp only; rw [hu]

theorem rdTo_fail {l : List UInt8} {off0 k : Nat} {cs : List Nat} {o : Nat} (h : rdTo l off0 k = .inr (cs, o)) (hu : rdU (l.drop o) = none) : ∀ n, k < n → rdTo l off0 n = .inl o
  | 0, hn => by omega
  | n + 1, hn => by
    by_cases hkn : k = n
    · subst hkn
      simp only [rdTo]; rw [h]; simp only; rw [hu]
    · have := rdTo_fail h hu n (by omega)
      simp only [rdTo]; rw [this]

/-- WHAT readStamp COMES TO, of a group of n members with check ck, at the bytes l. -/
def dec (n ck : Nat) (l : List UInt8) : Nat ⊕ (List Nat × Nat) :=
  if l.head? ≠ some 3 then .inl 0 else
  match rdU (l.drop 1) with
  | none => .inl 1
  | some (v, j) =>
    if v ≠ n then .inl 1 else
    if l.length - (1 + j) < 4 then .inl (1 + j) else
    if Lib.leNat ((l.drop (1 + j)).take 4) ≠ ck then .inl (1 + j) else
    rdTo l (1 + j + 4) n

theorem dec_inl {n ck : Nat} {l : List UInt8} {d : Nat} (h : dec n ck l = .inl d) : d ≤ l.length := by
  unfold dec at h
  split at h
  · simp at h; omega
  · rename_i h3
    have h3 : l.head? = some 3 := Decidable.not_not.1 h3
    have hl : 1 ≤ l.length := by cases l <;> simp_all
    have hd1 : (l.drop 1).length = l.length - 1 := List.length_drop
    split at h
    · simp at h; omega
    · rename_i v j hu
      have hb := rdU_bounds hu
      split at h
      · simp at h; omega
      · split at h
        · simp at h; omega
        · split at h
          · simp at h; omega
          · exact rdTo_inl l _ (by omega) n d h

theorem dec_inr {n ck : Nat} {l : List UInt8} {cs : List Nat} {o : Nat} (h : dec n ck l = .inr (cs, o)) : l.head? = some 3 ∧ cs.length = n ∧ 1 ≤ o ∧ o ≤ l.length ∧ (∀ c ∈ cs, c < 18446744073709551616) := by
  unfold dec at h
  split at h
  · cases h
  · rename_i h3
    have h3 : l.head? = some 3 := Decidable.not_not.1 h3
    split at h
    · cases h
    · rename_i v j hu
      split at h
      · cases h
      · split at h
        · cases h
        · split at h
          · cases h
          · have := rdTo_inr l _ (by omega) n cs o h
            exact ⟨h3, this.1, by omega, this.2.2.1, this.2.2.2⟩
end Go.Proofs.YbulkbcnsFmt
