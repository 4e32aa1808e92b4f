/-
  WHAT THE MAP HOLDS THAT fill MAKES: key by key; how many. No walk.
-/
import Derived.Test.YbulkbcnsFmtFill
namespace Go.Proofs.YbulkbcnsFmt
open Go.RowKit Go.WideMaps Go.Maps

/-- The i-th member's name, as a key. -/
def ky (i : Nat) : Lit := .string (nm i).data.toList
theorem ky_is (i : Nat) : WideAt.IsKeyLit (ky i) := by unfold ky; trivial
theorem ky_ne {i j : Nat} (hi : i < 676) (hj : j < 676) (h : i ≠ j) : ky i ≠ ky j := by
  intro e
  apply h
  unfold ky nm at e
  rw [strOfNums_data, strOfNums_data] at e
  injection e with e
  simp only [List.map_cons, List.map_nil, List.cons.injEq, and_true] at e
  obtain ⟨e1, e2⟩ := e
  have k1 : ∀ a : Nat, a < 256 → (UInt8.ofNat a).toNat = a := by
    intro a ha
    rw [UInt8.toNat_ofNat']
    omega
  have f1 := congrArg UInt8.toNat e1
  have f2 := congrArg UInt8.toNat e2
  rw [k1 _ (by omega), k1 _ (by omega)] at f1 f2
  omega

theorem FD_tidy (cs : List Nat) : ∀ k, Tidy (FD cs k)
  | 0 => tidy_empty
  | k + 1 => by
    by_cases h : cs.getD k 0 = 0
    · rw [FD_zero h]; exact FD_tidy cs k
    · rw [FD_pos h]; exact (FD_tidy cs k).put (ky_is k) _

theorem FD_has (cs : List Nat) : ∀ k i, k ≤ 676 → i < 676 → Maps.has (FD cs k) (ky i) = decide (i < k ∧ cs.getD i 0 ≠ 0)
  | 0, i, _, _ => by
    have : ¬ (i < 0 ∧ cs.getD i 0 ≠ 0) := by omega
    rw [decide_eq_false this]
    rfl
  | k + 1, i, hk, hi => by
    by_cases h : cs.getD k 0 = 0
    · rw [FD_zero h, FD_has cs k i (by omega) hi]
      by_cases hik : i = k
      · subst hik
        rw [decide_eq_false (by omega), decide_eq_false (by rintro ⟨_, h'⟩; exact h' h)]
      · rw [Bool.eq_iff_iff, decide_eq_true_iff, decide_eq_true_iff]
        constructor
        · rintro ⟨a, b⟩; exact ⟨by omega, b⟩
        · rintro ⟨a, b⟩; exact ⟨by omega, b⟩
    · rw [FD_pos h]
      by_cases hik : i = k
      · subst hik
        have := has_put_same (FD_tidy cs i).isMap (ky_is i) (DataW.lit (.int .u64 (cs.getD i 0)) : DataW Unit)
        unfold ky at this ⊢
        rw [this, decide_eq_true ⟨by omega, h⟩]
      · have := has_put_other (D := FD cs k) (ky_ne hi (show k < 676 by omega) hik) (DataW.lit (.int .u64 (cs.getD k 0)) : DataW Unit)
        have ih := FD_has cs k i (by omega) hi
        unfold ky at this ih ⊢
        rw [this, ih, Bool.eq_iff_iff, decide_eq_true_iff, decide_eq_true_iff]
        constructor
        · rintro ⟨a, b⟩; exact ⟨by omega, b⟩
        · rintro ⟨a, b⟩; exact ⟨by omega, b⟩

theorem FD_at (cs : List Nat) (z : DataW Unit) : ∀ k i, k ≤ 676 → i < k → cs.getD i 0 ≠ 0 → (FD cs k).atKey (ky i) z = .lit (.int .u64 (cs.getD i 0))
  | 0, i, _, h, _ => by omega
  | k + 1, i, hk, hi, hne => by
    by_cases h : cs.getD k 0 = 0
    · rw [FD_zero h]
      by_cases hik : i = k
      · subst hik; exact absurd h hne
      · exact FD_at cs z k i (by omega) (by omega) hne
    · rw [FD_pos h]
      by_cases hik : i = k
      · subst hik
        exact atKey_put_same (FD_tidy cs i).isMap (ky_is i) _ z
      · have := atKey_put_other (D := FD cs k) (ky_ne (show i < 676 by omega) (show k < 676 by omega) hik) (DataW.lit (.int .u64 (cs.getD k 0)) : DataW Unit) z
        have ih := FD_at cs z k i (by omega) (by omega) hne
        unfold ky at this ih ⊢
        rw [this, ih]

/-- How many of the first k counts are not nought. -/
def nzc (cs : List Nat) : Nat → Nat
  | 0 => 0
  | k + 1 => if cs.getD k 0 = 0 then nzc cs k else nzc cs k + 1
theorem nzc_le (cs : List Nat) : ∀ k, nzc cs k ≤ k
  | 0 => Nat.le_refl _
  | k + 1 => by
    have := nzc_le cs k
    simp only [nzc]
    split <;> omega

theorem FD_size (cs : List Nat) : ∀ k, k ≤ 676 → Maps.size (FD cs k) = nzc cs k
  | 0, _ => rfl
  | k + 1, hk => by
    have ih := FD_size cs k (by omega)
    simp only [nzc]
    by_cases h : cs.getD k 0 = 0
    · rw [FD_zero h, if_pos h]; exact ih
    · rw [FD_pos h, if_neg h]
      have hs := size_put (k := ky k) (FD_tidy cs k) (DataW.lit (.int .u64 (cs.getD k 0)) : DataW Unit)
      have hh := FD_has cs k k (by omega) (by omega)
      rw [decide_eq_false (by omega)] at hh
      rw [hh] at hs
      unfold ky at hs
      rw [hs, ih]
      rfl
end Go.Proofs.YbulkbcnsFmt
