/-
  WHAT THE SCRIPT KEEPS, told plainly: the held requests, what each host uses, the hosts' list; and that it holds of the memory ('Core').
-/
import Derived.Test.YbulkbctqDoorTakeNo2
namespace Go.Proofs.YbulkbctqDoor
open Go.RowKit Go.MuLone
set_option linter.unusedVariables false
set_option linter.unusedSimpArgs false

structure Held where
  h : Int
  size : Int
  p4 : Nat
  p6 : Nat
  p7 : Nat
  t : Nat
def Held.fn (x : Held) : Value := .func (.func 15) #[] #[.pointer (some ⟨x.p4, 0, none⟩), .pointer (some ⟨x.p7, 0, none⟩), .pointer (some ⟨x.t, 0, none⟩), .pointer (some ⟨x.p6, 0, none⟩)]
def Held.cells (x : Held) : List Value := [.int .i64 x.h, .int .i64 x.size, x.fn]
def usedOf : List Held → Int → Int
  | [], _ => 0
  | x :: r, i => (if x.h = i then x.size else 0) + usedOf r i
def reqsOf : List Held → Int → Int
  | [], _ => 0
  | x :: r, i => (if x.h = i then 1 else 0) + reqsOf r i
def allOf : List Held → Int
  | [] => 0
  | x :: r => x.size + allOf r

theorem usedOf_append (x : Held) (i : Int) : ∀ hl, usedOf (hl ++ [x]) i = usedOf hl i + (if x.h = i then x.size else 0)
  | [] => by simp [usedOf]
  | y :: r => by simp only [List.cons_append, usedOf, usedOf_append x i r]; omega
theorem reqsOf_append (x : Held) (i : Int) : ∀ hl, reqsOf (hl ++ [x]) i = reqsOf hl i + (if x.h = i then 1 else 0)
  | [] => by simp [reqsOf]
  | y :: r => by simp only [List.cons_append, reqsOf, reqsOf_append x i r]; omega
theorem allOf_append (x : Held) : ∀ hl, allOf (hl ++ [x]) = allOf hl + x.size
  | [] => by simp [allOf]
  | y :: r => by simp only [List.cons_append, allOf, allOf_append x r]; omega
theorem usedOf_erase (x : Held) (i : Int) : ∀ hl k, hl[k]? = some x → usedOf (hl.eraseIdx k) i = usedOf hl i - (if x.h = i then x.size else 0)
  | [], k, h => by simp at h
  | y :: r, 0, h => by simp at h; subst h; simp only [List.eraseIdx_cons_zero, usedOf]; omega
  | y :: r, k + 1, h => by
    simp at h
    simp only [List.eraseIdx_cons_succ, usedOf, usedOf_erase x i r k h]; omega
theorem reqsOf_erase (x : Held) (i : Int) : ∀ hl k, hl[k]? = some x → reqsOf (hl.eraseIdx k) i = reqsOf hl i - (if x.h = i then 1 else 0)
  | [], k, h => by simp at h
  | y :: r, 0, h => by simp at h; subst h; simp only [List.eraseIdx_cons_zero, reqsOf]; omega
  | y :: r, k + 1, h => by
    simp at h
    simp only [List.eraseIdx_cons_succ, reqsOf, reqsOf_erase x i r k h]; omega
theorem allOf_erase (x : Held) : ∀ hl k, hl[k]? = some x → allOf (hl.eraseIdx k) = allOf hl - x.size
  | [], k, h => by simp at h
  | y :: r, 0, h => by simp at h; subst h; simp only [List.eraseIdx_cons_zero, allOf]; omega
  | y :: r, k + 1, h => by
    simp at h
    simp only [List.eraseIdx_cons_succ, allOf, allOf_erase x r k h]; omega
theorem usedOf_nn (i : Int) : ∀ hl, (∀ x ∈ hl, 0 ≤ x.size) → 0 ≤ usedOf hl i ∧ usedOf hl i ≤ allOf hl
  | [], _ => by simp [usedOf, allOf]
  | y :: r, h => by
    have := usedOf_nn i r (fun x hx => h x (.tail _ hx))
    have := h y (.head _)
    simp only [usedOf, allOf]
    split <;> omega
theorem reqsOf_nn (i : Int) : ∀ hl, 0 ≤ reqsOf hl i ∧ reqsOf hl i ≤ hl.length
  | [] => by simp [reqsOf]
  | y :: r => by
    have := reqsOf_nn i r
    simp only [reqsOf, List.length_cons]
    split <;> omega
theorem reqsOf_pos {x : Held} : ∀ {hl : List Held}, x ∈ hl → 1 ≤ reqsOf hl x.h
  | y :: r, h => by
    have := reqsOf_nn x.h r
    rcases List.mem_cons.1 h with rfl | h
    · simp only [reqsOf, if_pos]; omega
    · have := reqsOf_pos h
      simp only [reqsOf]; split <;> omega
theorem reqsOf_some (i : Int) : ∀ hl, reqsOf hl i ≠ 0 → ∃ x ∈ hl, x.h = i
  | [], h => by simp [reqsOf] at h
  | y :: r, h => by
    by_cases hy : y.h = i
    · exact ⟨y, .head _, hy⟩
    · simp only [reqsOf, if_neg hy] at h
      obtain ⟨x, hx, e⟩ := reqsOf_some i r (by omega)
      exact ⟨x, .tail _ hx, e⟩

/-- A host's share. -/
def look (i : Int) : List (Int × Nat) → Option Nat
  | [] => none
  | p :: r => if i = p.1 then some p.2 else look i r
theorem look_find (i : Int) : ∀ ents n, look i ents = (findIx i ents n).map (·.2)
  | [], n => rfl
  | p :: r, n => by
    unfold look findIx
    split
    · rfl
    · exact look_find i r (n + 1)
theorem look_none {i : Int} {ents : List (Int × Nat)} : look i ents = none ↔ findIx i ents 0 = none := by
  rw [look_find i ents 0]; simp
theorem look_some {i : Int} {ents : List (Int × Nat)} {S : Nat} (h : look i ents = some S) : ∃ j, findIx i ents 0 = some (j, S) := by
  rw [look_find i ents 0] at h
  obtain ⟨q, hq, rfl⟩ := Option.map_eq_some_iff.1 h
  exact ⟨q.1, hq⟩
theorem find_look {i : Int} {ents : List (Int × Nat)} {j S : Nat} (h : findIx i ents 0 = some (j, S)) : look i ents = some S := by
  rw [look_find i ents 0, h]; rfl
theorem lookPtr_look (i : Int) (ents : List (Int × Nat)) : lookPtr i ents = (look i ents).map (fun S => ⟨S, 0, none⟩) := by
  unfold lookPtr
  rw [look_find i ents 0]
  cases findIx i ents 0 <;> rfl
theorem look_append (i i' : Int) (S : Nat) : ∀ ents, look i' (ents ++ [(i, S)]) = match look i' ents with
    | some T => some T
    | none => if i' = i then some S else none
  | [] => by simp [look]
  | p :: r => by
    simp only [List.cons_append, look]
    split
    · rfl
    · exact look_append i i' S r
theorem look_drop_ne {i i' : Int} (hne : i' ≠ i) : ∀ ents, look i' (dropKey i ents) = look i' ents
  | [] => rfl
  | p :: r => by
    unfold dropKey
    by_cases hp : i = p.1
    · rw [if_pos hp]; simp only [look]; rw [if_neg (by rw [← hp]; exact hne)]
    · rw [if_neg hp]; simp only [look]; rw [look_drop_ne hne r]
theorem look_not_mem {i : Int} : ∀ {ents : List (Int × Nat)}, look i ents = none ↔ i ∉ ents.map Prod.fst
  | [] => by simp [look]
  | p :: r => by
    simp only [look, List.map_cons, List.mem_cons, not_or]
    split
    · simp_all
    · simp_all [look_not_mem (ents := r)]
theorem dropKey_keys (i : Int) : ∀ ents, (ents.map Prod.fst).Nodup → ((dropKey i ents).map Prod.fst).Nodup ∧ i ∉ (dropKey i ents).map Prod.fst ∧ ∀ x, x ∈ (dropKey i ents).map Prod.fst → x ∈ ents.map Prod.fst
  | [], h => by simp [dropKey]
  | p :: r, h => by
    simp only [List.map_cons, List.nodup_cons] at h
    obtain ⟨h1, h2⟩ := h
    obtain ⟨r1, r2, r3⟩ := dropKey_keys i r h2
    unfold dropKey
    by_cases hp : i = p.1
    · rw [if_pos hp]; exact ⟨h2, by rw [hp]; exact h1, fun x hx => .tail _ hx⟩
    · rw [if_neg hp]
      refine ⟨?_, ?_, ?_⟩
      · simp only [List.map_cons, List.nodup_cons]; exact ⟨fun hx => h1 (r3 _ hx), r1⟩
      · simp only [List.map_cons, List.mem_cons, not_or]; exact ⟨hp, r2⟩
      · intro x hx
        simp only [List.map_cons, List.mem_cons] at hx ⊢
        exact hx.elim .inl (fun h => .inr (r3 x h))
/-- How many of the first n hosts have a share. -/
def cnt (ents : List (Int × Nat)) : Nat → Nat
  | 0 => 0
  | n + 1 => cnt ents n + (if look n ents = none then 0 else 1)
theorem cnt_six : ∀ ents : List (Int × Nat), (ents.map Prod.fst).Nodup → (∀ p ∈ ents, 0 ≤ p.1 ∧ p.1 < 6) → cnt ents 6 = ents.length
  | [], _, _ => by simp [cnt, look]
  | p :: r, h, hr => by
    simp only [List.map_cons, List.nodup_cons] at h
    have ih := cnt_six r h.2 (fun q hq => hr q (.tail _ hq))
    have hp := hr p (.head _)
    have hn := look_not_mem.2 h.1
    have e : p.1 = 0 ∨ p.1 = 1 ∨ p.1 = 2 ∨ p.1 = 3 ∨ p.1 = 4 ∨ p.1 = 5 := by omega
    rw [List.length_cons, ← ih]
    rcases e with e | e | e | e | e | e <;> rw [e] at hn <;> simp [cnt, look, e, hn] <;> omega

end Go.Proofs.YbulkbctqDoor
