/-
  LawS2691CRoundTrip (function 3): the walk, and THE STATEMENT.
-/
import Derived.Test.YbulkbcsaRows
import Derived.Test.YbulkbcsaWalk
import Derived.ProofKit
import Derived.OpenShut
import Derived.ShutString
import Derived.ChangeOld
import Derived.Below
import Derived.Deep.RegionWith
namespace Go.Proofs.Ybulkbcsa
open Go.RowKit
set_option linter.unusedVariables false
attribute [local go_sem] eqSl22

theorem BV_drewN {w : World} {v : Value} {l : List UInt8} (q : Nat) (h : BV w v l) : BV (w.drewN q) v l := h

theorem split_own (B L : Nat) (v : Value) (key val : List UInt8) (w : World) (hk : key.length ≤ 4096) (hv : val.length ≤ 4096) (h : w.ownsRow B 5 1 v L (Lib.byteCells (Lib.uvarint key.length ++ key ++ val))) :
    Calls Yba.prog 6 #[v] w fun e w' => (∃ q, w' = w.drewN q) ∧ if key.length = 0 then e = .returned (.tuple #[.slice none 0 0, .slice none 0 0, .bool false]) else
      ∃ p1 c1 p2 c2, e = .returned (.tuple #[.slice p1 key.length c1, .slice p2 val.length c2, .bool true]) ∧ BV w (.slice p1 key.length c1) key ∧ BV w (.slice p2 val.length c2) val := by
  have hpos : 0 < L := by
    have h1 := h.1
    have := Lib.uvarint_pos key.length
    rw [Lib.byteCells_length] at h1
    simp only [List.length_append] at h1
    omega
  have hform : ∃ g cap, v = .slice (some ⟨g, 0, none⟩) L cap := by
    rcases h.2 with ⟨_, h⟩ | ⟨g, cap, cur, h, _⟩
    · omega
    · exact ⟨_, _, h⟩
  obtain ⟨g, cap, rfl⟩ := hform
  exact split_any g L cap key val w hk hv (BV_of_own h)

theorem split_own0 (B L : Nat) (v : Value) (key val : List UInt8) (w : World) (h0 : key.length = 0) (hv : val.length ≤ 4096) (h : w.ownsRow B 5 1 v L (Lib.byteCells (Lib.uvarint key.length ++ key ++ val))) :
    Calls Yba.prog 6 #[v] w fun e w' => (∃ q, w' = w.drewN q) ∧ e = .returned (.tuple #[.slice none 0 0, .slice none 0 0, .bool false]) := by
  refine (split_own B L v key val w (by omega) hv h).mono ?_
  rintro e w' ⟨hq, hr⟩
  rw [if_pos h0] at hr
  exact ⟨hq, hr⟩
theorem split_own1 (B L n m : Nat) (v : Value) (key val : List UInt8) (w : World) (hkn : key.length = n) (hvm : val.length = m) (h0 : ¬ n = 0) (hn : n ≤ 4096) (hm : m ≤ 4096) (h : w.ownsRow B 5 1 v L (Lib.byteCells (Lib.uvarint key.length ++ key ++ val))) :
    Calls Yba.prog 6 #[v] w fun e w' => (∃ q, w' = w.drewN q) ∧ ∃ p1 c1 p2 c2, e = .returned (.tuple #[.slice p1 n c1, .slice p2 m c2, .bool true]) ∧ BV w (.slice p1 n c1) key ∧ BV w (.slice p2 m c2) val := by
  refine (split_own B L v key val w (by omega) (by omega) h).mono ?_
  rintro e w' ⟨hq, hr⟩
  rw [if_neg (by omega), hkn, hvm] at hr
  exact ⟨hq, hr⟩

theorem news_of {w w1 : World} {a : Option Addr} {n c : Nat} {l : List UInt8} (h : BV w (.slice a n c) l) (hb : Below w.heap.size w w1) : ∀ ad, a = some ad → ∀ j u, (Lib.byteCells l)[j]? = some u → w1.cell? (ad.add j) = some u := by
  intro ad had j u hu
  have hj : j < l.length := by have := (List.getElem?_eq_some_iff.1 hu).1; rwa [Lib.byteCells_length] at this
  obtain ⟨a', c', he, _, _, h3⟩ := h
  injection he with e1 e2 e3
  subst e1
  obtain ⟨g, o, rfl, hce⟩ := h3 (by omega)
  cases had
  exact cell_later hb (bcells_of hce j u hu)

set_option maxHeartbeats 3200000 in
theorem rt_in (a0 a1 : Option Addr) (n c0 m c1 : Nat) (key val : List UInt8) (w : World) (hn : n ≤ 4096) (hm : m ≤ 4096) (HK : Hid (key.length = n)) (HV : Hid (val.length = m)) (B0 : Hid (BV w (.slice a0 n c0) key)) (B1 : Hid (BV w (.slice a1 m c1) val))
    (N0 : Hid (a0 = none → n = 0 ∧ c0 = 0)) (N1 : Hid (a1 = none → m = 0 ∧ c1 = 0)) :
    Calls Yba.prog 3 #[.slice a0 n c0, .slice a1 m c1] w fun e w' => e = .returned (.bool true) ∧ Below w.heap.size w w' := by
  obtain ⟨i0, hi, hz0, hz1, hz2⟩ := info_parts info5
  have h1' : decide ((4096 : Int) < (n : Int)) = false := by rw [decide_eq_false_iff_not]; omega
  have h2' : decide ((4096 : Int) < (m : Int)) = false := by rw [decide_eq_false_iff_not]; omega
  have hu := Lib.uvarint_length64 (show n < 18446744073709551616 by omega)
  go_enter Yba.func3, Yba.ntmps3
  go_wp2_with (first | (go_at_call 5; refine (Yba.binary_AppendUvarint w.heap.size 0 n (by omega) (.slice none 0 0) [] _ (World.ownsRow_nil _ _ _ _) (Nat.le_refl _) (by omega)).mono ?_; rintro e w1 ⟨v1, rfl, ho1, hb1⟩) | (at_builtin; refine wpList_append_own_any _ rfl (.tmp 21) (.tmp 22) 22 rfl w.heap.size 5 i0 (.int .u8 0) 1 1 Yba.underlying22 hi hz0 hz1 hz2 rfl (by decide) _ _ _ rfl ho1 a0 n c0 (Lib.byteCells key) rfl (by rw [Lib.byteCells_length, HK.out]; simp) N0.out (news_of B0.out hb1) (bcells_one key) (by unfold maxLen; omega) (by omega) hb1.size ?_))
  intro v2 w2 ho2 hg2
  have hb2 : Below w.heap.size w w2 := hb1.grown hg2 hb1.size (fun b hb => (ho1.lt b hb).1)
  clear hg2
  go_wp2_with (first | (at_builtin; refine wpList_append_own_any _ rfl (.tmp 24) (.tmp 25) 22 rfl w.heap.size 5 i0 (.int .u8 0) 1 1 Yba.underlying22 hi hz0 hz1 hz2 rfl (by decide) _ _ _ rfl ho2 a1 m c1 (Lib.byteCells val) rfl (by rw [Lib.byteCells_length, HV.out]; simp) N1.out (news_of B1.out hb2) (bcells_one val) (by unfold maxLen; omega) (by omega) hb2.size ?_))
  intro v3 w3 ho3 hg3
  have hb3 : Below w.heap.size w w3 := hb2.grown hg3 hb2.size (fun b hb => (ho2.lt b hb).1)
  have ho3' : w3.ownsRow w.heap.size 5 1 v3 ((Lib.uvarint n).length + n + m) (Lib.byteCells (Lib.uvarint key.length ++ key ++ val)) := by
    rw [HK.out, Lib.byteCells_append, Lib.byteCells_append, List.append_assoc]
    exact ho3
  have HO : Hid (w3.ownsRow w.heap.size 5 1 v3 ((Lib.uvarint n).length + n + m) (Lib.byteCells (Lib.uvarint key.length ++ key ++ val))) := ho3'
  clear ho3'
  clear ho1 ho2 ho3 hg3 hb1 hb2
  by_cases h0 : n = 0
  · subst h0
    have HS : Hid (Calls Yba.prog 6 #[v3] w3 fun e w' => (∃ q, w' = w3.drewN q) ∧ e = .returned (.tuple #[.slice none 0 0, .slice none 0 0, .bool false])) := split_own0 _ _ v3 key val w3 HK.out (by have := HV.out; omega) HO.out
    go_wp2_with (first | (go_at_call 6; refine HS.out.mono ?_; rintro e w4 ⟨⟨q, rfl⟩, rfl⟩))
    go_ret
    exact ⟨rfl, ⟨hb3.os, hb3.tape, hb3.output, hb3.size, hb3.block⟩⟩
  · have HS : Hid (Calls Yba.prog 6 #[v3] w3 fun e w' => (∃ q, w' = w3.drewN q) ∧ ∃ p1 c1 p2 c2, e = .returned (.tuple #[.slice p1 n c1, .slice p2 m c2, .bool true]) ∧ BV w3 (.slice p1 n c1) key ∧ BV w3 (.slice p2 m c2) val) := split_own1 _ _ n m v3 key val w3 HK.out HV.out h0 hn hm HO.out
    have hn0 : ((n : Int) == 0) = false := by rw [beq_eq_false_iff_ne]; omega
    go_wp2_with (first | (go_at_call 6; refine HS.out.mono ?_; rintro e w4 ⟨⟨q, rfl⟩, p1, d1, p2, d2, rfl, q1, q2⟩; have Q1 : Hid (BV w3 (.slice p1 n d1) key) := q1; have Q2 : Hid (BV w3 (.slice p2 m d2) val) := q2; clear q1 q2) | (go_at_call_of 7 (Value.slice p1 n d1); refine (equal_any p1 a0 n d1 n c0 key key _ (BV_drewN q Q1.out) (BV_drewN q (BV_later B0.out hb3))).mono ?_; rintro e w5 ⟨rfl, rfl⟩) | (go_at_call_of 7 (Value.slice p2 m d2); refine (equal_any p2 a1 m d2 m c1 val val _ (BV_drewN q Q2.out) (BV_drewN q (BV_later B1.out hb3))).mono ?_; rintro e w5 ⟨rfl, rfl⟩))
    go_ret
    exact ⟨by simp, ⟨hb3.os, hb3.tape, hb3.output, hb3.size, hb3.block⟩⟩

theorem rt_any (a0 a1 : Option Addr) (n c0 m c1 : Nat) (z0 z1 : List Int) (w : World) (w0 : IsRow .u8 w a0 n c0 z0) (w1 : IsRow .u8 w a1 m c1 z1) :
    Calls Yba.prog 3 #[.slice a0 n c0, .slice a1 m c1] w fun e w' => e = .returned (.bool true) ∧ Below w.heap.size w w' := by
  by_cases hlong : 4096 < n ∨ 4096 < m
  · exact rt_long a0 a1 n c0 m c1 w hlong
  · have nil : ∀ {a : Option Addr} {n c : Nat} {z : List Int}, IsRow .u8 w a n c z → a = none → n = 0 ∧ c = 0 := by
      rintro a n c z h rfl
      rcases h with ⟨_, h, h', _⟩ | ⟨x, h, _⟩
      · exact ⟨h, h'⟩
      · cases h
    have b0 := BV_of_row w0
    have b1 := BV_of_row w1
    have l0 : ((z0.take n).map toB).length = n := by obtain ⟨_, _, he, _⟩ := b0; injection he with _ h _; exact h.symm
    have l1 : ((z1.take m).map toB).length = m := by obtain ⟨_, _, he, _⟩ := b1; injection he with _ h _; exact h.symm
    exact rt_in a0 a1 n c0 m c1 _ _ w (by omega) (by omega) l0 l1 b0 b1 (nil w0) (nil w1)
end Go.Proofs.Ybulkbcsa
