/-
  THE CLOSURE THAT take RETURNS (function 15): it gives the size back to both rooms and counts the request off.
-/
import Derived.Test.YbulkbctqDoorNew
import Derived.Deep.DeepCutAuto
namespace Go.Proofs.YbulkbctqDoor
open Go.RowKit Go.MuLone
set_option linter.unusedVariables false
set_option linter.unusedSimpArgs false

/-- The hosts, once a host with n requests has one less. -/
def lessOne (n i : Int) (ents : List (Int × Nat)) : List (Int × Nat) := if n = 1 then dropKey i ents else ents

theorem leave_any (Bk S X j s : Nat) (a4 : Addr) (i : Int) (cb cs : Array Value) (tb ts : TypeId) (w : World) (ents : List (Int × Nat)) (n : Int) (hn : 1 ≤ n) (hn' : n ≤ 100000000) (hb : Blk w Bk cb tb) (hs : Blk w S cs ts) (hne : Bk ≠ S) (hX1 : X ≠ Bk) (hX2 : X ≠ S)
    (hm : MapIs w a4 X ents) (hq : findIx i ents 0 = some (j, s))
    (c4 : cb[4]? = some (.int .i32 0)) (c6 : cb[6]? = some (.map (some X))) (s4 : cs[4]? = some (.int .i64 n)) :
    Calls Ybad.prog 13 #[.pointer (some ⟨Bk, 0, none⟩), K a4 i, .pointer (some ⟨S, 0, none⟩)] w fun e w' => e = .returned (.tuple #[]) ∧ Blk w' S (cs.setIfInBounds 4 (.int .i64 (n - 1))) ts ∧ Blk w' Bk cb tb ∧ MapIs w' a4 X (lessOne n i ents) ∧ Turn (fun k => k = S ∨ k = Bk ∨ k = X) w w' := by
  unfold lessOne
  by_cases h1 : n = 1
  · subst h1
    obtain ⟨es, clock, hX, hk⟩ := hm
    exact leave_last Bk S X clock j s a4 i cb cs tb ts w ents es hb hs hne hX1 hX2 hX hk hq c4 c6 s4
  · refine (leave_keep Bk S a4 i cb cs tb ts w n (by omega) hn' hb hs hne c4 s4).mono ?_
    rintro e w' ⟨he, h2, h3, h4⟩
    rw [if_neg h1]
    exact ⟨he, h2, h3, hm.turn h4 (by rintro (h | h); exact hX2 h; exact hX1 h), h4.mono (fun k h => h.elim .inl (fun h => .inr (.inl h)))⟩

set_option maxHeartbeats 3200000 in
theorem release_any (p0 p1 p2 p3 Bk S X j s wc wc' : Nat) (wa wa' : Option Addr) (a4 : Addr) (i : Int) (cb cs : Array Value) (tb ts : TypeId) (w : World) (ents : List (Int × Nat)) (n fr f size : Int) (hn : 1 ≤ n) (hn' : n ≤ 100000000)
    (h0 : 0 ≤ size) (hsz : size ≤ 4194304) (hf0 : 0 ≤ f) (hf1 : f ≤ 4194304) (hr0 : 0 ≤ fr) (hr1 : fr ≤ 16777216)
    (hb : Blk w Bk cb tb) (hs : Blk w S cs ts) (hne : Bk ≠ S) (hX1 : X ≠ Bk) (hX2 : X ≠ S)
    (hm : MapIs w a4 X ents) (hq : findIx i ents 0 = some (j, s))
    (c0 : cb[0]? = some (.int .i32 0)) (c2 : cb[2]? = some (.int .i64 fr)) (c3 : cb[3]? = some (.slice wa 0 wc)) (c4 : cb[4]? = some (.int .i32 0)) (c6 : cb[6]? = some (.map (some X)))
    (s0 : cs[0]? = some (.int .i32 0)) (s2 : cs[2]? = some (.int .i64 f)) (s3 : cs[3]? = some (.slice wa' 0 wc')) (s4 : cs[4]? = some (.int .i64 n))
    (q0 : Blk w p0 #[.pointer (some ⟨Bk, 0, none⟩)] 23) (q1 : Blk w p1 #[.int .i64 size] 2) (q2 : Blk w p2 #[.pointer (some ⟨S, 0, none⟩)] 68) (q3 : Blk w p3 #[.int .u64 0, .int .u64 (lo i), .pointer (some a4), .int .u8 33] 49)
    (n0 : p0 ≠ Bk) (n0' : p0 ≠ S) (n1 : p1 ≠ Bk) (n1' : p1 ≠ S) (n2 : p2 ≠ Bk) (n2' : p2 ≠ S) (n3 : p3 ≠ Bk) (n3' : p3 ≠ S) :
    Calls Ybad.prog 15 #[.pointer (some ⟨p0, 0, none⟩), .pointer (some ⟨p1, 0, none⟩), .pointer (some ⟨p2, 0, none⟩), .pointer (some ⟨p3, 0, none⟩)] w fun e w' => e = .returned (.tuple #[]) ∧ Blk w' Bk (cb.setIfInBounds 2 (.int .i64 (fr + size))) tb ∧ Blk w' S ((cs.setIfInBounds 2 (.int .i64 (f + size))).setIfInBounds 4 (.int .i64 (n - 1))) ts ∧ MapIs w' a4 X (lessOne n i ents) ∧ Turn (fun k => k = S ∨ k = Bk ∨ k = X) w w' := by
  have d0 := (q0.cell 0)
  have d1 := (q1.cell 0)
  simp at d0 d1
  go_enter Ybad.func15, Ybad.ntmps15
  go_upto_region 0 with fail
  go_cut [] from 4 (fun wx => Blk wx Bk (cb.setIfInBounds 2 (.int .i64 (fr + size))) tb ∧ Turn (fun k => k = Bk) w wx)
  case first =>
    go_region_with (go_at_call 14; refine (give_any Bk 0 wc wa size fr cb tb _ h0 (by omega) hr0 (by omega) (hb.drewN 1) c0 c2 c3).mono ?_; rintro e w1 ⟨rfl, hb1, ht1⟩)
    all_goals
      go_wp2_with fail
      go_meet
      exact ⟨hb1, ((Turn.refl _ w).drewN 1).trans ht1 (fun _ h => .inl h)⟩
  case rest =>
    obtain ⟨hb1, ht1⟩ := hcut
    have hs1 := ht1.blk hs hne.symm
    have d2 := (ht1.blk q2 n2).cell 0
    have d1' := (ht1.blk q1 n1).cell 0
    simp at d2 d1'
    go_upto_region 1 with fail
    go_cut [] from 4 (fun wx => Blk wx Bk (cb.setIfInBounds 2 (.int .i64 (fr + size))) tb ∧ Blk wx S (cs.setIfInBounds 2 (.int .i64 (f + size))) ts ∧ Turn (fun k => k = S ∨ k = Bk) w wx)
    case first =>
      go_region_with (go_at_call 14; refine (give_any S 0 wc' wa' size f cs ts _ h0 (by omega) hf0 (by omega) (hs1.drewN 1) s0 s2 s3).mono ?_; rintro e w1 ⟨rfl, hs2, ht2⟩)
      all_goals
        go_wp2_with fail
        go_meet
        exact ⟨ht2.blk (hb1.drewN 1) hne, hs2, ((ht1.mono (fun _ h => .inr h)).drewN 1).trans ht2 (fun _ h => .inl (.inl h))⟩
    case rest =>
      obtain ⟨hb2, hs2, ht2⟩ := hcut
      have e0 := (ht2.blk q0 (by rintro (h | h); exact n0' h; exact n0 h)).cell 0
      have e2 := (ht2.blk q2 (by rintro (h | h); exact n2' h; exact n2 h)).cell 0
      have q3' := (ht2.blk q3 (by rintro (h | h); exact n3' h; exact n3 h))
      have e30 := q3'.cell 0
      have e31 := q3'.cell 1
      have e32 := q3'.cell 2
      have e33 := q3'.cell 3
      simp at e0 e2 e30 e31 e32 e33
      have hm2 := hm.turn ht2 (by rintro (h | h); exact hX2 h; exact hX1 h)
      have c4' : (cb.setIfInBounds 2 (.int .i64 (fr + size)))[4]? = some (.int .i32 0) := by simp [c4]
      have c6' : (cb.setIfInBounds 2 (.int .i64 (fr + size)))[6]? = some (.map (some X)) := by simp [c6]
      have s4' : (cs.setIfInBounds 2 (.int .i64 (f + size)))[4]? = some (.int .i64 n) := by simp [s4]
      go_wp2_with (go_at_call 13; refine (leave_any Bk S X j s a4 i _ _ tb ts _ ents n hn hn' hb2 hs2 hne hX1 hX2 hm2 hq c4' c6' s4').mono ?_; rintro e w3 ⟨rfl, hs3, hb3, hm3, ht3⟩)
      go_end0
      exact ⟨rfl, hb3, hs3, hm3, (ht2.mono (fun k h => h.elim .inl (fun h => .inr (.inl h)))).trans ht3 (fun _ h => .inl h)⟩
end Go.Proofs.YbulkbctqDoor
