/-
  LawS2683AAnyBytes (function 5): FOR EVERY F.
-/
import Derived.Test.YbulkbcnsFmtDecode
namespace Go.Proofs.YbulkbcnsFmt
open Go.RowKit Go.Extern.Stop Go.Stop Go.Extern Go.WideMaps Go.Maps
set_option linter.unusedVariables false

theorem eqMap29 (r : Option Nat) (w : World) : (binOp .eql 29 (.map r) (.map none)).run Ybaf.prog w = .ok (.bool r.isNone) w := run_eql_map_nil w 29 9 36 r Ybaf.underlying29
theorem neMap29 (r : Option Nat) (w : World) : (binOp .neq 29 (.map r) (.map none)).run Ybaf.prog w = .ok (.bool (!r.isNone)) w := run_neq_map_nil w 29 9 36 r Ybaf.underlying29
theorem neSl24 (a : Option Addr) (n c : Nat) (w : World) : (binOp .neq 24 (.slice a n c) (.slice none 0 0)).run Ybaf.prog w = .ok (.bool (!a.isNone)) w := run_neq_slice_nil_any w 24 5 a n c 0 0 Ybaf.underlying24
attribute [local go_sem] eqMap29 neMap29 neSl24 assert39

/-- bytes.Equal over 'BV'. -/
theorem equal_any (p1 p2 : Option Addr) (n c m d : Nat) (l1 l2 : List UInt8) (w : World) (h1 : BV w (.slice p1 n c) l1) (h2 : BV w (.slice p2 m d) l2) :
    Calls Ybaf.prog 11 #[.slice p1 n c, .slice p2 m d] w fun e w' => e = .returned (.bool (l1 == l2)) ∧ w' = w := by
  have key : ∀ (p : Option Addr) (n c : Nat) (l : List UInt8), BV w (.slice p n c) l → l.length = n ∧ Lib.BytesIn w p n (l.map fun b => (b.toNat : Int)) := by
    intro p n c l h
    obtain ⟨a, c', he, h1, h2, h3⟩ := h
    injection he with e1 e2 e3
    subst e1 e2 e3
    refine ⟨rfl, fun hp => ?_⟩
    obtain ⟨g, o, rfl, hc⟩ := h3 hp
    refine ⟨g, o, rfl, fun i hi => ?_⟩
    rw [hc i hi]
    simp [hi]
  have hb : ∀ l : List UInt8, Lib.bytesOf (l.map fun b => (b.toNat : Int)) = l := by
    intro l
    induction l with
    | nil => rfl
    | cons b t ih =>
      have e : UInt8.ofNat ((b.toNat : Int)).toNat = b := by rw [Int.toNat_natCast, UInt8.ofNat_toNat]
      simp only [Lib.bytesOf, List.map_cons, e] at ih ⊢
      rw [ih]
  have k1 := key p1 n c l1 h1
  have k2 := key p2 m d l2 h2
  have := Ybaf.bytes_Equal_all p1 p2 n c m d (l1.map fun b => (b.toNat : Int)) (l2.map fun b => (b.toNat : Int)) w (by simpa using k1.1) (by simpa using k2.1) k1.2 k2.2
  rw [hb, hb] at this
  exact this

theorem group_any' (N ck : Int) (w : World) (h0 : 0 ≤ N) (h1 : N ≤ 600) :
    Calls Ybaf.prog 8 #[.int .i64 N, .int .u32 ck] w fun e w' => ∃ G M, e = .returned (.pointer (some ⟨G, 0, none⟩)) ∧ GV w' G M N.toNat ck ∧ Below w.heap.size w w' := by
  obtain ⟨n, rfl⟩ := Int.eq_ofNat_of_zero_le h0
  rw [Int.toNat_natCast]
  exact group_any n ck w (by omega)

theorem any_long (av : Option Addr) (m cv : Nat) (x ck : Int) (w : World) (h : 4096 < m) :
    Calls Ybaf.prog 5 #[.slice av m cv, .int .u8 x, .int .u32 ck] w fun e w' => e = .returned (.bool true) ∧ Below w.heap.size w w' := by
  go_enter Ybaf.func5, Ybaf.ntmps5
  go_wp2
  go_ret
  exact ⟨rfl, Below.refl _ _⟩

set_option maxHeartbeats 1600000 in
theorem any_no (av : Option Addr) (m cv d : Nat) (x ck : Int) (w : World) (h : m ≤ 4096) (hx0 : 0 ≤ x) (hx1 : x ≤ 255) (hd : d ≤ m)
    (HD : Hid (∀ w1 G M, GV w1 G M (x % 4).toNat ck → Below w.heap.size w w1 → Calls Ybaf.prog 10 #[.pointer (some ⟨G, 0, none⟩), .slice av m cv] w1 (DMno d w1))) :
    Calls Ybaf.prog 5 #[.slice av m cv, .int .u8 x, .int .u32 ck] w fun e w' => e = .returned (.bool true) ∧ Below w.heap.size w w' := by
  have hd' : (d : Int) ≤ (m : Int) := by omega
  have hd2 : (0 : Int) ≤ (d : Int) := by omega
  go_enter Ybaf.func5, Ybaf.ntmps5
  go_wp2_with (first | (go_at_call 8; refine (group_any' _ ck _ (by omega) (by omega)).mono ?_; rintro e w1 ⟨G, M, rfl, hG, hb1⟩) | (go_at_call 10; refine (HD.out _ G M hG hb1).mono ?_; rintro e w2 ⟨k, rfl, hk, hk', hc, hb2⟩))
  go_ret
  exact ⟨rfl, hb1.trans (hb2.mono hb1.size)⟩

set_option maxHeartbeats 1600000 in
theorem any_ok_in (g o off rl cv rc : Nat) (ra : Option Addr) (x ck : Int) (w : World) (h : off + rl ≤ 4096) (h1 : 1 ≤ off) (hcv : off + rl ≤ cv) (hcm : cv ≤ maxLen) (hne : ¬ cv = off) (hx0 : 0 ≤ x) (hx1 : x ≤ 255) (h3 : w.cell? ⟨g, o, none⟩ = some (.int .u8 3))
    (HD : Hid (∀ w1 G M, GV w1 G M (x % 4).toNat ck → Below w.heap.size w w1 → Calls Ybaf.prog 10 #[.pointer (some ⟨G, 0, none⟩), .slice (some ⟨g, o, none⟩) (off + rl) cv] w1 fun e w2 => ∃ X, e = .returned (.tuple #[.map (some X), .slice ra rl rc, .nilIface]) ∧ Below w1.heap.size w1 w2))
    (HE : Hid (∀ w2, Below w.heap.size w w2 → Calls Ybaf.prog 11 #[.slice (some ⟨g, o + off, none⟩) rl (cv - off), .slice ra rl rc] w2 fun e w' => e = .returned (.bool true) ∧ w' = w2)) :
    Calls Ybaf.prog 5 #[.slice (some ⟨g, o, none⟩) (off + rl) cv, .int .u8 x, .int .u32 ck] w fun e w' => e = .returned (.bool true) ∧ Below w.heap.size w w' := by
  unfold maxLen at hcm
  have hz : ((off : Int) + (rl : Int) == 0) = false := by rw [beq_eq_false_iff_ne]; omega
  have hge : decide ((off : Int) + (rl : Int) ≤ (rl : Int)) = false := by rw [decide_eq_false_iff_not]; omega
  go_enter Ybaf.func5, Ybaf.ntmps5
  go_wp2_with (first | (go_at_call 8; refine (group_any' _ ck _ (by omega) (by omega)).mono ?_; rintro e w1 ⟨G, M, rfl, hG, hb1⟩) | (go_at_call 10; refine (HD.out _ G M hG hb1).mono ?_; rintro e w2 ⟨X, rfl, hb2⟩; have hB2 := hb1.trans (hb2.mono hb1.size); have c2 := cell_later hB2 h3) | (go_at_call 11; go_must (go_fit (HE.out _ hB2)); rintro e w' ⟨rfl, rfl⟩))
  go_ret
  exact ⟨rfl, hB2⟩
set_option maxHeartbeats 1600000 in
theorem any_ok_end (g o off rc : Nat) (ra : Option Addr) (x ck : Int) (w : World) (h : off ≤ 4096) (h1 : 1 ≤ off) (hx0 : 0 ≤ x) (hx1 : x ≤ 255) (h3 : w.cell? ⟨g, o, none⟩ = some (.int .u8 3))
    (HD : Hid (∀ w1 G M, GV w1 G M (x % 4).toNat ck → Below w.heap.size w w1 → Calls Ybaf.prog 10 #[.pointer (some ⟨G, 0, none⟩), .slice (some ⟨g, o, none⟩) off off] w1 fun e w2 => ∃ X, e = .returned (.tuple #[.map (some X), .slice ra 0 rc, .nilIface]) ∧ Below w1.heap.size w1 w2))
    (HE : Hid (∀ w2, Below w.heap.size w w2 → Calls Ybaf.prog 11 #[.slice (some ⟨g, o, none⟩) 0 0, .slice ra 0 rc] w2 fun e w' => e = .returned (.bool true) ∧ w' = w2)) :
    Calls Ybaf.prog 5 #[.slice (some ⟨g, o, none⟩) off off, .int .u8 x, .int .u32 ck] w fun e w' => e = .returned (.bool true) ∧ Below w.heap.size w w' := by
  have hz : ((off : Int) == 0) = false := by rw [beq_eq_false_iff_ne]; omega
  have hge : decide ((off : Int) ≤ 0) = false := by rw [decide_eq_false_iff_not]; omega
  go_enter Ybaf.func5, Ybaf.ntmps5
  go_wp2_with (first | (go_at_call 8; refine (group_any' _ ck _ (by omega) (by omega)).mono ?_; rintro e w1 ⟨G, M, rfl, hG, hb1⟩) | (go_at_call 10; refine (HD.out _ G M hG hb1).mono ?_; rintro e w2 ⟨X, rfl, hb2⟩; have hB2 := hb1.trans (hb2.mono hb1.size); have c2 := cell_later hB2 h3) | (go_at_call 11; go_must (go_fit (HE.out _ hB2)); rintro e w' ⟨rfl, rfl⟩))
  go_ret
  exact ⟨rfl, hB2⟩

/-- LawS2683AAnyBytes, WHOLE. -/
theorem any_any (F : Interp) (v : Value) (l : List UInt8) (x : Int) (ck : Nat) (w : World) (hF : F.answers w.tape) (hv : BV w v l) (hx0 : 0 ≤ x) (hx1 : x ≤ 255) :
    Calls Ybaf.prog 5 #[v, .int .u8 x, .int .u32 ck] w fun e w' => e = .returned (.bool true) ∧ Below w.heap.size w w' := by
  have hv' := hv
  obtain ⟨a, c, rfl, hlc, hcm, hcell⟩ := hv'
  by_cases hbig : 4096 < l.length
  · exact any_long a _ c x ck w hbig
  · have HD : ∀ w1 G M, GV w1 G M (x % 4).toNat ck → Below w.heap.size w w1 → Calls Ybaf.prog 10 #[.pointer (some ⟨G, 0, none⟩), .slice a l.length c] w1 fun e w' => match dec (x % 4).toNat ck l with
        | .inl d => DMno d w1 e w'
        | .inr (cs, off) => ∃ g o, At w1 (.slice a l.length c) l g o c ∧ DMok (x % 4).toNat g o c l cs off w1 e w' :=
      fun w1 G M hG hb => dm_any F G M _ ck a l.length c l w1 (by rw [hb.tape]; exact hF) hG (by omega) (BV_later hv hb)
    cases hd : dec (x % 4).toNat ck l with
    | inl d =>
      rw [hd] at HD
      exact any_no a l.length c d x ck w (by omega) hx0 hx1 (dec_inl hd) HD
    | inr p =>
      obtain ⟨cs, off⟩ := p
      rw [hd] at HD
      obtain ⟨hh, _, ho1, ho2, _⟩ := dec_inr hd
      obtain ⟨g, o, rfl, hce⟩ := hcell (by omega)
      have h3 : w.cell? ⟨g, o, none⟩ = some (.int .u8 3) := by
        have := hce 0 (by omega)
        cases l with
        | nil => simp at hh
        | cons b t =>
          simp at hh
          subst hh
          exact this
      have HD' : ∀ w1 G M, GV w1 G M (x % 4).toNat ck → Below w.heap.size w w1 → Calls Ybaf.prog 10 #[.pointer (some ⟨G, 0, none⟩), .slice (some ⟨g, o, none⟩) l.length c] w1 fun e w2 => ∃ X, e = .returned (.tuple #[.map (some X), cutV g o l.length c off, .nilIface]) ∧ Below w1.heap.size w1 w2 := by
        intro w1 G M hG hb
        refine (HD w1 G M hG hb).mono ?_
        rintro e w' ⟨g', o', hat2, X, rfl, hX, hm, hb2⟩
        obtain ⟨hval2, _⟩ := hat2
        injection hval2 with e1
        injection e1 with e1
        injection e1 with e1 e2
        subst e1 e2
        exact ⟨X, rfl, hb2⟩
      have HB : ∀ w2, Below w.heap.size w w2 → BV w2 (cutV g o l.length c off) (l.drop off) := fun w2 hb => cutV_BV hlc hcm ho2 (fun j hj => cell_later hb (hce j hj))
      by_cases hc : c = off
      · have el : l.length = off := by omega
        have ec : cutV g o l.length c off = .slice (some ⟨g, o, none⟩) 0 0 := by unfold cutV; rw [if_pos hc]
        rw [ec] at HD' HB
        rw [el, hc] at HD' ⊢
        refine any_ok_end g o off 0 _ x ck w (by omega) ho1 hx0 hx1 h3 HD' (fun w2 hb => ?_)
        have := equal_any _ _ 0 0 0 0 (l.drop off) (l.drop off) w2 (HB w2 hb) (HB w2 hb)
        simpa using this
      · obtain ⟨rl, hrl⟩ : ∃ rl, l.length = off + rl := ⟨l.length - off, by omega⟩
        have ec : cutV g o l.length c off = .slice (some ⟨g, o + off, none⟩) rl (c - off) := by unfold cutV; rw [if_neg hc, hrl]; congr 1; omega
        rw [ec] at HD' HB
        rw [hrl] at HD' ⊢
        refine any_ok_in g o off rl c (c - off) _ x ck w (by omega) ho1 (by omega) hcm hc hx0 hx1 h3 HD' (fun w2 hb => ?_)
        have := equal_any _ _ rl (c - off) rl (c - off) (l.drop off) (l.drop off) w2 (HB w2 hb) (HB w2 hb)
        simpa using this
end Go.Proofs.YbulkbcnsFmt
