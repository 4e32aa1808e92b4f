/-
  LawS2683ARoundTrip (function 3): FOR EVERY F.
-/
import Derived.Test.YbulkbcnsFmtWrong
import Derived.Test.YbulkbcnsFmtVec
namespace Go.Proofs.YbulkbcnsFmt
open Go.RowKit Go.Extern.Stop Go.Stop Go.Extern Go.WideMaps Go.Maps
set_option linter.unusedVariables false
attribute [local go_sem] eqMap29 neMap29 neSl24 assert39

theorem zero36 (w : World) : (zeroValue 36).run Ybaf.prog w = .ok (.int .u64 0) w := by kernel_rfl

theorem trip_long (ac ap : Option Addr) (n cc np cp : Nat) (ck : Int) (w : World) (h : 600 < n ∨ 4096 < np) :
    Calls Ybaf.prog 3 #[.slice ac n cc, .int .u32 ck, .slice ap np cp] w fun e w' => e = .returned (.bool true) ∧ Below w.heap.size w w' := by
  by_cases h1 : 600 < n
  · have h1' : decide ((600 : Int) < (n : Int)) = true := by rw [decide_eq_true_iff]; omega
    go_enter Ybaf.func3, Ybaf.ntmps3
    go_wp2
    go_ret
    exact ⟨rfl, Below.refl _ _⟩
  · have h1' : decide ((600 : Int) < (n : Int)) = false := by rw [decide_eq_false_iff_not]; omega
    have h2 : 4096 < np := by omega
    have h2' : decide ((4096 : Int) < (np : Int)) = true := by rw [decide_eq_true_iff]; omega
    go_enter Ybaf.func3, Ybaf.ntmps3
    go_wp2
    go_ret
    exact ⟨rfl, Below.refl _ _⟩

theorem hid {p : Prop} (h : p) : Hid p := h

/-- THE LOOP's RELATION. -/
def RelT (n X : Nat) (cs : List Nat) (w : World) (nz i : Value) (wr : World) : Prop :=
  ∃ k, k ≤ n ∧ i = .int .i64 k ∧ nz = .int .i64 (nzc cs k : Nat) ∧ wr.ownsMap (H := Unit) Ybaf.prog 9 (plainElem Ybaf.prog 36) X n (FD cs n) ∧ Below w.heap.size w wr

theorem nzc_zero {cs : List Nat} {k : Nat} (h : cs.getD k 0 = 0) : nzc cs (k + 1) = nzc cs k := by simp only [nzc]; rw [if_pos h]
theorem nzc_pos {cs : List Nat} {k : Nat} (h : ¬ cs.getD k 0 = 0) : nzc cs (k + 1) = nzc cs k + 1 := by simp only [nzc]; rw [if_neg h]

set_option maxHeartbeats 3200000 in
theorem trip_pos (gc oc n cc np cp ck L rl rc : Nat) (ap ra : Option Addr) (cs : List Nat) (w : World) (hn : n ≤ 600) (hp : np ≤ 4096) (HA : Hid (∀ j, j < n → w.cell? ⟨gc, oc + j, none⟩ = some (.int .u64 (cs.getD j 0))))
    (HS : Hid (∀ w1, Below w.heap.size w w1 → Calls Ybaf.prog 9 #[.slice (some ⟨gc, oc, none⟩) n cc, .int .u32 ck, .slice ap np cp] w1 fun e w2 => ∃ g cap, e = .returned (.slice (some ⟨g, 0, none⟩) L cap) ∧ Below w1.heap.size w1 w2 ∧ ∀ G M, GV w1 G M n ck → Calls Ybaf.prog 10 #[.pointer (some ⟨G, 0, none⟩), .slice (some ⟨g, 0, none⟩) L cap] w2 fun e w3 => ∃ X ra rc, e = .returned (.tuple #[.map (some X), .slice ra rl rc, .nilIface]) ∧ w3.ownsMap (H := Unit) Ybaf.prog 9 (plainElem Ybaf.prog 36) X n (FD cs n) ∧ Below w2.heap.size w2 w3 ∧ Calls Ybaf.prog 11 #[.slice ra rl rc, .slice ap np cp] w3 fun e w' => e = .returned (.bool true) ∧ w' = w3)) :
    Calls Ybaf.prog 3 #[.slice (some ⟨gc, oc, none⟩) n cc, .int .u32 ck, .slice ap np cp] w fun e w' => e = .returned (.bool true) ∧ Below w.heap.size w w' := by
  have h1' : decide ((600 : Int) < (n : Int)) = false := by rw [decide_eq_false_iff_not]; omega
  have h2' : decide ((4096 : Int) < (np : Int)) = false := by rw [decide_eq_false_iff_not]; omega
  go_enter Ybaf.func3, Ybaf.ntmps3
  go_wp2_with (first | (go_at_call 8; refine (group_any n ck _ hn).mono ?_; rintro e w1 ⟨G, M, rfl, hG, hb1⟩) | (go_at_call 9; refine (HS.out _ hb1).mono ?_; rintro e w2 ⟨g, cap, rfl, hb2, HD0⟩; have HD := hid HD0; clear HD0) | (go_at_call 10; refine (HD.out G M hG).mono ?_; rintro e w3 ⟨X, ra, rc, rfl, hm, hb3, HE0⟩; have HE := hid HE0; clear HE0) | (go_at_call 11; refine HE.out.mono ?_; rintro e w' ⟨rfl, rfl⟩))
  have hB3 : Below w.heap.size w w' := (hb1.trans (hb2.mono hb1.size)).trans (hb3.mono (Nat.le_trans hb1.size hb2.size))
  have hRel : RelT n X cs w (.int .i64 0) (.int .i64 0) w' := ⟨0, Nat.zero_le _, rfl, rfl, hm, hB3⟩
  clear hB3 hm hb1 hb2 hb3 HD HE HS hG
  go_loopw [12, 13] (fun nz i wr => RelT n X cs w nz i wr) (fun _ i _ => n - (intOf i).toNat)
  case atStart => exact hRel
  case round =>
    obtain ⟨k, hk, rfl, rfl, hm, hB⟩ := hrel
    clear hRel
    have hzk := nzc_le cs k
    by_cases hlt : k < n
    · have hc0 : w.cell? ⟨gc, oc + k, none⟩ = some (.int .u64 (cs.getD k 0)) := HA.out k hlt
      obtain ⟨x, hx⟩ : ∃ x, x = cs.getD k 0 := ⟨_, rfl⟩
      have hhas := FD_has cs n k (by omega) (by omega)
      unfold ky at hhas
      rw [← hx] at hc0 hhas
      have Hx : Hid (x = cs.getD k 0) := hx
      clear hx
      by_cases h0 : x = 0
      · have hno : Maps.has (FD cs n) (.string (nm k).data.toList) = false := by rw [hhas, decide_eq_false]; rintro ⟨_, h⟩; exact h h0
        subst h0
        clear hhas
        go_wp2_with (first | (go_at_call 12; refine (name_any k _ (by omega)).mono ?_; rintro e w2 ⟨rfl, hb2⟩; have hB2 := hB.trans (hb2.mono hB.size); have hc2 := cell_later hB2 hc0; have hm2 := hm.kept (grown_of_below hb2 none) (by simp)) | (at_lookup; refine wpList_lookup_own_ok_int _ rfl _ _ 29 rfl 9 36 .u64 strKey Ybaf.underlying29 Ybaf.underlying36 (zero36 _) X n (FD cs n) rfl hm2 _ _ rfl (nm_key k) ?_; intro c hat hwc; rw [hno]; clear hat hwc))
        have R3 : RelT n X cs w (.int .i64 (nzc cs k : Nat)) (.int .i64 (k + 1 : Nat)) w2 := ⟨k + 1, hlt, rfl, by rw [nzc_zero Hx.out.symm], hm2, hB2⟩
        clear hm2 hm
        go_roundw
        case rel => exact R3
        case measure => simp [intOf]; omega
      · have hyes : Maps.has (FD cs n) (.string (nm k).data.toList) = true := by rw [hhas, decide_eq_true ⟨hlt, h0⟩]
        have hpos : (0 : Int) < (x : Int) := by omega
        clear hhas
        go_wp2_with (first | (go_at_call 12; refine (name_any k _ (by omega)).mono ?_; rintro e w2 ⟨rfl, hb2⟩; have hB2 := hB.trans (hb2.mono hB.size); have hc2 := cell_later hB2 hc0; have hm2 := hm.kept (grown_of_below hb2 none) (by simp)) | (at_lookup; refine wpList_lookup_own_ok_int _ rfl _ _ 29 rfl 9 36 .u64 strKey Ybaf.underlying29 Ybaf.underlying36 (zero36 _) X n (FD cs n) rfl hm2 _ _ rfl (nm_key k) ?_; intro c hat hwc; rw [hyes]; have hcx : ((c : Int) != (x : Int)) = false := (by have e := FD_at cs (.lit (.int .u64 0)) n k (by omega) hlt (by rw [← Hx.out]; exact h0); unfold ky at e; rw [e] at hat; injection hat with hat; injection hat with _ hat; rw [← hat, Hx.out]; simp); clear hat hwc))
        have R3 : RelT n X cs w (.int .i64 (nzc cs k + 1 : Nat)) (.int .i64 (k + 1 : Nat)) w2 := ⟨k + 1, hlt, rfl, by rw [nzc_pos (by rw [← Hx.out]; exact h0)], hm2, hB2⟩
        clear hm2 hm
        go_roundw
        case rel => exact R3
        case measure => simp [intOf]; omega
    · obtain rfl : k = n := by omega
      have hsz := FD_size cs k (by omega)
      go_wp2_with (first | (at_len; refine wpList_len_own _ rfl _ 29 rfl 9 36 Ybaf.underlying29 _ X k (FD cs k) rfl hm ?_; rw [hsz]))
      go_ret
      exact ⟨by simp, hB⟩
set_option maxHeartbeats 3200000 in
theorem trip_zero (cc np cp ck L rl rc : Nat) (ac ap ra : Option Addr) (cs : List Nat) (w : World) (hp : np ≤ 4096)
    (HS : Hid (∀ w1, Below w.heap.size w w1 → Calls Ybaf.prog 9 #[.slice ac 0 cc, .int .u32 ck, .slice ap np cp] w1 fun e w2 => ∃ g cap, e = .returned (.slice (some ⟨g, 0, none⟩) L cap) ∧ Below w1.heap.size w1 w2 ∧ ∀ G M, GV w1 G M 0 ck → Calls Ybaf.prog 10 #[.pointer (some ⟨G, 0, none⟩), .slice (some ⟨g, 0, none⟩) L cap] w2 fun e w3 => ∃ X ra rc, e = .returned (.tuple #[.map (some X), .slice ra rl rc, .nilIface]) ∧ w3.ownsMap (H := Unit) Ybaf.prog 9 (plainElem Ybaf.prog 36) X 0 (FD cs 0) ∧ Below w2.heap.size w2 w3 ∧ Calls Ybaf.prog 11 #[.slice ra rl rc, .slice ap np cp] w3 fun e w' => e = .returned (.bool true) ∧ w' = w3)) :
    Calls Ybaf.prog 3 #[.slice ac 0 cc, .int .u32 ck, .slice ap np cp] w fun e w' => e = .returned (.bool true) ∧ Below w.heap.size w w' := by
  have h2' : decide ((4096 : Int) < (np : Int)) = false := by rw [decide_eq_false_iff_not]; omega
  go_enter Ybaf.func3, Ybaf.ntmps3
  go_wp2_with (first | (go_at_call 8; refine (group_any 0 ck _ (by omega)).mono ?_; rintro e w1 ⟨G, M, rfl, hG, hb1⟩) | (go_at_call 9; refine (HS.out _ hb1).mono ?_; rintro e w2 ⟨g, cap, rfl, hb2, HD0⟩; have HD := hid HD0; clear HD0) | (go_at_call 10; refine (HD.out G M hG).mono ?_; rintro e w3 ⟨X, ra, rc, rfl, hm, hb3, HE0⟩; have HE := hid HE0; clear HE0) | (go_at_call 11; refine HE.out.mono ?_; rintro e w' ⟨rfl, rfl⟩))
  have hB3 : Below w.heap.size w w' := (hb1.trans (hb2.mono hb1.size)).trans (hb3.mono (Nat.le_trans hb1.size hb2.size))
  have hRel : RelT 0 X cs w (.int .i64 0) (.int .i64 0) w' := ⟨0, Nat.zero_le _, rfl, rfl, hm, hB3⟩
  clear hB3 hm hb1 hb2 hb3 HD HE HS hG
  go_loopw [12, 13] (fun nz i wr => RelT 0 X cs w nz i wr) (fun _ i _ => 0 - (intOf i).toNat)
  case atStart => exact hRel
  case round =>
    obtain ⟨k, hk, rfl, rfl, hm, hB⟩ := hrel
    clear hRel
    obtain rfl : k = 0 := by omega
    have hsz := FD_size cs 0 (by omega)
    go_wp2_with (first | (at_len; refine wpList_len_own _ rfl _ 29 rfl 9 36 Ybaf.underlying29 _ X 0 (FD cs 0) rfl hm ?_; rw [hsz]))
    go_ret
    exact ⟨by simp, hB⟩

theorem UV_later {w w' : World} {v : Value} {cs : List Nat} (h : UV w v cs) (hb : Below w.heap.size w w') : UV w' v cs := by
  obtain ⟨a, c, he, h1, h2⟩ := h
  exact ⟨a, c, he, fun hpos => by obtain ⟨g, o, ha, hc⟩ := h1 hpos; exact ⟨g, o, ha, fun j hj => cell_later hb (hc j hj)⟩, h2⟩

/-- The law, WHOLE. -/
theorem trip_any (F : Interp) (ac ap : Option Addr) (n cc np cp ck : Nat) (cs : List Nat) (pl : List UInt8) (w : World) (hF : F.answers w.tape) (hck : ck < 4294967296) (hu : UV w (.slice ac n cc) cs) (hv : BV w (.slice ap np cp) pl) (hnil : ap = none → np = 0 ∧ cp = 0) :
    Calls Ybaf.prog 3 #[.slice ac n cc, .int .u32 ck, .slice ap np cp] w fun e w' => e = .returned (.bool true) ∧ Below w.heap.size w w' := by
  by_cases hlong : 600 < n ∨ 4096 < np
  · exact trip_long ac ap n cc np cp ck w hlong
  · have hn : n ≤ 600 := by omega
    have hp : np ≤ 4096 := by omega
    have hcn : cs.length = n := by obtain ⟨_, _, he, _⟩ := hu; injection he with _ h _; exact h.symm
    have hpn : pl.length = np := by obtain ⟨_, _, he, _⟩ := hv; injection he with _ h _; exact h.symm
    have hcb : ∀ c ∈ cs, c < 18446744073709551616 := by obtain ⟨_, _, _, _, h⟩ := hu; exact h
    have HS : ∀ w1, Below w.heap.size w w1 → Calls Ybaf.prog 9 #[.slice ac n cc, .int .u32 ck, .slice ap np cp] w1 fun e w2 => ∃ g cap, e = .returned (.slice (some ⟨g, 0, none⟩) (stampL cs ck pl).length cap) ∧ Below w1.heap.size w1 w2 ∧ ∀ G M, GV w1 G M n ck → Calls Ybaf.prog 10 #[.pointer (some ⟨G, 0, none⟩), .slice (some ⟨g, 0, none⟩) (stampL cs ck pl).length cap] w2 fun e w3 => ∃ X ra rc, e = .returned (.tuple #[.map (some X), .slice ra pl.length rc, .nilIface]) ∧ w3.ownsMap (H := Unit) Ybaf.prog 9 (plainElem Ybaf.prog 36) X n (FD cs n) ∧ Below w2.heap.size w2 w3 ∧ Calls Ybaf.prog 11 #[.slice ra pl.length rc, .slice ap np cp] w3 fun e w' => e = .returned (.bool true) ∧ w' = w3 := by
      intro w1 hb1
      refine (stamp_any ac ap n cc np cp ck cs pl w1 hn hp hck (UV_later hu hb1) (BV_later hv hb1) hnil).mono ?_
      rintro e w2 ⟨g, cap, rfl, hbv, hb2⟩
      refine ⟨g, cap, rfl, hb2, fun G M hG => ?_⟩
      have H := dm_any F G M n ck (some ⟨g, 0, none⟩) (stampL cs ck pl).length cap (stampL cs ck pl) w2 (by rw [hb2.tape, hb1.tape]; exact hF) (hG.later hb2) hn hbv
      have hrd := rdTo_stamp cs ck pl hcb
      rw [hcn] at hrd
      rw [dec_stamp n ck ck cs pl hcn (by omega) hck, if_neg (by simp), hrd.1] at H
      refine H.mono ?_
      rintro e w3 ⟨g', o', hat, X, rfl, hX, hm, hb3⟩
      have hbv3 : BV w3 (cutV g' o' (stampL cs ck pl).length cap ((stampL cs ck pl).length - pl.length)) pl := by
        obtain ⟨_, h1, h2, _, h3⟩ := hat
        have := cutV_BV (w := w3) (g := g') (o := o') (c := cap) (l := stampL cs ck pl) (off := (stampL cs ck pl).length - pl.length) h1 h2 (by omega) (fun j hj => cell_later hb3 (h3 j hj))
        rw [hrd.2] at this
        exact this
      have hbv3' := hbv3
      obtain ⟨ra, rc, hrv, _⟩ := hbv3'
      rw [hrv] at hbv3 ⊢
      refine ⟨X, ra, rc, rfl, hm, hb3, ?_⟩
      have hB3 : Below w.heap.size w w3 := (hb1.trans (hb2.mono hb1.size)).trans (hb3.mono (Nat.le_trans hb1.size hb2.size))
      have he := equal_any ra ap pl.length rc np cp pl pl w3 hbv3 (BV_later hv hB3)
      simpa using he
    by_cases h0 : n = 0
    · subst h0
      exact trip_zero cc np cp ck _ pl.length 0 ac ap none cs w hp HS
    · obtain ⟨a, c, he, h1, _⟩ := hu
      injection he with x1 x2 x3
      subst x1 x3
      obtain ⟨g, o, rfl, hce⟩ := h1 (by omega)
      exact trip_pos g o n cc np cp ck _ pl.length 0 ap none cs w hn hp (fun j hj => hce j (by omega)) HS
end Go.Proofs.YbulkbcnsFmt
