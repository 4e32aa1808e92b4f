/-
  LawS2683AWrongCheck (function 4): FOR EVERY F.
-/
import Derived.Test.YbulkbcnsFmtWrite
import Derived.Test.YbulkbcnsFmtAny
import Derived.Laws.BitsAllLaws
namespace Go.Proofs.YbulkbcnsFmt
open Go.RowKit Go.Extern.Stop Go.Stop Go.Extern Go.WideMaps Go.Maps
set_option linter.unusedVariables false
attribute [local go_sem] eqMap29 neMap29 neSl24 assert39

/-- The value is a slice (nil too) whose elements are the uint64s cs. -/
def UV (w : World) (v : Value) (cs : List Nat) : Prop :=
  ∃ a c, v = .slice a cs.length c ∧ (0 < cs.length → ∃ g o, a = some ⟨g, o, none⟩ ∧ ∀ j, j < cs.length → w.cell? ⟨g, o + j, none⟩ = some (.int .u64 (cs.getD j 0))) ∧ ∀ c ∈ cs, c < 18446744073709551616

theorem u64_bounds {z : Int} (h : (Lit.int .u64 z).wf = true) : 0 ≤ z ∧ z ≤ 18446744073709551615 := by
  simpa [Lit.wf, IntKind.min, IntKind.max, IntKind.signed, IntKind.bits] using h

theorem UV_of_row {w : World} {a : Option Addr} {len cap : Nat} {zs : List Int} (h : IsRow .u64 w a len cap zs) : UV w (.slice a len cap) ((zs.take len).map Int.toNat) := by
  rcases h with ⟨rfl, rfl, rfl, rfl⟩ | ⟨x, rfl, hl, hm, hz, hc, hw⟩
  · exact ⟨none, 0, rfl, fun h => by simp at h, fun c h => by simp at h⟩
  · have hlen : ((zs.take len).map Int.toNat).length = len := by simp; omega
    refine ⟨some x, cap, by rw [hlen], fun hpos => ?_, fun c hc' => ?_⟩
    · rw [hlen] at hpos
      obtain ⟨b, off, spot⟩ := x
      have hspot : spot = none := by simpa [Addr.add] using World.cell?_spot (hc 0 (by omega))
      subst hspot
      refine ⟨b, off, rfl, fun j hj => ?_⟩
      rw [hlen] at hj
      have hj' : j < zs.length := by omega
      have h1 := hc j hj'
      have hb := u64_bounds (hw zs[j] (List.getElem_mem hj'))
      have e1 : zs.getD j 0 = zs[j] := by simp [List.getD, hj']
      have e2 : ((zs.take len).map Int.toNat).getD j 0 = (zs[j]).toNat := by
        rw [List.getD_eq_getElem?_getD, List.getElem?_map, List.getElem?_take, if_pos hj, List.getElem?_eq_getElem hj']; rfl
      rw [e2, Int.toNat_of_nonneg hb.1, ← e1, ← WideShapes.add_plain]
      exact h1
    · obtain ⟨z, hz', rfl⟩ := List.mem_map.1 hc'
      have := u64_bounds (hw z (List.mem_of_mem_take hz'))
      omega

/-- zzs2683astamp, WHOLE. -/
theorem stamp_any (ac ap : Option Addr) (n cc np cp ck : Nat) (cs : List Nat) (pl : List UInt8) (w : World) (hn : n ≤ 600) (hp : np ≤ 4096) (hck : ck < 4294967296) (hu : UV w (.slice ac n cc) cs) (hv : BV w (.slice ap np cp) pl) (hnil : ap = none → np = 0 ∧ cp = 0) :
    Calls Ybaf.prog 9 #[.slice ac n cc, .int .u32 ck, .slice ap np cp] w fun e w' => ∃ g cap, e = .returned (.slice (some ⟨g, 0, none⟩) (stampL cs ck pl).length cap) ∧ BV w' (.slice (some ⟨g, 0, none⟩) (stampL cs ck pl).length cap) (stampL cs ck pl) ∧ Below w.heap.size w w' := by
  obtain ⟨a1, c1, he1, hc1, hb1⟩ := hu
  injection he1 with x1 x2 x3
  subst x1 x2 x3
  obtain ⟨a2, c2, he2, hlc, hcm, hc2⟩ := hv
  injection he2 with y1 y2 y3
  subst y1 y2 y3
  have HC : ∀ w1, Below w.heap.size w w1 → ∀ ad, ap = some ad → ∀ j u, (Lib.byteCells pl)[j]? = some u → w1.cell? (ad.add j) = some u := by
    intro w1 hb ad had j u hu
    have hj : j < pl.length := by have := (List.getElem?_eq_some_iff.1 hu).1; rwa [Lib.byteCells_length] at this
    obtain ⟨g, o, rfl, hce⟩ := hc2 (by omega)
    cases had
    exact cell_later hb (bcells_of hce j u hu)
  have fin : ∀ (e : Ending) (w' : World), (∃ v', e = .returned v' ∧ w'.ownsRow w.heap.size 5 1 v' (stampL cs ck pl).length (Lib.byteCells (stampL cs ck pl)) ∧ Below w.heap.size w w') → ∃ g cap, e = .returned (.slice (some ⟨g, 0, none⟩) (stampL cs ck pl).length cap) ∧ BV w' (.slice (some ⟨g, 0, none⟩) (stampL cs ck pl).length cap) (stampL cs ck pl) ∧ Below w.heap.size w w' := by
    rintro e w' ⟨v', rfl, ho, hb⟩
    have hpos : 0 < (stampL cs ck pl).length := by unfold stampL; simp
    have hform : ∃ g cap, v' = .slice (some ⟨g, 0, none⟩) (stampL cs ck pl).length cap := by
      rcases ho.2 with ⟨_, h⟩ | ⟨g, cap, cur, h, _⟩
      · omega
      · exact ⟨_, _, h⟩
    obtain ⟨g, cap, rfl⟩ := hform
    exact ⟨g, cap, rfl, BV_of_own ho, hb⟩
  by_cases h0 : cs.length = 0
  · rw [h0] at hn ⊢
    exact (stamp_zero cc ck pl.length cp ac ap cs pl w hn hp hck h0 hb1 rfl hnil HC).mono fin
  · obtain ⟨g, o, rfl, hce⟩ := hc1 (by omega)
    exact (stamp_pos cs.length cc ck pl.length cp g o ap cs pl w hn hp hck rfl hb1 rfl hce hnil HC).mono fin

theorem wrong_long (ac ap : Option Addr) (n cc np cp : Nat) (ck dl : Int) (w : World) (h : 600 < n ∨ 4096 < np) :
    Calls Ybaf.prog 4 #[.slice ac n cc, .int .u32 ck, .int .u32 dl, .slice ap np cp] w fun e w' => e = .returned (.bool true) ∧ Below w.heap.size w w' := by
  by_cases h1 : 600 < n
  · have h1' : decide ((600 : Int) < (n : Int)) = true := by rw [decide_eq_true_iff]; omega
    go_enter Ybaf.func4, Ybaf.ntmps4
    go_wp2
    go_ret
    exact ⟨rfl, Below.refl _ _⟩
  · have h1' : decide ((600 : Int) < (n : Int)) = false := by rw [decide_eq_false_iff_not]; omega
    have h2 : 4096 < np := by omega
    have h2' : decide ((4096 : Int) < (np : Int)) = true := by rw [decide_eq_true_iff]; omega
    go_enter Ybaf.func4, Ybaf.ntmps4
    go_wp2
    go_ret
    exact ⟨rfl, Below.refl _ _⟩


/-- 'len(binary.AppendUvarint(nil, x))'. -/
theorem app_nil (n : Nat) (w0 w : World) (hn : n ≤ 600) (hb : Below w0.heap.size w0 w) :
    Calls Ybaf.prog 13 #[.slice none 0 0, .int .u64 (IntKind.u64.wrap (n : Int))] w.drew fun e w' => ∃ g cap, e = .returned (.slice (some ⟨g, 0, none⟩) (Lib.uvarint n).length cap) ∧ Below w.heap.size w w' := by
  have ew : IntKind.u64.wrap (n : Int) = (n : Int) := by simp [IntKind.wrap, IntKind.signed, IntKind.bits]; omega
  rw [ew]
  refine (Ybaf.binary_AppendUvarint w.heap.size 0 n (by omega) (.slice none 0 0) [] w.drew (World.ownsRow_nil _ _ _ _) (Nat.le_refl _) (by omega)).mono ?_
  rintro e w' ⟨v', rfl, ho, hb'⟩
  have hp := Lib.uvarint_pos n
  rcases ho.2 with ⟨_, h⟩ | ⟨g, cap, cur, h, _⟩
  · omega
  · rw [Nat.zero_add] at h
    exact ⟨g, cap, by rw [h], ⟨hb'.os, hb'.tape, hb'.output, hb'.size, hb'.block⟩⟩

theorem xor_ne (a b : Nat) (h : b ≠ 0) : a ^^^ b ≠ a := by
  intro e
  apply h
  have h1 : a ^^^ (a ^^^ b) = b := by rw [← Nat.xor_assoc, Nat.xor_self, Nat.zero_xor]
  rw [e, Nat.xor_self] at h1
  exact h1.symm

set_option maxHeartbeats 800000 in
theorem wrong_in (ac ap : Option Addr) (n cc np cp ck c2 L : Nat) (dl dl' : Int) (w : World) (hn : n ≤ 600) (hp : np ≤ 4096) (hdl : (dl == 0) = false ∧ dl' = dl ∨ dl = 0 ∧ dl' = 1) (hx : bits .xor .u32 (ck : Int) dl' = (c2 : Int))
    (HS : Hid (∀ w1, Below w.heap.size w w1 → Calls Ybaf.prog 9 #[.slice ac n cc, .int .u32 c2, .slice ap np cp] w1 fun e w2 => ∃ g cap, e = .returned (.slice (some ⟨g, 0, none⟩) L cap) ∧ Below w1.heap.size w1 w2 ∧ ∀ G M, GV w1 G M n ck → Calls Ybaf.prog 10 #[.pointer (some ⟨G, 0, none⟩), .slice (some ⟨g, 0, none⟩) L cap] w2 (DMno ((1 + (Lib.uvarint n).length : Nat) : Int) w2))) :
    Calls Ybaf.prog 4 #[.slice ac n cc, .int .u32 ck, .int .u32 dl, .slice ap np cp] w fun e w' => e = .returned (.bool true) ∧ Below w.heap.size w w' := by
  have h1' : decide ((600 : Int) < (n : Int)) = false := by rw [decide_eq_false_iff_not]; omega
  have h2' : decide ((4096 : Int) < (np : Int)) = false := by rw [decide_eq_false_iff_not]; omega
  have hu := Lib.uvarint_length64 (show n < 18446744073709551616 by omega)
  rcases hdl with ⟨hd0, rfl⟩ | ⟨rfl, rfl⟩
  · go_enter Ybaf.func4, Ybaf.ntmps4
    go_wp2_with (first | (go_at_call 8; refine (group_any n ck _ hn).mono ?_; rintro e w1 ⟨G, M, rfl, hG, hb1⟩) | (go_at_call 9; refine (HS.out _ hb1).mono ?_; rintro e w2 ⟨g, cap, rfl, hb2, HD0⟩; have HD : Hid (∀ G M, GV w1 G M n ck → Calls Ybaf.prog 10 #[.pointer (some ⟨G, 0, none⟩), .slice (some ⟨g, 0, none⟩) L cap] w2 (DMno ((1 + (Lib.uvarint n).length : Nat) : Int) w2)) := HD0; clear HD0) | (go_at_call 10; refine (HD.out G M hG).mono ?_; rintro e w3 ⟨k, rfl, hk, hk', hc, hb3⟩))
    have hB3 : Below w.heap.size w w3 := (hb1.trans (hb2.mono hb1.size)).trans (hb3.mono (Nat.le_trans hb1.size hb2.size))
    have HB3 : Hid (Below w.heap.size w w3) := hB3
    clear hB3 hb1 hb2 hb3 HD HS hG
    have ew2 : IntKind.i64.wrap (1 + ((Lib.uvarint n).length : Int)) = 1 + ((Lib.uvarint n).length : Int) := by simp [IntKind.wrap, IntKind.signed, IntKind.bits]; omega
    go_region_with (go_at_call 13; refine (app_nil n w w3 hn HB3.out).mono ?_; rintro e w4 ⟨g4, cap4, rfl, hb4⟩; have hc4 : w4.cell? ⟨k, 0, none⟩ = some (.int .i64 ((1 + (Lib.uvarint n).length : Nat) : Int)) := (hb4.cell (p := ⟨k, 0, none⟩) hk').trans hc)
    all_goals
      go_wp2
      go_ret
      exact ⟨by go_simp, HB3.out.trans (hb4.mono HB3.out.size)⟩
  · go_enter Ybaf.func4, Ybaf.ntmps4
    go_wp2_with (first | (go_at_call 8; refine (group_any n ck _ hn).mono ?_; rintro e w1 ⟨G, M, rfl, hG, hb1⟩) | (go_at_call 9; refine (HS.out _ hb1).mono ?_; rintro e w2 ⟨g, cap, rfl, hb2, HD0⟩; have HD : Hid (∀ G M, GV w1 G M n ck → Calls Ybaf.prog 10 #[.pointer (some ⟨G, 0, none⟩), .slice (some ⟨g, 0, none⟩) L cap] w2 (DMno ((1 + (Lib.uvarint n).length : Nat) : Int) w2)) := HD0; clear HD0) | (go_at_call 10; refine (HD.out G M hG).mono ?_; rintro e w3 ⟨k, rfl, hk, hk', hc, hb3⟩))
    have hB3 : Below w.heap.size w w3 := (hb1.trans (hb2.mono hb1.size)).trans (hb3.mono (Nat.le_trans hb1.size hb2.size))
    have HB3 : Hid (Below w.heap.size w w3) := hB3
    clear hB3 hb1 hb2 hb3 HD HS hG
    have ew2 : IntKind.i64.wrap (1 + ((Lib.uvarint n).length : Int)) = 1 + ((Lib.uvarint n).length : Int) := by simp [IntKind.wrap, IntKind.signed, IntKind.bits]; omega
    go_region_with (go_at_call 13; refine (app_nil n w w3 hn HB3.out).mono ?_; rintro e w4 ⟨g4, cap4, rfl, hb4⟩; have hc4 : w4.cell? ⟨k, 0, none⟩ = some (.int .i64 ((1 + (Lib.uvarint n).length : Nat) : Int)) := (hb4.cell (p := ⟨k, 0, none⟩) hk').trans hc)
    all_goals
      go_wp2
      go_ret
      exact ⟨by go_simp, HB3.out.trans (hb4.mono HB3.out.size)⟩
end Go.Proofs.YbulkbcnsFmt
