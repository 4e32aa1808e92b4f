/-
  LawS2683BForms (function 7): FOR EVERY F.
-/
import Derived.Test.YbulkbcnsFmtView
namespace Go.Proofs.YbulkbcnsFmt
open Go.RowKit Go.Extern.Stop Go.Stop Go.Extern

theorem info5 : (Ybaf.prog.info? 5).map (fun i => (i.zero, i.size, i.bytes)) = some (some (.int .u8 0), 1, 1) := by kernel_rfl

theorem forms_long (sel : Int) (a : Option Addr) (n c : Nat) (w : World) (h : 1024 < n) :
    Calls Ybaf.prog 7 #[.int .u8 sel, .slice a n c] w fun e w' => e = .returned (.bool true) ∧ Below w.heap.size w w' := by
  go_enter Ybaf.func7, Ybaf.ntmps7
  go_wp2
  go_ret
  exact ⟨rfl, Below.refl _ _⟩

/-- A list of bytes, as cells. -/
def bcells (l : List UInt8) : List Value := l.map fun b => Value.int .u8 b.toNat
theorem bcells_length (l : List UInt8) : (bcells l).length = l.length := by simp [bcells]
theorem bcells_one (l : List UInt8) : ∀ u ∈ bcells l, u.oneCell' = true := by
  intro u hu
  obtain ⟨_, _, rfl⟩ := List.mem_map.1 hu
  rfl
theorem bcells_get (l : List UInt8) (j : Nat) (hj : j < l.length) : (bcells l)[j]? = some (.int .u8 (l[j]).toNat) := by simp [bcells, hj]
theorem bcells_of {w : World} {l : List UInt8} {g o : Nat} (h : ∀ j (hj : j < l.length), w.cell? ⟨g, o + j, none⟩ = some (.int .u8 (l[j]).toNat)) :
    ∀ j u, (bcells l)[j]? = some u → w.cell? ((⟨g, o, none⟩ : Addr).add j) = some u := by
  intro j u hu
  have hj : j < l.length := by have := (List.getElem?_eq_some_iff.1 hu).1; rwa [bcells_length] at this
  rw [bcells_get l j hj] at hu
  rw [← Option.some.inj hu, WideShapes.add_plain]
  exact h j hj

/-- A slice that the call owns, whose cells are bytes, as a list of bytes. -/
theorem BV_of_own {w : World} {B g n c : Nat} {l : List UInt8} (h : w.ownsRow B 5 1 (.slice (some ⟨g, 0, none⟩) n c) n (bcells l)) : BV w (.slice (some ⟨g, 0, none⟩) n c) l := by
  have hl : l.length = n := by have := h.1; rw [bcells_length] at this; omega
  have hcap : n ≤ c ∧ c ≤ maxLen := by
    rcases h.2 with ⟨h1, _⟩ | ⟨g', cap, cur, h1, _, _, hnc, hcm, _, _⟩
    · cases h1
    · injection h1 with _ _ h3
      subst h3
      exact ⟨hnc, hcm⟩
  refine ⟨_, c, by rw [hl], by omega, hcap.2, fun _ => ⟨g, 0, rfl, fun j hj => ?_⟩⟩
  have := h.cells (g := g) rfl j _ (bcells_get l j hj)
  rwa [WideShapes.add_plain] at this

/-- WHAT IS KNOWN OF THE STAMP b = f ++ rest ahead of the call of lamportStampError. -/
theorem forms_pre {w w1 w2 w3 : World} {o1 o2 : Obj} {n : Nat} {f : UInt8} {l : List UInt8}
    (g1 : (w.alloc o1).grownBy w1 none) (g2 : (w1.alloc o2).grownBy w2 (some (w.heap.size + 1))) (g3 : w2.grownBy w3 (some (w.heap.size + 1))) 
    (hown : w3.ownsRow (w.heap.size + 1) 5 1 (.slice (some ⟨w.heap.size + 1, 0, none⟩) (1 + n) (n + 1)) (1 + n) (bcells (f :: l))) :
    BV w3 (.slice (some ⟨w.heap.size + 1, 0, none⟩) (1 + n) (n + 1)) (f :: l) ∧ Below w.heap.size w w3 := by
  refine ⟨BV_of_own hown, ?_⟩
  have b0 : Below w.heap.size w (w.alloc o1) := (Below.refl _ _).alloc (Nat.le_refl _) _
  have b1 : Below w.heap.size w w1 := b0.grown g1 (by simp) (fun k hk => by cases hk)
  have b2 : Below w.heap.size w (w1.alloc o2) := b1.alloc b1.size _
  have b3 : Below w.heap.size w w2 := b2.grown g2 b2.size (fun k hk => by cases hk; omega)
  exact b3.grown g3 b3.size (fun k hk => by cases hk; omega)

theorem SE_below {at_ : Int} {w w1 w' : World} {e : Ending} (hb : Below w.heap.size w w1) (h : SE at_ w1 e w') : SE at_ w e w' := by
  obtain ⟨k, he, hk, hk', hc, hb'⟩ := h
  have := hb.size
  exact ⟨k, he, by omega, hk', hc, hb.trans (hb'.mono hb.size)⟩


set_option maxHeartbeats 1600000 in
theorem forms_0 (F : Interp) (sel : Int) (l : List UInt8) (a : Option Addr) (n c : Nat) (w : World) (hn : n ≤ 1024) (h0 : 0 ≤ sel) (h1 : sel ≤ 255) (hm : sel % 5 = 0) (hF : F.answers w.tape) (HL : Hid (l.length = n))
    (hnone : Hid (a = none → n = 0 ∧ c = 0)) (hcells : Hid (∀ w1, Below w.heap.size w w1 → ∀ ad, a = some ad → ∀ j u, (bcells l)[j]? = some u → w1.cell? (ad.add j) = some u)) :
    Calls Ybaf.prog 7 #[.int .u8 sel, .slice a n c] w fun e w' => e = .returned (.bool true) ∧ Below w.heap.size w w' := by
  obtain ⟨i0, hi, hz0, hz1, hz2⟩ := info_parts info5
  go_enter Ybaf.func7, Ybaf.ntmps7
  go_wp2_with (first | (at_make; refine wpList_make_own _ rfl _ _ 24 rfl (w.heap.size + 1) 5 i0 (.int .u8 0) 1 Ybaf.underlying24 hi hz0 hz1 _ _ _ (n + 1) rfl rfl (by omega) (by rw [hz2]; omega) (by unfold maxLen; omega) (by simp) ?_))
  intro w1 hown1 hg1
  have hs1 : w.heap.size + 1 ≤ w1.heap.size := by have := hg1.size; simpa using this
  go_wp2_with (first | (at_builtin; refine wpList_append_fits _ rfl (.tmp 23) (.tmp 25) 24 rfl (w.heap.size + 1) 5 i0 1 Ybaf.underlying24 hi hz1 _ 0 (n + 1) [] rfl (hown1.alloc _) ⟨w1.heap.size, 0, none⟩ 1 1 [.int .u8 1] rfl rfl (cell_one_new _ _ _) (by simp [Value.oneCell']) (by omega) ?_))
  intro w2 hown2 hg2
  have B2 : Below w.heap.size w w2 := ((((Below.refl _ _).alloc (Nat.le_refl _) _).grown hg1 (by simp) (fun k hk => by cases hk)).alloc (by omega) _).grown hg2 (by simp; omega) (fun k hk => by cases hk; omega)
  go_wp2_with (first | (at_builtin; refine wpList_append_fits_any _ rfl (.tmp 27) (.tmp 28) 24 rfl (w.heap.size + 1) 5 i0 1 Ybaf.underlying24 hi hz1 _ 1 (n + 1) [.int .u8 1] rfl hown2 a n c (bcells l) rfl (by rw [bcells_length, HL.out]; simp) hnone.out (hcells.out _ B2) (bcells_one l) (by omega) ?_))
  intro w3 hown3 hg3
  have P3 := forms_pre (f := 1) hg1 hg2 hg3 hown3
  have hF3 : F.answers w3.tape := by rw [P3.2.tape]; exact hF
  have HC : Hid (Calls Ybaf.prog 15 #[.slice (some ⟨w.heap.size + 1, 0, none⟩) (1 + n) (n + 1)] w3 (SE 1 w3)) := lam_any F _ _ w3 hF3 P3.1
  have HB : Hid (Below w.heap.size w w3) := P3.2
  clear P3 hown1 hown2 hown3 hg1 hg2 hg3 B2
  go_wp2_with (first | (go_at_call 15; refine HC.out.mono ?_; rintro e w4 ⟨k, rfl, hk, hk', hcl, hb⟩) | (go_at_call 14; refine (boffset_any _ 1 _ (by exact hcl)).mono ?_; rintro e w' ⟨rfl, rfl⟩))
  go_ret
  exact ⟨rfl, HB.out.trans (hb.mono HB.out.size)⟩

set_option maxHeartbeats 1600000 in
theorem forms_1 (F : Interp) (sel : Int) (l : List UInt8) (a : Option Addr) (n c : Nat) (w : World) (hn : n ≤ 1024) (h0 : 0 ≤ sel) (h1 : sel ≤ 255) (hm : sel % 5 = 1) (hF : F.answers w.tape) (HL : Hid (l.length = n))
    (hnone : Hid (a = none → n = 0 ∧ c = 0)) (hcells : Hid (∀ w1, Below w.heap.size w w1 → ∀ ad, a = some ad → ∀ j u, (bcells l)[j]? = some u → w1.cell? (ad.add j) = some u)) :
    Calls Ybaf.prog 7 #[.int .u8 sel, .slice a n c] w fun e w' => e = .returned (.bool true) ∧ Below w.heap.size w w' := by
  obtain ⟨i0, hi, hz0, hz1, hz2⟩ := info_parts info5
  go_enter Ybaf.func7, Ybaf.ntmps7
  go_wp2_with (first | (at_make; refine wpList_make_own _ rfl _ _ 24 rfl (w.heap.size + 1) 5 i0 (.int .u8 0) 1 Ybaf.underlying24 hi hz0 hz1 _ _ _ (n + 1) rfl rfl (by omega) (by rw [hz2]; omega) (by unfold maxLen; omega) (by simp) ?_))
  intro w1 hown1 hg1
  have hs1 : w.heap.size + 1 ≤ w1.heap.size := by have := hg1.size; simpa using this
  go_wp2_with (first | (at_builtin; refine wpList_append_fits _ rfl (.tmp 23) (.tmp 25) 24 rfl (w.heap.size + 1) 5 i0 1 Ybaf.underlying24 hi hz1 _ 0 (n + 1) [] rfl (hown1.alloc _) ⟨w1.heap.size, 0, none⟩ 1 1 [.int .u8 2] rfl rfl (cell_one_new _ _ _) (by simp [Value.oneCell']) (by omega) ?_))
  intro w2 hown2 hg2
  have B2 : Below w.heap.size w w2 := ((((Below.refl _ _).alloc (Nat.le_refl _) _).grown hg1 (by simp) (fun k hk => by cases hk)).alloc (by omega) _).grown hg2 (by simp; omega) (fun k hk => by cases hk; omega)
  go_wp2_with (first | (at_builtin; refine wpList_append_fits_any _ rfl (.tmp 27) (.tmp 28) 24 rfl (w.heap.size + 1) 5 i0 1 Ybaf.underlying24 hi hz1 _ 1 (n + 1) [.int .u8 2] rfl hown2 a n c (bcells l) rfl (by rw [bcells_length, HL.out]; simp) hnone.out (hcells.out _ B2) (bcells_one l) (by omega) ?_))
  intro w3 hown3 hg3
  have P3 := forms_pre (f := 2) hg1 hg2 hg3 hown3
  have hF3 : F.answers w3.tape := by rw [P3.2.tape]; exact hF
  have HC : Hid (Calls Ybaf.prog 15 #[.slice (some ⟨w.heap.size + 1, 0, none⟩) (1 + n) (n + 1)] w3 (SE 0 w3)) := lam_any F _ _ w3 hF3 P3.1
  have HB : Hid (Below w.heap.size w w3) := P3.2
  clear P3 hown1 hown2 hown3 hg1 hg2 hg3 B2
  go_wp2_with (first | (go_at_call 15; refine HC.out.mono ?_; rintro e w4 ⟨k, rfl, hk, hk', hcl, hb⟩) | (go_at_call 14; refine (boffset_any _ 0 _ (by exact hcl)).mono ?_; rintro e w' ⟨rfl, rfl⟩))
  go_ret
  exact ⟨rfl, HB.out.trans (hb.mono HB.out.size)⟩

set_option maxHeartbeats 1600000 in
theorem forms_2 (F : Interp) (sel : Int) (l : List UInt8) (a : Option Addr) (n c : Nat) (w : World) (hn : n ≤ 1024) (h0 : 0 ≤ sel) (h1 : sel ≤ 255) (hm : sel % 5 = 2) (hF : F.answers w.tape) (HL : Hid (l.length = n))
    (hnone : Hid (a = none → n = 0 ∧ c = 0)) (hcells : Hid (∀ w1, Below w.heap.size w w1 → ∀ ad, a = some ad → ∀ j u, (bcells l)[j]? = some u → w1.cell? (ad.add j) = some u)) :
    Calls Ybaf.prog 7 #[.int .u8 sel, .slice a n c] w fun e w' => e = .returned (.bool true) ∧ Below w.heap.size w w' := by
  obtain ⟨i0, hi, hz0, hz1, hz2⟩ := info_parts info5
  go_enter Ybaf.func7, Ybaf.ntmps7
  go_wp2_with (first | (at_make; refine wpList_make_own _ rfl _ _ 24 rfl (w.heap.size + 1) 5 i0 (.int .u8 0) 1 Ybaf.underlying24 hi hz0 hz1 _ _ _ (n + 1) rfl rfl (by omega) (by rw [hz2]; omega) (by unfold maxLen; omega) (by simp) ?_))
  intro w1 hown1 hg1
  have hs1 : w.heap.size + 1 ≤ w1.heap.size := by have := hg1.size; simpa using this
  go_wp2_with (first | (at_builtin; refine wpList_append_fits _ rfl (.tmp 23) (.tmp 25) 24 rfl (w.heap.size + 1) 5 i0 1 Ybaf.underlying24 hi hz1 _ 0 (n + 1) [] rfl (hown1.alloc _) ⟨w1.heap.size, 0, none⟩ 1 1 [.int .u8 3] rfl rfl (cell_one_new _ _ _) (by simp [Value.oneCell']) (by omega) ?_))
  intro w2 hown2 hg2
  have B2 : Below w.heap.size w w2 := ((((Below.refl _ _).alloc (Nat.le_refl _) _).grown hg1 (by simp) (fun k hk => by cases hk)).alloc (by omega) _).grown hg2 (by simp; omega) (fun k hk => by cases hk; omega)
  go_wp2_with (first | (at_builtin; refine wpList_append_fits_any _ rfl (.tmp 27) (.tmp 28) 24 rfl (w.heap.size + 1) 5 i0 1 Ybaf.underlying24 hi hz1 _ 1 (n + 1) [.int .u8 3] rfl hown2 a n c (bcells l) rfl (by rw [bcells_length, HL.out]; simp) hnone.out (hcells.out _ B2) (bcells_one l) (by omega) ?_))
  intro w3 hown3 hg3
  have P3 := forms_pre (f := 3) hg1 hg2 hg3 hown3
  have hF3 : F.answers w3.tape := by rw [P3.2.tape]; exact hF
  have HC : Hid (Calls Ybaf.prog 15 #[.slice (some ⟨w.heap.size + 1, 0, none⟩) (1 + n) (n + 1)] w3 (SE 0 w3)) := lam_any F _ _ w3 hF3 P3.1
  have HB : Hid (Below w.heap.size w w3) := P3.2
  clear P3 hown1 hown2 hown3 hg1 hg2 hg3 B2
  go_wp2_with (first | (go_at_call 15; refine HC.out.mono ?_; rintro e w4 ⟨k, rfl, hk, hk', hcl, hb⟩) | (go_at_call 14; refine (boffset_any _ 0 _ (by exact hcl)).mono ?_; rintro e w' ⟨rfl, rfl⟩))
  go_ret
  exact ⟨rfl, HB.out.trans (hb.mono HB.out.size)⟩

set_option maxHeartbeats 1600000 in
theorem forms_3 (F : Interp) (sel : Int) (l : List UInt8) (a : Option Addr) (n c : Nat) (w : World) (hn : n ≤ 1024) (h0 : 0 ≤ sel) (h1 : sel ≤ 255) (hm : sel % 5 = 3) (hF : F.answers w.tape) (HL : Hid (l.length = n))
    (hnone : Hid (a = none → n = 0 ∧ c = 0)) (hcells : Hid (∀ w1, Below w.heap.size w w1 → ∀ ad, a = some ad → ∀ j u, (bcells l)[j]? = some u → w1.cell? (ad.add j) = some u)) :
    Calls Ybaf.prog 7 #[.int .u8 sel, .slice a n c] w fun e w' => e = .returned (.bool true) ∧ Below w.heap.size w w' := by
  obtain ⟨i0, hi, hz0, hz1, hz2⟩ := info_parts info5
  go_enter Ybaf.func7, Ybaf.ntmps7
  go_wp2_with (first | (at_make; refine wpList_make_own _ rfl _ _ 24 rfl (w.heap.size + 1) 5 i0 (.int .u8 0) 1 Ybaf.underlying24 hi hz0 hz1 _ _ _ (n + 1) rfl rfl (by omega) (by rw [hz2]; omega) (by unfold maxLen; omega) (by simp) ?_))
  intro w1 hown1 hg1
  have hs1 : w.heap.size + 1 ≤ w1.heap.size := by have := hg1.size; simpa using this
  go_wp2_with (first | (at_builtin; refine wpList_append_fits _ rfl (.tmp 23) (.tmp 25) 24 rfl (w.heap.size + 1) 5 i0 1 Ybaf.underlying24 hi hz1 _ 0 (n + 1) [] rfl (hown1.alloc _) ⟨w1.heap.size, 0, none⟩ 1 1 [.int .u8 4] rfl rfl (cell_one_new _ _ _) (by simp [Value.oneCell']) (by omega) ?_))
  intro w2 hown2 hg2
  have B2 : Below w.heap.size w w2 := ((((Below.refl _ _).alloc (Nat.le_refl _) _).grown hg1 (by simp) (fun k hk => by cases hk)).alloc (by omega) _).grown hg2 (by simp; omega) (fun k hk => by cases hk; omega)
  go_wp2_with (first | (at_builtin; refine wpList_append_fits_any _ rfl (.tmp 27) (.tmp 28) 24 rfl (w.heap.size + 1) 5 i0 1 Ybaf.underlying24 hi hz1 _ 1 (n + 1) [.int .u8 4] rfl hown2 a n c (bcells l) rfl (by rw [bcells_length, HL.out]; simp) hnone.out (hcells.out _ B2) (bcells_one l) (by omega) ?_))
  intro w3 hown3 hg3
  have P3 := forms_pre (f := 4) hg1 hg2 hg3 hown3
  have hF3 : F.answers w3.tape := by rw [P3.2.tape]; exact hF
  have HC : Hid (Calls Ybaf.prog 15 #[.slice (some ⟨w.heap.size + 1, 0, none⟩) (1 + n) (n + 1)] w3 (SE 0 w3)) := lam_any F _ _ w3 hF3 P3.1
  have HB : Hid (Below w.heap.size w w3) := P3.2
  clear P3 hown1 hown2 hown3 hg1 hg2 hg3 B2
  go_wp2_with (first | (go_at_call 15; refine HC.out.mono ?_; rintro e w4 ⟨k, rfl, hk, hk', hcl, hb⟩) | (go_at_call 14; refine (boffset_any _ 0 _ (by exact hcl)).mono ?_; rintro e w' ⟨rfl, rfl⟩))
  go_ret
  exact ⟨rfl, HB.out.trans (hb.mono HB.out.size)⟩

set_option maxHeartbeats 1600000 in
theorem forms_4 (F : Interp) (sel : Int) (l : List UInt8) (a : Option Addr) (n c : Nat) (w : World) (hn : n ≤ 1024) (h0 : 0 ≤ sel) (h1 : sel ≤ 255) (hm : sel % 5 = 4) (hF : F.answers w.tape) (HL : Hid (l.length = n))
    (hnone : Hid (a = none → n = 0 ∧ c = 0)) (hcells : Hid (∀ w1, Below w.heap.size w w1 → ∀ ad, a = some ad → ∀ j u, (bcells l)[j]? = some u → w1.cell? (ad.add j) = some u)) :
    Calls Ybaf.prog 7 #[.int .u8 sel, .slice a n c] w fun e w' => e = .returned (.bool true) ∧ Below w.heap.size w w' := by
  obtain ⟨i0, hi, hz0, hz1, hz2⟩ := info_parts info5
  go_enter Ybaf.func7, Ybaf.ntmps7
  go_wp2_with (first | (at_make; refine wpList_make_own _ rfl _ _ 24 rfl (w.heap.size + 1) 5 i0 (.int .u8 0) 1 Ybaf.underlying24 hi hz0 hz1 _ _ _ (n + 1) rfl rfl (by omega) (by rw [hz2]; omega) (by unfold maxLen; omega) (by simp) ?_))
  intro w1 hown1 hg1
  have hs1 : w.heap.size + 1 ≤ w1.heap.size := by have := hg1.size; simpa using this
  go_wp2_with (first | (at_builtin; refine wpList_append_fits _ rfl (.tmp 23) (.tmp 25) 24 rfl (w.heap.size + 1) 5 i0 1 Ybaf.underlying24 hi hz1 _ 0 (n + 1) [] rfl (hown1.alloc _) ⟨w1.heap.size, 0, none⟩ 1 1 [.int .u8 0] rfl rfl (cell_one_new _ _ _) (by simp [Value.oneCell']) (by omega) ?_))
  intro w2 hown2 hg2
  have B2 : Below w.heap.size w w2 := ((((Below.refl _ _).alloc (Nat.le_refl _) _).grown hg1 (by simp) (fun k hk => by cases hk)).alloc (by omega) _).grown hg2 (by simp; omega) (fun k hk => by cases hk; omega)
  go_wp2_with (first | (at_builtin; refine wpList_append_fits_any _ rfl (.tmp 27) (.tmp 28) 24 rfl (w.heap.size + 1) 5 i0 1 Ybaf.underlying24 hi hz1 _ 1 (n + 1) [.int .u8 0] rfl hown2 a n c (bcells l) rfl (by rw [bcells_length, HL.out]; simp) hnone.out (hcells.out _ B2) (bcells_one l) (by omega) ?_))
  intro w3 hown3 hg3
  have P3 := forms_pre (f := 0) hg1 hg2 hg3 hown3
  have hF3 : F.answers w3.tape := by rw [P3.2.tape]; exact hF
  have HC : Hid (Calls Ybaf.prog 15 #[.slice (some ⟨w.heap.size + 1, 0, none⟩) (1 + n) (n + 1)] w3 (SE 0 w3)) := lam_any F _ _ w3 hF3 P3.1
  have HB : Hid (Below w.heap.size w w3) := P3.2
  clear P3 hown1 hown2 hown3 hg1 hg2 hg3 B2
  go_wp2_with (first | (go_at_call 15; refine HC.out.mono ?_; rintro e w4 ⟨k, rfl, hk, hk', hcl, hb⟩) | (go_at_call 14; refine (boffset_any _ 0 _ (by exact hcl)).mono ?_; rintro e w' ⟨rfl, rfl⟩))
  go_ret
  exact ⟨rfl, HB.out.trans (hb.mono HB.out.size)⟩

theorem forms_any (F : Interp) (sel : Int) (v : Value) (l : List UInt8) (w : World) (hF : F.answers w.tape) (h0 : 0 ≤ sel) (h1 : sel ≤ 255) (hv : BV w v l) (hnil : ∀ n c, v = .slice none n c → n = 0 ∧ c = 0) :
    Calls Ybaf.prog 7 #[.int .u8 sel, v] w fun e w' => e = .returned (.bool true) ∧ Below w.heap.size w w' := by
  obtain ⟨a, c, rfl, hlc, hcm, hcell⟩ := hv
  by_cases hbig : 1024 < l.length
  · exact forms_long sel a _ c w hbig
  · have hnone : a = none → l.length = 0 ∧ c = 0 := fun h => by subst h; exact hnil _ _ rfl
    have hcells : ∀ w1, Below w.heap.size w w1 → ∀ ad, a = some ad → ∀ j u, (bcells l)[j]? = some u → w1.cell? (ad.add j) = some u := by
      intro w1 hb ad had j u hu
      have hj : j < l.length := by have := (List.getElem?_eq_some_iff.1 hu).1; rwa [bcells_length] at this
      obtain ⟨g, o, rfl, hce⟩ := hcell (by omega)
      cases had
      exact cell_later hb (bcells_of hce j u hu)
    have hm : sel % 5 = 0 ∨ sel % 5 = 1 ∨ sel % 5 = 2 ∨ sel % 5 = 3 ∨ sel % 5 = 4 := by omega
    rcases hm with hm | hm | hm | hm | hm
    · exact forms_0 F sel l a _ c w (by omega) h0 h1 hm hF rfl hnone hcells
    · exact forms_1 F sel l a _ c w (by omega) h0 h1 hm hF rfl hnone hcells
    · exact forms_2 F sel l a _ c w (by omega) h0 h1 hm hF rfl hnone hcells
    · exact forms_3 F sel l a _ c w (by omega) h0 h1 hm hF rfl hnone hcells
    · exact forms_4 F sel l a _ c w (by omega) h0 h1 hm hF rfl hnone hcells
end Go.Proofs.YbulkbcnsFmt
