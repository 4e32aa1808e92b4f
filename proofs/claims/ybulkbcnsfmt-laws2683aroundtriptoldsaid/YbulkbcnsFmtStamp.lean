/-
  (*Group).readStamp (function 17): the counts, the whole: FOR EVERY F.
-/
import Derived.Test.YbulkbcnsFmtStampNo
namespace Go.Proofs.YbulkbcnsFmt
open Go.RowKit Go.Extern.Stop Go.Stop Go.Extern
set_option linter.unusedVariables false

/-- uint64s, as cells. -/
def ucells (cs : List Nat) : List Value := cs.map fun x : Nat => Value.int .u64 (x : Int)
theorem ucells_length (cs : List Nat) : (ucells cs).length = cs.length := by simp [ucells]
theorem ucells_snoc (cs : List Nat) (x : Nat) : ucells (cs ++ [x]) = ucells cs ++ [.int .u64 x] := by simp [ucells]

theorem own_le {w : World} {base base' : Nat} {e : TypeId} {size : Nat} {v : Value} {n : Nat} {xs : List Value} (h : w.ownsRow base e size v n xs) (hb : base' ≤ base) : w.ownsRow base' e size v n xs :=
  ⟨h.1, h.2.elim .inl fun ⟨g, cap, cur, h1, h2, h3⟩ => .inr ⟨g, cap, cur, h1, Nat.le_trans hb h2, h3⟩⟩

theorem Rd.kept {w w' : World} {R g o c : Nat} {l : List UInt8} {off : Nat} {row : Option Nat} (h : Rd w R g o c l off) (hg : w.grownBy w' row) (hr : ∀ b, row = some b → R < b) (hgR : g < R) : Rd w' R g o c l off := by
  have hlt : R < w.heap.size := World.block_lt_of_cell? _ _ h.b
  have n1 : some R ≠ row := fun e => by have := hr R e.symm; omega
  have n2 : some g ≠ row := fun e => by have := hr g e.symm; omega
  refine ⟨hg.cell h.b n1, hg.cell h.i n1, ?_, h.lc, h.cm, fun j hj => hg.cell (h.cells j hj) n2, h.ne, h.le⟩
  exact (World.frozen?_of_block (hg.block R hlt n1)).trans h.fz

/-- WHAT readStamp COMES TO, where it does not refuse. -/
def RSok (g o c : Nat) (l : List UInt8) (cs : List Nat) (off : Nat) (w : World) (e : Ending) (w' : World) : Prop :=
  ∃ dv, e = .returned (.tuple #[dv, cutV g o l.length c off, .nilIface]) ∧ w'.ownsRow (w.heap.size + 1) 36 1 dv cs.length (ucells cs) ∧ Below w.heap.size w w'
def RSout (g o c : Nat) (l : List UInt8) (r : Nat ⊕ (List Nat × Nat)) (w : World) (e : Ending) (w' : World) : Prop :=
  match r with
  | .inl d => SE3 d w e w'
  | .inr (cs, off) => RSok g o c l cs off w e w'

/-- THE LOOP's RELATION. -/
def Rel (g o c : Nat) (l : List UInt8) (off0 n : Nat) (w : World) (i dv : Value) (wr : World) : Prop :=
  ∃ k cs off, k ≤ n ∧ i = .int .i64 k ∧ rdTo l off0 k = .inr (cs, off) ∧ Rd wr w.heap.size g o c l off ∧ wr.ownsRow (w.heap.size + 1) 36 1 dv k (ucells cs) ∧ Below w.heap.size w wr

theorem rel_step {g o c : Nat} {l : List UInt8} {off0 n k : Nat} {cs : List Nat} {off v j : Nat} {w w2 w3 : World} {dv dv' : Value} {ob : Obj} (hgR : g < w.heap.size) (hlt : k < n) (hto : rdTo l off0 k = .inr (cs, off)) (hu : rdU (l.drop off) = some (v, j))
    (hr2 : Rd w2 w.heap.size g o c l (off + j)) (hB2 : Below w.heap.size w w2) (hown : w2.ownsRow (w.heap.size + 1) 36 1 dv k (ucells cs))
    (hown' : w3.ownsRow (w.heap.size + 1) 36 1 dv' (k + 1) (ucells cs ++ [.int .u64 v])) (hg : (w2.alloc ob).grownBy w3 dv.ownBlock) : Rel g o c l off0 n w (.int .i64 (k + 1 : Nat)) dv' w3 := by
  have hga : w2.grownBy (w2.alloc ob) dv.ownBlock := World.grownBy_alloc _ _ _
  have hg' : w2.grownBy w3 dv.ownBlock := hga.trans hg
  refine ⟨k + 1, cs ++ [v], off + j, hlt, rfl, rdTo_step hto hu, hr2.kept hg' (fun b hb => by have := hown.lt b hb; omega) hgR, by rw [ucells_snoc]; exact hown', hB2.grown hg' hB2.size (fun b hb => by have := hown.lt b hb; omega)⟩

set_option maxHeartbeats 3200000 in
theorem rs_loop (F : Interp) (G n cms : Nat) (ams : Option Addr) (ck : Int) (l : List UInt8) (g o c : Nat) (vn j : Nat) (w : World) (hF : F.answers w.tape) (hG0 : w.cell? ⟨G, 0, none⟩ = some (.slice ams n cms)) (hG4 : w.cell? ⟨G, 4, none⟩ = some (.int .u32 ck)) (hn : n ≤ 1000)
    (hv : At w (.slice (some ⟨g, o, none⟩) l.length c) l g o c) (hh : (l.head? == some 3) = true) (hu : rdU (l.drop 1) = some (vn, j)) (hvn : ((vn : Int) != (n : Int)) = false) (hs : ¬ l.length - (1 + j) < 4) (hck : ((Lib.leNat ((l.drop (1 + j)).take 4) : Int) != ck) = false) :
    Calls Ybaf.prog 17 #[.pointer (some ⟨G, 0, none⟩), .slice none 0 0, .slice (some ⟨g, o, none⟩) l.length c] w (RSout g o c l (rdTo l (1 + j + 4) n) w) := by
  obtain ⟨i0, hi, hz0, hz1, hz2⟩ := info_parts info36
  have hgR : g < w.heap.size := hv.2.2.2.1
  go_enter Ybaf.func17, Ybaf.ntmps17
  go_wp2_with (first | (go_at_call 23; refine (rs_begin_ok (.slice (some ⟨g, o, none⟩) l.length c) l g o c _ w hv hh).mono ?_; rintro e w1 ⟨rfl, hr1, hB1⟩; have i1 := hr1.i; have p10 := cell_later hB1 hG0; have p14 := cell_later hB1 hG4) | (go_at_call 24; refine (rs_uvarint_ok g o c l 1 _ w _ hr1 hB1 vn j hu).mono ?_; rintro e w2 ⟨rfl, hr2, hB2, _⟩; have i2 := hr2.i; have p20 := cell_later hB2 hG0; have p24 := cell_later hB2 hG4) | (go_at_call 26; refine (rs_fixed_ok g o c l (1 + j) _ w _ hr2 hB2 hs).mono ?_; rintro e w3 ⟨rfl, hr3, hB3⟩; have i3 := hr3.i; have p30 := cell_later hB3 hG0; have p34 := cell_later hB3 hG4) | (go_at_call 27; refine (grow_nil n _ hn).mono ?_; rintro e w4 ⟨d4, rfl, ho4, hb4⟩; have hB4 : Below w.heap.size w w4 := hB3.trans (hb4.mono hB3.size); have hr4 := hr3.kept (grown_of_below hb4 none) (fun b h => by cases h) hgR; have p40 := cell_later hB4 hG0))
  have ho4' : w4.ownsRow (w.heap.size + 1) 36 1 d4 0 [] := own_le ho4 (World.block_lt_of_cell? _ _ hr3.b)
  have hRel : Rel g o c l (1 + j + 4) n w (.int .i64 0) d4 w4 := ⟨0, [], _, Nat.zero_le _, rfl, rfl, hr4, ho4', hB4⟩
  have HU : Hid (rdU (l.drop 1) = some (vn, j)) := hu
  clear hr1 hr2 hr3 hB1 hB2 hB3 hb4 ho4 ho4' hr4 hB4 hu hv hh hs p10 p14 p20 p24 p30 p34 i1 i2 i3 hG4
  go_loopw [93, 1] (fun i dv wr => Rel g o c l (1 + j + 4) n w i dv wr) (fun i _ _ => n - (intOf i).toNat)
  case atStart => exact hRel
  case round =>
    obtain ⟨k, cs, off, hk, rfl, hto, hr, hown, hB⟩ := hrel
    clear hRel
    have HT : Hid (rdTo l (1 + j + 4) k = .inr (cs, off)) := hto
    clear hto
    by_cases hlt : k < n
    · cases hu : rdU (l.drop off) with
      | none =>
        have HF1 : Hid (rdU (l.drop off) = none) := hu
        clear hu
        go_wp2_with (first | (go_at_call 24; refine (rs_uvarint_no F g o c l off _ w _ hF hr hB HF1.out).mono ?_; rintro e w' ⟨kk, rfl, hkk⟩))
        go_ret3
        rw [rdTo_fail HT.out HF1.out n hlt]
        exact ⟨_, kk, rfl, hkk⟩
      | some q =>
        obtain ⟨v', j'⟩ := q
        have HF1 : Hid (rdU (l.drop off) = some (v', j')) := hu
        clear hu
        have hkc : cs.length = k := by have := hown.1; rw [ucells_length] at this; omega
        have HKC : Hid (cs.length = k) := hkc
        clear hkc
        go_wp2_with (first | (go_at_call 24; refine (rs_uvarint_ok g o c l off _ w _ hr hB v' j' HF1.out).mono ?_; rintro e w2 ⟨rfl, hr2, hB2, hg2⟩; have hown2 := hown.kept hg2 (.inr (fun e => by have := hown.lt _ e; omega)); have hR2 : w.heap.size < w2.heap.size := World.block_lt_of_cell? _ _ hr2.b) | (at_builtin; refine wpList_append_own _ rfl (.tmp 103) (.tmp 105) 22 rfl (w.heap.size + 1) 36 i0 (.int .u64 0) 1 8 Ybaf.underlying22 hi hz0 hz1 hz2 rfl (by decide) _ _ _ rfl (hown2.alloc _) ⟨w2.heap.size, 0, none⟩ 1 1 [.int .u64 v'] rfl rfl (cell_one_new _ _ _) (by simp [Value.oneCell']) (by unfold maxLen; omega) (by omega) (by simp; omega) ?_))
        intro v3 w3 hown3 hg3 _
        have R3 := rel_step (n := n) hgR hlt HT.out HF1.out hr2 hB2 hown2 hown3 hg3
        clear hown3 hg3 hown2 hr2 hB2 hr hB hown
        go_wp2
        go_roundw
        case rel => exact R3
        case measure => simp [intOf]; omega
    · obtain rfl : k = n := by omega
      go_wp2_with (first | (go_at_call 28; refine (rest_any w.heap.size g o c l off _ hr).mono ?_; rintro e w' ⟨rfl, q, rfl⟩))
      go_ret3
      rw [HT.out]
      have hkc : cs.length = k := by have := hown.1; rw [ucells_length] at this; omega
      exact ⟨_, rfl, by rw [hkc]; exact hown, ⟨hB.os, hB.tape, hB.output, hB.size, hB.block⟩⟩

/-- readStamp, WHOLE. -/
theorem rs_any (F : Interp) (G n cms ck : Nat) (ams : Option Addr) (av : Option Addr) (m cv : Nat) (l : List UInt8) (w : World) (hF : F.answers w.tape) (hG0 : w.cell? ⟨G, 0, none⟩ = some (.slice ams n cms)) (hG4 : w.cell? ⟨G, 4, none⟩ = some (.int .u32 ck)) (hn : n ≤ 1000) (hv : BV w (.slice av m cv) l) :
    Calls Ybaf.prog 17 #[.pointer (some ⟨G, 0, none⟩), .slice none 0 0, .slice av m cv] w fun e w' => match dec n ck l with
      | .inl d => SE3 d w e w'
      | .inr (cs, off) => ∃ g o, At w (.slice av m cv) l g o cv ∧ RSok g o cv l cs off w e w' := by
  unfold dec
  by_cases hh : l.head? = some 3
  · have hp : 0 < l.length := by cases l <;> simp_all
    have hh' : (l.head? == some 3) = true := by simp [hh]
    obtain ⟨g, o, c, hat⟩ := At_of hv hp
    have hat' := hat
    obtain ⟨hval, _⟩ := hat'
    injection hval with e1 e2 e3
    subst e1 e2 e3
    rw [if_neg (by simp [hh])]
    cases hu : rdU (l.drop 1) with
    | none => exact rs_num F G n cms ams ck l g o cv w hF hG0 hG4 hn hat hh' hu
    | some q =>
      obtain ⟨vn, j⟩ := q
      simp only
      by_cases h1 : vn = n
      · rw [if_neg (by simp [h1])]
        have hvn : ((vn : Int) != (n : Int)) = false := by simp [h1]
        by_cases h2 : l.length - (1 + j) < 4
        · rw [if_pos h2]
          exact rs_short F G n cms ams ck l g o cv vn j w hF hG0 hG4 hn hat hh' hu hvn h2
        · rw [if_neg h2]
          by_cases h3 : Lib.leNat ((l.drop (1 + j)).take 4) = ck
          · rw [if_neg (by simp [h3])]
            have hck : ((Lib.leNat ((l.drop (1 + j)).take 4) : Int) != (ck : Int)) = false := by simp [h3]
            refine (rs_loop F G n cms ams ck l g o cv vn j w hF hG0 hG4 hn hat hh' hu hvn h2 hck).mono ?_
            intro e w' h
            cases hd : rdTo l (1 + j + 4) n with
            | inl d => rw [hd] at h; exact h
            | inr p =>
              obtain ⟨cs, off⟩ := p
              rw [hd] at h
              exact ⟨g, o, hat, h⟩
          · rw [if_pos h3]
            have hck : ((Lib.leNat ((l.drop (1 + j)).take 4) : Int) != (ck : Int)) = true := by rw [bne_iff_ne]; omega
            exact rs_check F G n cms ams ck l g o cv vn j w hF hG0 hG4 hn hat hh' hu hvn h2 hck
      · rw [if_pos h1]
        have hvn : ((vn : Int) != (n : Int)) = true := by rw [bne_iff_ne]; omega
        exact rs_mem F G n cms ams ck l g o cv vn j w hF hG0 hG4 hn hat hh' hu hvn
  · rw [if_pos hh]
    exact rs_form F G n cms ams ck av m cv l w hF hG0 hG4 hn hv (by simp [hh])
end Go.Proofs.YbulkbcnsFmt
