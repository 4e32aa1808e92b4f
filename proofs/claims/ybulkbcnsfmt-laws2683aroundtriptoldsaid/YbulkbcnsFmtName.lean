/-
  zzs2683aname (function 12), zzs2683agroup (function 8).
-/
import Derived.Test.YbulkbcnsFmtStamp
import Derived.Laws.BytesArg
import Derived.Maps.OwnOps
import Derived.Maps.OwnSet
import Derived.StringKeys
namespace Go.Proofs.YbulkbcnsFmt
open Go.RowKit Go.Extern.Stop Go.Stop Go.Extern Go.WideMaps Go.Maps
set_option linter.unusedVariables false

/-- The i-th member's name. -/
def nm (i : Nat) : ByteArray := strOfNums [97 + (i : Int) % 26, 97 + (i : Int) / 26]

set_option maxHeartbeats 800000 in
theorem name_any (i : Nat) (w : World) (hi : i < 676) :
    Calls Ybaf.prog 12 #[.int .i64 i] w fun e w' => e = .returned (.string (nm i)) ∧ Below w.heap.size w w' := by
  have kc := run_convert_bytes_arg (P := Ybaf.prog) (w.alloc (.cells #[.int .u8 (97 + (i : Int) % 26), .int .u8 (97 + (i : Int) / 26)] 5)) 24 5 Ybaf.underlying24 Ybaf.underlying5 w.heap.size 0 2 2 [97 + (i : Int) % 26, 97 + (i : Int) / 26] rfl (fun j hj => by
    match j, hj with
    | 0, _ => go_simp
    | 1, _ => go_simp) 9 Ybaf.underlying9
  go_enter Ybaf.func12, Ybaf.ntmps12
  go_wp2
  go_ret
  exact ⟨rfl, (Below.refl _ _).alloc (Nat.le_refl _) _⟩

theorem info9 : (Ybaf.prog.info? 9).map (fun i => (i.zero, i.size, i.bytes)) = some (some (.string ByteArray.empty), 1, 16) := by kernel_rfl

theorem makeMap53 (x : Int) (w : World) : (Instr.makeMap 53 (some (.int .i64 x))).run Ybaf.prog w = .ok (.map (some w.heap.size)) (w.alloc (.map #[] 0)) := by kernel_rfl
theorem strKey : Keyed Ybaf.prog 9 := string_keyed Ybaf.underlying9
theorem nm_size (i : Nat) : (nm i).size = 2 := by unfold nm; rw [strOfNums_size]; rfl
theorem nm_key (i : Nat) : keyOf Ybaf.prog 9 (.string (nm i)) = some (.string (nm i).data.toList) := keyOf_string_mk Ybaf.underlying9 (by rw [nm_size]; unfold maxLen; omega)

/-- THE LOOP's RELATION in zzs2683agroup. -/
def RelG (B X n : Nat) (w : World) (i : Value) (wr : World) : Prop :=
  ∃ k xs D, k ≤ n ∧ i = .int .i64 k ∧ (∀ j, j < k → xs[j]? = some (.string (nm j))) ∧ wr.ownsRow B 9 1 (.slice (some ⟨B, 0, none⟩) n n) n xs ∧ wr.ownsMap (H := Unit) Ybaf.prog 9 (plainElem Ybaf.prog 3) X k D ∧ Below B w wr

theorem relG_step {B X n k : Nat} {w w2 w3 : World} {xs : List Value} {D : DataW Unit} (hlt : k < n) (hBX : B < X) (hxs : ∀ j, j < k → xs[j]? = some (.string (nm j)))
    (hown2 : w2.ownsRow B 9 1 (.slice (some ⟨B, 0, none⟩) n n) n xs) (hB2 : Below B w w2) (hm3 : w3.ownsMap (H := Unit) Ybaf.prog 9 (plainElem Ybaf.prog 3) X (k + 1) D) (hg3 : (w2.setCell ⟨B, k, none⟩ (.string (nm k))).grownBy w3 (some X)) :
    RelG B X n w (.int .i64 (k + 1 : Nat)) w3 := by
  have hs := hown2.stored k (.string (nm k))
  have hxl : xs.length = n := by have := hown2.1; omega
  refine ⟨k + 1, xs.set k (.string (nm k)), D, hlt, rfl, fun j hj => ?_, hs.1.kept hg3 (.inr (by simp [Value.ownBlock]; omega)), hm3, ?_⟩
  · by_cases hjk : j = k
    · subst hjk; rw [List.getElem?_set_self (by omega)]
    · rw [List.getElem?_set_ne (by omega)]; exact hxs j (by omega)
  · have hBs : B ≤ w2.heap.size := by have := hown2.lt B rfl; omega
    have hb3 : Below B w (w2.setCell ⟨B, k, none⟩ (.string (nm k))) := hB2.setCell (Nat.le_refl _) _
    exact hb3.grown hg3 (by simpa using hBs) (fun b hb => by cases hb; omega)

/-- A group of n members with check ck, at block G, its names in block M. -/
structure GV (w : World) (G M n : Nat) (ck : Int) : Prop where
  m : w.cell? ⟨G, 0, none⟩ = some (.slice (some ⟨M, 0, none⟩) n n)
  c : w.cell? ⟨G, 4, none⟩ = some (.int .u32 ck)
  names : ∀ j, j < n → w.cell? ⟨M, j, none⟩ = some (.string (nm j))

attribute [local go_sem] makeMap53
set_option maxHeartbeats 1600000 in
theorem group_any (n : Nat) (ck : Int) (w : World) (hn : n ≤ 600) :
    Calls Ybaf.prog 8 #[.int .i64 n, .int .u32 ck] w fun e w' => ∃ G M, e = .returned (.pointer (some ⟨G, 0, none⟩)) ∧ GV w' G M n ck ∧ Below w.heap.size w w' := by
  obtain ⟨i0, hi, hz0, hz1, hz2⟩ := info_parts info9
  go_enter Ybaf.func8, Ybaf.ntmps8
  go_wp2_with (first | (at_make; refine wpList_make_full _ rfl _ _ 52 rfl w.heap.size 9 i0 (.string ByteArray.empty) 1 Ybaf.underlying52 hi hz0 hz1 _ _ _ _ n rfl rfl rfl rfl (by rw [hz2]; omega) (by unfold maxLen; omega) (Nat.le_refl _) ?_))
  intro w1 hown1 hg1
  have hX : w.heap.size < w1.heap.size := (hown1.lt w.heap.size rfl).2
  have hB1 : Below w.heap.size w w1 := (Below.refl _ _).grown hg1 (Nat.le_refl _) (fun k hk => by cases hk)
  have hRel : RelG w.heap.size w1.heap.size n w (.int .i64 0) (w1.alloc (.map #[] 0)) :=
    ⟨0, _, _, Nat.zero_le _, rfl, fun j hj => by omega, hown1.alloc _, World.ownsMap_made w1 Ybaf.prog 9 _, hB1.alloc hB1.size _⟩
  clear hown1 hg1
  go_wp2
  go_loopw [7] (fun i wr => RelG w.heap.size w1.heap.size n w i wr) (fun i _ => n - (intOf i).toNat)
  case atStart => exact hRel
  case round =>
    obtain ⟨k, xs, D, hk, rfl, hxs, hown, hm, hB⟩ := hrel
    clear hRel
    have HX : Hid (∀ j, j < k → xs[j]? = some (.string (nm j))) := hxs
    clear hxs
    have hxl : Hid (xs.length = n) := by have := hown.1; show xs.length = n; omega
    by_cases hlt : k < n
    · have HK : Hid (k < xs.length) := by have := hxl.out; show k < xs.length; omega
      go_wp2_with (first | (go_at_call 12; refine (name_any k _ (by omega)).mono ?_; rintro e w2 ⟨rfl, hb2⟩; have hown2 := hown.kept (grown_of_below hb2 none) (.inr (by simp [Value.ownBlock])); have hc2 : w2.cell? ⟨w.heap.size, k, none⟩ = some (xs[k]'HK.out) := (hown2.cellAt k (by omega)).trans (List.getElem?_eq_getElem HK.out); have hf2 := hown2.frozenAt k; have hm2 := (hm.kept (grown_of_below hb2 none) (by simp)).setCell (a := ⟨w.heap.size, k, none⟩) (by simp; omega) (.string (nm k))) | (at_mapUpdate; refine wpList_mapUpdate_own _ rfl _ _ _ 53 rfl 9 3 strKey Ybaf.underlying53 _ w1.heap.size k _ rfl hm2 (by unfold maxLen; omega) _ _ _ rfl rfl (nm_key k) _ [] (plainElem_int Ybaf.underlying3 (WalkArith.wf_i64 (by omega))) ?_))
      intro w3 hm3 hg3
      have hB2 : Below w.heap.size w w2 := hB.trans (hb2.mono hB.size)
      have R3 := relG_step (w := w) (n := n) hlt hX HX.out hown2 hB2 hm3 hg3
      clear hm3 hg3 hm2 hown2 hc2 hf2
      go_wp2
      go_roundw
      case rel => exact R3
      case measure => simp [intOf]; omega
    · obtain rfl : k = n := by omega
      go_wp2
      go_ret
      refine ⟨_, w.heap.size, rfl, ⟨by go_simp, by go_simp, fun j hj => ?_⟩, hB.alloc hB.size _⟩
      have := hown.alloc (.cells #[.slice (some ⟨w.heap.size, 0, none⟩) k k, .map (some w1.heap.size), .slice none 0 0, .slice none 0 0, .int .u32 ck] 56)
      rw [this.cellAt j (by omega)]
      exact HX.out j hj
end Go.Proofs.YbulkbcnsFmt
