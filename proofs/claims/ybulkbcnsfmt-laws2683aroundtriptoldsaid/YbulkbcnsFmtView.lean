/-
  A slice of bytes as a list of bytes ('BV'); lamportStampError over it; LawS2683BOffset (function 6): FOR EVERY F.
-/
import Derived.Test.YbulkbcnsFmtLam
namespace Go.Proofs.YbulkbcnsFmt
open Go.RowKit Go.Extern.Stop Go.Stop Go.Extern

/-- The value is a slice (nil too) whose elements are the bytes l. -/
def BV (w : World) (v : Value) (l : List UInt8) : Prop :=
  ∃ a c, v = .slice a l.length c ∧ l.length ≤ c ∧ c ≤ maxLen ∧ (0 < l.length → ∃ g o, a = some ⟨g, o, none⟩ ∧ ∀ j (hj : j < l.length), w.cell? ⟨g, o + j, none⟩ = some (.int .u8 (l[j]).toNat))

/-- What the walk is told of a slice of integers that came in (as the kit's skeleton has it). -/
def IsRow (k : IntKind) (w : World) (a : Option Addr) (len cap : Nat) (zs : List Int) : Prop :=
  (a = none ∧ len = 0 ∧ cap = 0 ∧ zs = []) ∨
  ∃ x, a = some x ∧ len ≤ cap ∧ cap ≤ maxLen ∧ zs.length = cap ∧ (∀ i, i < zs.length → w.cell? (x.add i) = some (.int k (zs.getD i 0))) ∧ ∀ n ∈ zs, (Lit.int k n).wf = true

theorem u8_bounds {z : Int} (h : (Lit.int .u8 z).wf = true) : 0 ≤ z ∧ z ≤ 255 := by
  simpa [Lit.wf, IntKind.min, IntKind.max, IntKind.signed, IntKind.bits] using h

def toB (z : Int) : UInt8 := UInt8.ofNat z.toNat
theorem toB_toNat {z : Int} (h0 : 0 ≤ z) (h1 : z ≤ 255) : ((toB z).toNat : Int) = z := by
  unfold toB
  rw [UInt8.toNat_ofNat']
  omega

theorem BV_of_row {w : World} {a : Option Addr} {len cap : Nat} {zs : List Int} (h : IsRow .u8 w a len cap zs) : BV w (.slice a len cap) ((zs.take len).map toB) := by
  rcases h with ⟨rfl, rfl, rfl, rfl⟩ | ⟨x, rfl, hl, hm, hz, hc, hw⟩
  · exact ⟨none, 0, rfl, Nat.le_refl _, Nat.zero_le _, fun h => by simp at h⟩
  · have hlen : ((zs.take len).map toB).length = len := by simp; omega
    refine ⟨some x, cap, by rw [hlen], by omega, hm, fun hpos => ?_⟩
    rw [hlen] at hpos
    obtain ⟨b, off, spot⟩ := x
    have hspot : spot = none := by simpa [Addr.add] using World.cell?_spot (hc 0 (by omega))
    subst hspot
    refine ⟨b, off, rfl, fun j hj => ?_⟩
    rw [hlen] at hj
    have hj' : j < zs.length := by omega
    have h1 := hc j hj'
    have hb := u8_bounds (hw zs[j] (List.getElem_mem hj'))
    have e1 : zs.getD j 0 = zs[j] := by simp [List.getD, hj']
    have e2 : ((zs.take len).map toB)[j]'(by omega) = toB zs[j] := by simp
    rw [e2, toB_toNat hb.1 hb.2, ← e1]
    rw [← WideShapes.add_plain]
    exact h1

theorem ne_byte {x : UInt8} (h : x ≠ 1) : ((x.toNat : Int) == 1) = false := by
  rw [beq_eq_false_iff_ne]
  intro h'
  apply h
  apply UInt8.toNat_inj.1
  have : x.toNat = 1 := by omega
  simpa using this

set_option maxHeartbeats 800000 in
theorem lam_any (F : Interp) (v : Value) (l : List UInt8) (w : World) (hF : F.answers w.tape) (hv : BV w v l) :
    Calls Ybaf.prog 15 #[v] w (SE (if l.head? = some 1 then 1 else 0) w) := by
  obtain ⟨a, c, rfl, hlc, hcm, hcell⟩ := hv
  cases l with
  | nil => exact lam_empty F a c w hF
  | cons x t =>
    obtain ⟨g, o, rfl, hce⟩ := hcell (by simp)
    have h0 := hce 0 (by simp)
    simp only [Nat.add_zero, List.getElem_cons_zero] at h0
    by_cases hx : x = 1
    · subst hx
      have := lam_one F g o (t.length + 1) c t w hF (by omega) (by simpa using hlc) hcm (by omega) (by simpa using h0) (fun j hj => by
        have := hce (j + 1) (by simp; omega)
        simpa [Nat.add_assoc, Nat.add_comm 1 j] using this)
      simpa using this
    · have hx' : ((x.toNat : Int) == 1) = false := ne_byte hx
      have := lam_other F g o (t.length + 1) c x.toNat w hF (by omega) h0 hx'
      simpa [hx] using this

/-- The law's walk where b bears a byte: the offset d is what it wants. -/
theorem offset_first (g o n c : Nat) (x d : Int) (w : World) (hn : 0 < n) (hn2 : n ≤ 1024) (h0 : w.cell? ⟨g, o, none⟩ = some (.int .u8 x)) (hd : (x = 1 ∧ d = 1) ∨ ((x == 1) = false ∧ d = 0))
    (HL : Hid (Calls Ybaf.prog 15 #[.slice (some ⟨g, o, none⟩) n c] w (SE d w))) :
    Calls Ybaf.prog 6 #[.slice (some ⟨g, o, none⟩) n c] w fun e w' => e = .returned (.bool true) ∧ Below w.heap.size w w' := by
  have hgw : g < w.heap.size := World.block_lt_of_cell? _ _ h0
  rcases hd with ⟨rfl, rfl⟩ | ⟨hx, rfl⟩
  · go_enter Ybaf.func6, Ybaf.ntmps6
    go_wp2_with (first | (go_at_call 15; refine HL.out.mono ?_; rintro e w1 ⟨k, rfl, hk, hk', hcl, hb⟩; have h1 := (hb.cell (p := ⟨g, o, none⟩) hgw).trans h0) | (go_at_call 14; refine (boffset_any _ 1 _ (by exact hcl)).mono ?_; rintro e w' ⟨rfl, rfl⟩))
    go_ret
    exact ⟨rfl, hb⟩
  · go_enter Ybaf.func6, Ybaf.ntmps6
    go_wp2_with (first | (go_at_call 15; refine HL.out.mono ?_; rintro e w1 ⟨k, rfl, hk, hk', hcl, hb⟩; have h1 := (hb.cell (p := ⟨g, o, none⟩) hgw).trans h0) | (go_at_call 14; refine (boffset_any _ 0 _ (by exact hcl)).mono ?_; rintro e w' ⟨rfl, rfl⟩))
    go_ret
    exact ⟨rfl, hb⟩

theorem offset_none (a : Option Addr) (c : Nat) (w : World) (HL : Hid (Calls Ybaf.prog 15 #[.slice a 0 c] w (SE 0 w))) :
    Calls Ybaf.prog 6 #[.slice a 0 c] w fun e w' => e = .returned (.bool true) ∧ Below w.heap.size w w' := by
  go_enter Ybaf.func6, Ybaf.ntmps6
  go_wp2_with (first | (go_at_call 15; refine HL.out.mono ?_; rintro e w1 ⟨k, rfl, hk, hk', hcl, hb⟩) | (go_at_call 14; refine (boffset_any _ 0 _ (by exact hcl)).mono ?_; rintro e w' ⟨rfl, rfl⟩))
  go_ret
  exact ⟨rfl, hb⟩

theorem offset_long (a : Option Addr) (n c : Nat) (w : World) (h : 1024 < n) :
    Calls Ybaf.prog 6 #[.slice a n c] w fun e w' => e = .returned (.bool true) ∧ Below w.heap.size w w' := by
  go_enter Ybaf.func6, Ybaf.ntmps6
  go_wp2
  go_ret
  exact ⟨rfl, Below.refl _ _⟩

theorem offset_any (F : Interp) (v : Value) (l : List UInt8) (w : World) (hF : F.answers w.tape) (hv : BV w v l) :
    Calls Ybaf.prog 6 #[v] w fun e w' => e = .returned (.bool true) ∧ Below w.heap.size w w' := by
  have hlam := lam_any F v l w hF hv
  obtain ⟨a, c, rfl, hlc, hcm, hcell⟩ := hv
  by_cases hbig : 1024 < l.length
  · exact offset_long a _ c w hbig
  · cases l with
    | nil => exact offset_none a c w hlam
    | cons x t =>
      obtain ⟨g, o, rfl, hce⟩ := hcell (by simp)
      have h0 := hce 0 (by simp)
      simp only [Nat.add_zero, List.getElem_cons_zero] at h0
      refine offset_first g o _ c x.toNat _ w (by simp) (by omega) h0 ?_ hlam
      by_cases hx : x = 1
      · subst hx; exact .inl ⟨rfl, rfl⟩
      · exact .inr ⟨ne_byte hx, by simp [hx]⟩
end Go.Proofs.YbulkbcnsFmt
