/-
  zzs2694ahost (function 9): the prefix of a host.
-/
import Derived.Test.YbulkbctqDoorLocks
import Derived.WalkKit
import Derived.WalkSpells
import Derived.Outline
import Derived.Laws.BitsAllLaws
namespace Go.Proofs.YbulkbctqDoor
open Go.RowKit
set_option linter.unusedVariables false
set_option linter.unusedSimpArgs false

/-- An address's low word. -/
def lo (i : Int) : Int := 281470849515520 + i
theorem lo_inj {i j : Int} (h : lo i = lo j) : i = j := by unfold lo at h; omega

theorem lo_eq (i : Int) (h0 : 0 ≤ i) (h1 : i ≤ 255) : bits .or .u64 (bits .or .u64 (bits .or .u64 (bits .or .u64 281470681743360 167772160) 0) 0) i = lo i := by
  unfold lo
  obtain ⟨n, rfl⟩ := Int.eq_ofNat_of_zero_le h0
  have a1 : bits .or .u64 (281470681743360 : Int) (167772160 : Int) = (281470849515520 : Int) := by decide
  have a2 : bits .or .u64 (281470849515520 : Int) (0 : Int) = (281470849515520 : Int) := by decide
  rw [a1, a2, a2]
  have := u64_or_nat 281470849515520 n (by omega) (by omega)
  have e : (281470849515520 ||| n : Nat) = 281470849515520 + n := by
    have h := Nat.two_pow_add_eq_or_of_lt (i := 8) (b := n) (by omega) 1099495505920
    have e0 : 2 ^ 8 * 1099495505920 = 281470849515520 := by decide
    rw [e0] at h
    exact h.symm
  rw [e] at this
  exact this

/-- A host's prefix, as a value: 10.0.0.i/32. -/
def K (a4 : Addr) (i : Int) : Value := .agg #[.int .u64 0, .int .u64 (lo i), .pointer (some a4), .int .u8 33]
/-- An address, as a value: 10.0.0.i. -/
abbrev AV (a4 : Addr) (i : Int) : Value := .agg #[.int .u64 0, .int .u64 (lo i), .pointer (some a4)]

/-- What the package variables of net/netip hold: z4 a pointer, z0 nil. -/
structure Zs (w : World) (a4 : Addr) : Prop where
  z4 : w.cell? ⟨0, 0, none⟩ = some (.pointer (some a4))
  z0 : w.cell? ⟨1, 0, none⟩ = some (.pointer none)
theorem Zs.later {w w' : World} {a4 : Addr} (h : Zs w a4) (hb : Below w.heap.size w w') : Zs w' a4 := ⟨cell_later hb h.z4, cell_later hb h.z0⟩
theorem Zs.size {w : World} {a4 : Addr} (h : Zs w a4) : 0 < w.heap.size ∧ 1 < w.heap.size := ⟨World.block_lt_of_cell? _ _ h.z4, World.block_lt_of_cell? _ _ h.z0⟩

set_option maxHeartbeats 1600000 in
theorem addr_any (i : Int) (a4 : Addr) (w : World) (h0 : 0 ≤ i) (h1 : i ≤ 255) (hz : Zs w a4) :
    Calls Ybad.prog 17 #[.agg #[.int .u8 10, .int .u8 0, .int .u8 0, .int .u8 i]] w fun e w' => e = .returned (AV a4 i) ∧ Below w.heap.size w w' := by
  have hlo := lo_eq i h0 h1
  have g0 : ∀ o1 o2, ((w.alloc o1).alloc o2).cell? ⟨0, 0, none⟩ = some (.pointer (some a4)) := fun o1 o2 => cell_later (((Below.refl _ _).alloc (Nat.le_refl _) _).alloc (by simp) _) hz.z4
  go_enter Ybad.func17, Ybad.ntmps17
  go_wp2
  refine bodyPost_ret (v := AV a4 i) (by simp [results, Ybad.results17, go_sem]) rfl ⟨rfl, ?_⟩
  exact (((Below.refl _ _).alloc (Nat.le_refl _) _).alloc (by simp) _)

theorem eqptr43 (d : Nat) (a : Addr) (w : World) : (Op.equalIn (d + 1) 43 (.pointer (some a)) (.pointer (some a))).run Ybad.prog w = .ok true w := by
  simp [Op.equalIn, run_underlying Ybad.underlying43, Ybad.sizeOf123, sameAddr]
theorem eqptr43s (a : Addr) (w : World) : (Op.equalIn 9999 43 (.pointer (some a)) (.pointer (some a))).run Ybad.prog w = .ok true w := eqptr43 9998 a w
theorem eqptr43n (a : Addr) (w : World) : (Op.equalIn 9999 43 (.pointer (some a)) (.pointer none)).run Ybad.prog w = .ok false w := by kernel_rfl
attribute [local go_sem] eqptr43s eqptr43n

set_option maxRecDepth 100000 in
theorem isZero_any (i : Int) (a4 : Addr) (w : World) (hz : Zs w a4) :
    Calls Ybad.prog 23 #[AV a4 i] w fun e w' => e = .returned (.bool false) ∧ Below w.heap.size w w' := by
  have g1 : ∀ o1, (w.alloc o1).cell? ⟨1, 0, none⟩ = some (.pointer none) := fun o1 => cell_later ((Below.refl _ _).alloc (Nat.le_refl _) _) hz.z0
  go_enter Ybad.func23, Ybad.ntmps23
  go_wp2
  go_ret
  exact ⟨rfl, (Below.refl _ _).alloc (Nat.le_refl _) _⟩

set_option maxRecDepth 100000 in
theorem bitLen_any (i : Int) (a4 : Addr) (w : World) (hz : Zs w a4) :
    Calls Ybad.prog 24 #[AV a4 i] w fun e w' => e = .returned (.int .i64 32) ∧ Below w.heap.size w w' := by
  have g0 : ∀ o1, (w.alloc o1).cell? ⟨0, 0, none⟩ = some (.pointer (some a4)) := fun o1 => cell_later ((Below.refl _ _).alloc (Nat.le_refl _) _) hz.z4
  have g1 : ∀ o1, (w.alloc o1).cell? ⟨1, 0, none⟩ = some (.pointer none) := fun o1 => cell_later ((Below.refl _ _).alloc (Nat.le_refl _) _) hz.z0
  go_enter Ybad.func24, Ybad.ntmps24
  go_wp2
  go_ret
  exact ⟨rfl, (Below.refl _ _).alloc (Nat.le_refl _) _⟩

set_option maxRecDepth 100000 in
theorem is6_any (i : Int) (a4 : Addr) (w : World) (hz : Zs w a4) :
    Calls Ybad.prog 35 #[AV a4 i] w fun e w' => e = .returned (.bool false) ∧ Below w.heap.size w w' := by
  have g0 : ∀ o1, (w.alloc o1).cell? ⟨0, 0, none⟩ = some (.pointer (some a4)) := fun o1 => cell_later ((Below.refl _ _).alloc (Nat.le_refl _) _) hz.z4
  have g1 : ∀ o1, (w.alloc o1).cell? ⟨1, 0, none⟩ = some (.pointer none) := fun o1 => cell_later ((Below.refl _ _).alloc (Nat.le_refl _) _) hz.z0
  go_enter Ybad.func35, Ybad.ntmps35
  go_wp2
  go_ret
  exact ⟨rfl, (Below.refl _ _).alloc (Nat.le_refl _) _⟩

theorem bcell {W w1 : World} (hb : Below W.heap.size W w1) : (∀ b o, b < W.heap.size → w1.cell? ⟨b, o, none⟩ = W.cell? ⟨b, o, none⟩) ∧ (∀ b o, b < W.heap.size → w1.frozen? ⟨b, o, none⟩ = W.frozen? ⟨b, o, none⟩) :=
  ⟨fun b o h => hb.cell (p := ⟨b, o, none⟩) h, fun b o h => hb.frozen (p := ⟨b, o, none⟩) h⟩

set_option maxRecDepth 100000 in
theorem without_any (i : Int) (a4 : Addr) (w : World) (hz : Zs w a4) :
    Calls Ybad.prog 25 #[AV a4 i] w fun e w' => e = .returned (AV a4 i) ∧ Below w.heap.size w w' := by
  have hB2 : ∀ o1 o2, Below w.heap.size w ((w.alloc o1).alloc o2) := fun o1 o2 => ((Below.refl _ _).alloc (Nat.le_refl _) _).alloc (by simp) _
  go_enter Ybad.func25, Ybad.ntmps25
  go_wp2_with (first | (go_at_call 35; refine (is6_any i a4 _ (hz.later (hB2 _ _))).mono ?_; rintro e w1 ⟨rfl, hb1⟩; obtain ⟨hc, hf⟩ := bcell hb1; have hs1 : w.heap.size + 1 < w1.heap.size := by have := hb1.size; simp at this; omega))
  refine bodyPost_ret (v := AV a4 i) (by simp [results, Ybad.results25, go_sem, hc, hs1]) rfl ⟨rfl, ?_⟩
  exact (((hB2 _ _).trans (hb1.mono (by simp; omega))).setCell (by simp) _ |>.setCell (by simp) _ |>.setCell (by simp) _)

set_option maxRecDepth 100000 in
set_option maxHeartbeats 1600000 in
theorem prefix_any (i : Int) (a4 : Addr) (w : World) (hz : Zs w a4) :
    Calls Ybad.prog 16 #[AV a4 i, .int .i64 32] w fun e w' => e = .returned (K a4 i) ∧ Below w.heap.size w w' := by
  have hB2 : ∀ o1 o2, Below w.heap.size w ((w.alloc o1).alloc o2) := fun o1 o2 => ((Below.refl _ _).alloc (Nat.le_refl _) _).alloc (by simp) _
  go_enter Ybad.func16, Ybad.ntmps16
  go_wp2_with (first | (go_at_call 23; refine (isZero_any i a4 _ (hz.later (hB2 _ _))).mono ?_; rintro e w1 ⟨rfl, hb1⟩; have hB1 := (hB2 _ _).trans (hb1.mono (by simp; omega)); obtain ⟨hc1, hf1⟩ := bcell hb1; have hs1 : w.heap.size + 1 < w1.heap.size := (by have := hb1.size; simp at this; omega); have hs1' : w.heap.size < w1.heap.size := by omega) | (go_at_call 24; refine (bitLen_any i a4 _ (hz.later hB1)).mono ?_; rintro e w2 ⟨rfl, hb2⟩; have hB3 := hB1.trans (hb2.mono hB1.size); obtain ⟨hc2, hf2⟩ := bcell hb2; have hs2 : w.heap.size + 1 < w2.heap.size := (by have := hb2.size; omega); have hs2' : w.heap.size < w2.heap.size := by omega) | (go_at_call 25; refine (without_any i a4 _ (hz.later hB3)).mono ?_; rintro e w3 ⟨rfl, hb3⟩; have hB4 := hB3.trans (hb3.mono hB3.size); obtain ⟨hc3, hf3⟩ := bcell hb3))
  refine bodyPost_ret (v := K a4 i) (by simp [results, Ybad.results16, go_sem, hc3, hc2, hc1, hs1, hs2, hs1', hs2', K]) rfl ⟨rfl, ?_⟩
  exact (hB4.setCell (by simp) _ |>.setCell (by simp) _ |>.setCell (by simp) _ |>.setCell (by simp) _)

set_option maxRecDepth 100000 in
set_option maxHeartbeats 1600000 in
theorem host_any (i : Int) (a4 : Addr) (w : World) (h0 : 0 ≤ i) (h1 : i ≤ 255) (hz : Zs w a4) :
    Calls Ybad.prog 9 #[.int .i64 i] w fun e w' => e = .returned (K a4 i) ∧ Below w.heap.size w w' := by
  have hB2 : ∀ o1, Below w.heap.size w (w.alloc o1) := fun o1 => (Below.refl _ _).alloc (Nat.le_refl _) _
  go_enter Ybad.func9, Ybad.ntmps9
  go_wp2_with (first | (go_at_call 17; refine (addr_any i a4 _ h0 h1 (hz.later (hB2 _))).mono ?_; rintro e w1 ⟨rfl, hb1⟩; have hB1 := (hB2 _).trans (hb1.mono (by simp)); obtain ⟨hc1, hf1⟩ := bcell hb1; have hs1 : w.heap.size < w1.heap.size := (by have := hb1.size; simp at this; omega)) | (go_at_call 16; refine (prefix_any i a4 _ (hz.later hB1)).mono ?_; rintro e w2 ⟨he2, hb2⟩; unfold K at he2; subst he2; have hB3 := hB1.trans (hb2.mono hB1.size); obtain ⟨hc2, hf2⟩ := bcell hb2))
  refine bodyPost_ret (v := K a4 i) (by simp [results, Ybad.results9, go_sem, hc2, hc1, hs1, K]) rfl ⟨rfl, ?_⟩
  exact (hB3.setCell (by simp) _ |>.setCell (by simp) _ |>.setCell (by simp) _ |>.setCell (by simp) _)
end Go.Proofs.YbulkbctqDoor
