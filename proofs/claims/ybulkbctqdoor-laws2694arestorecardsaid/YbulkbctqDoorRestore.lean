/-
  LawS2694ARestore (function 4), walked.
-/
import Derived.Test.YbulkbctqDoorTake
namespace Go.Proofs.YbulkbctqDoor
open Go.RowKit Go.MuLone
set_option linter.unusedVariables false
set_option linter.unusedSimpArgs false

theorem body_L (wv X : Value) (f : Int) : body wv X f = bodyL wv X f 0 := rfl

theorem fn_eql (cs : Array Value) (w : World) : (binOp .eql 1 (.func (.func 15) #[] cs) .nilFunc).run Ybad.prog w = .ok (.bool false) w := by kernel_rfl

set_option maxRecDepth 100000 in
set_option maxHeartbeats 6400000 in
theorem restore_walk (a4 : Addr) (h s : Int) (w : World) (h0 : 0 ≤ h) (h1 : h ≤ 255) (s0 : 0 ≤ s) (s1 : s ≤ 4294967295) (hz : Zs w a4) :
    Calls Ybad.prog 4 #[.int .u8 h, .int .u32 s] w fun e w' => e = .returned (.bool true) ∧ Below w.heap.size w w' := by
  have hfn := fn_eql
  go_enter Ybad.func4, Ybad.ntmps4
  go_upto_region 5 with (first
    | (go_at_call 5; refine (anew_any a4 _).mono ?_; rintro e w1 ⟨Bk, X, rfl, lB1, lX1, hXB, hb1, hm1, hB1⟩)
    | (go_at_call 6; refine (anewctx_any _).mono ?_; rintro e w2 ⟨c, r, rfl, lc, lr, hrc, hc2, hr2, hB2⟩)
    | (go_at_call 9; refine (host_any h a4 _ h0 h1 ((hz.later hB1).later hB2)).mono ?_; rintro e w3 ⟨he3, hB3⟩; unfold K at he3; subst he3))
  have z0 : 0 ≤ s % 4194305 := by omega
  have z1 : s % 4194305 ≤ 4194304 := by omega
  generalize s % 4194305 = sz at z0 z1 ⊢
  have u1 := hb1.lt
  have u2 := hc2.lt
  have u3 := hB2.size
  have u4 := hB3.size
  have uX : X < w1.heap.size := by obtain ⟨es, ck, hh, -⟩ := hm1; exact (Array.getElem?_eq_some_iff.1 hh).1
  have T2 : Turn (fun _ => False) w1 w2 := Turn.of_below hB2
  have T3 : Turn (fun _ => False) w2 (w3.alloc (.cells #[.int .u64 0, .int .u64 (lo h), .pointer (some a4), .int .u8 33] 49)) := (Turn.of_below hB3).alloc _
  have hb4 := T3.blk (T2.blk hb1 (fun h => h)) (fun h => h)
  have hm4 := (hm1.turn T2 (fun h => h)).turn T3 (fun h => h)
  have hc4 := T3.blk hc2 (fun h => h)
  have hh4 := Blk.new w3 #[.int .u64 0, .int .u64 (lo h), .pointer (some a4), .int .u8 33] 49
  have T4 : Turn (fun k => w.heap.size ≤ k) w (w3.alloc (.cells #[.int .u64 0, .int .u64 (lo h), .pointer (some a4), .int .u8 33] 49)) := ((((Turn.of_below hB1).trans T2 (fun _ h => h.elim)).trans T3 (fun _ h => h.elim))).mono (fun _ h => h)
  have u5 := T4.size
  have u6 : (w3.alloc (.cells #[.int .u64 0, .int .u64 (lo h), .pointer (some a4), .int .u8 33] 49)).heap.size = w3.heap.size + 1 := by simp
  rw [body_L] at hb4
  go_upto_region 12 with (first
    | (go_at_call 8; refine (take_ok Bk X 0 0 none none a4 _ h _ [] 16777216 sz 4194304 0 z0 z1 (by omega) (by omega) (by omega) (by omega) (by omega) hb4 hXB hm4 (.inl ⟨rfl, rfl, rfl, rfl⟩)).mono ?_
       rintro e w5 ⟨S, p4, p6, p7, t, rfl, g4, g6, g7, gt, hwh, r4, r6, r7, rt, rB, rX, hS, hbx, hb5, hm5, T5⟩
       have gS : w3.heap.size + 1 ≤ S := (by rcases hwh with ⟨-, k⟩ | ⟨j, k⟩; simpa using k; simp [findIx] at k)
       have hc5 := T5.blk hc4 (by rintro (k | k | k) <;> omega)
       have hh5 := T5.blk hh4 (by rintro (k | k | k) <;> omega)
       have ec1 := hc5.cell 1
       have ec2 := hc5.cell 2
       have eb2 := hb5.cell 2
       have eb6 := hb5.cell 6
       have eh0 := hh5.cell 0
       have eh1 := hh5.cell 1
       have eh2 := hh5.cell 2
       have eh3 := hh5.cell 3
       have es2 := hS.cell 2
       have es4 := hS.cell 4
       simp [bodyL, share] at ec1 ec2 eb2 eb6 eh0 eh1 eh2 eh3 es2 es4))
  have hfd : findIx h (addKey h S []) 0 = some (0, S) := by simp [addKey, findIx]
  have hlp : lookPtr h (addKey h S []) = some ⟨S, 0, none⟩ := by simp [lookPtr, hfd]
  obtain ⟨es, ck, hX5, hk5⟩ := hm5
  have hl := look_ptr a4 h X ck es _ w5.drew hX5 hk5
  rw [hlp] at hl
  have hsz5 : es.size = 1 := by
    have := keysOf_length hk5
    simpa [addKey, findIx] using this
  have hlen := fun ty => len_run X ck es w5.drew ty hX5
  simp only [hsz5] at hlen
  go_region
  have R := release_any p4 p7 t p6 Bk S X 0 S 0 0 none none a4 h _ _ 67 70 _ (addKey h S []) 1 (16777216 - sz) (4194304 - sz) sz (by omega) (by omega) z0 z1 (by omega) (by omega) (by omega) (by omega) (hb5.drewN 1) (hS.drewN 1) rB.symm hXB rX.symm ⟨es, ck, hX5, hk5⟩ hfd rfl rfl rfl rfl rfl rfl rfl rfl rfl (hbx.q4.drewN 1) (hbx.q7.drewN 1) (hbx.qt.drewN 1) (hbx.q6.drewN 1) (by omega) r4.symm (by omega) r7.symm (by omega) rt.symm (by omega) r6.symm
  go_wp2_with (first
    | (go_at_call 15
       refine R.mono ?_
       rintro e w6 ⟨rfl, hb6, hS6, hm6, T6⟩
       rw [body_free, show (16777216 : Int) - sz + sz = 16777216 by omega] at hb6
       rw [share_free, share_req, show (4194304 : Int) - sz + sz = 4194304 by omega, show (1 : Int) - 1 = 0 by omega] at hS6
       have eb2' := hb6.cell 2
       have eb6' := hb6.cell 6
       have es2' := hS6.cell 2
       have es4' := hS6.cell 4
       simp [bodyL, share] at eb2' eb6' es2' es4'
       have hl0 : lessOne 1 h (addKey h S []) = [] := (by simp [lessOne, addKey, findIx, dropKey])
       rw [hl0] at hm6
       obtain ⟨es6, ck6, hX6, hk6⟩ := hm6
       have hsz6 : es6.size = 0 := (by have := keysOf_length hk6; simpa using this)
       have hlen6 := fun ty => len_run X ck6 es6 w6 ty hX6
       simp only [hsz6] at hlen6))
  go_ret
  refine ⟨rfl, ?_⟩
  have T : Turn (fun k => w.heap.size ≤ k) w w6 := (T4.trans (T5.mono (S' := fun k => w.heap.size ≤ k) (by rintro k (rfl | rfl | rfl) <;> omega)) (fun _ h => .inl h)).drew.trans (T6.mono (S' := fun k => w.heap.size ≤ k) (by rintro k (rfl | rfl | rfl) <;> omega)) (fun _ h => .inl h)
  exact T.below (fun _ h => h)
end Go.Proofs.YbulkbctqDoor
