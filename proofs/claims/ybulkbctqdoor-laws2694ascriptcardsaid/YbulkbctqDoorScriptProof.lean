/-
  THE STATEMENT Rows.LawS2694AScriptCardSaid: the row proved by YbulkbctqDoorScript's walk, the card closed by the given tie.
-/
import Derived.Test.YbulkbctqDoorScript
import Derived.Test.YbulkbctqDoorLaid
import Derived.Test.YbulkbctqDoorTie
import Derived.Test.YbulkbctqDoorCards
import Derived.SevenTiedAt
import Derived.Deep.Strs
import Derived.Carry
namespace Go.Proofs.YbulkbctqDoor
open Go.ChangeShapes Go.WideShapes Go.ChangeAt Go.RowKit
set_option linter.unusedVariables false

theorem laidOut : laidOutB Ybad.prog = true := by kernel_rfl
theorem c32 : Ybad.prog.cellsOf 32 = 3 := by kernel_rfl
theorem c5 : Ybad.prog.cellsOf 5 = 1 := by kernel_rfl
theorem c30 : Ybad.prog.cellsOf 30 = 1 := by kernel_rfl

set_option maxRecDepth 100000 in
/-- What the reading of the argument says of its cells. -/
theorem steps_of {H : Type} {enc : TypeId × Value → H} {W : World} {spare : Nat → Bool} {held : Bool} {fuel : Nat} {x : DataW H × List MemPlace} {a0 : Option Addr} {len cap : Nat}
    (h : DataW.trod enc Ybad.prog W 0 spare held fuel 22 [.slice a0 len cap] = some x) :
    len ≤ maxLen ∧ ∃ b o, (0 < len → a0 = some ⟨b, o, none⟩) ∧ ∀ k, k < len → ∃ op ho sz : Int, 0 ≤ op ∧ op ≤ 255 ∧ 0 ≤ ho ∧ ho ≤ 255 ∧ 0 ≤ sz ∧ sz ≤ 4294967295 ∧ W.cell? ⟨b, o + k * 3, none⟩ = some (.int .u8 op) ∧ W.cell? ⟨b, o + k * 3 + 1, none⟩ = some (.int .u8 ho) ∧ W.cell? ⟨b, o + k * 3 + 2, none⟩ = some (.int .u32 sz) := by
  rcases Go.Deep.open_slice Ybad.underlying22 h with ⟨hcs, _⟩ | ⟨a, l, c, m, n, D, Pl, hcs, hb, hl, hm, hmm, _, hx⟩
  · simp at hcs
    obtain ⟨rfl, rfl, rfl⟩ := hcs
    exact ⟨by unfold maxLen; omega, 0, 0, fun h => absurd h (by omega), fun k hk => absurd hk (by omega)⟩
  · simp at hcs
    obtain ⟨rfl, rfl, rfl⟩ := hcs
    have hlm : len ≤ m := by rw [hmm]; split <;> omega
    have each : ∀ k, k < len → ∃ op ho sz : Int, 0 ≤ op ∧ op ≤ 255 ∧ 0 ≤ ho ∧ ho ≤ 255 ∧ 0 ≤ sz ∧ sz ≤ 4294967295 ∧ W.cell? (a.add (k * 3)) = some (.int .u8 op) ∧ W.cell? (a.add (k * 3 + 1)) = some (.int .u8 ho) ∧ W.cell? (a.add (k * 3 + 2)) = some (.int .u32 sz) := by
      intro k hk
      obtain ⟨cs', h1, h2⟩ := hx k (by omega)
      rw [c32] at h1
      obtain ⟨_, hlen, hcell⟩ := World.cells?_some h1
      obtain ⟨y0, y1, y2, n', _, _, t0, t1, t2⟩ := Go.Deep.trod_struct3 Ybad.underlying32 h2
      match cs', hlen with
      | [v0, v1, v2], _ =>
        simp only [c5, c30, List.drop_zero, List.drop_succ_cons, List.take_succ_cons, List.take_zero] at t0 t1 t2
        obtain ⟨z0, e0, _, w0⟩ := DataW.trod_int Ybad.underlying5 t0
        obtain ⟨z1, e1, _, w1⟩ := DataW.trod_int Ybad.underlying5 t1
        obtain ⟨z2, e2, _, w2⟩ := DataW.trod_int Ybad.underlying30 t2
        simp only [List.cons.injEq, and_true] at e0 e1 e2
        subst e0; subst e1; subst e2
        have b0 : 0 ≤ z0 ∧ z0 ≤ 255 := by simpa [Lit.wf, IntKind.min, IntKind.max, IntKind.signed, IntKind.bits] using w0
        have b1 : 0 ≤ z1 ∧ z1 ≤ 255 := by simpa [Lit.wf, IntKind.min, IntKind.max, IntKind.signed, IntKind.bits] using w1
        have b2 : 0 ≤ z2 ∧ z2 ≤ 4294967295 := by simpa [Lit.wf, IntKind.min, IntKind.max, IntKind.signed, IntKind.bits] using w2
        have q0 := hcell 0 (by omega)
        have q1 := hcell 1 (by omega)
        have q2 := hcell 2 (by omega)
        rw [Go.Deep.add_add] at q0 q1 q2
        exact ⟨z0, z1, z2, b0.1, b0.2, b1.1, b1.2, b2.1, b2.2, q0, q1, q2⟩
    obtain ⟨b, o, s⟩ := a
    refine ⟨by omega, b, o, fun h0 => ?_, fun k hk => ?_⟩
    · obtain ⟨op, ho, sz, _, _, _, _, _, _, q0, _, _⟩ := each 0 h0
      have := World.cell?_spot q0
      simp [Addr.add] at this
      rw [this]
    · have hs : s = none := by
        obtain ⟨op, ho, sz, _, _, _, _, _, _, q0, _, _⟩ := each 0 (by omega)
        have := World.cell?_spot q0
        simpa [Addr.add] using this
      subst hs
      simpa only [Addr.add_lit, Nat.add_assoc] using each k hk

set_option maxRecDepth 100000 in
theorem script_long (a : Option Addr) (n cap : Nat) (w : World) (hn : 1024 < n) (hm : n ≤ maxLen) :
    Calls Ybad.prog 3 #[.slice a n cap] w fun e w' => e = .returned (.bool true) ∧ Below w.heap.size w w' := by
  have hb : decide ((1024 : Int) < n) = true := decide_eq_true (by omega)
  go_enter Ybad.func3, Ybad.ntmps3
  go_wp2_with fail
  go_ret
  exact ⟨rfl, Below.refl _ _⟩

set_option maxRecDepth 100000 in
theorem script_lifted (os : Os) (started : os.Started) (H : Type) (enc : TypeId × Value → H) :
    ReturnsInHanded {} Ybad.checked os 3 .any (fun w args => (Rows.lawS2694AScriptSpec.pre enc Ybad.prog Ybad.f3 [] false w args ∧ laidMetH Ybad.prog laid3 w) ∧ sizedMet enc Ybad.prog Ybad.f3 (OpenSpec.ofChange Rows.lawS2694AScriptSpec) false w args)
      (Rows.lawS2694AScriptSpec.post enc Ybad.prog Ybad.f3 false true false false) := by
  refine returnsInHanded_of_change_and (C := Ybad.checked) (X := fun w _ => laidMetH Ybad.prog laid3 w) (fun _ _ _ hh h => h.of_heap hh) own started (by kernel_rfl) Ybad.func3
    (ChangeSpec.witness_shaped (enc := enc) (C := Ybad.checked) (os := os) (X := fun w _ => laidMetH Ybad.prog laid3 w) false { World.doorLaid Ybad.prog 400 os with heap := (World.doorLaid Ybad.prog 400 os).heap.setIfInBounds (Ybad.prog.globals.size + 1) (.map #[] 0) } #[.slice none 0 0] 8 rfl (World.shaped_of_RefB (by kernel_rfl) (by kernel_rfl)) (by kernel_rfl) (by kernel_rfl) (by kernel_rfl) (start_met os _)) ?_
  intro W base args ds gs before hval0 hW _ _ hL _
  have hval : ∀ (j : Nat) t v, Ybad.f3.params[j]? = some t → args[j]? = some v → Value.okWide Ybad.prog W .any base t v := hval0
  have hW' := hW
  obtain ⟨p, q, hA0, hV, rfl, hfz, hnd⟩ := hW
  have hA : DataW.TrodAll enc Ybad.prog W 0 (fun _ => true) true Ybad.f3.params.toList args.toList ds p := hA0
  rw [Ybad.params3] at hA hval
  obtain ⟨v0, vs0, d0, ds0, p0, q0, hargs, rfl, rfl, h0, r0⟩ := trodAll_cons hA
  obtain ⟨rfl, rfl, rfl⟩ := trodAll_nil r0
  obtain rfl : args = #[v0] := by cases args; simp_all
  obtain ⟨rfl, rfl⟩ := trodVars_none hV
  obtain ⟨a0, len0, cap0, rfl⟩ := okWide_slice Ybad.underlying22 (hval 0 22 v0 rfl rfl)
  have k0 := h0
  have lt0 : ∀ x ∈ p0, x.block < W.heap.size := by obtain ⟨m, hm⟩ := k0; exact DataW.trod_lt m _ _ _ hm
  obtain ⟨hmx, b, o, hav, hst⟩ : len0 ≤ maxLen ∧ ∃ b o, (0 < len0 → a0 = some ⟨b, o, none⟩) ∧ ∀ k, k < len0 → ∃ op ho sz : Int, 0 ≤ op ∧ op ≤ 255 ∧ 0 ≤ ho ∧ ho ≤ 255 ∧ 0 ≤ sz ∧ sz ≤ 4294967295 ∧ W.cell? ⟨b, o + k * 3, none⟩ = some (.int .u8 op) ∧ W.cell? ⟨b, o + k * 3 + 1, none⟩ = some (.int .u8 ho) ∧ W.cell? ⟨b, o + k * 3 + 2, none⟩ = some (.int .u32 sz) := by
    obtain ⟨fuel, hf⟩ := h0
    exact steps_of (show DataW.trod enc Ybad.prog W 0 (fun _ => true) true fuel 22 [.slice a0 len0 cap0] = _ from hf)
  obtain ⟨a4, hz⟩ := of_laid hL
  clear hA0 hval0
  have walk : Calls Ybad.prog 3 #[.slice a0 len0 cap0] W fun e w' => e = .returned (.bool true) ∧ Below W.heap.size W w' := by
    by_cases hlong : len0 ≤ 1024
    · exact script_walk a0 b o len0 cap0 a4 W hz hlong hav hst
    · exact script_long a0 len0 cap0 W (by omega) hmx
  refine walk.mono fun e W' ⟨he, bel⟩ => ?_
  subst he
  exact ⟨_, rfl, _, _, _, [], _, [], hW', trodAll_mk1 (shut_bool Ybad.underlying4 _), (trodAll_cons_mk (Below.trod laidOut (by kernel_rfl) (of_decide_eq_true (by kernel_rfl)) k0 bel lt0) trodAll_mk0), rfl, bel.frame _, fun h => by cases h⟩

theorem script_row : Rows.LawS2694AScriptSaid :=
  OpenClaim.holds_of_wide 3 Ybad.f3 rfl rfl rfl rfl rfl rfl rfl ⟨rfl, rfl, rfl, rfl, rfl⟩ rfl rfl rfl rfl rfl (by kernel_rfl) Ybad.func3 (by kernel_rfl)
    (of_decide_eq_true (by kernel_rfl)) (by unfold Func.isWrapper; rw [if_neg (of_decide_eq_false (by kernel_rfl))]; exact ⟨rfl, rfl⟩)
    (fun os started H enc _ => script_lifted os started H enc)

theorem script_card : Rows.LawS2694AScriptCardSaid :=
  Claim7.holds_tied_plain_at .later [] [.called, .called, .zero] true (true, "df7fcb4332c982df03eeba17a9b02341500b00735f1dabd3938053dd7e6da940") true
    script_row (fun _ h => by cases h) (by kernel_rfl) (fun _ h => by cases h) lawS2694AScript_row_tie rfl ⟨rfl, rfl⟩ (by kernel_rfl) rfl
    (fun f fn hf hfn => by
      obtain rfl : f = 3 := Option.some.inj ((show Ybad.prog.funcNamed Rows.lawS2694AScriptRow.func = some 3 by kernel_rfl).symm.trans hf) |>.symm
      obtain rfl : fn = Ybad.f3 := (Option.some.inj (Ybad.func3.symm.trans hfn)).symm
      exact ⟨by kernel_rfl, fun j t ht => by
        rw [Ybad.params3] at ht
        have h3 : t = 22 := by
          rcases j with _ | j
          · simpa using ht.symm
          · simp at ht
        subst h3
        exact (show Ybad.prog.wantsStandIn 22 = false by kernel_rfl)⟩)
    (by kernel_rfl)
end Go.Proofs.YbulkbctqDoor
