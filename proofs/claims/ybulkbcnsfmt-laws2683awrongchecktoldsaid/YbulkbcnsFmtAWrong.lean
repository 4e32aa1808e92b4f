/-
  THE TOLD CARD OF LawS2683AWrongCheck: every slice of uint64s, every two uint32s, every slice of bytes, nil ones too.
-/
import Derived.Test.YbulkbcnsFmtCommon
import Derived.Test.YbulkbcnsFmtWrong
namespace Go.Proofs.YbulkbcnsFmt
open Go.ChangeShapes Go.WideShapes Go.ChangeAt Go.RowKit Go.Kit
open Go.Extern.Stop Go.Stop Go.Extern

/-- The law, WHOLE. -/
theorem wrong_any (F : Interp) (ac ap : Option Addr) (n cc np cp ck dl : Nat) (cs : List Nat) (pl : List UInt8) (w : World) (hF : F.answers w.tape) (hck : ck < 4294967296) (hdl : dl < 4294967296) (hu : UV w (.slice ac n cc) cs) (hv : BV w (.slice ap np cp) pl) (hnil : ap = none → np = 0 ∧ cp = 0) :
    Calls Ybaf.prog 4 #[.slice ac n cc, .int .u32 ck, .int .u32 dl, .slice ap np cp] w fun e w' => e = .returned (.bool true) ∧ Below w.heap.size w w' := by
  by_cases hlong : 600 < n ∨ 4096 < np
  · exact wrong_long ac ap n cc np cp ck dl w hlong
  · have hn : n ≤ 600 := by omega
    have hp : np ≤ 4096 := by omega
    have hcn : cs.length = n := by obtain ⟨_, _, he, _⟩ := hu; injection he with _ h _; exact h.symm
    obtain ⟨d', hd0, hd32, hd⟩ : ∃ d' : Nat, d' ≠ 0 ∧ d' < 4294967296 ∧ ((((dl : Int) == 0) = false ∧ (d' : Int) = (dl : Int)) ∨ ((dl : Int) = 0 ∧ (d' : Int) = 1)) := by
      by_cases h0 : dl = 0
      · exact ⟨1, by omega, by omega, .inr ⟨by omega, rfl⟩⟩
      · exact ⟨dl, h0, hdl, .inl ⟨by rw [beq_eq_false_iff_ne]; omega, rfl⟩⟩
    have hx := Go.u32_xor_nat ck d' hck hd32
    have h32 : ck ^^^ d' < 4294967296 := by
      have := Nat.xor_lt_two_pow (n := 32) (x := ck) (y := d') (by simpa using hck) (by simpa using hd32)
      simpa using this
    refine wrong_in ac ap n cc np cp ck (ck ^^^ d') (stampL cs (ck ^^^ d') pl).length dl d' w hn hp hd hx (fun w1 hb1 => ?_)
    have hu1 : UV w1 (.slice ac n cc) cs := by
      obtain ⟨a, c, he, h1, h2⟩ := hu
      exact ⟨a, c, he, fun hpos => by obtain ⟨g, o, ha, hc⟩ := h1 hpos; exact ⟨g, o, ha, fun j hj => cell_later hb1 (hc j hj)⟩, h2⟩
    refine (stamp_any ac ap n cc np cp (ck ^^^ d') cs pl w1 hn hp h32 hu1 (BV_later hv hb1) hnil).mono ?_
    rintro e w2 ⟨g, cap, rfl, hbv, hb2⟩
    refine ⟨g, cap, rfl, hb2, fun G M hG => ?_⟩
    have H := dm_any F G M n ck (some ⟨g, 0, none⟩) (stampL cs (ck ^^^ d') pl).length cap (stampL cs (ck ^^^ d') pl) w2 (by rw [hb2.tape, hb1.tape]; exact hF) (hG.later hb2) hn hbv
    rw [dec_stamp n ck (ck ^^^ d') cs pl hcn (by omega) h32, if_pos (xor_ne ck d' hd0)] at H
    exact H

/-- A slice of uint64s that came in, opened. -/
theorem open_words {H : Type} {enc : TypeId × Value → H} {W : World} {v : Value} {d : DataW H} {p : List MemPlace} {base : Nat}
    (hv : Value.okWide Ybaf.prog W .any base 22 v) (h : DataW.Trod enc Ybaf.prog W 0 (fun _ => true) true 22 v d p) : ∃ a len cap zs, v = .slice a len cap ∧ IsRow .u64 W a len cap zs := by
  obtain ⟨a0, len0, cap0, rfl⟩ := okWide_slice Ybaf.underlying22 hv
  obtain ⟨fuel, hf⟩ := h
  rcases open_ints Ybaf.underlying22 Ybaf.underlying36 (by kernel_rfl) hf with ⟨hcs, _⟩ | ⟨x, l, c, zs, hcs, _, hl, hm, hz, _, hcell, hwz⟩
  · simp [Value.cells] at hcs
    obtain ⟨rfl, rfl, rfl⟩ := hcs
    exact ⟨_, _, _, [], rfl, .inl ⟨rfl, rfl, rfl, rfl⟩⟩
  · simp [Value.cells] at hcs
    obtain ⟨rfl, rfl, rfl⟩ := hcs
    exact ⟨_, _, _, zs, rfl, .inr ⟨_, rfl, hl, hm, by simpa using hz, hcell, hwz⟩⟩
theorem row_nil {k : IntKind} {w : World} {a : Option Addr} {len cap : Nat} {zs : List Int} (h : IsRow k w a len cap zs) : a = none → len = 0 ∧ cap = 0 := by
  rintro rfl
  rcases h with ⟨_, h, h', _⟩ | ⟨x, h, _⟩
  · exact ⟨h, h'⟩
  · cases h
theorem u32_bounds' {z : Int} (h : (Lit.int .u32 z).wf = true) : 0 ≤ z ∧ z ≤ 4294967295 := by
  simpa [Lit.wf, IntKind.min, IntKind.max, IntKind.signed, IntKind.bits] using h

set_option maxRecDepth 100000 in
theorem wrong_lifted (os : Os) (started : os.Started) (H : Type) (enc : TypeId × Value → H) :
    ReturnsInTold none {} Ybaf.checked os 4 .any Input.okWide ((OpenSpec.ofChange Rows.lawS2683AWrongCheckSpec).preRow enc Ybaf.prog Ybaf.f4 [] false []) (fun F => ((OpenSpec.ofChange Rows.lawS2683AWrongCheckSpec).at F).post enc Ybaf.prog Ybaf.f4 false true false false) (aloneAtReturn Ybaf.prog) nothingAlways := by
  refine returnsInTold_of_row (C := Ybaf.checked) (s := OpenSpec.ofChange Rows.lawS2683AWrongCheckSpec) (by kernel_rfl) own started (by kernel_rfl) Ybaf.func4
    (OpenSpec.witness_stopped (enc := enc) (C := Ybaf.checked) false ⟨#[], #[.slice none 0 0, .int .u32 0, .int .u32 0, .slice none 0 0], []⟩ 8 (by kernel_rfl) (by kernel_rfl) (by kernel_rfl) (by kernel_rfl)) ?_
  intro F W base args ds gs before _ hF hval0 hW _ _ _ _ _
  have hval : ∀ (j : Nat) t v, Ybaf.f4.params[j]? = some t → args[j]? = some v → Value.okWide Ybaf.prog W .any base t v := hval0
  have hW' := hW
  obtain ⟨p, q, hA0, hV, rfl, hfz, hnd⟩ := hW
  have hA : DataW.TrodAll enc Ybaf.prog W 0 (fun _ => true) true Ybaf.f4.params.toList args.toList ds p := hA0
  rw [Ybaf.params4] at hA hval
  obtain ⟨v0, v1, v2, v3, d0, d1, d2, d3, p0, p1, p2, p3, rfl, rfl, rfl, h0, h1, h2, h3⟩ := trodAll_four hA
  obtain ⟨rfl, rfl⟩ := trodVars_none hV
  obtain ⟨a0, len0, cap0, z0, rfl, w0⟩ := open_words (hval 0 22 v0 rfl rfl) h0
  obtain ⟨ck, rfl, rfl, rfl, wc⟩ := open_int Ybaf.underlying23 (hval 1 23 v1 rfl rfl) h1
  obtain ⟨dl, rfl, rfl, rfl, wd⟩ := open_int Ybaf.underlying23 (hval 2 23 v2 rfl rfl) h2
  obtain ⟨a3, len3, cap3, z3, rfl, w3⟩ := open_bytes (hval 3 24 v3 rfl rfl) h3
  have lt0 : ∀ x ∈ p0, x.block < W.heap.size := by obtain ⟨m, hm⟩ := h0; exact DataW.trod_lt m _ _ _ hm
  have lt3 : ∀ x ∈ p3, x.block < W.heap.size := by obtain ⟨m, hm⟩ := h3; exact DataW.trod_lt m _ _ _ hm
  have bc := u32_bounds' wc
  have bd := u32_bounds' wd
  clear hA0 hval0
  obtain ⟨cn, rfl⟩ := Int.eq_ofNat_of_zero_le bc.1
  obtain ⟨dn, rfl⟩ := Int.eq_ofNat_of_zero_le bd.1
  refine (wrong_any F.told a0 a3 len0 cap0 len3 cap3 cn dn _ _ W hF (by omega) (by omega) (UV_of_row w0) (BV_of_row w3) (row_nil w3)).mono fun e W' ⟨he, bel⟩ => ?_
  subst he
  exact ⟨_, rfl, _, _, _, [], _, [], hW', trodAll_mk1 (shut_bool Ybaf.underlying4 _), trodAll_mk4 (Below.trod laidOut (by kernel_rfl) (of_decide_eq_true (by kernel_rfl)) h0 bel lt0) (shut_int Ybaf.underlying23 wc) (shut_int Ybaf.underlying23 wd) (Below.trod laidOut (by kernel_rfl) (of_decide_eq_true (by kernel_rfl)) h3 bel lt3), rfl, bel.frame _, fun h => by cases h⟩

theorem wrong_holds : Rows.LawS2683AWrongCheckToldSaid :=
  Claim7.holds_of_told_any 4 Ybaf.f4 _ _ [] _ _ _ (by kernel_rfl) rfl rfl rfl laidOutP (by kernel_rfl) rfl ⟨rfl, rfl, rfl, rfl, rfl, rfl, rfl⟩ rfl rfl (by kernel_rfl) (by kernel_rfl) Ybaf.func4 (by kernel_rfl)
    (of_decide_eq_true (by kernel_rfl)) (of_decide_eq_true (by kernel_rfl)) stopsAre.symm rfl stopKnobs.symm (by kernel_rfl)
    (by kernel_rfl) (by kernel_rfl) (by kernel_rfl) (by kernel_rfl) (by kernel_rfl) (by kernel_rfl) (by kernel_rfl) (by kernel_rfl) (by kernel_rfl) rfl (by kernel_rfl) rfl rfl
    rfl rfl
    rfl (by kernel_rfl) (by kernel_rfl) (by kernel_rfl) (by decide) (by kernel_rfl)
    (OpenClaim.moreEntering_of (by kernel_rfl) (by kernel_rfl) (by kernel_rfl) (by kernel_rfl) (by kernel_rfl) (by kernel_rfl) (by kernel_rfl) (by kernel_rfl) (by kernel_rfl) (by kernel_rfl))
    ⟨_, WideRow.started_initial, quietOs _⟩
    (fun os started _ H enc _ => wrong_lifted os started H enc)
end Go.Proofs.YbulkbcnsFmt
