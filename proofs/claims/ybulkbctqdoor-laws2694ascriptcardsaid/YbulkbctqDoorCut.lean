/-
  append(hs[:i], hs[i+1:]...) in LawS2694AScript's frame: the region 20, which draws its order.
-/
import Derived.Test.YbulkbctqDoorHelp
namespace Go.Proofs.YbulkbctqDoor
open Go.RowKit Go.MuLone
set_option linter.unusedVariables false
set_option linter.unusedSimpArgs false

theorem eput_same (a : Act) (d : Nat) (v : Value) (h : d < a.tmps.size) : (a.put (some d) v).eval (.tmp d) = v := by
  simp [Act.put, Act.eval, Array.getD_eq_getD_getElem?, h]
theorem eput_other (a : Act) (d t : Nat) (v : Value) (h : d ≠ t) : (a.put (some d) v).eval (.tmp t) = a.eval (.tmp t) := by
  simp [Act.put, Act.eval, Array.getD_eq_getD_getElem?, Array.getElem?_setIfInBounds, h]
theorem wp_thenF {P : Program} {K : Act → World → Prop} {Q : Exit → Act → World → Prop} {a : Act} {w : World} {x : Code} (h : x.wp P (Exit.then K (fun _ _ _ => False)) a w) : x.wp P (Exit.then K Q) a w :=
  wp_mono h (fun e a w hq => by cases e <;> first | exact hq | exact hq.elim)
theorem eval_con (a : Act) (v : Value) : a.eval (.const v) = v := rfl
theorem eput_size (a : Act) (d : Nat) (v : Value) : (a.put (some d) v).tmps.size = a.tmps.size := by
  simp [Act.put]

set_option maxRecDepth 100000 in
theorem region_cut {p : String} {g gc m len : Nat} {A : Addr} {v' : Value} {w w5 : World} (a : Act) (h8 : a.eval (.tmp 8) = .slice (some ⟨g, 0, none⟩) len gc) (h12 : a.eval (.tmp 12) = .int .i64 m) (hs : a.tmps.size = 238)
    (hml : m < len) (hlg : len ≤ gc) (hgm : gc ≤ maxLen) (hA : (if gc = m + 1 then some (⟨g, 0, none⟩ : Addr) else some ⟨g, (m + 1) * 3, none⟩) = some A)
    (hrun : (Builtin.append_ #[29, 29] 29 #[.slice (some ⟨g, 0, none⟩) m gc, .slice (some A) (len - (m + 1)) (gc - (m + 1))]).run Ybad.prog w.drew = .ok v' w5)
    {K : Act → World → Prop}
    (hK : K (((((((((a.put (some 75) (.slice (some ⟨g, 0, none⟩) len gc)).put (some 76) (.int .i64 m)).put (some 77) (.slice (some ⟨g, 0, none⟩) m gc)).put (some 78) (.slice (some ⟨g, 0, none⟩) len gc)).put (some 79) (.int .i64 m)).put (some 80) (.int .i64 ((m : Int) + 1))).put (some 81) (.slice (some A) (len - (m + 1)) (gc - (m + 1)))).put (some 82) v').put (some 8) v') w5) :
    Code.wp Ybad.prog
    (Code.region 20
      #[{ dst := some 75, op := Op.move (Operand.tmp 8), type := 29, pos := p, after := #[],
          guard := none },
        { dst := some 76, op := Op.move (Operand.tmp 12), type := 3, pos := p, after := #[],
          guard := none },
        { dst := some 77, op := Op.slice 29 (Operand.tmp 75) none (some (Operand.tmp 76)) none, type := 29,
          pos := p,
          after := #[{ on := 0, ground := Ground.data }, { on := 1, ground := Ground.data }], guard := none },
        { dst := some 78, op := Op.move (Operand.tmp 8), type := 29, pos := p, after := #[],
          guard := none },
        { dst := some 79, op := Op.move (Operand.tmp 12), type := 3, pos := p, after := #[],
          guard := none },
        { dst := some 80, op := Op.binOp BinOp.add 3 (Operand.tmp 79) (Operand.const (Value.int IntKind.i64 1)) 3,
          type := 3, pos := p, after := #[{ on := 4, ground := Ground.data }], guard := none },
        { dst := some 81, op := Op.slice 29 (Operand.tmp 78) (some (Operand.tmp 80)) none none, type := 29,
          pos := p,
          after := #[{ on := 3, ground := Ground.data }, { on := 5, ground := Ground.data }], guard := none },
        { dst := some 82,
          op :=
            Op.call
              { callee := Callee.builtin Builtin.append, args := #[Operand.tmp 77, Operand.tmp 81],
                argTypes := #[29, 29] },
          type := 29, pos := p,
          after := #[{ on := 2, ground := Ground.data }, { on := 6, ground := Ground.data }], guard := none },
        { dst := some 8, op := Op.assign (Operand.tmp 82), type := 29, pos := p,
          after :=
            #[{ on := 7, ground := Ground.data }, { on := 7, ground := Ground.chain },
              { on := 0, ground := Ground.phase }, { on := 1, ground := Ground.phase },
              { on := 2, ground := Ground.phase }, { on := 3, ground := Ground.phase },
              { on := 4, ground := Ground.phase }, { on := 5, ground := Ground.phase },
              { on := 6, ground := Ground.phase }, { on := 7, ground := Ground.phase }],
          guard := none }]
      true)
    (Exit.then K (fun _ _ _ => False)) a w := by
  have hic : m ≤ gc := by omega
  have hwr : IntKind.i64.wrap ((m : Int) + 1) = (m : Int) + 1 := by rw [IntKind.wrap_i64]; unfold maxLen at hgm; omega
  have hp0 : (0 : Int) ≤ (m : Int) + 1 := by omega
  have hp1 : (m : Int) + 1 ≤ (len : Int) := by omega
  have hp2 : ((m : Int) + 1).toNat = m + 1 := by omega
  refine wp_region_any (by kernel_rfl) ?_
  change wpAny _ _ _ _ _ _ _ (World.drew _)
  refine wpAny_take (i := 0) (v := .slice (some ⟨g, 0, none⟩) len gc) rfl (by kernel_rfl) (by kernel_rfl) (by kernel_rfl) (fun _ _ _ h => h) (Or.inl ⟨by rfl, fun w => by simp [execOp, h8]⟩) ?_
  refine wpAny_take (i := 1) (v := .int .i64 m) rfl (by kernel_rfl) (by kernel_rfl) (by kernel_rfl) (fun _ _ _ h => h) (Or.inl ⟨by rfl, fun w => by simp [execOp, h12, eput_other]⟩) ?_
  refine wpAny_take (i := 2) (v := .slice (some ⟨g, 0, none⟩) m gc) rfl (by kernel_rfl) (by kernel_rfl) (by kernel_rfl) (fun _ _ _ h => h) (Or.inl ⟨by rfl, fun w => by simp [execOp, eput_same, eput_other, eput_size, eval_con, hs]; go_simp⟩) ?_
  refine wpAny_take (i := 3) (v := .slice (some ⟨g, 0, none⟩) len gc) rfl (by kernel_rfl) (by kernel_rfl) (by kernel_rfl) (fun _ _ _ h => h) (Or.inl ⟨by rfl, fun w => by simp [execOp, h8, eput_other]⟩) ?_
  refine wpAny_take (i := 4) (v := .int .i64 m) rfl (by kernel_rfl) (by kernel_rfl) (by kernel_rfl) (fun _ _ _ h => h) (Or.inl ⟨by rfl, fun w => by simp [execOp, h12, eput_other]⟩) ?_
  refine wpAny_take (i := 5) (v := .int .i64 ((m : Int) + 1)) rfl (by kernel_rfl) (by kernel_rfl) (by kernel_rfl) (fun _ _ _ h => h) (Or.inl ⟨by rfl, fun w => by simp [execOp, eput_same, eput_other, eput_size, eval_con, hs]; go_simp⟩) ?_
  refine wpAny_take (i := 6) (v := .slice (some A) (len - (m + 1)) (gc - (m + 1))) rfl (by kernel_rfl) (by kernel_rfl) (by kernel_rfl) (fun _ _ _ h => h) (Or.inl ⟨by rfl, fun w => by simp [execOp, eput_same, eput_other, eput_size, eval_con, hs]; go_simp⟩) ?_
  refine wpAny_ready (rs := [7]) (by kernel_rfl) (by simp) ?_
  refine AllReady.cons rfl (fun K' hK' => ?_) AllReady.nil
  refine step_append_run rfl (.tmp 77) (.tmp 81) 29 rfl (.slice (some ⟨g, 0, none⟩) m gc) (.slice (some A) (len - (m + 1)) (gc - (m + 1))) v' (by simp [eput_same, eput_other, eput_size, hs]) (by simp [eput_same, eput_other, eput_size, hs]) hrun ?_
  refine hK' _ _ ?_
  refine wpAny_take (i := 8) (v := v') rfl (by kernel_rfl) (by kernel_rfl) (by kernel_rfl) (fun _ _ _ h => h) (Or.inl ⟨by rfl, fun w => by simp [execOp, eput_same, eput_other, eput_size, hs]⟩) ?_
  refine wpAny_done (by kernel_rfl) ?_ _
  exact hK
end Go.Proofs.YbulkbctqDoor
