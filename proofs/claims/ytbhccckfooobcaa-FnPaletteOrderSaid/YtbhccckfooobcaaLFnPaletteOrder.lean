/-
  The law FnPaletteOrder returns true for every input and leaves its arguments as they were: the frame round the walk 'fnPaletteOrder_walk'. No condition.
-/
import Derived.Test.YtbhccckfooobcaaPR
import Derived.Test.YtbhccckfooobcaaIN
namespace Go.Proofs.Ytbhccckfooobcaa.fnPaletteOrder
open Go.ChangeShapes Go.WideShapes Go.ChangeAt Go.RowKit
set_option linter.unusedVariables false
set_option linter.unusedSimpArgs false

set_option maxRecDepth 100000 in
theorem lifted (os : Os) (started : os.Started) (H : Type) (enc : TypeId × Value → H) :
    ReturnsInHanded {} Try.checked os 5 .any (Rows.fnPaletteOrderSpec.pre6 enc Try.prog Try.f5 Rows.fnPaletteOrderRow.domain false) (Rows.fnPaletteOrderSpec.post enc Try.prog Try.f5 false true false false) := by
  refine returnsInHanded_of_change_sized (C := Try.checked) own started (by kernel_rfl) Try.func5
    (ChangeSpec.witness6 (enc := enc) (C := Try.checked) false ⟨#[], #[.slice none 0 0, .agg #[.int .i64 0, .int .i64 0, .int .i64 0, .int .i64 0]], []⟩ 8 (by kernel_rfl) (by kernel_rfl) (by kernel_rfl) (by kernel_rfl)) ?_
  intro W base args ds gs before hval0 hW hcnd hsz0 _
  have hval : ∀ (j : Nat) t v, Try.f5.params[j]? = some t → args[j]? = some v → Value.okWide Try.prog W .any base t v := hval0
  have hsz : (DataW.weightsEach Try.prog (Try.f5.params.toList ++ Rows.fnPaletteOrderSpec.plain.varTypes Try.prog) (ds ++ gs)).all (· ≤ reachBytes) = true := hsz0
  have hW' := hW
  obtain ⟨p, q, hA0, hV, rfl, hfz, hnd⟩ := hW
  have hA : DataW.TrodAll enc Try.prog W 0 (fun _ => true) true Try.f5.params.toList args.toList ds p := hA0
  rw [Try.params5] at hA hval hsz
  obtain ⟨v0, vs0, d0, ds0, p0, q0, hargs, rfl, rfl, h0, r0⟩ := trodAll_cons hA
  obtain ⟨v1, vs1, d1, ds1, p1, q1, rfl, rfl, rfl, h1, r1⟩ := trodAll_cons r0
  obtain ⟨rfl, rfl, rfl⟩ := trodAll_nil r1
  obtain rfl : args = #[v0, v1] := by cases args; simp_all
  obtain ⟨rfl, rfl⟩ := trodVars_none hV
  have lt0 : ∀ x ∈ p0, x.block < W.heap.size := by obtain ⟨m, hm⟩ := h0; exact DataW.trod_lt m _ _ _ hm
  have k0 := h0
  obtain ⟨a0, n0, c0, rfl⟩ := okWide_slice Try.underlying30 (hval 0 30 v0 rfl rfl)
  obtain ⟨z0, w0⟩ := open_rdquads (j := 0) Try.underlying30 Try.underlying23 (by kernel_rfl) (by kernel_rfl) (by kernel_rfl) Try.underlying3 Try.underlying3 Try.underlying3 Try.underlying3 h0 hsz rfl rfl
  have lt1 : ∀ x ∈ p1, x.block < W.heap.size := by obtain ⟨m, hm⟩ := h1; exact DataW.trod_lt m _ _ _ hm
  have k1 := h1
  obtain ⟨a1, w1, rfl⟩ := open_quad Try.underlying23 (by kernel_rfl) (by kernel_rfl) Try.underlying3 Try.underlying3 Try.underlying3 Try.underlying3 (hval 1 23 v1 rfl rfl) h1
  clear hA0 hval0 hsz0
  refine (fnPaletteOrder_walk W a0 n0 c0 z0 w0 a1 w1).mono fun e W' ⟨he, bel⟩ => ?_
  subst he
  exact ⟨_, rfl, _, _, _, [], _, [], hW', trodAll_mk1 (shut_bool Try.underlying4 _), (trodAll_cons_mk (Below.trod laidOut (by kernel_rfl) (of_decide_eq_true (by kernel_rfl)) k0 bel lt0) (trodAll_cons_mk (Below.trod laidOut (by kernel_rfl) (of_decide_eq_true (by kernel_rfl)) k1 bel lt1) trodAll_mk0)), rfl, bel.frame _, fun h => by cases h⟩

theorem facts : joinedFacts Try.prog 5 Try.f5 Rows.fnPaletteOrderSpec Rows.fnPaletteOrderRow = true := by
  unfold joinedFacts
  rw [hd_make, hd_lifts, hd_enter]
  repeat' (with_reducible refine and_true_of ?_ ?_)
  all_goals (as_aux_lemma => kernel_rfl)

theorem over : Rows.fnPaletteOrderRow.holds Try.pinned (OpenSpec.ofChange Rows.fnPaletteOrderSpec) :=
  OpenClaim.holds_of_wide 5 Try.f5 rfl rfl rfl rfl rfl rfl rfl ⟨rfl, rfl, rfl, rfl, rfl⟩ rfl rfl rfl rfl rfl (by as_aux_lemma => kernel_rfl) Try.func5 facts
    (of_decide_eq_true (by as_aux_lemma => kernel_rfl)) (by unfold Func.isWrapper; first | (rw [if_pos (by decide +kernel)]; kernel_rfl) | (rw [if_neg (by decide +kernel)]; exact ⟨rfl, rfl⟩))
    (fun os started H enc _ => lifted os started H enc)

/-- THE STATEMENT -/
theorem proved : Rows.FnPaletteOrderSaid := over
#print axioms proved
end Go.Proofs.Ytbhccckfooobcaa.fnPaletteOrder
