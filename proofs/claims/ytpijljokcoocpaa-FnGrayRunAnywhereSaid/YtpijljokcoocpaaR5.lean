/-
  A script on a gray image, by the program, at a list of steps that is written out. No condition.
-/
import Derived.Test.YtpijljokcoocpaaR4
import Derived.Test.YtpijljokcoocpaaCM
namespace Go.Proofs.Ytpijljokcoocpaa
open Go.ChangeShapes Go.WideShapes Go.ChangeAt Go.RowKit
set_option linter.unusedVariables false
set_option linter.unusedSimpArgs false

theorem RdSteps.of_block {W : World} {g m : Nat} {t : TypeId} {cs : Array Value} {ss : List Stp} (h : W.heap[g]? = some (.cells cs t (0, 0))) (hc : cs.toList = flat11 ss) (hl : ss.length = m) (hm : m ≤ 100) (hok : ∀ s ∈ ss, s.ok) : RdSteps W W.heap.size (some ⟨g, 0, none⟩) m ss := by
  refine ⟨hl, by omega, hok, fun _ => ⟨g, 0, rfl, lt_of_block h, fun i hi j v hj => ?_⟩⟩
  have hj11 : j < 11 := by
    have := (List.getElem?_eq_some_iff.1 hj).1
    simpa [Stp.cells] using this
  rw [Nat.zero_add, cell_of_row W g (i * 11 + j) cs t (0, 0) h, ← Array.getElem?_toList, hc, flat11_get ss i j (by omega) hj11]
  exact hj
theorem zero_ok : I64 0 := by unfold I64; omega

/-- What a script hands back, where the grays are k in number. -/
def RunLite (a b c d : Int) (N k : Nat) (cs bs : List Int) (w : World) (e : Ending) (w' : World) : Prop :=
  ∃ A1 c1 A2 n2 c2 A3 c3, e = .returned (.tuple #[.slice A1 k c1, .slice A2 n2 c2, .agg #[.int .i64 a, .int .i64 b, .int .i64 c, .int .i64 d, .int .i64 (c - a), .slice A3 N c3]]) ∧
    Rd w' w'.heap.size A1 k cs ∧ Rd w' w'.heap.size A3 N bs ∧ (∀ b o, A1 = some ⟨b, o, none⟩ → w.heap.size ≤ b) ∧ (∀ b o, A3 = some ⟨b, o, none⟩ → w.heap.size ≤ b) ∧ Below w.heap.size w w'
theorem RunOut.lite {a b c d : Int} {N k : Nat} {g : GS} {cs bs : List Int} {w w' : World} {e : Ending} (h : RunOut a b c d N g w e w') (hc : g.cs = cs) (hb : g.bs = bs) (hk : cs.length = k) : RunLite a b c d N k cs bs w e w' := by
  subst hc; subst hb; subst hk
  obtain ⟨A1, c1, A2, c2, A3, c3, os, he, r1, r2, _, _, r3, l1, l2, l3, hb⟩ := h
  exact ⟨A1, c1, A2, os.length, c2, A3, c3, he, r1, r3, l1, l3, hb⟩
/-- The same with the offsets, where all steps are at visible points. -/
def RunOffs (a b c d : Int) (N k m : Nat) (cs : List Int) (os : List Int) (w : World) (e : Ending) (w' : World) : Prop :=
  ∃ A1 c1 A2 c2 A3 c3, e = .returned (.tuple #[.slice A1 k c1, .slice A2 m c2, .agg #[.int .i64 a, .int .i64 b, .int .i64 c, .int .i64 d, .int .i64 (c - a), .slice A3 N c3]]) ∧
    Rd w' w'.heap.size A1 k cs ∧ Rd w' w'.heap.size A2 m os ∧ (∀ b o, A1 = some ⟨b, o, none⟩ → w.heap.size ≤ b) ∧ (∀ b o, A2 = some ⟨b, o, none⟩ → w.heap.size ≤ b) ∧ Below w.heap.size w w'
theorem RunOut.offs {a b c d : Int} {N k m : Nat} {g : GS} {cs os : List Int} {w w' : World} {e : Ending} (h : RunOut a b c d N g w e w') (hc : g.cs = cs) (hk : cs.length = k) (hi : g.ins) (ho : g.os = os) (hm : os.length = m) : RunOffs a b c d N k m cs os w e w' := by
  subst hc; subst hk; subst ho; subst hm
  obtain ⟨A1, c1, A2, c2, A3, c3, os, he, r1, r2, _, h2, r3, l1, l2, l3, hb⟩ := h
  obtain rfl := h2 hi
  exact ⟨A1, c1, A2, c2, A3, c3, he, r1, r2, l1, l2, hb⟩

theorem seen_in {R q : Q4} {bs : List Int} {x y : Int} (h : In q.a q.b q.c q.d x y) : seen R (some q) bs x y = rdAt bs R.a R.b R.c R.d x y := by unfold seen; rw [if_pos (vis_some.2 h)]
theorem painted_in {R q : Q4} {bs : List Int} {x y : Int} {z : Int} (h : In q.a q.b q.c q.d x y) : painted R (some q) bs x y z = wrAt bs R.a R.b R.c R.d x y z := by unfold painted; rw [if_pos (vis_some.2 h)]
theorem run_cons (R : Q4) (g : GS) (s : Stp) (ss : List Stp) : grun R g (s :: ss) = grun R (gstep R g s) ss := rfl
theorem run_nil (R : Q4) (g : GS) : grun R g [] = g := rfl

end Go.Proofs.Ytpijljokcoocpaa
