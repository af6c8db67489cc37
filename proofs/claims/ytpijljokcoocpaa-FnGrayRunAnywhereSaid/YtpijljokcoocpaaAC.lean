/-
  How a slice of laws.Act is opened into plain steps. No condition.
-/
import Derived.Test.YtpijljokcoocpaaR0
namespace Go.Proofs.Ytpijljokcoocpaa
open Go.ChangeShapes Go.WideShapes Go.ChangeAt Go.RowKit Go.Deep
set_option linter.unusedVariables false
set_option linter.unusedSimpArgs false

section
variable {H : Type} {enc : TypeId × Value → H} {P : Program} {w : World} {base : Nat} {spare : Nat → Bool} {held : Bool}
theorem act_cells {t : TypeId} {f0 f1 f2 f3 f4 g0 g1 g2 g3 k0 k1 k2 k3 : Field} {fuel : Nat} {cs : List Value} {x : DataW H × List MemPlace} (hs : P.underlying t = some (.struct #[f0, f1, f2, f3, f4])) (hC : P.cellsOf t = 11)
    (o0 : f0.offset = 0) (o1 : f1.offset = 1) (o2 : f2.offset = 2) (o3 : f3.offset = 3) (o4 : f4.offset = 7)
    (c0 : P.cellsOf f0.type = 1) (c1 : P.cellsOf f1.type = 1) (c2 : P.cellsOf f2.type = 1) (c3 : P.cellsOf f3.type = 4) (c4 : P.cellsOf f4.type = 4)
    (e0 : P.underlying f0.type = some (.int .i64)) (e1 : P.underlying f1.type = some (.int .i64)) (e2 : P.underlying f2.type = some (.int .i64))
    (s3 : P.underlying f3.type = some (.struct #[g0, g1, g2, g3])) (n3 : oneCellFields P #[g0, g1, g2, g3] = true)
    (s4 : P.underlying f4.type = some (.struct #[k0, k1, k2, k3])) (n4 : oneCellFields P #[k0, k1, k2, k3] = true)
    (u0 : P.underlying g0.type = some (.int .i64)) (u1 : P.underlying g1.type = some (.int .i64)) (u2 : P.underlying g2.type = some (.int .i64)) (u3 : P.underlying g3.type = some (.int .i64))
    (v0 : P.underlying k0.type = some (.int .i64)) (v1 : P.underlying k1.type = some (.int .i64)) (v2 : P.underlying k2.type = some (.int .i64)) (v3 : P.underlying k3.type = some (.int .i64))
    (h : DataW.trod enc P w base spare held fuel t cs = some x) : ∃ s : Stp, s.ok ∧ cs = s.cells := by
  obtain ⟨xs, n, _, _, hl, hlen, hf⟩ := DataW.trod_struct hs h
  match xs, hlen with
  | [y0, y1, y2, y3, y4], _ =>
    have h0 : DataW.trod enc P w base spare held n f0.type ((cs.drop f0.offset).take (P.cellsOf f0.type)) = some y0 := by simpa using hf 0 f0 rfl
    have h1 : DataW.trod enc P w base spare held n f1.type ((cs.drop f1.offset).take (P.cellsOf f1.type)) = some y1 := by simpa using hf 1 f1 rfl
    have h2 : DataW.trod enc P w base spare held n f2.type ((cs.drop f2.offset).take (P.cellsOf f2.type)) = some y2 := by simpa using hf 2 f2 rfl
    have h3 : DataW.trod enc P w base spare held n f3.type ((cs.drop f3.offset).take (P.cellsOf f3.type)) = some y3 := by simpa using hf 3 f3 rfl
    have h4 : DataW.trod enc P w base spare held n f4.type ((cs.drop f4.offset).take (P.cellsOf f4.type)) = some y4 := by simpa using hf 4 f4 rfl
    match cs, hl.trans hC with
    | [x0, x1, x2, x3, x4, x5, x6, x7, x8, x9, x10], _ =>
      simp only [o0, c0, o1, c1, o2, c2, o3, c3, o4, c4, List.drop, List.take] at h0 h1 h2 h3 h4
      obtain ⟨a, q0, _, w0⟩ := DataW.trod_int e0 h0
      obtain ⟨b, q1, _, w1⟩ := DataW.trod_int e1 h1
      obtain ⟨c, q2, _, w2⟩ := DataW.trod_int e2 h2
      obtain ⟨p, hp, q3⟩ := quad_cells s3 n3 c3 u0 u1 u2 u3 h3
      obtain ⟨r, hr, q4⟩ := quad_cells s4 n4 c4 v0 v1 v2 v3 h4
      simp only [List.cons.injEq, and_true] at q0 q1 q2 q3 q4
      obtain ⟨rfl, rfl, rfl, rfl⟩ := q3
      obtain ⟨rfl, rfl, rfl, rfl⟩ := q4
      subst q0 q1 q2
      exact ⟨⟨a, b, c, p, r⟩, ⟨I64.of_wf w0, I64.of_wf w1, I64.of_wf w2, hp, hr⟩, rfl⟩
end

/-- A slice value that reads as the steps ss, and is small enough for one more. -/
def RdActs (w : World) (B : Nat) (A : Option Addr) (n : Nat) (ss : List Stp) : Prop := RdSteps w B A n ss ∧ n * 88 ≤ 140737488351232

theorem open_rdacts {H : Type} {enc : TypeId × Value → H} {W : World} {A : Option Addr} {n c j : Nat} {d : DataW H} {p : List MemPlace} {ts : List TypeId} {ds : List (DataW H)}
    (h : DataW.Trod enc Try.prog W 0 (fun _ => true) true 51 (.slice A n c) d p) (hsz : (DataW.weightsEach Try.prog ts ds).all (· ≤ reachBytes) = true) (htj : ts[j]? = some 51) (hdj : ds[j]? = some d) : ∃ ss, RdActs W W.heap.size A n ss := by
  have ht := Try.underlying51
  have hC : Try.prog.cellsOf 95 = 11 := by kernel_rfl
  obtain ⟨fuel, hf⟩ := h
  rcases open_slice ht hf with ⟨hcs, _⟩ | ⟨x, l, c', m, k, D, Pl, hcs, _, hl, hm, hmm, hx, hi⟩
  · simp only [Value.cells, List.cons.injEq, Value.slice.injEq, and_true] at hcs
    obtain ⟨rfl, rfl, rfl⟩ := hcs
    exact ⟨[], ⟨rfl, by omega, by simp, fun h => absurd h (by omega)⟩, by omega⟩
  · simp only [Value.cells, List.cons.injEq, Value.slice.injEq, and_true] at hcs
    obtain ⟨rfl, rfl, rfl⟩ := hcs
    simp only [if_true] at hmm
    subst hmm
    simp only [Prod.mk.injEq] at hx
    obtain ⟨rfl, _⟩ := hx
    have h8 := sized_slice hsz htj hdj ht
    have hb : Try.prog.bytesOf 95 = 88 := by kernel_rfl
    rw [hb] at h8
    simp only [List.length_map, List.length_range, reachBytes] at h8
    rw [hC] at hi
    obtain ⟨f, hf⟩ := choose_lt (α := Stp) (n := m) (p := fun i s => s.ok ∧ ∀ j v, s.cells[j]? = some v → W.cell? (x.add (i * 11 + j)) = some v) (fun i him => by
      obtain ⟨cs', h1, h2⟩ := hi i him
      obtain ⟨s, hs, rfl⟩ := act_cells Try.underlying95 hC rfl rfl rfl rfl rfl (by kernel_rfl) (by kernel_rfl) (by kernel_rfl) (by kernel_rfl) (by kernel_rfl) Try.underlying3 Try.underlying3 Try.underlying3 Try.underlying93 (by kernel_rfl) Try.underlying23 (by kernel_rfl) Try.underlying3 Try.underlying3 Try.underlying3 Try.underlying3 Try.underlying3 Try.underlying3 Try.underlying3 Try.underlying3 h2
      obtain ⟨_, _, hat⟩ := World.cells?_some h1
      refine ⟨s, hs, fun j v hj => ?_⟩
      have hj11 : j < 11 := by
        have := (List.getElem?_eq_some_iff.1 hj).1
        simpa [Stp.cells] using this
      have := hat j hj11
      rw [Go.Deep.add_add] at this
      exact this.trans hj)
    refine ⟨(List.range n).map f, ⟨by simp, by omega, ?_, fun hn => ?_⟩, by omega⟩
    · intro q hq
      obtain ⟨i, hir, rfl⟩ := List.mem_map.1 hq
      exact (hf i (by have := List.mem_range.1 hir; omega)).1
    · have hc0 := (hf 0 (by omega)).2 0 _ rfl
      obtain ⟨b, off, spot⟩ := x
      have hspot : spot = none := by simpa [Addr.add] using World.cell?_spot hc0
      subst hspot
      refine ⟨b, off, rfl, ?_, fun i hin j v hj => ?_⟩
      · have := World.block_lt_of_cell? _ _ hc0
        simpa [Addr.add] using this
      · have e : ((List.range n).map f).getD i default = f i := by simp [List.getD, hin]
        rw [e] at hj
        have := (hf i (by omega)).2 j v hj
        rw [Addr.add_lit] at this
        rw [Nat.add_assoc]
        exact this

end Go.Proofs.Ytpijljokcoocpaa
