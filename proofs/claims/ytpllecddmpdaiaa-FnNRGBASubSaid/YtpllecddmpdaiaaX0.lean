/-
  Moves of a walk through a region that draws its order, with the worlds as letters: what is known of a block behind a call, a new block and a store. No condition.
-/
import Derived.Test.YtpllecddmpdaiaaBase
import Derived.Deep.DeepCutAuto
import Derived.Deep.RegionWith
namespace Go.Proofs.Ytpllecddmpdaiaa
set_option linter.unusedVariables false
set_option linter.unusedSimpArgs false
open Go.RowKit

section
variable {X Y w : World} {g b i : Nat} {o o' : Obj} {p : Addr} {u v : Value}
theorem bk (bc : Below X.heap.size X Y) (h : X.heap[g]? = some o) : Y.heap[g]? = some o := (bc.block g (Array.getElem?_eq_some_iff.1 h).1).trans h
theorem ck (bc : Below X.heap.size X Y) (h : X.cell? p = some v) : Y.cell? p = some v := (bc.cell (World.block_lt_of_cell? _ _ h)).trans h
theorem bs (bc : Below X.heap.size X Y) (h : Below w.heap.size w X) : Below w.heap.size w Y := h.trans (bc.mono h.size)
theorem bka (h : X.heap[g]? = some o) : (X.alloc o').heap[g]? = some o := (Below.heap_alloc _ _ _ (Array.getElem?_eq_some_iff.1 h).1).trans h
theorem cka (h : X.cell? p = some v) : (X.alloc o').cell? p = some v := (World.cell?_alloc_lt _ _ _ (World.block_lt_of_cell? _ _ h)).trans h
theorem bsa (h : Below w.heap.size w X) : Below w.heap.size w (X.alloc o) := h.alloc h.size _
theorem cks (hne : ¬ p.block = g) (h : X.cell? p = some v) : (X.setCell ⟨g, i, none⟩ u).cell? p = some v := by
  rw [World.cell?_setCell_other _ _ _ _ (by intro e; subst e; exact hne rfl)]; exact h
theorem bks (hne : ¬ b = g) (h : X.heap[b]? = some o) : (X.setCell ⟨g, i, none⟩ u).heap[b]? = some o := (Below.heap_setCell _ _ _ _ hne).trans h
theorem bss (hg : w.heap.size ≤ g) (h : Below w.heap.size w X) : Below w.heap.size w (X.setCell ⟨g, i, none⟩ u) := h.setCell hg _
theorem ne_new (h : X.heap[b]? = some o) (e : g = X.heap.size) : ¬ b = g := by
  have := (Array.getElem?_eq_some_iff.1 h).1; omega
theorem new_ne {c : Nat} (hc : c < X.heap.size) (e : g = X.heap.size) : ¬ c = g := by omega
theorem lt_of_block (h : X.heap[b]? = some o) : b < X.heap.size := (Array.getElem?_eq_some_iff.1 h).1
end
section
variable {X : World} {g : Nat} {t : TypeId} {a b c d e f a' b' c' d' e' f' : Value}
/-- What a block of four cells gives. -/
theorem q4c (h : X.heap[g]? = some (.cells #[a, b, c, d] t (0, 0))) : (X.cell? ⟨g, 0, none⟩ = some a ∧ X.cell? ⟨g, 1, none⟩ = some b ∧ X.cell? ⟨g, 2, none⟩ = some c ∧ X.cell? ⟨g, 3, none⟩ = some d) ∧
    X.frozen? ⟨g, 0, none⟩ = false ∧ X.frozen? ⟨g, 1, none⟩ = false ∧ X.frozen? ⟨g, 2, none⟩ = false ∧ X.frozen? ⟨g, 3, none⟩ = false := by
  have := fun i => cell_of_row X g i _ _ (0, 0) h
  exact ⟨⟨this 0, this 1, this 2, this 3⟩, by simp [World.frozen?, h], by simp [World.frozen?, h], by simp [World.frozen?, h], by simp [World.frozen?, h]⟩
theorem q4s (h : X.heap[g]? = some (.cells #[a, b, c, d] t (0, 0))) : ((((X.setCell ⟨g, 0, none⟩ a').setCell ⟨g, 1, none⟩ b').setCell ⟨g, 2, none⟩ c').setCell ⟨g, 3, none⟩ d').heap[g]? = some (.cells #[a', b', c', d'] t (0, 0)) := by
  simp [World.setCell, Array.getElem?_modify, h]
theorem q6c (h : X.heap[g]? = some (.cells #[a, b, c, d, e, f] t (0, 0))) : (X.cell? ⟨g, 0, none⟩ = some a ∧ X.cell? ⟨g, 1, none⟩ = some b ∧ X.cell? ⟨g, 2, none⟩ = some c ∧ X.cell? ⟨g, 3, none⟩ = some d ∧ X.cell? ⟨g, 4, none⟩ = some e ∧ X.cell? ⟨g, 5, none⟩ = some f) ∧
    X.frozen? ⟨g, 0, none⟩ = false ∧ X.frozen? ⟨g, 1, none⟩ = false ∧ X.frozen? ⟨g, 2, none⟩ = false ∧ X.frozen? ⟨g, 3, none⟩ = false ∧ X.frozen? ⟨g, 4, none⟩ = false ∧ X.frozen? ⟨g, 5, none⟩ = false := by
  have := fun i => cell_of_row X g i _ _ (0, 0) h
  exact ⟨⟨this 0, this 1, this 2, this 3, this 4, this 5⟩, by simp [World.frozen?, h], by simp [World.frozen?, h], by simp [World.frozen?, h], by simp [World.frozen?, h], by simp [World.frozen?, h], by simp [World.frozen?, h]⟩
theorem q6s (h : X.heap[g]? = some (.cells #[a, b, c, d, e, f] t (0, 0))) : ((((((X.setCell ⟨g, 0, none⟩ a').setCell ⟨g, 1, none⟩ b').setCell ⟨g, 2, none⟩ c').setCell ⟨g, 3, none⟩ d').setCell ⟨g, 4, none⟩ e').setCell ⟨g, 5, none⟩ f').heap[g]? = some (.cells #[a', b', c', d', e', f'] t (0, 0)) := by
  simp [World.setCell, Array.getElem?_modify, h]
end
section
variable {P : Program} {ops : Array Oper} {Q : Exit → Act → World → Prop} {md : Region.Mode} {S : World → Prop}
theorem takx {i D : Nat} {oi : Oper} {v : Value} {fuel : Nat} {listed : Array Bool} {T : Array Value} {ds : List Deferred} {w : World} (hi : ops[i]? = some oi) (hd : oi.dst = some D)
    (hs : Region.noSelect ops = true) (hf : Region.free md ops listed i = true) (hr : (Region.ready md ops listed).contains i = true)
    (hQ : ∀ c a w, Q (.panic c) (Act.put a oi.dst v) w → Q (.panic c) a w) (hy : YieldsIf P ops S oi v { tmps := T, defers := ds }) (hS : S w)
    (h : wpAnyH P md ops Q S fuel (listed.setIfInBounds i true) { tmps := T.setIfInBounds D v, defers := ds } w) : wpAnyH P md ops Q S (fuel + 1) listed { tmps := T, defers := ds } w := by
  refine wpAnyH_take hi hs hf hr hQ hy hS ?_
  rw [hd]
  exact h
end
end Go.Proofs.Ytpllecddmpdaiaa
