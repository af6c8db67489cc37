/-
  A block of eleven cells, read and written. No condition.
-/
import Derived.Test.YtpijljokcoocpaaR5
namespace Go.Proofs.Ytpijljokcoocpaa
open Go.RowKit
set_option linter.unusedVariables false
set_option linter.unusedSimpArgs false
section
variable {X : World} {g : Nat} {t : TypeId} {a0 a1 a2 a3 a4 a5 a6 a7 a8 a9 a10 b0 b1 b2 b3 b4 b5 b6 b7 b8 b9 b10 : Value}
theorem q11z (h : X.heap[g]? = some (.cells #[a0, a1, a2, a3, a4, a5, a6, a7, a8, a9, a10] t (0, 0))) :
    (X.cell? ⟨g, 0, none⟩ = some a0 ∧ X.cell? ⟨g, 1, none⟩ = some a1 ∧ X.cell? ⟨g, 2, none⟩ = some a2 ∧ X.cell? ⟨g, 3, none⟩ = some a3 ∧ X.cell? ⟨g, 4, none⟩ = some a4 ∧ X.cell? ⟨g, 5, none⟩ = some a5 ∧ X.cell? ⟨g, 6, none⟩ = some a6 ∧ X.cell? ⟨g, 7, none⟩ = some a7 ∧ X.cell? ⟨g, 8, none⟩ = some a8 ∧ X.cell? ⟨g, 9, none⟩ = some a9 ∧ X.cell? ⟨g, 10, none⟩ = some a10) ∧
    X.frozen? ⟨g, 0, none⟩ = false ∧ X.frozen? ⟨g, 1, none⟩ = false ∧ X.frozen? ⟨g, 2, none⟩ = false ∧ X.frozen? ⟨g, 3, none⟩ = false ∧ X.frozen? ⟨g, 4, none⟩ = false ∧ X.frozen? ⟨g, 5, none⟩ = false ∧ X.frozen? ⟨g, 6, none⟩ = false ∧ X.frozen? ⟨g, 7, none⟩ = false ∧ X.frozen? ⟨g, 8, none⟩ = false ∧ X.frozen? ⟨g, 9, none⟩ = false ∧ X.frozen? ⟨g, 10, none⟩ = false := by
  have := fun i => cell_of_row X g i _ _ (0, 0) h
  refine ⟨⟨this 0, this 1, this 2, this 3, this 4, this 5, this 6, this 7, this 8, this 9, this 10⟩, ?_, ?_, ?_, ?_, ?_, ?_, ?_, ?_, ?_, ?_, ?_⟩ <;> simp [World.frozen?, h]
theorem q11s (h : X.heap[g]? = some (.cells #[a0, a1, a2, a3, a4, a5, a6, a7, a8, a9, a10] t (0, 0))) :
    (((((((((((X.setCell ⟨g, 0, none⟩ b0).setCell ⟨g, 1, none⟩ b1).setCell ⟨g, 2, none⟩ b2).setCell ⟨g, 3, none⟩ b3).setCell ⟨g, 4, none⟩ b4).setCell ⟨g, 5, none⟩ b5).setCell ⟨g, 6, none⟩ b6).setCell ⟨g, 7, none⟩ b7).setCell ⟨g, 8, none⟩ b8).setCell ⟨g, 9, none⟩ b9).setCell ⟨g, 10, none⟩ b10).heap[g]? = some (.cells #[b0, b1, b2, b3, b4, b5, b6, b7, b8, b9, b10] t (0, 0)) := by
  simp [World.setCell, Array.getElem?_modify, h]
end
section
variable {X Y : World} {A : Option Addr} {n B g i : Nat} {zs : List Q4} {o : Obj} {u : Value}
theorem RdQuads.ne_new (h : RdQuads X X.heap.size A n zs) (e : g = X.heap.size) : 0 < n → ∀ b o, A = some ⟨b, o, none⟩ → ¬ b = g := fun hn b o' hA => by
  obtain ⟨b', off, hA', hb, _⟩ := h.2.2.2 hn
  rw [hA'] at hA
  injection hA with hA
  injection hA with h1
  omega
theorem RdQuads.sset (na : 0 < n → ∀ b o, A = some ⟨b, o, none⟩ → ¬ b = g) (h : RdQuads X B A n zs) : RdQuads (X.setCell ⟨g, i, none⟩ u) B A n zs :=
  ⟨h.1, h.2.1, h.2.2.1, fun hn => by
    obtain ⟨b, off, e, hb, hc⟩ := h.2.2.2 hn
    refine ⟨b, off, e, hb, fun j hj => ?_⟩
    obtain ⟨h1, h2, h3, h4⟩ := hc j hj
    exact ⟨cks (p := ⟨b, _, none⟩) (na hn b off e) h1, cks (p := ⟨b, _, none⟩) (na hn b off e) h2, cks (p := ⟨b, _, none⟩) (na hn b off e) h3, cks (p := ⟨b, _, none⟩) (na hn b off e) h4⟩⟩
theorem RdQuads.sized {W Z : World} (h : RdQuads Z B A n zs) (e : W = Z) (hs : B = Z.heap.size := by simp [World.setCell]) : RdQuads W W.heap.size A n zs := by
  subst e; subst hs; exact h
end
end Go.Proofs.Ytpijljokcoocpaa
