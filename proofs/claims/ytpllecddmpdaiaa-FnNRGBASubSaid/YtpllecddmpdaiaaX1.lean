/-
  A list that a call has handed back, through a store into a block of its caller. No condition.
-/
import Derived.Test.YtpllecddmpdaiaaX0
namespace Go.Proofs.Ytpllecddmpdaiaa
set_option linter.unusedVariables false
set_option linter.unusedSimpArgs false
open Go.RowKit

section
variable {X Y : World} {A : Option Addr} {n B g i : Nat} {zs : List Int} {o : Obj} {u : Value}
theorem Rd.ne_new (h : Rd X X.heap.size A n zs) (e : g = X.heap.size) : 0 < n → ∀ b o, A = some ⟨b, o, none⟩ → ¬ b = g := fun hn b o' hA => by
  obtain ⟨b', off, hA', hb, _⟩ := h.2.2.2 hn
  rw [hA'] at hA
  injection hA with hA
  injection hA with h1
  omega
theorem lo_ne {n : Nat} (lo : ∀ b o, A = some ⟨b, o, none⟩ → X.heap.size ≤ b) (k : X.heap[g]? = some o) : 0 < n → ∀ b o, A = some ⟨b, o, none⟩ → ¬ b = g := fun _ b o' hA => by
  have := lo b o' hA
  have := lt_of_block k
  omega
theorem Rd.sset (na : 0 < n → ∀ b o, A = some ⟨b, o, none⟩ → ¬ b = g) (h : Rd X B A n zs) : Rd (X.setCell ⟨g, i, none⟩ u) B A n zs :=
  ⟨h.1, h.2.1, h.2.2.1, fun hn => by
    obtain ⟨b, off, e, hb, hc⟩ := h.2.2.2 hn
    exact ⟨b, off, e, hb, fun j hj => cks (p := ⟨b, off + j, none⟩) (na hn b off e) (hc j hj)⟩⟩
theorem Rd.sized {W Z : World} (h : Rd Z B A n zs) (e : W = Z) (hs : B = Z.heap.size := by simp [World.setCell]) : Rd W W.heap.size A n zs := by
  subst e; subst hs; exact h
end
end Go.Proofs.Ytpllecddmpdaiaa
