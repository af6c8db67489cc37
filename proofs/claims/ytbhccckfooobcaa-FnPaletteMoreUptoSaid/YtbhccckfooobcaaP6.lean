/-
  Plain facts on the distances of opaque colors: the library's distance grows with the true one. No program, no condition.
-/
import Derived.Test.YtbhccckfooobcaaP4
namespace Go.Proofs.Ytbhccckfooobcaa
set_option linter.unusedVariables false
set_option linter.unusedSimpArgs false

theorem comp_opq (r a : Int) (h : a % 256 = 255) : comp r a = r % 256 * 257 := by
  unfold comp
  rw [h]
  exact Int.mul_ediv_cancel _ (by decide)

theorem sq_257 (x y : Int) : sq (x * 257) (y * 257) = (66049 * ((x - y) * (x - y)) - (x - y) * (x - y) % 4) / 4 := by
  unfold sq
  have e : (x * 257 - y * 257) * (x * 257 - y * 257) = 66049 * ((x - y) * (x - y)) := by
    rw [← Int.sub_mul, Int.mul_assoc, Int.mul_comm 257 ((x - y) * 257), Int.mul_assoc, ← Int.mul_assoc (x - y) (x - y)]
    rw [show (257 : Int) * 257 = 66049 by decide, Int.mul_comm]
  rw [e]
  generalize (x - y) * (x - y) = z
  omega

theorem sq_mod4 (x : Int) : x * x % 4 = 0 ∨ x * x % 4 = 1 := by
  rcases Int.emod_two_eq x with h | h
  · left
    obtain ⟨k, rfl⟩ : ∃ k, x = 2 * k := ⟨x / 2, by omega⟩
    have e : 2 * k * (2 * k) = 2 * (2 * (k * k)) := by rw [Int.mul_assoc, Int.mul_left_comm k 2 k]
    rw [e]
    generalize k * k = z
    omega
  · right
    obtain ⟨k, rfl⟩ : ∃ k, x = 2 * k + 1 := ⟨x / 2, by omega⟩
    have e : (2 * k + 1) * (2 * k + 1) = 2 * (2 * (k * k)) + 2 * k + (2 * k + 1) := by rw [Int.add_mul, Int.one_mul, Int.mul_add, Int.mul_one, Int.mul_assoc, Int.mul_left_comm k 2 k]
    rw [e]
    generalize k * k = z
    omega

theorem sdist_opq (c x : Q4) (hc : c.d % 256 = 255) (hx : x.d % 256 = 255) : sdist c x = (66049 * dist c x - dist c x % 4) / 4 := by
  unfold sdist dist
  rw [comp_opq _ _ hc, comp_opq _ _ hc, comp_opq _ _ hc, comp_opq _ _ hx, comp_opq _ _ hx, comp_opq _ _ hx, hc, hx, sq_257, sq_257, sq_257]
  have h1 := sq_mod4 (c.a % 256 - x.a % 256)
  have h2 := sq_mod4 (c.b % 256 - x.b % 256)
  have h3 := sq_mod4 (c.c % 256 - x.c % 256)
  have h4 : sq (255 * 257) (255 * 257) = 0 := by decide
  rw [h4]
  generalize (c.a % 256 - x.a % 256) * (c.a % 256 - x.a % 256) = u at *
  generalize (c.b % 256 - x.b % 256) * (c.b % 256 - x.b % 256) = v at *
  generalize (c.c % 256 - x.c % 256) * (c.c % 256 - x.c % 256) = t at *
  omega

theorem sq_swap (x y : Int) : (x - y) * (x - y) = (y - x) * (y - x) := by rw [show x - y = -(y - x) by omega, Int.neg_mul_neg]
theorem dist_swap (p q : Q4) : dist p q = dist q p := by
  unfold dist
  rw [sq_swap (p.a % 256), sq_swap (p.b % 256), sq_swap (p.c % 256)]
theorem sq_nonneg (x : Int) : 0 ≤ x * x := by
  rcases Int.le_total 0 x with h | h
  · exact Int.mul_nonneg h h
  · have := Int.mul_nonneg (show 0 ≤ -x by omega) (show 0 ≤ -x by omega)
    rwa [Int.neg_mul_neg] at this
theorem sq_zero {x : Int} (h : x * x = 0) : x = 0 := by
  rcases Int.mul_eq_zero.1 h with h | h <;> exact h
theorem dist_nonneg (p q : Q4) : 0 ≤ dist p q := by
  unfold dist
  have h1 := sq_nonneg (p.a % 256 - q.a % 256)
  have h2 := sq_nonneg (p.b % 256 - q.b % 256)
  have h3 := sq_nonneg (p.c % 256 - q.c % 256)
  omega
theorem dist_zero {p q : Q4} (h : dist p q = 0) : p.a % 256 = q.a % 256 ∧ p.b % 256 = q.b % 256 ∧ p.c % 256 = q.c % 256 := by
  unfold dist at h
  have h1 := sq_nonneg (p.a % 256 - q.a % 256)
  have h2 := sq_nonneg (p.b % 256 - q.b % 256)
  have h3 := sq_nonneg (p.c % 256 - q.c % 256)
  have k1 := sq_zero (show (p.a % 256 - q.a % 256) * (p.a % 256 - q.a % 256) = 0 by omega)
  have k2 := sq_zero (show (p.b % 256 - q.b % 256) * (p.b % 256 - q.b % 256) = 0 by omega)
  have k3 := sq_zero (show (p.c % 256 - q.c % 256) * (p.c % 256 - q.c % 256) = 0 by omega)
  omega
theorem dist_self (p : Q4) : dist p p = 0 := by unfold dist; simp

theorem getD_map {α : Type} [Inhabited α] (f : α → Int) (l : List α) (i : Nat) (h : i < l.length) : (l.map f).getD i 0 = f (l.getD i default) := by
  simp [List.getD, h]
theorem getD_mem {α : Type} [Inhabited α] (l : List α) (i : Nat) (h : i < l.length) : l.getD i default ∈ l := by simp [List.getD, h]

/-- The first of the nearest, by the true distance: place i of the list qs, seen from c. -/
def Near (c : Q4) (qs : List Q4) (i : Nat) : Prop := (qs = [] ∧ i = 0) ∨ (i < qs.length ∧ (∀ j, j < qs.length → dist (qs.getD i default) c ≤ dist (qs.getD j default) c) ∧ ∀ j, j < i → dist (qs.getD i default) c < dist (qs.getD j default) c)

theorem near_of_first {c : Q4} {qs : List Q4} {i : Nat} (hc : c.d % 256 = 255) (hq : Opq qs) (h : First (qs.map (sdist c)) i) : Near c qs i := by
  rcases h with ⟨h, rfl⟩ | ⟨h1, h2, h3⟩
  · exact Or.inl ⟨by simpa using h, rfl⟩
  · rw [List.length_map] at h1 h2
    refine Or.inr ⟨h1, fun j hj => ?_, fun j hj => ?_⟩
    · have := h2 j hj
      rw [getD_map _ _ _ h1, getD_map _ _ _ hj, sdist_opq _ _ hc (hq _ (getD_mem _ _ h1)), sdist_opq _ _ hc (hq _ (getD_mem _ _ hj))] at this
      rw [dist_swap _ c, dist_swap _ c]
      omega
    · have hj' : j < qs.length := by omega
      have := h3 j hj
      rw [getD_map _ _ _ h1, getD_map _ _ _ hj', sdist_opq _ _ hc (hq _ (getD_mem _ _ h1)), sdist_opq _ _ hc (hq _ (getD_mem _ _ hj'))] at this
      rw [dist_swap _ c, dist_swap _ c]
      omega

theorem Near.unique {c : Q4} {qs : List Q4} {i j : Nat} (h : Near c qs i) (h' : Near c qs j) : i = j := by
  rcases h with ⟨rfl, rfl⟩ | ⟨a1, a2, a3⟩
  · rcases h' with ⟨_, rfl⟩ | ⟨b1, _⟩
    · rfl
    · simp at b1
  · rcases h' with ⟨rfl, rfl⟩ | ⟨b1, b2, b3⟩
    · simp at a1
    · rcases Nat.lt_trichotomy i j with h | h | h
      · have := b3 i h; have := a2 j b1; omega
      · exact h
      · have := a3 j h; have := b2 i a1; omega
theorem Near.lt {c : Q4} {qs : List Q4} {i : Nat} (h : Near c qs i) (hl : 0 < qs.length) : i < qs.length := by
  rcases h with ⟨rfl, _⟩ | ⟨h, _⟩
  · simp at hl
  · exact h
theorem Near.least {c : Q4} {qs : List Q4} {i : Nat} (h : Near c qs i) {x : Q4} (hx : x ∈ qs) : dist (qs.getD i default) c ≤ dist x c := by
  rcases h with ⟨rfl, _⟩ | ⟨_, h, _⟩
  · simp at hx
  · obtain ⟨j, hj, rfl⟩ := List.getElem_of_mem hx
    have := h j hj
    simpa [List.getD, hj] using this

end Go.Proofs.Ytbhccckfooobcaa
