/-
  Contracts of the thin package's functions on NRGBA images, but for the scripts. No condition.
-/
import Derived.Test.YtpllecddmpdaiaaN7
import Derived.Test.YtpllecddmpdaiaaNO
namespace Go.Proofs.Ytpllecddmpdaiaa
open Go.ChangeShapes Go.WideShapes Go.ChangeAt Go.RowKit
set_option linter.unusedVariables false
set_option linter.unusedSimpArgs false

theorem area_le {a b c d : Int} {N : Nat} (h3 : 0 ≤ c - a) (h4 : c - a ≤ 1000) (h5 : 0 ≤ d - b) (h6 : d - b ≤ 1000) (hN : 4 * (c - a) * (d - b) = N) : N ≤ 4000000 := by
  have k4 : 4 * (c - a) * (d - b) ≤ 4000 * 1000 := Int.mul_le_mul (by omega) h6 h5 (by decide)
  omega
/-- The place of a point that is there. -/
theorem place_lt {a b c d x y : Int} {N : Nat} (hN : 4 * (c - a) * (d - b) = N) (hin : In a b c d x y) : ∃ o : Nat, (y - b) * (4 * (c - a)) + (x - a) * 4 = o ∧ o + 4 ≤ N := by
  obtain ⟨h1, h2, h3, h4⟩ := hin
  have k1 : 0 ≤ (y - b) * (4 * (c - a)) := Int.mul_nonneg (by omega) (by omega)
  have k2 : (y - b) * (4 * (c - a)) ≤ (d - b - 1) * (4 * (c - a)) := Int.mul_le_mul_of_nonneg_right (by omega) (by omega)
  have k3 : (d - b - 1) * (4 * (c - a)) = N - 4 * (c - a) := by rw [← hN, Int.mul_comm (4 * (c - a)), Int.sub_mul, Int.one_mul]
  exact ⟨((y - b) * (4 * (c - a)) + (x - a) * 4).toNat, by omega, by omega⟩

/-- The color of four bytes. -/
def px (bs : List Int) (o : Nat) : Q4 := ⟨bs.getD o 0, bs.getD (o + 1) 0, bs.getD (o + 2) 0, bs.getD (o + 3) 0⟩
/-- Reading the pixel at x, y: its bytes, or zeros outside. -/
noncomputable def rdAt (bs : List Int) (a b c d x y : Int) : Q4 := open Classical in if In a b c d x y then px bs ((y - b) * (4 * (c - a)) + (x - a) * 4).toNat else ⟨0, 0, 0, 0⟩
theorem rdAt_in {bs : List Int} {a b c d x y : Int} {o : Nat} (h : In a b c d x y) (ho : (y - b) * (4 * (c - a)) + (x - a) * 4 = o) : rdAt bs a b c d x y = px bs o := by
  unfold rdAt; rw [if_pos h, ho]; rfl
theorem rdAt_out {bs : List Int} {a b c d x y : Int} (h : ¬ In a b c d x y) : rdAt bs a b c d x y = ⟨0, 0, 0, 0⟩ := by unfold rdAt; rw [if_neg h]
def Q4.byte (q : Q4) : Prop := (0 ≤ q.a ∧ q.a ≤ 255) ∧ (0 ≤ q.b ∧ q.b ≤ 255) ∧ (0 ≤ q.c ∧ q.c ≤ 255) ∧ (0 ≤ q.d ∧ q.d ≤ 255)
theorem getD_byte {bs : List Int} (h : ∀ z ∈ bs, 0 ≤ z ∧ z ≤ 255) (i : Nat) : 0 ≤ bs.getD i 0 ∧ bs.getD i 0 ≤ 255 := by
  by_cases hi : i < bs.length
  · exact h _ (by simp [List.getD, hi])
  · simp [List.getD, List.getElem?_eq_none (Nat.le_of_not_lt hi)]
theorem px_byte {bs : List Int} (h : ∀ z ∈ bs, 0 ≤ z ∧ z ≤ 255) (o : Nat) : (px bs o).byte := ⟨getD_byte h _, getD_byte h _, getD_byte h _, getD_byte h _⟩
theorem rdAt_byte {bs : List Int} {a b c d x y : Int} (h : ∀ z ∈ bs, 0 ≤ z ∧ z ≤ 255) : (rdAt bs a b c d x y).byte := by
  unfold rdAt
  split
  · exact px_byte h _
  · exact ⟨⟨by decide, by decide⟩, ⟨by decide, by decide⟩, ⟨by decide, by decide⟩, ⟨by decide, by decide⟩⟩
/-- Four bytes put at o. -/
def put4 (bs : List Int) (o : Nat) (q : Q4) : List Int := (((bs.set o (q.a % 256)).set (o + 1) (q.b % 256)).set (o + 2) (q.c % 256)).set (o + 3) (q.d % 256)
theorem put4_length (bs : List Int) (o : Nat) (q : Q4) : (put4 bs o q).length = bs.length := by simp [put4]
/-- The bytes behind a write of the color q at x, y. -/
noncomputable def wrAt (bs : List Int) (a b c d x y : Int) (q : Q4) : List Int := open Classical in if In a b c d x y then put4 bs ((y - b) * (4 * (c - a)) + (x - a) * 4).toNat q else bs
theorem wrAt_in {bs : List Int} {a b c d x y : Int} {q : Q4} {o : Nat} (h : In a b c d x y) (ho : (y - b) * (4 * (c - a)) + (x - a) * 4 = o) : wrAt bs a b c d x y q = put4 bs o q := by
  unfold wrAt; rw [if_pos h, ho]; rfl
theorem wrAt_out {bs : List Int} {a b c d x y : Int} {q : Q4} (h : ¬ In a b c d x y) : wrAt bs a b c d x y q = bs := by unfold wrAt; rw [if_neg h]
theorem wrAt_length (bs : List Int) (a b c d x y : Int) (q : Q4) : (wrAt bs a b c d x y q).length = bs.length := by
  unfold wrAt; split
  · exact put4_length _ _ _
  · rfl

theorem heap_new3 (w : World) (X Y Z : Obj) : (((w.alloc X).alloc Y).alloc Z).heap[w.heap.size + 2]? = some Z := by
  have := heap_alloc_new ((w.alloc X).alloc Y) Z
  simpa using this
end Go.Proofs.Ytpllecddmpdaiaa
