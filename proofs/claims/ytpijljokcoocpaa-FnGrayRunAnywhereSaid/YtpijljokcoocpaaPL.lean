/-
  Plain facts on reading and writing one byte of a list. No program, no condition.
-/
import Derived.Test.YtpijljokcoocpaaI9
namespace Go.Proofs.Ytpijljokcoocpaa
set_option linter.unusedVariables false
set_option linter.unusedSimpArgs false

theorem byt_self {N : Nat} {l : List Int} (hl : l.length = N) (hb : ∀ z ∈ l, 0 ≤ z ∧ z ≤ 255) : byt N l = l := by
  apply List.ext_getElem
  · rw [byt_length, hl]
  · intro i h1 h2
    have hm := hb l[i] (List.getElem_mem h2)
    simp only [byt, List.getElem_map, List.getElem_range, List.getD, List.getElem?_eq_getElem h2, Option.getD_some]
    omega
theorem wrAt_ok {bs : List Int} {a b c d x y z : Int} (h : ∀ z ∈ bs, 0 ≤ z ∧ z ≤ 255) (h0 : 0 ≤ z) (h1 : z ≤ 255) : ∀ u ∈ wrAt bs a b c d x y z, 0 ≤ u ∧ u ≤ 255 := by
  intro u hu
  unfold wrAt at hu
  split at hu
  · rcases List.mem_or_eq_of_mem_set hu with hu | rfl
    · exact h u hu
    · exact ⟨h0, h1⟩
  · exact h u hu
theorem rd_wr_same {bs : List Int} {a b c d x y z : Int} {N : Nat} (hN : (c - a) * (d - b) = N) (hl : bs.length = N) (hin : In a b c d x y) : rdAt (wrAt bs a b c d x y z) a b c d x y = z := by
  obtain ⟨o, ho, hoN⟩ := place_lt hN hin
  rw [rdAt_in hin ho, wrAt_in hin ho]
  simp [List.getD, show o < bs.length by omega]
theorem place_ne {a b c d x y u v : Int} {o1 o2 : Nat} (h1 : In a b c d x y) (h2 : In a b c d u v) (hne : ¬ (x = u ∧ y = v)) (e1 : (y - b) * (c - a) + (x - a) = o1) (e2 : (v - b) * (c - a) + (u - a) = o2) : o1 ≠ o2 := by
  rintro rfl
  obtain ⟨a1, a2, a3, a4⟩ := h1
  obtain ⟨b1, b2, b3, b4⟩ := h2
  rcases Int.lt_trichotomy y v with h | h | h
  · have := Int.mul_le_mul_of_nonneg_right (show y - b + 1 ≤ v - b by omega) (show 0 ≤ c - a by omega)
    rw [Int.add_mul, Int.one_mul] at this
    omega
  · subst h
    exact hne ⟨by omega, rfl⟩
  · have := Int.mul_le_mul_of_nonneg_right (show v - b + 1 ≤ y - b by omega) (show 0 ≤ c - a by omega)
    rw [Int.add_mul, Int.one_mul] at this
    omega
theorem rd_wr_other {bs : List Int} {a b c d x y u v z : Int} {N : Nat} (hN : (c - a) * (d - b) = N) (hin : In a b c d x y) (hjn : In a b c d u v) (hne : ¬ (x = u ∧ y = v)) : rdAt (wrAt bs a b c d x y z) a b c d u v = rdAt bs a b c d u v := by
  obtain ⟨o, ho, hoN⟩ := place_lt hN hin
  obtain ⟨p, hp, hpN⟩ := place_lt hN hjn
  have h := place_ne hin hjn hne ho hp
  rw [rdAt_in hjn hp, rdAt_in hjn hp, wrAt_in hin ho]
  simp [List.getD, List.getElem?_set_ne h]
theorem wr_wr_same {bs : List Int} {a b c d x y z z' : Int} : wrAt (wrAt bs a b c d x y z) a b c d x y z' = wrAt bs a b c d x y z' := by
  by_cases hin : In a b c d x y
  · unfold wrAt; simp [hin]
  · simp [wrAt_out hin]
theorem wr_wr_other {bs : List Int} {a b c d x y u v z z' : Int} {N : Nat} (hN : (c - a) * (d - b) = N) (hin : In a b c d x y) (hjn : In a b c d u v) (hne : ¬ (x = u ∧ y = v)) : wrAt (wrAt bs a b c d x y z) a b c d u v z' = wrAt (wrAt bs a b c d u v z') a b c d x y z := by
  obtain ⟨o, ho, hoN⟩ := place_lt hN hin
  obtain ⟨p, hp, hpN⟩ := place_lt hN hjn
  have h := place_ne hin hjn hne ho hp
  rw [wrAt_in hjn hp, wrAt_in hin ho, wrAt_in hin ho, wrAt_in hjn hp]
  exact List.set_comm _ _ h
end Go.Proofs.Ytpijljokcoocpaa
