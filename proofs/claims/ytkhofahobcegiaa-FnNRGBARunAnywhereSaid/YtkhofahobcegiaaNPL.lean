/-
  Plain facts on reading and writing four bytes of a list. No program, no condition.
-/
import Derived.Test.YtkhofahobcegiaaNS4
namespace Go.Proofs.Ytkhofahobcegiaa
set_option linter.unusedVariables false
set_option linter.unusedSimpArgs false

theorem byt_self {N : Nat} {l : List Int} (hl : l.length = N) (hb : ∀ z ∈ l, 0 ≤ z ∧ z ≤ 255) : byt N l = l := by
  apply List.ext_getElem
  · rw [byt_length, hl]
  · intro i h1 h2
    have hm := hb l[i] (List.getElem_mem h2)
    simp only [byt, List.getElem_map, List.getElem_range, List.getD, List.getElem?_eq_getElem h2, Option.getD_some]
    omega
theorem put4_ok {bs : List Int} {o : Nat} {q : Q4} (h : ∀ z ∈ bs, 0 ≤ z ∧ z ≤ 255) : ∀ u ∈ put4 bs o q, 0 ≤ u ∧ u ≤ 255 := by
  intro u hu
  unfold put4 at hu
  rcases List.mem_or_eq_of_mem_set hu with hu | rfl
  · rcases List.mem_or_eq_of_mem_set hu with hu | rfl
    · rcases List.mem_or_eq_of_mem_set hu with hu | rfl
      · rcases List.mem_or_eq_of_mem_set hu with hu | rfl
        · exact h u hu
        · omega
      · omega
    · omega
  · omega
theorem wrAt_ok {bs : List Int} {a b c d x y : Int} {q : Q4} (h : ∀ z ∈ bs, 0 ≤ z ∧ z ≤ 255) : ∀ u ∈ wrAt bs a b c d x y q, 0 ≤ u ∧ u ≤ 255 := by
  intro u hu
  unfold wrAt at hu
  split at hu
  · exact put4_ok h u hu
  · exact h u hu
def low4 (q : Q4) : Q4 := ⟨q.a % 256, q.b % 256, q.c % 256, q.d % 256⟩
theorem px_put4 {bs : List Int} {o : Nat} {q : Q4} (h : o + 4 ≤ bs.length) : px (put4 bs o q) o = low4 q := by
  unfold px put4 low4
  simp [List.getD, List.getElem?_set, show o < bs.length by omega, show o + 1 < bs.length by omega, show o + 2 < bs.length by omega, show o + 3 < bs.length by omega]
theorem getD_put4 {bs : List Int} {o : Nat} {q : Q4} {i : Nat} (h : i < o ∨ o + 4 ≤ i) : (put4 bs o q).getD i 0 = bs.getD i 0 := by
  unfold put4
  simp only [List.getD]
  rw [List.getElem?_set_ne (by omega), List.getElem?_set_ne (by omega), List.getElem?_set_ne (by omega), List.getElem?_set_ne (by omega)]
theorem px_other {bs : List Int} {o p : Nat} {q : Q4} (h : p + 4 ≤ o ∨ o + 4 ≤ p) : px (put4 bs o q) p = px bs p := by
  unfold px
  rw [getD_put4 (by omega), getD_put4 (by omega), getD_put4 (by omega), getD_put4 (by omega)]
theorem rd_wr_same {bs : List Int} {a b c d x y : Int} {q : Q4} {N : Nat} (hN : 4 * (c - a) * (d - b) = N) (hl : bs.length = N) (hin : In a b c d x y) : rdAt (wrAt bs a b c d x y q) a b c d x y = low4 q := by
  obtain ⟨o, ho, hoN⟩ := place_lt hN hin
  rw [rdAt_in hin ho, wrAt_in hin ho, px_put4 (by omega)]
theorem place_ne {a b c d x y u v : Int} {o1 o2 : Nat} (h1 : In a b c d x y) (h2 : In a b c d u v) (hne : ¬ (x = u ∧ y = v)) (e1 : (y - b) * (4 * (c - a)) + (x - a) * 4 = o1) (e2 : (v - b) * (4 * (c - a)) + (u - a) * 4 = o2) : o1 + 4 ≤ o2 ∨ o2 + 4 ≤ o1 := by
  obtain ⟨a1, a2, a3, a4⟩ := h1
  obtain ⟨b1, b2, b3, b4⟩ := h2
  rcases Int.lt_trichotomy y v with h | h | h
  · have := Int.mul_le_mul_of_nonneg_right (show y - b + 1 ≤ v - b by omega) (show 0 ≤ 4 * (c - a) by omega)
    rw [Int.add_mul, Int.one_mul] at this
    omega
  · subst h
    omega
  · have := Int.mul_le_mul_of_nonneg_right (show v - b + 1 ≤ y - b by omega) (show 0 ≤ 4 * (c - a) by omega)
    rw [Int.add_mul, Int.one_mul] at this
    omega
theorem rd_wr_other {bs : List Int} {a b c d x y u v : Int} {q : Q4} {N : Nat} (hN : 4 * (c - a) * (d - b) = N) (hin : In a b c d x y) (hjn : In a b c d u v) (hne : ¬ (x = u ∧ y = v)) : rdAt (wrAt bs a b c d x y q) a b c d u v = rdAt bs a b c d u v := by
  obtain ⟨o, ho, hoN⟩ := place_lt hN hin
  obtain ⟨p, hp, hpN⟩ := place_lt hN hjn
  have h := place_ne hin hjn hne ho hp
  rw [rdAt_in hjn hp, rdAt_in hjn hp, wrAt_in hin ho, px_other (by omega)]
theorem put4_put4 {bs : List Int} {o : Nat} {q r : Q4} : put4 (put4 bs o q) o r = put4 bs o r := by
  apply List.ext_getElem?
  intro i
  simp only [put4, List.getElem?_set, List.length_set]
  by_cases h0 : o = i
  · subst h0; simp
  · by_cases h1 : o + 1 = i
    · subst h1; simp
    · by_cases h2 : o + 2 = i
      · subst h2; simp
      · by_cases h3 : o + 3 = i
        · subst h3; simp
        · simp [h0, h1, h2, h3]
theorem wr_wr_same {bs : List Int} {a b c d x y : Int} {q r : Q4} : wrAt (wrAt bs a b c d x y q) a b c d x y r = wrAt bs a b c d x y r := by
  by_cases hin : In a b c d x y
  · unfold wrAt; simp only [if_pos hin]; exact put4_put4
  · simp [wrAt_out hin]
theorem set_put4 {bs : List Int} {o p : Nat} {q : Q4} {z : Int} (h : p < o ∨ o + 4 ≤ p) : (put4 bs o q).set p z = put4 (bs.set p z) o q := by
  unfold put4
  rw [List.set_comm (q.d % 256) z (show o + 3 ≠ p by omega), List.set_comm (q.c % 256) z (show o + 2 ≠ p by omega), List.set_comm (q.b % 256) z (show o + 1 ≠ p by omega), List.set_comm (q.a % 256) z (show o ≠ p by omega)]
theorem put4_comm {bs : List Int} {o p : Nat} {q r : Q4} (h : p + 4 ≤ o ∨ o + 4 ≤ p) : put4 (put4 bs o q) p r = put4 (put4 bs p r) o q := by
  have e : put4 (put4 bs o q) p r = ((((put4 bs o q).set p (r.a % 256)).set (p + 1) (r.b % 256)).set (p + 2) (r.c % 256)).set (p + 3) (r.d % 256) := rfl
  rw [e, set_put4 (by omega), set_put4 (by omega), set_put4 (by omega), set_put4 (by omega)]
  rfl
theorem wr_wr_other {bs : List Int} {a b c d x y u v : Int} {q r : Q4} {N : Nat} (hN : 4 * (c - a) * (d - b) = N) (hin : In a b c d x y) (hjn : In a b c d u v) (hne : ¬ (x = u ∧ y = v)) : wrAt (wrAt bs a b c d x y q) a b c d u v r = wrAt (wrAt bs a b c d u v r) a b c d x y q := by
  obtain ⟨o, ho, hoN⟩ := place_lt hN hin
  obtain ⟨p, hp, hpN⟩ := place_lt hN hjn
  have h := place_ne hin hjn hne ho hp
  rw [wrAt_in hjn hp, wrAt_in hin ho, wrAt_in hin ho, wrAt_in hjn hp]
  exact put4_comm (by omega)
theorem rdAt_byt_low (q : Q4) : (low4 q).byte := ⟨⟨by show 0 ≤ q.a % 256; omega, by show q.a % 256 ≤ 255; omega⟩, ⟨by show 0 ≤ q.b % 256; omega, by show q.b % 256 ≤ 255; omega⟩, ⟨by show 0 ≤ q.c % 256; omega, by show q.c % 256 ≤ 255; omega⟩, ⟨by show 0 ≤ q.d % 256; omega, by show q.d % 256 ≤ 255; omega⟩⟩
end Go.Proofs.Ytkhofahobcegiaa
