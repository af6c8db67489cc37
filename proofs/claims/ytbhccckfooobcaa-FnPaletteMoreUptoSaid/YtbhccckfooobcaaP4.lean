/-
  Contract: the index of the nearest color of a palette. No condition.
-/
import Derived.Test.YtbhccckfooobcaaP3
namespace Go.Proofs.Ytbhccckfooobcaa
open Go.ChangeShapes Go.WideShapes Go.ChangeAt Go.RowKit
set_option linter.unusedVariables false
set_option linter.unusedSimpArgs false

/-- The library's distance of two colors. -/
def sdist (c x : Q4) : Int := sq (comp c.a c.d) (comp x.a x.d) + sq (comp c.b c.d) (comp x.b x.d) + sq (comp c.c c.d) (comp x.c x.d) + sq (c.d % 256 * 257) (x.d % 256 * 257)

theorem sq_range (x y : Int) (x1 : 0 ≤ x) (x2 : x ≤ 65535) (y1 : 0 ≤ y) (y2 : y ≤ 65535) : 0 ≤ sq x y ∧ sq x y ≤ 1073709056 := by
  have := sq_le x y x1 x2 y1 y2
  unfold sq
  omega

/-- Of the distances the least, at its first place. -/
def First (ss : List Int) (i : Nat) : Prop := (ss = [] ∧ i = 0) ∨ (i < ss.length ∧ (∀ j, j < ss.length → ss.getD i 0 ≤ ss.getD j 0) ∧ ∀ j, j < i → ss.getD i 0 < ss.getD j 0)

/-- The same of the first k of them, while they are gone through. -/
def Best (ss : List Int) (k : Nat) (i : Nat) (best : Int) : Prop :=
  (k = 0 ∧ i = 0 ∧ best = 4294967295) ∨ (i < k ∧ best = ss.getD i 0 ∧ (∀ j, j < k → ss.getD i 0 ≤ ss.getD j 0) ∧ ∀ j, j < i → ss.getD i 0 < ss.getD j 0)

theorem Best.less {ss : List Int} {k i : Nat} {best : Int} (h : Best ss k i best) (hlt : ss.getD k 0 < best) : Best ss (k + 1) k (ss.getD k 0) := by
  refine Or.inr ⟨by omega, rfl, fun j hj => ?_, fun j hj => ?_⟩
  · rcases Nat.lt_succ_iff_lt_or_eq.1 hj with h1 | rfl
    · rcases h with ⟨rfl, _⟩ | ⟨_, rfl, h2, _⟩
      · omega
      · have := h2 j h1; omega
    · exact Int.le_refl _
  · rcases h with ⟨rfl, _⟩ | ⟨_, rfl, h2, _⟩
    · omega
    · have := h2 j hj; omega
theorem Best.more {ss : List Int} {k i : Nat} {best : Int} (h : Best ss k i best) (hs : ss.getD k 0 < 4294967295) (hlt : ¬ ss.getD k 0 < best) : Best ss (k + 1) i best := by
  rcases h with ⟨rfl, rfl, rfl⟩ | ⟨h1, rfl, h2, h3⟩
  · omega
  · refine Or.inr ⟨by omega, rfl, fun j hj => ?_, h3⟩
    rcases Nat.lt_succ_iff_lt_or_eq.1 hj with h4 | rfl
    · exact h2 j h4
    · omega
theorem Best.done {ss : List Int} {k i : Nat} {best : Int} (h : Best ss k i best) (hk : k = ss.length) : First ss i := by
  rcases h with ⟨rfl, rfl, _⟩ | ⟨h1, _, h2, h3⟩
  · exact Or.inl ⟨List.eq_nil_of_length_eq_zero hk.symm, rfl⟩
  · exact Or.inr ⟨by omega, fun j hj => h2 j (by omega), h3⟩
theorem Best.zero {ss : List Int} {k i : Nat} {best : Int} (h : Best ss k i best) (hk : k < ss.length) (hlt : ss.getD k 0 < best) (h0 : ss.getD k 0 = 0) (hp : ∀ j, j < ss.length → 0 ≤ ss.getD j 0) : First ss k := by
  refine Or.inr ⟨hk, fun j hj => by rw [h0]; exact hp j hj, fun j hj => ?_⟩
  rcases h with ⟨rfl, _⟩ | ⟨_, rfl, h2, _⟩
  · omega
  · have := h2 j hj; omega
theorem First.unique {ss : List Int} {i j : Nat} (h : First ss i) (h' : First ss j) : i = j := by
  rcases h with ⟨rfl, rfl⟩ | ⟨a1, a2, a3⟩
  · rcases h' with ⟨_, rfl⟩ | ⟨b1, _⟩
    · rfl
    · simp at b1
  · rcases h' with ⟨rfl, rfl⟩ | ⟨b1, b2, b3⟩
    · simp at a1
    · rcases Nat.lt_trichotomy i j with h | h | h
      · have := b3 i h; have := a2 j b1; omega
      · exact h
      · have := a3 j h; have := b2 i a1; omega

theorem meth (r g b a : Int) (W : World) : (method 172 44 (.agg #[.int .u8 r, .int .u8 g, .int .u8 b, .int .u8 a]) "RGBA").run Try.prog W = .ok (44, .agg #[.int .u8 r, .int .u8 g, .int .u8 b, .int .u8 a]) W := by kernel_rfl

theorem rgba4 (a b c d : Int) (w : World) :
    Calls Try.prog 44 #[.agg #[.int .u8 (a % 256), .int .u8 (b % 256), .int .u8 (c % 256), .int .u8 (d % 256)]] w fun e w' =>
      e = .returned (.tuple #[.int .u32 (comp a d), .int .u32 (comp b d), .int .u32 (comp c d), .int .u32 (d % 256 * 257)]) ∧ Below w.heap.size w w' :=
  nrgba_rgba (a % 256) (b % 256) (c % 256) (d % 256) (by omega) (by omega) (by omega) (by omega) (by omega) (by omega) (by omega) (by omega) w

theorem index_any (n cp : Nat) (A : Option Addr) (qs : List Q4) (q : Q4) (w : World) (hr : RdPal w w.heap.size A n qs) :
    Calls Try.prog 22 #[.slice A n cp, ifc q] w fun e w' => ∃ i : Nat, e = .returned (.int .i64 i) ∧ First (qs.map (sdist q)) i ∧ Below w.heap.size w w' := by
  have HR := Lib.hid hr
  have hn : n * 32 ≤ 140737488355328 := hr.2.1
  have hlen : (qs.map (sdist q)).length = n := by rw [List.length_map]; exact hr.1
  have HL := Lib.hid hlen
  clear hr hlen
  have hm := meth
  obtain ⟨a, b, c, d⟩ := q
  have ra := comp_range a d
  have rb := comp_range b d
  have rc := comp_range c d
  have rd : 0 ≤ d % 256 * 257 := by omega
  have HS : Hid (∀ j, j < n → 0 ≤ (qs.map (sdist ⟨a, b, c, d⟩)).getD j 0) := fun j hj => by
    have hj' : j < qs.length := by have := HL.out; rw [List.length_map] at this; omega
    simp only [List.getD, List.getElem?_map, List.getElem?_eq_getElem hj', Option.map_some, Option.getD_some, sdist]
    generalize qs[j] = x
    obtain ⟨r, g, s, t⟩ := x
    have sr := comp_range r t
    have sg := comp_range g t
    have ss := comp_range s t
    have s1 := sq_range (comp a d) (comp r t) (by omega) (by omega) (by omega) (by omega)
    have s2 := sq_range (comp b d) (comp g t) (by omega) (by omega) (by omega) (by omega)
    have s3 := sq_range (comp c d) (comp s t) (by omega) (by omega) (by omega) (by omega)
    have s4 := sq_range (d % 256 * 257) (t % 256 * 257) (by omega) (by omega) (by omega) (by omega)
    simp only
    omega
  show Calls Try.prog 22 #[.slice A n cp, .iface 44 (.agg #[.int .u8 (a % 256), .int .u8 (b % 256), .int .u8 (c % 256), .int .u8 (d % 256)])] w _
  go_enter Try.func22, Try.ntmps22
  go_wp2_with fail
  refine (rgba4 a b c d _).mono ?_
  rintro e w0 ⟨rfl, b0⟩
  go_wp2_with fail
  go_loopw [27, 9, 10] (fun i v u wr => ∃ (k m : Nat) (best : Int), k ≤ n ∧ i = .int .i64 k ∧ v = .int .i64 m ∧ m ≤ n ∧ u = .int .u32 best ∧ 0 ≤ best ∧ best ≤ 4294967295 ∧ Hid (Best (qs.map (sdist ⟨a, b, c, d⟩)) k m best) ∧ Hid (Below w.heap.size w wr)) (fun i _ _ _ => n - (intOf i).toNat)
  case atStart => exact ⟨0, 0, 4294967295, by omega, rfl, rfl, by omega, rfl, by omega, by omega, Or.inl ⟨rfl, rfl, rfl⟩, b0⟩
  case round =>
    obtain ⟨k, m, best, hk, rfl, rfl, hmn, rfl, hb0, hb1, HK, HB⟩ := hrel
    obtain ⟨hl, _, hrd⟩ := HR.out
    by_cases hlt : k < n
    · obtain ⟨gg, off, rfl, hg, hc⟩ := hrd (by omega)
      have x1 := (HB.out.cell (p := ⟨gg, off + k, none⟩) hg).trans (hc k hlt)
      have HE := Lib.hid (show (qs.map (sdist ⟨a, b, c, d⟩)).getD k 0 = sdist ⟨a, b, c, d⟩ (qs.getD k default) by simp [List.getD, show k < qs.length by omega])
      generalize qs.getD k default = x at x1 HE
      obtain ⟨r, g, s, t⟩ := x
      unfold ifc clr at x1
      have sr := comp_range r t
      have sg := comp_range g t
      have ss := comp_range s t
      have st : 0 ≤ t % 256 * 257 := by omega
      have s1 := sq_range (comp a d) (comp r t) (by omega) (by omega) (by omega) (by omega)
      have s2 := sq_range (comp b d) (comp g t) (by omega) (by omega) (by omega) (by omega)
      have s3 := sq_range (comp c d) (comp s t) (by omega) (by omega) (by omega) (by omega)
      have s4 := sq_range (d % 256 * 257) (t % 256 * 257) (by omega) (by omega) (by omega) (by omega)
      have HD := Lib.hid (show sq (comp a d) (comp r t) + sq (comp b d) (comp g t) + sq (comp c d) (comp s t) + sq (d % 256 * 257) (t % 256 * 257) = (qs.map (sdist ⟨a, b, c, d⟩)).getD k 0 from HE.out.symm)
      clear hc hrd hl HE
      go_wp2_with fail
      refine (rgba4 r g s t _).mono ?_
      rintro e w1 ⟨rfl, b1⟩
      have B1 := Lib.hid (HB.out.trans (b1.mono HB.out.size))
      clear b1 x1
      go_wp2_with fail
      refine (sqDiff_any (comp a d) (comp r t) (by omega) (by omega) (by omega) (by omega) _).mono ?_
      rintro e _ ⟨rfl, rfl⟩
      go_wp2_with fail
      refine (sqDiff_any (comp b d) (comp g t) (by omega) (by omega) (by omega) (by omega) _).mono ?_
      rintro e _ ⟨rfl, rfl⟩
      go_wp2_with fail
      refine (sqDiff_any (comp c d) (comp s t) (by omega) (by omega) (by omega) (by omega) _).mono ?_
      rintro e _ ⟨rfl, rfl⟩
      go_wp2_with fail
      refine (sqDiff_any (d % 256 * 257) (t % 256 * 257) (by omega) (by omega) (by omega) (by omega) _).mono ?_
      rintro e _ ⟨rfl, rfl⟩
      have hlen : k < (qs.map (sdist ⟨a, b, c, d⟩)).length := by rw [HL.out]; exact hlt
      have hsum : (qs.map (sdist ⟨a, b, c, d⟩)).getD k 0 < 4294967295 := by rw [← HD.out]; omega
      have H1 := Lib.hid hlen
      have H2 := Lib.hid hsum
      clear hlen hsum
      by_cases hbest : sq (comp a d) (comp r t) + sq (comp b d) (comp g t) + sq (comp c d) (comp s t) + sq (d % 256 * 257) (t % 256 * 257) < best
      · by_cases hz : sq (comp a d) (comp r t) + sq (comp b d) (comp g t) + sq (comp c d) (comp s t) + sq (d % 256 * 257) (t % 256 * 257) = 0
        · have hz' : (sq (comp a d) (comp r t) + sq (comp b d) (comp g t) + sq (comp c d) (comp s t) + sq (d % 256 * 257) (t % 256 * 257) == 0) = true := by simp [hz]
          have FF := Lib.hid (HK.out.zero H1.out (by rw [← HD.out]; exact hbest) (by rw [← HD.out]; exact hz) (fun j hj => HS.out j (by rw [← HL.out]; exact hj)))
          go_wp2
          go_ret
          exact ⟨k, rfl, FF.out, B1.out⟩
        · have hz' : (sq (comp a d) (comp r t) + sq (comp b d) (comp g t) + sq (comp c d) (comp s t) + sq (d % 256 * 257) (t % 256 * 257) == 0) = false := by simp [hz]
          have FF := Lib.hid (HK.out.less (by rw [← HD.out]; exact hbest))
          go_wp2
          go_roundw
          case rel => exact ⟨k + 1, k, sq (comp a d) (comp r t) + sq (comp b d) (comp g t) + sq (comp c d) (comp s t) + sq (d % 256 * 257) (t % 256 * 257), by omega, by go_num, rfl, by omega, rfl, by omega, by omega, by rw [HD.out]; exact FF, B1⟩
          case measure => simp [intOf]; omega
      · have FF := Lib.hid (HK.out.more H2.out (by rw [← HD.out]; exact hbest))
        go_wp2
        go_roundw
        case rel => exact ⟨k + 1, m, best, by omega, by go_num, rfl, by omega, rfl, by omega, by omega, FF, B1⟩
        case measure => simp [intOf]; omega
    · obtain rfl : k = n := by omega
      clear hrd
      go_wp2
      go_ret
      exact ⟨m, rfl, HK.out.done HL.out.symm, HB.out⟩

end Go.Proofs.Ytbhccckfooobcaa
