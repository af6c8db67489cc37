/-
  Scripts: what is visible, and the steps of a script as a list. No program in the plain facts, no condition.
-/
import Derived.Test.YtpllecddmpdaiaaI6G
import Derived.Test.YtpllecddmpdaiaaX1
namespace Go.Proofs.Ytpllecddmpdaiaa
open Go.ChangeShapes Go.WideShapes Go.ChangeAt Go.RowKit
set_option linter.unusedVariables false
set_option linter.unusedSimpArgs false

/-- One step of a script. -/
structure Stp where
  k : Int
  x : Int
  y : Int
  c : Q4
  r : Q4
instance : Inhabited Stp := ⟨⟨0, 0, 0, default, default⟩⟩
def Stp.ok (s : Stp) : Prop := I64 s.k ∧ I64 s.x ∧ I64 s.y ∧ s.c.ok ∧ s.r.ok
def Stp.cells (s : Stp) : List Value := [.int .i64 s.k, .int .i64 s.x, .int .i64 s.y, .int .i64 s.c.a, .int .i64 s.c.b, .int .i64 s.c.c, .int .i64 s.c.d, .int .i64 s.r.a, .int .i64 s.r.b, .int .i64 s.r.c, .int .i64 s.r.d]

/-- A slice value that reads as the steps ss. -/
def RdSteps (w : World) (B : Nat) (A : Option Addr) (n : Nat) (ss : List Stp) : Prop :=
  ss.length = n ∧ n * 88 ≤ 140737488355328 ∧ (∀ s ∈ ss, s.ok) ∧
  (0 < n → ∃ b off, A = some ⟨b, off, none⟩ ∧ b < B ∧ ∀ i, i < n → ∀ j v, (ss.getD i default).cells[j]? = some v → w.cell? ⟨b, off + i * 11 + j, none⟩ = some v)

theorem RdSteps.below {w w' : World} {B n : Nat} {A : Option Addr} {ss : List Stp} (h : RdSteps w B A n ss) (hb : Below B w w') : RdSteps w' B A n ss :=
  ⟨h.1, h.2.1, h.2.2.1, fun hn => by
    obtain ⟨b, off, e, hlt, hc⟩ := h.2.2.2 hn
    exact ⟨b, off, e, hlt, fun i hi j v hj => (hb.cell (p := ⟨b, _, none⟩) hlt).trans (hc i hi j v hj)⟩⟩
theorem RdSteps.more {w : World} {B B' n : Nat} {A : Option Addr} {ss : List Stp} (h : RdSteps w B A n ss) (hB : B ≤ B') : RdSteps w B' A n ss :=
  ⟨h.1, h.2.1, h.2.2.1, fun hn => by
    obtain ⟨b, off, e, hlt, hc⟩ := h.2.2.2 hn
    exact ⟨b, off, e, Nat.lt_of_lt_of_le hlt hB, hc⟩⟩
theorem RdSteps.nil (w : World) (B : Nat) (A : Option Addr) : RdSteps w B A 0 [] := ⟨rfl, by omega, by simp, fun h => absurd h (by omega)⟩

/-- The cells of a list of steps. -/
def flat11 (ss : List Stp) : List Value := ss.flatMap Stp.cells
theorem flat11_length (ss : List Stp) : (flat11 ss).length = ss.length * 11 := by
  induction ss with
  | nil => rfl
  | cons s ss ih => simp only [flat11, List.flatMap_cons, List.length_append, List.length_cons] at ih ⊢; rw [ih]; simp [Stp.cells]; omega
theorem flat11_append (xs ys : List Stp) : flat11 (xs ++ ys) = flat11 xs ++ flat11 ys := by simp [flat11]
theorem flat11_get (ss : List Stp) (i j : Nat) (h : i < ss.length) (hj : j < 11) : (flat11 ss)[i * 11 + j]? = (ss.getD i default).cells[j]? := by
  induction ss generalizing i with
  | nil => simp at h
  | cons s ss ih =>
    have e : flat11 (s :: ss) = s.cells ++ flat11 ss := rfl
    have hl : s.cells.length = 11 := rfl
    rw [e]
    cases i with
    | zero => rw [List.getElem?_append_left (by omega)]; simp
    | succ i =>
      rw [List.getElem?_append_right (by omega), hl, show (i + 1) * 11 + j - 11 = i * 11 + j by omega, ih i (by simpa using h)]
      simp
theorem RdSteps.of_own {w : World} {base n e : Nat} {v : Value} {ss : List Stp} (h : w.ownsRow base e 11 v n (flat11 ss)) (hn : n * 88 ≤ 140737488355328) (hz : ∀ s ∈ ss, s.ok) :
    ∃ A c, v = .slice A n c ∧ RdSteps w w.heap.size A n ss ∧ ∀ b o, A = some ⟨b, o, none⟩ → base ≤ b := by
  have hlen : ss.length = n := by have := h.1; rw [flat11_length] at this; omega
  rcases h.2 with ⟨rfl, rfl⟩ | ⟨g, cap, cur, rfl, hb, hg, _⟩
  · obtain rfl : ss = [] := List.eq_nil_of_length_eq_zero hlen
    exact ⟨none, 0, rfl, RdSteps.nil _ _ _, fun _ _ h => by cases h⟩
  · refine ⟨_, cap, rfl, ⟨hlen, hn, hz, fun hp => ⟨g, 0, rfl, (Array.getElem?_eq_some_iff.1 hg).1, fun i hi j u hu => ?_⟩⟩, fun b o h => by injection h with h; injection h with h; omega⟩
    have hj : j < 11 := by
      have := (List.getElem?_eq_some_iff.1 hu).1
      simpa [Stp.cells] using this
    have := h.cells (g := g) rfl (i * 11 + j) u (by rw [flat11_get ss i j (by omega) hj]; exact hu)
    simpa [Addr.add_lit, Nat.add_assoc] using this

/-- The points in both. -/
def gmax (p a : Int) : Int := if p < a then a else p
def lmin (r c : Int) : Int := if c < r then c else r
theorem gmax_gr (p a : Int) : Gr p a (gmax p a) := by
  unfold Gr gmax; split
  · exact .inl ⟨‹_›, rfl⟩
  · exact .inr ⟨by omega, rfl⟩
theorem lmin_ls (r c : Int) : Ls r c (lmin r c) := by
  unfold Ls lmin; split
  · exact .inl ⟨‹_›, rfl⟩
  · exact .inr ⟨by omega, rfl⟩
/-- The rectangle of the points in v and in r, if there are any. -/
def com (v r : Q4) : Option Q4 := if gmax r.a v.a < lmin r.c v.c ∧ gmax r.b v.b < lmin r.d v.d then some ⟨gmax r.a v.a, gmax r.b v.b, lmin r.c v.c, lmin r.d v.d⟩ else none
/-- The point x, y is visible. -/
def Vis (v : Option Q4) (x y : Int) : Prop := ∃ q, v = some q ∧ In q.a q.b q.c q.d x y
/-- What is visible behind a step; R: the whole. -/
def see (R : Q4) (v : Option Q4) (s : Stp) : Option Q4 := if s.k = 4 then v.bind (com · s.r) else if s.k = 5 then some R else v
/-- q lies in R. -/
def Lies (R q : Q4) : Prop := R.a ≤ q.a ∧ q.c ≤ R.c ∧ R.b ≤ q.b ∧ q.d ≤ R.d
theorem Lies.refl (R : Q4) : Lies R R := ⟨Int.le_refl _, Int.le_refl _, Int.le_refl _, Int.le_refl _⟩
theorem com_some {v r q : Q4} (h : com v r = some q) : q = ⟨gmax r.a v.a, gmax r.b v.b, lmin r.c v.c, lmin r.d v.d⟩ ∧ q.a < q.c ∧ q.b < q.d ∧ Lies v q := by
  unfold com at h
  split at h
  · rename_i hc
    injection h with h
    subst h
    refine ⟨rfl, hc.1, hc.2, ?_⟩
    unfold Lies gmax lmin
    refine ⟨?_, ?_, ?_, ?_⟩ <;> (dsimp only; split <;> omega)
  · cases h
theorem com_none {v r : Q4} (h : com v r = none) : lmin r.c v.c ≤ gmax r.a v.a ∨ lmin r.d v.d ≤ gmax r.b v.b := by
  unfold com at h
  split at h
  · cases h
  · rename_i hc
    omega
theorem Lies.trans {R v q : Q4} (h : Lies R v) (k : Lies v q) : Lies R q := by
  unfold Lies at *; omega
theorem Lies.inn {R q : Q4} (h : Lies R q) {x y : Int} (hi : In q.a q.b q.c q.d x y) : In R.a R.b R.c R.d x y := by
  unfold Lies at h; unfold In at *; omega

end Go.Proofs.Ytpllecddmpdaiaa
