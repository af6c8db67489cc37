/-
  Contracts: lists of colors as the program has them, and whether all colors are opaque. No condition.
-/
import Derived.Test.YtbhccckfooobcaaP1
namespace Go.Proofs.Ytbhccckfooobcaa
open Go.ChangeShapes Go.WideShapes Go.ChangeAt Go.RowKit
set_option linter.unusedVariables false
set_option linter.unusedSimpArgs false

/-- Cells of a list of colors. -/
def flat (qs : List Q4) : List Value := qs.flatMap fun q => [.int .i64 q.a, .int .i64 q.b, .int .i64 q.c, .int .i64 q.d]

theorem flat_length (qs : List Q4) : (flat qs).length = qs.length * 4 := by
  induction qs with
  | nil => rfl
  | cons q qs ih => simp only [flat, List.flatMap_cons, List.length_append, List.length_cons, List.length_nil] at ih ⊢; omega

theorem flat_append (xs ys : List Q4) : flat (xs ++ ys) = flat xs ++ flat ys := by simp [flat]

theorem flat_get (qs : List Q4) (i : Nat) (h : i < qs.length) :
    (flat qs)[i * 4]? = some (.int .i64 (qs.getD i default).a) ∧ (flat qs)[i * 4 + 1]? = some (.int .i64 (qs.getD i default).b) ∧ (flat qs)[i * 4 + 2]? = some (.int .i64 (qs.getD i default).c) ∧ (flat qs)[i * 4 + 3]? = some (.int .i64 (qs.getD i default).d) := by
  induction qs generalizing i with
  | nil => simp at h
  | cons q qs ih =>
    have e : flat (q :: qs) = .int .i64 q.a :: .int .i64 q.b :: .int .i64 q.c :: .int .i64 q.d :: flat qs := rfl
    rw [e]
    cases i with
    | zero => exact ⟨rfl, rfl, rfl, rfl⟩
    | succ i =>
      have := ih i (by simpa using h)
      rw [show (i + 1) * 4 = i * 4 + 4 by omega, show i * 4 + 4 + 1 = i * 4 + 1 + 4 by omega, show i * 4 + 4 + 2 = i * 4 + 2 + 4 by omega, show i * 4 + 4 + 3 = i * 4 + 3 + 4 by omega]
      simpa using this

theorem RdQuads.below {w w' : World} {B n : Nat} {A : Option Addr} {qs : List Q4} (h : RdQuads w B A n qs) (hb : Below B w w') : RdQuads w' B A n qs :=
  ⟨h.1, h.2.1, h.2.2.1, fun hn => by
    obtain ⟨b, off, e, hlt, hc⟩ := h.2.2.2 hn
    refine ⟨b, off, e, hlt, fun i hi => ?_⟩
    obtain ⟨h1, h2, h3, h4⟩ := hc i hi
    exact ⟨(hb.cell (p := ⟨b, _, none⟩) hlt).trans h1, (hb.cell (p := ⟨b, _, none⟩) hlt).trans h2, (hb.cell (p := ⟨b, _, none⟩) hlt).trans h3, (hb.cell (p := ⟨b, _, none⟩) hlt).trans h4⟩⟩
theorem RdQuads.more {w : World} {B B' n : Nat} {A : Option Addr} {qs : List Q4} (h : RdQuads w B A n qs) (hB : B ≤ B') : RdQuads w B' A n qs :=
  ⟨h.1, h.2.1, h.2.2.1, fun hn => by
    obtain ⟨b, off, e, hlt, hc⟩ := h.2.2.2 hn
    exact ⟨b, off, e, Nat.lt_of_lt_of_le hlt hB, hc⟩⟩

theorem RdQuads.of_own {w : World} {base n e : Nat} {v : Value} {qs : List Q4} (h : w.ownsRow base e 4 v n (flat qs)) (hn : n * 32 ≤ 140737488355328) (hz : ∀ q ∈ qs, q.ok) :
    ∃ A c, v = .slice A n c ∧ RdQuads w w.heap.size A n qs ∧ ∀ b o, A = some ⟨b, o, none⟩ → base ≤ b := by
  have hlen : qs.length = n := by have := h.1; rw [flat_length] at this; omega
  rcases h.2 with ⟨rfl, rfl⟩ | ⟨g, cap, cur, rfl, hb, hg, _⟩
  · obtain rfl : qs = [] := List.eq_nil_of_length_eq_zero hlen
    exact ⟨none, 0, rfl, ⟨rfl, by omega, by simp, fun h => absurd h (by omega)⟩, fun _ _ h => by cases h⟩
  · refine ⟨_, cap, rfl, ⟨hlen, hn, hz, fun hp => ⟨g, 0, rfl, (Array.getElem?_eq_some_iff.1 hg).1, fun i hi => ?_⟩⟩, fun b o h => by injection h with h; injection h with h; omega⟩
    obtain ⟨g1, g2, g3, g4⟩ := flat_get qs i (by omega)
    have c1 := h.cells (g := g) rfl _ _ g1
    have c2 := h.cells (g := g) rfl _ _ g2
    have c3 := h.cells (g := g) rfl _ _ g3
    have c4 := h.cells (g := g) rfl _ _ g4
    simp only [Addr.add_lit] at c1 c2 c3 c4
    exact ⟨c1, by rw [Nat.add_assoc]; exact c2, by rw [Nat.add_assoc]; exact c3, by rw [Nat.add_assoc]; exact c4⟩

/-- The call hands back a new list of colors; old memory is as it was. -/
def QuadsOut (n : Nat) (qs : List Q4) (w : World) (e : Ending) (w' : World) : Prop :=
  ∃ A c, e = .returned (.slice A n c) ∧ RdQuads w' w'.heap.size A n qs ∧ (∀ b o, A = some ⟨b, o, none⟩ → w.heap.size ≤ b) ∧ Below w.heap.size w w'

theorem takeq_snoc (qs : List Q4) (k : Nat) (h : k < qs.length) : qs.take (k + 1) = qs.take k ++ [qs.getD k default] := by
  rw [List.take_succ_eq_append_getElem h]; simp [List.getD, h]

theorem own_slice {w : World} {base e size n : Nat} {v : Value} {xs : List Value} (h : w.ownsRow base e size v n xs) : ∃ A c, v = .slice A n c := by
  rcases h.2 with ⟨rfl, rfl⟩ | ⟨g, cap, cur, rfl, _⟩
  · exact ⟨none, 0, rfl⟩
  · exact ⟨_, cap, rfl⟩

theorem own_below {w w' : World} {base e size n : Nat} {v : Value} {xs : List Value} (h : w.ownsRow base e size v n xs) (hb : Below w.heap.size w w') : w'.ownsRow base e size v n xs := by
  refine ⟨h.1, ?_⟩
  rcases h.2 with h | ⟨g, cap, cur, hv, hbg, hg, h4⟩
  · exact Or.inl h
  · exact Or.inr ⟨g, cap, cur, hv, hbg, (hb.block g (Array.getElem?_eq_some_iff.1 hg).1).trans hg, h4⟩

theorem four_cells (w : World) (a b c d : Value) (t : TypeId) : ∀ j u, [a, b, c, d][j]? = some u → (w.alloc (.cells #[a, b, c, d] t)).cell? ((⟨w.heap.size, 0, none⟩ : Addr).add j) = some u := by
  intro j u hj
  match j, hj with
  | 0, hj => simp at hj; subst hj; simp [Addr.add]
  | 1, hj => simp at hj; subst hj; simp [Addr.add]
  | 2, hj => simp at hj; subst hj; simp [Addr.add]
  | 3, hj => simp at hj; subst hj; simp [Addr.add]
  | j + 4, hj => simp at hj

theorem toColors_any (n cp : Nat) (A : Option Addr) (qs : List Q4) (w : World) (hr : RdQuads w w.heap.size A n qs) :
    Calls Try.prog 16 #[.slice A n cp] w (QuadsOut n qs w) := by
  have HR := Lib.hid hr
  have hn : n * 32 ≤ 140737488355328 := hr.2.1
  clear hr
  obtain ⟨i0, hi, hz0, hz1, hz2⟩ := info_parts (show (Try.prog.info? 25).map (fun i => (i.zero, i.size, i.bytes)) = some (some (.agg #[.int .i64 0, .int .i64 0, .int .i64 0, .int .i64 0]), 4, 32) from by kernel_rfl)
  go_enter Try.func16, Try.ntmps16
  go_wp2_with fail
  go_loopw [8, 5, 3] (fun i _ v wr => ∃ (k : Nat), k ≤ n ∧ i = .int .i64 k ∧ Hid (wr.ownsRow w.heap.size 25 4 v k (flat (qs.take k))) ∧ Hid (Below w.heap.size w wr)) (fun i _ _ _ => n - (intOf i).toNat)
  case atStart => exact ⟨0, by omega, rfl, World.ownsRow_nil _ _ _ _, Below.refl _ _⟩
  case round =>
    obtain ⟨k, hk, rfl, HO, HB⟩ := hrel
    obtain ⟨hl, _, hok, hrd⟩ := HR.out
    by_cases hlt : k < n
    · obtain ⟨g, off, rfl, hg, hc⟩ := hrd (by omega)
      obtain ⟨x1, x2, x3, x4⟩ := hc k hlt
      replace x1 := (HB.out.cell (p := ⟨g, off + k * 4, none⟩) hg).trans x1
      replace x2 := (HB.out.cell (p := ⟨g, off + k * 4 + 1, none⟩) hg).trans x2
      replace x3 := (HB.out.cell (p := ⟨g, off + k * 4 + 2, none⟩) hg).trans x3
      replace x4 := (HB.out.cell (p := ⟨g, off + k * 4 + 3, none⟩) hg).trans x4
      have HT := Lib.hid (takeq_snoc qs k (by omega))
      generalize qs.getD k default = q at x1 x2 x3 x4 HT
      obtain ⟨a, b, c, d⟩ := q
      clear hc hrd hl hok
      have hown := HO.out
      go_wp2_with fail
      refine (toColor4 a b c d _).mono ?_
      rintro e w1 ⟨rfl, b1⟩
      have B1 := Lib.hid ((HB.out.alloc HB.out.size _).trans (b1.mono (by have := HB.out.size; simp; omega)))
      have own1 := own_below (hown.alloc _) b1
      have hsz1 : wr.heap.size + 1 ≤ w1.heap.size := by have := b1.size; simpa using this
      clear b1 x1 x2 x3 x4
      go_wp2_with (first
        | (at_builtin; refine wpList_append_own _ rfl _ _ 24 rfl w.heap.size 25 i0 (.agg #[.int .i64 0, .int .i64 0, .int .i64 0, .int .i64 0]) 4 32 Try.underlying24 hi hz0 hz1 hz2 rfl (by decide) _ _ _ rfl (own1.alloc _) ⟨w1.heap.size, 0, none⟩ 1 1 [.int .i64 a, .int .i64 b, .int .i64 c, .int .i64 d] rfl rfl ?c1 ?c2 ?c3 ?c4 ?c5 ?_))
      case c1 => exact four_cells _ _ _ _ _ _
      case c2 => intro u hu; simp at hu; rcases hu with rfl | rfl | rfl | rfl <;> rfl
      case c3 => unfold maxLen; omega
      case c4 => omega
      case c5 => have := B1.out.size; simp; omega
      intro v' w2 hown' hgrow _
      have B2 := Lib.hid ((B1.out.alloc B1.out.size _).grown hgrow (by have := B1.out.size; simp; omega) (by intro j hj; exact (hown.lt j hj).1))
      have OW := Lib.hid hown'
      clear hown' hgrow own1 hown
      go_wp2
      go_roundw
      case rel => exact ⟨k + 1, by omega, by go_num, by rw [HT.out, flat_append]; exact OW, B2⟩
      case measure => simp [intOf]; omega
    · obtain rfl : k = n := by omega
      obtain ⟨A', cp', rfl⟩ := own_slice HO.out
      clear hrd
      go_wp2
      go_ret
      have hqs : qs.take k = qs := List.take_of_length_le (by omega)
      have own1 := HO.out
      rw [hqs] at own1
      obtain ⟨A2, c2, e2, rd2, lo2⟩ := RdQuads.of_own own1 hn hok
      simp only [Value.slice.injEq, true_and] at e2
      obtain ⟨rfl, rfl⟩ := e2
      exact ⟨A', cp', rfl, rd2, lo2, HB.out⟩

end Go.Proofs.Ytbhccckfooobcaa
