/-
  Contracts of the reference's functions on images, more. No condition.
-/
import Derived.Test.YtpllecddmpdaiaaNS1
namespace Go.Proofs.Ytpllecddmpdaiaa
open Go.ChangeShapes Go.WideShapes Go.ChangeAt Go.RowKit
set_option linter.unusedVariables false
set_option linter.unusedSimpArgs false

/-- The call hands back a picture whose numbers lie in a new block g that is known whole. -/
def MadeOut (a b c d st : Int) (N : Nat) (zs : List Int) (w : World) (e : Ending) (w' : World) : Prop :=
  ∃ g, e = .returned (.agg #[.int .i64 a, .int .i64 b, .int .i64 c, .int .i64 d, .int .i64 st, .slice (some ⟨g, 0, none⟩) N N]) ∧ w.heap.size ≤ g ∧ IPix w' g zs ∧ Below w.heap.size w w'

theorem MadeOut.pic {a b c d st : Int} {N : Nat} {zs : List Int} {w w' : World} {e : Ending} (h : MadeOut a b c d st N zs w e w') (hl : zs.length = N) (hN : N ≤ 4000000) : PicOut a b c d st N zs w e w' := by
  obtain ⟨g, he, hg, hp, hb⟩ := h
  exact ⟨_, N, he, hp.rd hl hN, fun b o h => by injection h with h; injection h with h; omega, hb⟩

theorem IPix.set_other {w : World} {g g' i : Nat} {u : Value} {bs : List Int} (h : IPix w g bs) (hne : g ≠ g') : IPix (w.setCell ⟨g', i, none⟩ u) g bs := h.keep (Below.heap_setCell _ _ _ _ hne)

theorem made_set {a b c d st : Int} {N g g' : Nat} {zs : List Int} {w w3 : World} {u0 u1 u2 u3 u4 u5 : Value} (hp : IPix w3 g zs) (hne : g ≠ g') (hw : w.heap.size ≤ g) (hb : Below w.heap.size w w3) (hg : w.heap.size ≤ g') :
    MadeOut a b c d st N zs w (.returned (.agg #[.int .i64 a, .int .i64 b, .int .i64 c, .int .i64 d, .int .i64 st, .slice (some ⟨g, 0, none⟩) N N]))
      ((((((w3.setCell ⟨g', 0, none⟩ u0).setCell ⟨g', 1, none⟩ u1).setCell ⟨g', 2, none⟩ u2).setCell ⟨g', 3, none⟩ u3).setCell ⟨g', 4, none⟩ u4).setCell ⟨g', 5, none⟩ u5) :=
  ⟨g, rfl, hw, (((((hp.set_other hne).set_other hne).set_other hne).set_other hne).set_other hne).set_other hne, (((((hb.setCell hg _).setCell hg _).setCell hg _).setCell hg _).setCell hg _).setCell hg _⟩

set_option maxRecDepth 100000 in
theorem made_any (a b c d m st : Int) (M N n cp : Nat) (Z : Option Addr) (zs : List Int) (h1 : 0 ≤ m) (h2 : m ≤ 4) (h3 : 0 ≤ c - a) (h4 : c - a ≤ 1000) (h5 : 0 ≤ d - b) (h6 : d - b ≤ 1000) (hM : (c - a) * (d - b) = M) (hN : (M : Int) * m = N) (hst : (c - a) * m = st) (w : World) (hr : Rd w w.heap.size Z n zs) :
    Calls Try.prog 16 #[.agg #[.int .i64 a, .int .i64 b, .int .i64 c, .int .i64 d], .int .i64 m, .slice Z n cp] w (MadeOut a b c d st N (byt N zs) w) := by
  have k1 : 0 ≤ (c - a) * m := Int.mul_nonneg h3 h1
  have k2 : (c - a) * m ≤ 1000 * 4 := Int.mul_le_mul h4 h2 h1 (by decide)
  have e1 : IntKind.i64.wrap (c - a) = c - a := IntWalk.i64_in _ ⟨by omega, by omega⟩
  have e2 : IntKind.i64.wrap ((c - a) * m) = st := by rw [← hst]; exact IntWalk.i64_in _ ⟨by omega, by omega⟩
  have HM := Lib.hid hM
  have HN := Lib.hid hN
  have HR := Lib.hid hr
  clear hM hN hr hst k1 k2
  have b0 : Below w.heap.size w ((w.alloc (.cells #[.int .i64 a, .int .i64 b, .int .i64 c, .int .i64 d] 25)).alloc (.cells #[.int .i64 0, .int .i64 0, .int .i64 0, .int .i64 0, .int .i64 0, .slice none 0 0] 31)) := ((Below.refl _ _).alloc (Nat.le_refl _) _).alloc (by simp) _
  have p6 := Lib.hid (show PBlk ((w.alloc (.cells #[.int .i64 a, .int .i64 b, .int .i64 c, .int .i64 d] 25)).alloc (.cells #[.int .i64 0, .int .i64 0, .int .i64 0, .int .i64 0, .int .i64 0, .slice none 0 0] 31)) (w.heap.size + 1) 0 0 0 0 0 (.slice none 0 0) from heap_new2 w _ _)
  have z1 : w.heap.size < w.heap.size + 1 + 1 := by omega
  have z2 : w.heap.size < w.heap.size + 2 := by omega
  have z3 : ¬ w.heap.size = w.heap.size + 1 := by omega
  go_enter Try.func16, Try.ntmps16
  go_wp2_with fail
  go_region_held3 (fun w' => w'.cell? ⟨w.heap.size, 0, none⟩ = some (.int .i64 a) ∧ w'.cell? ⟨w.heap.size, 1, none⟩ = some (.int .i64 b) ∧ w'.cell? ⟨w.heap.size, 2, none⟩ = some (.int .i64 c) ∧ w'.cell? ⟨w.heap.size, 3, none⟩ = some (.int .i64 d)) (go_keep)
    (first | (go_at_call 24; refine (filled_any a b c d m M N n cp Z zs h1 h2 h3 h4 h5 h6 HM.out HN.out _ (by exact (HR.out.below b0).more b0.size)).mono ?_; rintro e wf ⟨g, rfl, hg, hp, bf⟩; obtain ⟨hcf, _⟩ := bcell bf; have P8 : PBlk wf (w.heap.size + 1) 0 0 0 0 0 (.slice none 0 0) := (by exact (bf.block _ (by simp)).trans p6.out); obtain ⟨s0, s1, s2, s3, s4, s5⟩ := P8.cell; have g0 := P8.free 0; have g1 := P8.free 1; have g2 := P8.free 2; have g3 := P8.free 3; have g4 := P8.free 4; have g5 := P8.free 5; have zg : w.heap.size + 2 ≤ g := (by simpa using hg); have HP := Lib.hid hp; clear hp))
  go_wp2
  refine bodyPost_ret (v := .agg #[.int .i64 a, .int .i64 b, .int .i64 c, .int .i64 d, .int .i64 st, .slice (some ⟨g, 0, none⟩) N N]) (by simp [results, Try.results16, go_sem, s0, s1, s2, s3, s4, s5]) rfl ?_
  exact made_set HP.out (by omega) (by omega) (b0.drew.trans (bf.mono b0.size)) (by omega)

end Go.Proofs.Ytpllecddmpdaiaa
