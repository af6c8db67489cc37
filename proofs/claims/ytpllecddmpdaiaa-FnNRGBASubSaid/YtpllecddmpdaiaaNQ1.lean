/-
  Contracts: a new image as data, with the capacity of its bytes. No condition.
-/
import Derived.Test.YtpllecddmpdaiaaN8
namespace Go.Proofs.Ytpllecddmpdaiaa
open Go.ChangeShapes Go.WideShapes Go.ChangeAt Go.RowKit
set_option linter.unusedVariables false
set_option linter.unusedSimpArgs false

/-- The call hands back a picture with these bounds, this stride and these bytes; its slice has at least its own length as capacity. -/
def PicCap (a b c d st : Int) (n : Nat) (bs : List Int) (w : World) (e : Ending) (w' : World) : Prop :=
  ∃ A cp, e = .returned (.agg #[.int .i64 a, .int .i64 b, .int .i64 c, .int .i64 d, .int .i64 st, .slice A n cp]) ∧ Rd w' w'.heap.size A n bs ∧ (∀ b o, A = some ⟨b, o, none⟩ → w.heap.size ≤ b) ∧ Below w.heap.size w w' ∧ n ≤ cp
theorem own_cap {w : World} {base e size n cp : Nat} {A : Option Addr} {xs : List Value} (h : w.ownsRow base e size (.slice A n cp) n xs) : n ≤ cp := by
  rcases h.2 with ⟨_, rfl⟩ | ⟨g, cap, cur, he, _, _, h4, _⟩
  · exact Nat.zero_le _
  · injection he with _ _ e3
    omega
theorem picCap_set {a b c d st : Int} {n g cp : Nat} {bs : List Int} {w w3 : World} {A : Option Addr} {u0 u1 u2 u3 u4 u5 : Value} (hc : n ≤ cp) (hrd : Rd w3 w3.heap.size A n bs) (hlo : ∀ b o, A = some ⟨b, o, none⟩ → g < b) (hb : Below w.heap.size w w3) (hg : w.heap.size ≤ g) :
    PicCap a b c d st n bs w (.returned (.agg #[.int .i64 a, .int .i64 b, .int .i64 c, .int .i64 d, .int .i64 st, .slice A n cp]))
      ((((((w3.setCell ⟨g, 0, none⟩ u0).setCell ⟨g, 1, none⟩ u1).setCell ⟨g, 2, none⟩ u2).setCell ⟨g, 3, none⟩ u3).setCell ⟨g, 4, none⟩ u4).setCell ⟨g, 5, none⟩ u5) := by
  obtain ⟨A', cp', he, h1, h2, h3⟩ := picOut_set (a := a) (b := b) (c := c) (d := d) (st := st) (cp := cp) (u0 := u0) (u1 := u1) (u2 := u2) (u3 := u3) (u4 := u4) (u5 := u5) hrd hlo hb hg
  simp only [Ending.returned.injEq, Value.agg.injEq, Array.mk.injEq, List.cons.injEq, Value.slice.injEq, true_and, and_true] at he
  obtain ⟨rfl, rfl⟩ := he
  exact ⟨A, cp, rfl, h1, h2, h3, hc⟩

theorem picture_cap (a b c d st : Int) (n cp : Nat) (A : Option Addr) (bs : List Int) (w : World) (hr : RdU w w.heap.size A n bs) :
    Calls Try.prog 13 #[.agg #[.int .i64 a, .int .i64 b, .int .i64 c, .int .i64 d], .int .i64 st, .slice A n cp] w (PicCap a b c d st n bs w) := by
  have HR := Lib.hid hr
  have hn : n ≤ 4000000 := hr.2.1
  clear hr
  obtain ⟨i0, hi, hz0, hz1, hz2⟩ := info_parts (show (Try.prog.info? 3).map (fun i => (i.zero, i.size, i.bytes)) = some (some (.int .i64 0), 1, 8) from by kernel_rfl)
  go_enter Try.func13, Try.ntmps13
  go_wp2_with fail
  refine (plain4 _ _ _ _ _).mono ?_
  rintro e w1 ⟨rfl, b1⟩
  go_wp2_with fail
  have hz8 : w.heap.size + 2 ≤ w1.heap.size := by have := b1.size; simpa using this
  have b0 : Below w.heap.size w w1 := (((Below.refl _ _).alloc (Nat.le_refl _) _).alloc (by simp) _).trans (b1.mono (by simp; omega))
  have p6 : PBlk w1 (w.heap.size + 1) 0 0 0 0 0 (.slice none 0 0) := (b1.block _ (by simp)).trans (heap_new2 w _ _)
  have P6 := Lib.hid p6
  have B0 := Lib.hid b0
  clear b1 p6 b0
  go_loopw [16, 9] (fun i _ wr => ∃ (k : Nat) (v : Value), k ≤ n ∧ i = .int .i64 k ∧ Hid (PBlk wr w1.heap.size a b c d st v) ∧ Hid (wr.ownsRow (w1.heap.size + 1) 3 1 v k ((bs.take k).map (Value.int .i64))) ∧ Hid (Below w1.heap.size w1 wr)) (fun i _ _ => n - (intOf i).toNat)
  case atStart => exact ⟨0, .slice none 0 0, by omega, rfl, heap_alloc_new w1 _, World.ownsRow_nil _ _ _ _, (Below.refl _ _).alloc (Nat.le_refl _) _⟩
  case round =>
    obtain ⟨k, v, hk, rfl, HP, HO, HB⟩ := hrel
    obtain ⟨hl, _, hbyte, hrd⟩ := HR.out
    obtain ⟨_, _, _, _, _, c5⟩ := HP.out.cell
    have f5 := HP.out.free 5
    by_cases hlt : k < n
    · obtain ⟨g, off, rfl, hg, hc⟩ := hrd (by omega)
      have x1 : wr.cell? ⟨g, off + k, none⟩ = some (.int .u8 (bs.getD k 0)) := (HB.out.cell (p := ⟨g, off + k, none⟩) (by show g < w1.heap.size; omega)).trans ((B0.out.cell (p := ⟨g, off + k, none⟩) hg).trans (hc k hlt))
      have hz : 0 ≤ bs.getD k 0 ∧ bs.getD k 0 ≤ 255 := hbyte _ (by simp [List.getD, show k < bs.length by omega])
      have HT := Lib.hid (take_snoc bs k (by omega))
      generalize bs.getD k 0 = z at x1 hz HT
      obtain ⟨z1, z2⟩ := hz
      clear hc hrd hl hbyte
      have hown := HO.out
      have hlw := HP.out.lt
      go_wp2_with (first
        | (at_builtin; refine wpList_append_own _ rfl _ _ 24 rfl (w1.heap.size + 1) 3 i0 (.int .i64 0) 1 8 Try.underlying24 hi hz0 hz1 hz2 rfl (by decide) _ _ _ rfl (hown.alloc _) ⟨wr.heap.size, 0, none⟩ 1 1 [.int .i64 z] rfl rfl ?c1 ?c2 ?c3 ?c4 ?c5 ?_))
      case c1 =>
        intro j u hj
        match j, hj with
        | 0, hj => simp at hj; subst hj; simp [Addr.add]
      case c2 => intro u hu; simp at hu; subst hu; rfl
      case c3 => unfold maxLen; omega
      case c4 => omega
      case c5 => simp; omega
      intro v' w2 hown' hgrow _
      obtain ⟨A', cp', rfl⟩ := own_slice hown'
      rw [← List.map_take] at hown'
      obtain ⟨q1, q2, q3, q4⟩ := pic_step rfl HP.out HB.out hown' (fun j hj => (hown.lt j hj).1) hgrow
      obtain ⟨_, _, _, _, _, y5⟩ := q1.cell
      have y6 := q1.free 5
      have Q2 := Lib.hid q2
      have Q3 := Lib.hid q3
      have Q4 := Lib.hid q4
      clear hown' hgrow hown q1 q2 q3 q4 c5 f5 x1
      go_wp2
      go_roundw
      case rel => exact ⟨k + 1, .slice A' (k + 1) cp', by omega, by go_num, Q4, by rw [HT.out]; exact Q2, Q3⟩
      case measure => simp [intOf]; omega
    · obtain rfl : k = n := by omega
      obtain ⟨A', cp', rfl⟩ := own_slice HO.out
      obtain ⟨o0, o1, o2, o3, o4, o5⟩ := HP.out.cell
      have l1 : w.heap.size + 1 < w1.heap.size := by omega
      have r6 : PBlk wr (w.heap.size + 1) 0 0 0 0 0 (.slice none 0 0) := (HB.out.block _ l1).trans P6.out
      obtain ⟨s0, s1, s2, s3, s4, s5⟩ := r6.cell
      have g0 := r6.free 0
      have g1 := r6.free 1
      have g2 := r6.free 2
      have g3 := r6.free 3
      have g4 := r6.free 4
      have g5 := r6.free 5
      clear hrd hbyte
      go_wp2
      refine bodyPost_ret (v := .agg #[.int .i64 a, .int .i64 b, .int .i64 c, .int .i64 d, .int .i64 st, .slice A' k cp']) (by simp [results, Try.results13, go_sem, s0, s1, s2, s3, s4, s5]) rfl ?_
      have own1 := ownsRow_setCell_below (ownsRow_setCell_below (ownsRow_setCell_below (ownsRow_setCell_below (ownsRow_setCell_below (ownsRow_setCell_below HO.out (a := ⟨w.heap.size + 1, 0, none⟩) (by show w.heap.size + 1 < _; omega) (.int .i64 a)) (a := ⟨w.heap.size + 1, 1, none⟩) (by show w.heap.size + 1 < _; omega) (.int .i64 b)) (a := ⟨w.heap.size + 1, 2, none⟩) (by show w.heap.size + 1 < _; omega) (.int .i64 c)) (a := ⟨w.heap.size + 1, 3, none⟩) (by show w.heap.size + 1 < _; omega) (.int .i64 d)) (a := ⟨w.heap.size + 1, 4, none⟩) (by show w.heap.size + 1 < _; omega) (.int .i64 st)) (a := ⟨w.heap.size + 1, 5, none⟩) (by show w.heap.size + 1 < _; omega) (.slice A' k cp')
      have hbs : bs.take k = bs := List.take_of_length_le (by omega)
      rw [hbs] at own1
      obtain ⟨A2, c2, e2, rd2, lo2⟩ := Rd.of_own own1 (by omega) (fun z hz => by have := HR.out.2.2.1 z hz; unfold I64; omega)
      simp only [Value.slice.injEq, true_and] at e2
      obtain ⟨rfl, rfl⟩ := e2
      have hcap := own_cap own1
      have bb : Below w.heap.size w wr := B0.out.trans (HB.out.mono B0.out.size)
      exact ⟨A', cp', rfl, rd2, fun b o h => by have := lo2 b o h; have := B0.out.size; omega, (((((bb.setCell (Nat.le_succ _) _).setCell (Nat.le_succ _) _).setCell (Nat.le_succ _) _).setCell (Nat.le_succ _) _).setCell (Nat.le_succ _) _).setCell (Nat.le_succ _) _, hcap⟩

end Go.Proofs.Ytpllecddmpdaiaa
