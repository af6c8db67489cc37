/-
  Contracts: a new image with given bytes, and what an image has as data. No condition.
-/
import Derived.Test.YtpllecddmpdaiaaN3
namespace Go.Proofs.Ytpllecddmpdaiaa
open Go.ChangeShapes Go.WideShapes Go.ChangeAt Go.RowKit
set_option linter.unusedVariables false
set_option linter.unusedSimpArgs false

theorem Img.cells {w : World} {gp gb off len : Nat} {st a b c d : Int} (h : Img w gp gb off len st a b c d) :
    w.cell? ⟨gp, 0, none⟩ = some (.slice (some ⟨gb, off, none⟩) len len) ∧ w.cell? ⟨gp, 1, none⟩ = some (.int .i64 st) ∧ w.cell? ⟨gp, 2, none⟩ = some (.int .i64 a) ∧
    w.cell? ⟨gp, 3, none⟩ = some (.int .i64 b) ∧ w.cell? ⟨gp, 4, none⟩ = some (.int .i64 c) ∧ w.cell? ⟨gp, 5, none⟩ = some (.int .i64 d) := by
  have := fun i => cell_of_row w gp i _ _ (0, 0) h
  exact ⟨this 0, this 1, this 2, this 3, this 4, this 5⟩
theorem Img.lt {w : World} {gp gb off len : Nat} {st a b c d : Int} (h : Img w gp gb off len st a b c d) : gp < w.heap.size := (Array.getElem?_eq_some_iff.1 h).1

theorem inewNRGBA_any (a b c d : Int) (N n cp B : Nat) (A : Option Addr) (zs : List Int) (h3 : 0 ≤ c - a) (h4 : c - a ≤ 1000) (h5 : 0 ≤ d - b) (h6 : d - b ≤ 1000) (hN : 4 * (c - a) * (d - b) = N) (w : World) (hr : Rd w w.heap.size A n zs) :
    Calls Try.prog 10 #[.agg #[.int .i64 a, .int .i64 b, .int .i64 c, .int .i64 d], .slice A n cp] w (NewImg N (4 * (c - a)) a b c d (byt N zs) w) := by
  have k4 : 4 * (c - a) * (d - b) ≤ 4000 * 1000 := Int.mul_le_mul (by omega) h6 h5 (by decide)
  have k5 : N ≤ 4000000 := by omega
  have HN := Lib.hid hN
  clear k4 hN
  have HR := Lib.hid hr
  clear hr
  go_enter Try.func10, Try.ntmps10
  go_wp2_with fail
  refine (rectangle4 _ _ _ _ _).mono ?_
  rintro e w1 ⟨rfl, b1⟩
  go_wp2_with fail
  refine (newNRGBA_any _ _ _ _ N h3 h4 h5 h6 HN.out _).mono ?_
  rintro e w2 ⟨gp, gb, rfl, hgp, hgb, hi, hp, b2⟩
  have b0 : Below w.heap.size w w1 := ((Below.refl _ _).alloc (Nat.le_refl _) _).trans (b1.mono (by simp))
  have b3 : Below w.heap.size w w2 := b0.trans (b2.mono b0.size)
  obtain ⟨c0, _⟩ := hi.cells
  have HI := Lib.hid hi
  have HP := Lib.hid hp
  clear hi hp
  go_wp2_with fail
  refine (fill_any gb N n cp w.heap.size A zs w2 (by omega) HP.out (HR.out.below b3) (by have := b0.size; omega)).mono ?_
  rintro e w3 ⟨rfl, hp3, hg3⟩
  go_wp2_with fail
  go_ret
  refine ⟨gp, gb, rfl, by have := b0.size; omega, by have := b0.size; omega, ?_, hp3, b3.grown hg3 b3.size (by intro k hk; injection hk with hk; have := b0.size; omega)⟩
  have hne : gp ≠ gb := by
    rintro rfl
    have e1 := HI.out
    have e2 := HP.out.1
    unfold Img at e1
    rw [e1] at e2
    injection e2 with e2
    injection e2 with _ e3 _
    exact absurd e3 (by decide)
  exact (hg3.block gp HI.out.lt (by intro e; injection e with e; exact hne e)).trans HI.out

/-- A slice value that reads as the bytes 'bs'. -/
def RdU (w : World) (B : Nat) (A : Option Addr) (n : Nat) (bs : List Int) : Prop :=
  bs.length = n ∧ n ≤ 4000000 ∧ (∀ z ∈ bs, 0 ≤ z ∧ z ≤ 255) ∧ (0 < n → ∃ b off, A = some ⟨b, off, none⟩ ∧ b < B ∧ ∀ j, j < n → w.cell? ⟨b, off + j, none⟩ = some (.int .u8 (bs.getD j 0)))

theorem RdU.below {w w' : World} {B n : Nat} {A : Option Addr} {bs : List Int} (h : RdU w B A n bs) (hb : Below B w w') : RdU w' B A n bs :=
  ⟨h.1, h.2.1, h.2.2.1, fun hn => by
    obtain ⟨b, off, e, hlt, hc⟩ := h.2.2.2 hn
    exact ⟨b, off, e, hlt, fun j hj => (hb.cell (p := ⟨b, off + j, none⟩) hlt).trans (hc j hj)⟩⟩

theorem Pix.rd {w : World} {g off n : Nat} {bs : List Int} (h : Pix w g bs) (hl : off + n = bs.length) (hn : n ≤ 4000000) : RdU w w.heap.size (some ⟨g, off, none⟩) n (bs.drop off) := by
  refine ⟨by simp; omega, hn, fun z hz => h.2 z (List.mem_of_mem_drop hz), fun _ => ⟨g, off, rfl, h.lt, fun j hj => ?_⟩⟩
  rw [h.cell (by omega)]
  simp [List.getD, List.getElem?_drop]

theorem Rd.of_own {w : World} {base n : Nat} {v : Value} {zs : List Int} (h : w.ownsRow base 3 1 v n (zs.map (Value.int .i64))) (hn : n * 8 ≤ 140737488355328) (hz : ∀ z ∈ zs, I64 z) :
    ∃ A c, v = .slice A n c ∧ Rd w w.heap.size A n zs ∧ ∀ b o, A = some ⟨b, o, none⟩ → base ≤ b := by
  have hlen : zs.length = n := by have := h.1; simpa using this
  rcases h.2 with ⟨rfl, rfl⟩ | ⟨g, cap, cur, rfl, hb, hg, _⟩
  · obtain rfl : zs = [] := List.eq_nil_of_length_eq_zero hlen
    exact ⟨none, 0, rfl, Rd.nil _ _ _, fun _ _ h => by cases h⟩
  · refine ⟨_, cap, rfl, ⟨hlen, hn, hz, fun hp => ⟨g, 0, rfl, (Array.getElem?_eq_some_iff.1 hg).1, fun j hj => ?_⟩⟩, fun b o h => by injection h with h; injection h with h; omega⟩
    have := h.cells (g := g) rfl j (.int .i64 (zs.getD j 0)) (by simp [List.getD, show j < zs.length by omega])
    simpa [Addr.add_lit] using this

theorem Rd.set_other {w : World} {B n g i : Nat} {A : Option Addr} {zs : List Int} {u : Value} (h : Rd w B A n zs) (hg : ∀ b o, A = some ⟨b, o, none⟩ → g < b) : Rd (w.setCell ⟨g, i, none⟩ u) B A n zs :=
  ⟨h.1, h.2.1, h.2.2.1, fun hn => by
    obtain ⟨b, off, e, hb, hc⟩ := h.2.2.2 hn
    refine ⟨b, off, e, hb, fun j hj => ?_⟩
    have := hg b off e
    rw [World.cell?_setCell_other _ _ _ _ (by intro e; injection e with e; omega)]
    exact hc j hj⟩
/-- The call hands back a picture with these bounds, this stride and these bytes. -/
def PicOut (a b c d st : Int) (n : Nat) (bs : List Int) (w : World) (e : Ending) (w' : World) : Prop :=
  ∃ A cp, e = .returned (.agg #[.int .i64 a, .int .i64 b, .int .i64 c, .int .i64 d, .int .i64 st, .slice A n cp]) ∧ Rd w' w'.heap.size A n bs ∧ (∀ b o, A = some ⟨b, o, none⟩ → w.heap.size ≤ b) ∧ Below w.heap.size w w'

theorem picOut_set {a b c d st : Int} {n g cp : Nat} {bs : List Int} {w w3 : World} {A : Option Addr} {u0 u1 u2 u3 u4 u5 : Value} (hrd : Rd w3 w3.heap.size A n bs) (hlo : ∀ b o, A = some ⟨b, o, none⟩ → g < b) (hb : Below w.heap.size w w3) (hg : w.heap.size ≤ g) :
    PicOut a b c d st n bs w (.returned (.agg #[.int .i64 a, .int .i64 b, .int .i64 c, .int .i64 d, .int .i64 st, .slice A n cp]))
      ((((((w3.setCell ⟨g, 0, none⟩ u0).setCell ⟨g, 1, none⟩ u1).setCell ⟨g, 2, none⟩ u2).setCell ⟨g, 3, none⟩ u3).setCell ⟨g, 4, none⟩ u4).setCell ⟨g, 5, none⟩ u5) := by
  have hsz : ((((((w3.setCell ⟨g, 0, none⟩ u0).setCell ⟨g, 1, none⟩ u1).setCell ⟨g, 2, none⟩ u2).setCell ⟨g, 3, none⟩ u3).setCell ⟨g, 4, none⟩ u4).setCell ⟨g, 5, none⟩ u5).heap.size = w3.heap.size := by simp [World.setCell]
  refine ⟨A, cp, rfl, ?_, fun b o h => by have := hlo b o h; omega, (((((hb.setCell hg _).setCell hg _).setCell hg _).setCell hg _).setCell hg _).setCell hg _⟩
  rw [hsz]
  exact (((((hrd.set_other hlo).set_other hlo).set_other hlo).set_other hlo).set_other hlo).set_other hlo

theorem take_snoc (bs : List Int) (k : Nat) (h : k < bs.length) : bs.take (k + 1) = bs.take k ++ [bs.getD k 0] := by
  rw [List.take_succ_eq_append_getElem h]; simp [List.getD, h]

theorem own_slice {w : World} {base e size n : Nat} {v : Value} {xs : List Value} (h : w.ownsRow base e size v n xs) : ∃ A c, v = .slice A n c := by
  rcases h.2 with ⟨rfl, rfl⟩ | ⟨g, cap, cur, rfl, _⟩
  · exact ⟨none, 0, rfl⟩
  · exact ⟨_, cap, rfl⟩
section
variable {w1 wr w' : World} {a b c d st z : Int} {v v' : Value} {k : Nat} {xs : List Int}
/-- The block of a picture that is being made. -/
def PBlk (w : World) (g : Nat) (a b c d st : Int) (v : Value) : Prop := w.heap[g]? = some (.cells #[.int .i64 a, .int .i64 b, .int .i64 c, .int .i64 d, .int .i64 st, v] 31 (0, 0))
theorem PBlk.cell {w : World} {g : Nat} (h : PBlk w g a b c d st v) : w.cell? ⟨g, 0, none⟩ = some (.int .i64 a) ∧ w.cell? ⟨g, 1, none⟩ = some (.int .i64 b) ∧ w.cell? ⟨g, 2, none⟩ = some (.int .i64 c) ∧ w.cell? ⟨g, 3, none⟩ = some (.int .i64 d) ∧ w.cell? ⟨g, 4, none⟩ = some (.int .i64 st) ∧ w.cell? ⟨g, 5, none⟩ = some v := by
  have := fun i => cell_of_row w g i _ _ (0, 0) h
  exact ⟨this 0, this 1, this 2, this 3, this 4, this 5⟩
theorem PBlk.free {w : World} {g : Nat} (h : PBlk w g a b c d st v) (i : Nat) : w.frozen? ⟨g, i, none⟩ = false := by unfold PBlk at h; simp [World.frozen?, h]
theorem PBlk.lt {w : World} {g : Nat} (h : PBlk w g a b c d st v) : g < w.heap.size := (Array.getElem?_eq_some_iff.1 h).1
theorem PBlk.set {w : World} {g : Nat} (h : PBlk w g a b c d st v) (v' : Value) : PBlk (w.setCell ⟨g, 5, none⟩ v') g a b c d st v' := by
  unfold PBlk at h ⊢
  simp [World.setCell, Array.getElem?_modify, h]
theorem pic_step {B : Nat} {o : Obj} (hB : B = w1.heap.size) (hp : PBlk wr B a b c d st v) (hb : Below B w1 wr)
    (hown : w'.ownsRow (B + 1) 3 1 v' (k + 1) (xs.map (Value.int .i64) ++ [.int .i64 z])) (hrow : ∀ j, v.ownBlock = some j → B + 1 ≤ j) (hg : (wr.alloc o).grownBy w' v.ownBlock) :
    PBlk w' B a b c d st v ∧ (w'.setCell ⟨B, 5, none⟩ v').ownsRow (B + 1) 3 1 v' (k + 1) ((xs ++ [z]).map (Value.int .i64)) ∧ Below B w1 (w'.setCell ⟨B, 5, none⟩ v') ∧ PBlk (w'.setCell ⟨B, 5, none⟩ v') B a b c d st v' := by
  have hlt := hp.lt
  have hp1 : PBlk w' B a b c d st v := by
    have e1 : (wr.alloc o).heap[B]? = wr.heap[B]? := Below.heap_alloc _ _ _ hlt
    have e2 := hg.block B (by simp; omega) (by intro e; have := hrow B e.symm; omega)
    unfold PBlk at hp ⊢
    rw [e2, e1, hp]
  have hb1 : Below B w1 w' := (hb.alloc (by omega) o).grown hg (by simp; omega) (by intro j hj; have := hrow j hj; omega)
  exact ⟨hp1, by rw [List.map_append]; exact ownsRow_setCell_below hown (by simp) _, hb1.setCell (by simp) _, hp1.set v'⟩
end

theorem picture_any (a b c d st : Int) (n cp : Nat) (A : Option Addr) (bs : List Int) (w : World) (hr : RdU w w.heap.size A n bs) :
    Calls Try.prog 13 #[.agg #[.int .i64 a, .int .i64 b, .int .i64 c, .int .i64 d], .int .i64 st, .slice A n cp] w (PicOut a b c d st n bs w) := by
  have HR := Lib.hid hr
  have hn : n ≤ 4000000 := hr.2.1
  clear hr
  obtain ⟨i0, hi, hz0, hz1, hz2⟩ := info_parts (show (Try.prog.info? 3).map (fun i => (i.zero, i.size, i.bytes)) = some (some (.int .i64 0), 1, 8) from by kernel_rfl)
  go_enter Try.func13, Try.ntmps13
  go_wp2_with fail
  refine (plain4 _ _ _ _ _).mono ?_
  rintro e w1 ⟨rfl, b1⟩
  go_wp2_with fail
  have hz8 : w.heap.size + 2 ≤ w1.heap.size := by have := b1.size; simpa using this
  have b0 : Below w.heap.size w w1 := (((Below.refl _ _).alloc (Nat.le_refl _) _).alloc (by simp) _).trans (b1.mono (by simp; omega))
  have p6 : PBlk w1 (w.heap.size + 1) 0 0 0 0 0 (.slice none 0 0) := (b1.block _ (by simp)).trans (heap_new2 w _ _)
  have P6 := Lib.hid p6
  have B0 := Lib.hid b0
  clear b1 p6 b0
  go_loopw [16, 9] (fun i _ wr => ∃ (k : Nat) (v : Value), k ≤ n ∧ i = .int .i64 k ∧ Hid (PBlk wr w1.heap.size a b c d st v) ∧ Hid (wr.ownsRow (w1.heap.size + 1) 3 1 v k ((bs.take k).map (Value.int .i64))) ∧ Hid (Below w1.heap.size w1 wr)) (fun i _ _ => n - (intOf i).toNat)
  case atStart => exact ⟨0, .slice none 0 0, by omega, rfl, heap_alloc_new w1 _, World.ownsRow_nil _ _ _ _, (Below.refl _ _).alloc (Nat.le_refl _) _⟩
  case round =>
    obtain ⟨k, v, hk, rfl, HP, HO, HB⟩ := hrel
    obtain ⟨hl, _, hbyte, hrd⟩ := HR.out
    obtain ⟨_, _, _, _, _, c5⟩ := HP.out.cell
    have f5 := HP.out.free 5
    by_cases hlt : k < n
    · obtain ⟨g, off, rfl, hg, hc⟩ := hrd (by omega)
      have x1 : wr.cell? ⟨g, off + k, none⟩ = some (.int .u8 (bs.getD k 0)) := (HB.out.cell (p := ⟨g, off + k, none⟩) (by show g < w1.heap.size; omega)).trans ((B0.out.cell (p := ⟨g, off + k, none⟩) hg).trans (hc k hlt))
      have hz : 0 ≤ bs.getD k 0 ∧ bs.getD k 0 ≤ 255 := hbyte _ (by simp [List.getD, show k < bs.length by omega])
      have HT := Lib.hid (take_snoc bs k (by omega))
      generalize bs.getD k 0 = z at x1 hz HT
      obtain ⟨z1, z2⟩ := hz
      clear hc hrd hl hbyte
      have hown := HO.out
      have hlw := HP.out.lt
      go_wp2_with (first
        | (at_builtin; refine wpList_append_own _ rfl _ _ 24 rfl (w1.heap.size + 1) 3 i0 (.int .i64 0) 1 8 Try.underlying24 hi hz0 hz1 hz2 rfl (by decide) _ _ _ rfl (hown.alloc _) ⟨wr.heap.size, 0, none⟩ 1 1 [.int .i64 z] rfl rfl ?c1 ?c2 ?c3 ?c4 ?c5 ?_))
      case c1 =>
        intro j u hj
        match j, hj with
        | 0, hj => simp at hj; subst hj; simp [Addr.add]
      case c2 => intro u hu; simp at hu; subst hu; rfl
      case c3 => unfold maxLen; omega
      case c4 => omega
      case c5 => simp; omega
      intro v' w2 hown' hgrow _
      obtain ⟨A', cp', rfl⟩ := own_slice hown'
      rw [← List.map_take] at hown'
      obtain ⟨q1, q2, q3, q4⟩ := pic_step rfl HP.out HB.out hown' (fun j hj => (hown.lt j hj).1) hgrow
      obtain ⟨_, _, _, _, _, y5⟩ := q1.cell
      have y6 := q1.free 5
      have Q2 := Lib.hid q2
      have Q3 := Lib.hid q3
      have Q4 := Lib.hid q4
      clear hown' hgrow hown q1 q2 q3 q4 c5 f5 x1
      go_wp2
      go_roundw
      case rel => exact ⟨k + 1, .slice A' (k + 1) cp', by omega, by go_num, Q4, by rw [HT.out]; exact Q2, Q3⟩
      case measure => simp [intOf]; omega
    · obtain rfl : k = n := by omega
      obtain ⟨A', cp', rfl⟩ := own_slice HO.out
      obtain ⟨o0, o1, o2, o3, o4, o5⟩ := HP.out.cell
      have l1 : w.heap.size + 1 < w1.heap.size := by omega
      have r6 : PBlk wr (w.heap.size + 1) 0 0 0 0 0 (.slice none 0 0) := (HB.out.block _ l1).trans P6.out
      obtain ⟨s0, s1, s2, s3, s4, s5⟩ := r6.cell
      have g0 := r6.free 0
      have g1 := r6.free 1
      have g2 := r6.free 2
      have g3 := r6.free 3
      have g4 := r6.free 4
      have g5 := r6.free 5
      clear hrd hbyte
      go_wp2
      refine bodyPost_ret (v := .agg #[.int .i64 a, .int .i64 b, .int .i64 c, .int .i64 d, .int .i64 st, .slice A' k cp']) (by simp [results, Try.results13, go_sem, s0, s1, s2, s3, s4, s5]) rfl ?_
      have own1 := ownsRow_setCell_below (ownsRow_setCell_below (ownsRow_setCell_below (ownsRow_setCell_below (ownsRow_setCell_below (ownsRow_setCell_below HO.out (a := ⟨w.heap.size + 1, 0, none⟩) (by show w.heap.size + 1 < _; omega) (.int .i64 a)) (a := ⟨w.heap.size + 1, 1, none⟩) (by show w.heap.size + 1 < _; omega) (.int .i64 b)) (a := ⟨w.heap.size + 1, 2, none⟩) (by show w.heap.size + 1 < _; omega) (.int .i64 c)) (a := ⟨w.heap.size + 1, 3, none⟩) (by show w.heap.size + 1 < _; omega) (.int .i64 d)) (a := ⟨w.heap.size + 1, 4, none⟩) (by show w.heap.size + 1 < _; omega) (.int .i64 st)) (a := ⟨w.heap.size + 1, 5, none⟩) (by show w.heap.size + 1 < _; omega) (.slice A' k cp')
      have hbs : bs.take k = bs := List.take_of_length_le (by omega)
      rw [hbs] at own1
      obtain ⟨A2, c2, e2, rd2, lo2⟩ := Rd.of_own own1 (by omega) (fun z hz => by have := HR.out.2.2.1 z hz; unfold I64; omega)
      simp only [Value.slice.injEq, true_and] at e2
      obtain ⟨rfl, rfl⟩ := e2
      have bb : Below w.heap.size w wr := B0.out.trans (HB.out.mono B0.out.size)
      exact ⟨A', cp', rfl, rd2, fun b o h => by have := lo2 b o h; have := B0.out.size; omega, (((((bb.setCell (Nat.le_succ _) _).setCell (Nat.le_succ _) _).setCell (Nat.le_succ _) _).setCell (Nat.le_succ _) _).setCell (Nat.le_succ _) _).setCell (Nat.le_succ _) _⟩

end Go.Proofs.Ytpllecddmpdaiaa
