/-
  Contracts of the reference's functions on images. No condition.
-/
import Derived.Test.YtpllecddmpdaiaaN4
namespace Go.Proofs.Ytpllecddmpdaiaa
open Go.ChangeShapes Go.WideShapes Go.ChangeAt Go.RowKit
set_option linter.unusedVariables false
set_option linter.unusedSimpArgs false

theorem low_num (c : Int) (hc : I64 c) : (wrap64 (c.tmod 256 + 256)).tmod 256 = c % 256 := by
  have hb : -256 < c.tmod 256 ∧ c.tmod 256 < 256 := by
    constructor
    · have := Int.lt_tmod_of_pos c (show (0 : Int) < 256 by decide); omega
    · exact Int.tmod_lt_of_pos c (by decide)
  rw [IntWalk.wrap64_in _ ⟨by omega, by omega⟩, Int.tmod_eq_emod_of_nonneg (by omega)]
  have e : c.tmod 256 = c - 256 * c.tdiv 256 := by have := Int.mul_tdiv_add_tmod c 256; omega
  rw [e]; omega

theorem slow_any (c : Int) (hc : I64 c) (w : World) :
    Calls Try.prog 27 #[.int .i64 c] w fun e w' => e = .returned (.int .i64 (c % 256)) ∧ w = w' := by
  have hn := Lib.hid (low_num c hc)
  obtain ⟨h1, h2⟩ := hc
  go_enter Try.func27, Try.ntmps27
  go_wp2
  go_ret
  refine ⟨?_, rfl⟩
  rw [← hn.out]; rfl

theorem sHas_yes (a b c d x y : Int) (h : In a b c d x y) (w : World) :
    Calls Try.prog 14 #[.agg #[.int .i64 a, .int .i64 b, .int .i64 c, .int .i64 d], .int .i64 x, .int .i64 y] w fun e w' => e = .returned (.bool true) ∧ Below w.heap.size w w' := by
  obtain ⟨h1, h2, h3, h4⟩ := h
  go_enter Try.func14, Try.ntmps14
  go_wp2
  go_ret
  exact ⟨rfl, (Below.refl _ _).alloc (Nat.le_refl _) _⟩

theorem sHas_no (a b c d x y : Int) (h : ¬ In a b c d x y) (w : World) :
    Calls Try.prog 14 #[.agg #[.int .i64 a, .int .i64 b, .int .i64 c, .int .i64 d], .int .i64 x, .int .i64 y] w fun e w' => e = .returned (.bool false) ∧ Below w.heap.size w w' := by
  unfold In at h
  by_cases h1 : a ≤ x
  · by_cases h2 : x < c
    · by_cases h3 : b ≤ y
      · have h4 : ¬ y < d := by omega
        clear h
        go_enter Try.func14, Try.ntmps14
        go_wp2
        go_ret
        exact ⟨rfl, (Below.refl _ _).alloc (Nat.le_refl _) _⟩
      · clear h
        go_enter Try.func14, Try.ntmps14
        go_wp2
        go_ret
        exact ⟨rfl, (Below.refl _ _).alloc (Nat.le_refl _) _⟩
    · clear h
      go_enter Try.func14, Try.ntmps14
      go_wp2
      go_ret
      exact ⟨rfl, (Below.refl _ _).alloc (Nat.le_refl _) _⟩
  · clear h
    go_enter Try.func14, Try.ntmps14
    go_wp2
    go_ret
    exact ⟨rfl, (Below.refl _ _).alloc (Nat.le_refl _) _⟩

theorem slow_same (c : Int) (hc : I64 c) (w : World) :
    Calls Try.prog 27 #[.int .i64 c] w fun e w' => e = .returned (.int .i64 (c % 256)) ∧ w' = w :=
  (slow_any c hc w).mono fun _ _ ⟨h, k⟩ => ⟨h, k.symm⟩

theorem place_any (a b c d st m x y o : Int) (h1 : 0 ≤ y - b) (h2 : y - b ≤ 1000) (h3 : 0 ≤ x - a) (h4 : x - a ≤ 1000) (h5 : 0 ≤ st) (h6 : st ≤ 4000) (h7 : 0 ≤ m) (h8 : m ≤ 4) (ho : (y - b) * st + (x - a) * m = o) (w : World) :
    Calls Try.prog 23 #[.agg #[.int .i64 a, .int .i64 b, .int .i64 c, .int .i64 d], .int .i64 st, .int .i64 m, .int .i64 x, .int .i64 y] w fun e w' => e = .returned (.int .i64 o) ∧ Below w.heap.size w w' := by
  have k1 : 0 ≤ (y - b) * st := Int.mul_nonneg h1 h5
  have k2 : (y - b) * st ≤ 1000 * 4000 := Int.mul_le_mul h2 h6 h5 (by decide)
  have k3 : 0 ≤ (x - a) * m := Int.mul_nonneg h3 h7
  have k4 : (x - a) * m ≤ 1000 * 4 := Int.mul_le_mul h4 h8 h7 (by decide)
  subst ho
  go_enter Try.func23, Try.ntmps23
  go_wp2
  go_ret
  exact ⟨rfl, (Below.refl _ _).alloc (Nat.le_refl _) _⟩

/-- Block g holds the numbers zs, each in 0..255. -/
def IPix (w : World) (g : Nat) (zs : List Int) : Prop := w.heap[g]? = some (.cells (zs.map (Value.int .i64)).toArray 3 (0, 0)) ∧ ∀ z ∈ zs, 0 ≤ z ∧ z ≤ 255
section
variable {w w' : World} {g : Nat} {bs : List Int}
theorem IPix.lt (h : IPix w g bs) : g < w.heap.size := (Array.getElem?_eq_some_iff.1 h.1).1
theorem IPix.cell (h : IPix w g bs) {i : Nat} (hi : i < bs.length) : w.cell? ⟨g, i, none⟩ = some (.int .i64 (bs.getD i 0)) := by
  rw [cell_of_row w g i _ _ (0, 0) h.1]
  simp [List.getD, hi]
theorem IPix.free (h : IPix w g bs) (i : Nat) : w.frozen? ⟨g, i, none⟩ = false := by simp [World.frozen?, h.1]
theorem IPix.keep (h : IPix w g bs) (hb : w'.heap[g]? = w.heap[g]?) : IPix w' g bs := ⟨hb.trans h.1, h.2⟩
theorem IPix.below (h : IPix w g bs) (hb : Below w.heap.size w w') : IPix w' g bs := h.keep (hb.block g h.lt)
theorem IPix.set (h : IPix w g bs) (i : Nat) (z : Int) (h0 : 0 ≤ z) (h1 : z ≤ 255) : IPix (w.setCell ⟨g, i, none⟩ (.int .i64 z)) g (bs.set i z) := by
  refine ⟨?_, fun y hy => ?_⟩
  · have := h.1
    simp [World.setCell, Array.getElem?_modify, this, List.map_set]
  · rcases List.mem_or_eq_of_mem_set hy with hy | rfl
    · exact h.2 y hy
    · exact ⟨h0, h1⟩
theorem IPix.rd (h : IPix w g bs) {n : Nat} (hl : bs.length = n) (hn : n ≤ 4000000) : Rd w w.heap.size (some ⟨g, 0, none⟩) n bs :=
  ⟨hl, by omega, fun z hz => by have := h.2 z hz; unfold I64; omega, fun _ => ⟨g, 0, rfl, h.lt, fun j hj => by rw [Nat.zero_add]; exact h.cell (by omega)⟩⟩
end

theorem made_ints (N : Nat) : (madeCells #[Value.int .i64 0] (N * 1)) = ((List.replicate N (0 : Int)).map (Value.int .i64)).toArray := by
  unfold madeCells
  apply Array.ext
  · simp
  · intro i h1 h2
    simp [Nat.mod_one]

set_option maxRecDepth 100000 in
theorem filled_any (a b c d m : Int) (M N n cp : Nat) (Z : Option Addr) (zs : List Int) (h1 : 0 ≤ m) (h2 : m ≤ 4) (h3 : 0 ≤ c - a) (h4 : c - a ≤ 1000) (h5 : 0 ≤ d - b) (h6 : d - b ≤ 1000) (hM : (c - a) * (d - b) = M) (hN : (M : Int) * m = N) (w : World) (hr : Rd w w.heap.size Z n zs) :
    Calls Try.prog 24 #[.agg #[.int .i64 a, .int .i64 b, .int .i64 c, .int .i64 d], .int .i64 m, .slice Z n cp] w fun e w' => ∃ g, e = .returned (.slice (some ⟨g, 0, none⟩) N N) ∧ w.heap.size ≤ g ∧ IPix w' g (byt N zs) ∧ Below w.heap.size w w' := by
  have k4 : (c - a) * (d - b) ≤ 1000 * 1000 := Int.mul_le_mul h4 h6 h5 (by decide)
  have k5 : (M : Int) ≤ 1000000 := by omega
  have k6 : (M : Int) * m ≤ 1000000 * 4 := Int.mul_le_mul k5 h2 h1 (by decide)
  have k7 : N ≤ 4000000 := by omega
  have k8 : 0 ≤ (c - a) * (d - b) := Int.mul_nonneg h3 h5
  have k9 : 0 ≤ (M : Int) * m := Int.mul_nonneg (by omega) h1
  obtain ⟨hn, hn8, hz, hc⟩ := hr
  have HC := Lib.hid hc
  have HZ := Lib.hid hz
  have HL := Lib.hid hn
  clear hc hz hn
  obtain ⟨i0, hi, hz0, hz1, hz2⟩ := info_parts (show (Try.prog.info? 3).map (fun i => (i.zero, i.size, i.bytes)) = some (some (.int .i64 0), 1, 8) from by kernel_rfl)
  have hmk : ∀ W : World, (Instr.makeSlice 24 (.int .i64 (N : Int)) (.int .i64 (N : Int))).run Try.prog W = .ok (.slice (some ⟨W.heap.size, 0, none⟩) N N) (W.alloc (.cells ((List.replicate N (0 : Int)).map (Value.int .i64)).toArray 3)) := by
    intro W
    have hr := run_make (P := Try.prog) W 24 3 i0 (.int .i64 0) Try.underlying24 hi hz0 .i64 .i64 N N (by omega) (by omega) (by rw [hz2]; omega) (by omega)
    rw [hr]
    simp only [Int.toNat_natCast, hz1, Value.cells, made_ints]
  clear hi hz0 hz1 hz2
  generalize hcs : ((List.replicate N (0 : Int)).map (Value.int .i64)).toArray = cs at hmk
  have HCS := Lib.hid hcs
  clear hcs
  go_enter Try.func24, Try.ntmps24
  go_wp2
  have hp0 : IPix ((w.alloc (.cells #[.int .i64 a, .int .i64 b, .int .i64 c, .int .i64 d] 25)).alloc (.cells cs 3)) (w.heap.size + 1) (List.replicate N 0) := by
    rw [← HCS.out]
    exact ⟨heap_new2 w _ _, fun z hz => by have := (List.mem_replicate.1 hz).2; omega⟩
  have HP := Lib.hid hp0
  have b0 := Lib.hid (((Below.refl w.heap.size w).alloc (Nat.le_refl _) (.cells #[.int .i64 a, .int .i64 b, .int .i64 c, .int .i64 d] 25)).alloc (by simp) (.cells cs 3))
  clear hp0 k4 k6 k8 k9 hM hN hmk
  go_loopw [25, 8] (fun i _ wr => ∃ (k : Nat), k ≤ N ∧ i = .int .i64 k ∧ Hid (IPix wr (w.heap.size + 1) (byt k zs ++ List.replicate (N - k) 0)) ∧ Hid (Below w.heap.size w wr)) (fun i _ _ => N - (intOf i).toNat)
  case atStart => exact ⟨0, by omega, rfl, HP, b0⟩
  case round =>
    obtain ⟨k, hk, rfl, HK, HB⟩ := hrel
    by_cases h1 : k < N
    · have step : byt k zs ++ List.replicate (N - k) 0 = byt k zs ++ 0 :: List.replicate (N - (k + 1)) 0 := by
        rw [show N - k = (N - (k + 1)) + 1 by omega, List.replicate_succ]
      by_cases h2 : k < n
      · obtain ⟨b', off, rfl, hb, hcell⟩ := HC.out (by omega)
        have x1 : wr.cell? ⟨b', off + k, none⟩ = some (.int .i64 (zs.getD k 0)) := (HB.out.cell (p := ⟨b', off + k, none⟩) hb).trans (hcell k h2)
        have x2 := HK.out.cell (i := k) (by simp [byt_length]; omega)
        have x3 := HK.out.free k
        have xz : I64 (zs.getD k 0) := HZ.out _ (by have := HL.out; simp [List.getD, show k < zs.length by omega])
        generalize hv : (byt k zs ++ List.replicate (N - k) 0).getD k 0 = v0 at x2
        clear hv hcell
        have STEP := Lib.hid step
        clear step
        go_wp2_with fail
        refine (slow_any _ xz _).mono ?_
        rintro e w1 ⟨rfl, rfl⟩
        go_wp2_with fail
        go_roundw
        case rel =>
          refine ⟨k + 1, by omega, by go_num, ?_, HB.out.setCell (Nat.le_succ _) _⟩
          have := HK.out.set k (zs.getD k 0 % 256) (by omega) (by omega)
          have e : (byt k zs ++ List.replicate (N - k) 0).set k (zs.getD k 0 % 256) = byt (k + 1) zs ++ List.replicate (N - (k + 1)) 0 := by
            rw [STEP.out, List.set_append_right _ _ (by simp [byt_length]), byt_length, Nat.sub_self, List.set_cons_zero]
            simp [byt, List.range_succ]
          rw [e] at this
          simpa [Hid] using this
        case measure => simp [intOf]; omega
      · have STEP := Lib.hid step
        clear step
        go_wp2
        go_roundw
        case rel =>
          refine ⟨k + 1, by omega, by go_num, ?_, HB⟩
          have e : byt k zs ++ List.replicate (N - k) 0 = byt (k + 1) zs ++ List.replicate (N - (k + 1)) 0 := by
            have hzl := HL.out
            rw [STEP.out]
            simp [byt, List.range_succ, List.getElem?_eq_none (show zs.length ≤ k by omega)]
          rw [← e]; exact HK
        case measure => simp [intOf]; omega
    · obtain rfl : k = N := by omega
      go_wp2
      go_ret
      have := HK.out
      rw [Nat.sub_self, List.replicate_zero, List.append_nil] at this
      exact ⟨w.heap.size + 1, by simp, Nat.le_succ _, this, HB.out⟩

end Go.Proofs.Ytpllecddmpdaiaa
