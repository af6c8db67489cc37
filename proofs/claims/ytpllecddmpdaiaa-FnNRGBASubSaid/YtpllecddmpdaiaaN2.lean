/-
  Contracts: the number of bytes of a new image, a new image, filling it, and what it has as data. No condition.
-/
import Derived.Test.YtpllecddmpdaiaaI1
import Derived.Laws.MakeOwn
namespace Go.Proofs.Ytpllecddmpdaiaa
open Go.ChangeShapes Go.WideShapes Go.ChangeAt Go.RowKit
set_option linter.unusedVariables false
set_option linter.unusedSimpArgs false

theorem mul3_any (m x y : Int) (N : Nat) (h1 : 0 ≤ m) (h2 : m ≤ 4) (h3 : 0 ≤ x) (h4 : x ≤ 1000) (h5 : 0 ≤ y) (h6 : y ≤ 1000) (hN : m * x * y = N) (w : World) :
    Calls Try.prog 28 #[.int .i64 m, .int .i64 x, .int .i64 y] w fun e w' => e = .returned (.int .i64 N) ∧ w = w' := by
  have k1 : 0 ≤ m * x := Int.mul_nonneg h1 h3
  have k2 : m * x ≤ 4 * 1000 := Int.mul_le_mul h2 h4 h3 (by decide)
  have k3 : m * x * y ≤ 4000 * 1000 := Int.mul_le_mul (by omega) h6 h5 (by decide)
  have k4 : (N : Int) ≤ 4000000 := by omega
  have k5 : (0 : Int) ≤ N := by omega
  have kb : ((N : Int) != (N : Int)) = false := by simp
  have HN := Lib.hid hN
  clear hN
  go_enter Try.func28, Try.ntmps28
  go_wp2_with fail
  refine (mul64_small m x h1 (by omega) h3 (by omega) (by omega) _).mono ?_
  rintro e w1 ⟨rfl, rfl⟩
  go_wp2_with fail
  refine (mul64_small (m * x) y k1 (by omega) h5 (by omega) (by omega) _).mono ?_
  rintro e w2 ⟨rfl, rfl⟩
  rw [HN.out]
  go_wp2_with fail
  go_ret
  exact ⟨rfl, rfl⟩

theorem pbl_any (m a b c d : Int) (s : ByteArray) (N : Nat) (h1 : 0 ≤ m) (h2 : m ≤ 4) (h3 : 0 ≤ c - a) (h4 : c - a ≤ 1000) (h5 : 0 ≤ d - b) (h6 : d - b ≤ 1000) (hN : m * (c - a) * (d - b) = N) (w : World) :
    Calls Try.prog 25 #[.int .i64 m, .agg #[.int .i64 a, .int .i64 b, .int .i64 c, .int .i64 d], .string s] w fun e w' => e = .returned (.int .i64 N) ∧ Below w.heap.size w w' := by
  have HN := Lib.hid hN
  clear hN
  have k5 : (0 : Int) ≤ N := by omega
  have bw : Below w.heap.size w (w.alloc (.cells #[.int .i64 a, .int .i64 b, .int .i64 c, .int .i64 d] 47)) := (Below.refl _ _).alloc (Nat.le_refl _) _
  go_enter Try.func25, Try.ntmps25
  go_wp2_with fail
  go_region_held3 (fun w' => w'.cell? ⟨w.heap.size, 0, none⟩ = some (.int .i64 a) ∧ w'.cell? ⟨w.heap.size, 1, none⟩ = some (.int .i64 b) ∧ w'.cell? ⟨w.heap.size, 2, none⟩ = some (.int .i64 c) ∧ w'.cell? ⟨w.heap.size, 3, none⟩ = some (.int .i64 d)) (go_keep)
    (first
      | (go_at_call 26; refine (dx_any _ _ _ _ (by unfold I64; omega) _).mono ?_; rintro e wt ⟨rfl, bt⟩; obtain ⟨hct, _⟩ := bcell bt; have zt : w.heap.size < wt.heap.size := Nat.lt_of_lt_of_le (by first | assumption | simp) bt.size; have bw : Below w.heap.size w wt := (by first | exact bw.trans (bt.mono bw.size) | exact bw.drew.trans (bt.mono bw.size)))
      | (go_at_call 29; refine (dy_any _ _ _ _ (by unfold I64; omega) _).mono ?_; rintro e wu ⟨rfl, bu⟩; obtain ⟨hcu, _⟩ := bcell bu; have zu : w.heap.size < wu.heap.size := Nat.lt_of_lt_of_le (by first | assumption | simp) bu.size; have bw : Below w.heap.size w wu := bw.trans (bu.mono bw.size))
      | (go_at_call 28; refine (mul3_any _ _ _ _ h1 h2 h3 h4 h5 h6 HN.out _).mono ?_; rintro e wv ⟨rfl, rfl⟩))
  go_wp2
  go_ret
  exact ⟨rfl, bw⟩

/-- The cells of bytes. -/
def pixCells (bs : List Int) : Array Value := (bs.map (Value.int .u8)).toArray
/-- Block g holds the bytes bs. -/
def Pix (w : World) (g : Nat) (bs : List Int) : Prop := w.heap[g]? = some (.cells (pixCells bs) 5 (0, 0)) ∧ ∀ z ∈ bs, 0 ≤ z ∧ z ≤ 255
/-- Block gp holds an image whose bytes begin in block gb at off, 'len' of them. -/
def Img (w : World) (gp gb off len : Nat) (st a b c d : Int) : Prop :=
  w.heap[gp]? = some (.cells #[.slice (some ⟨gb, off, none⟩) len len, .int .i64 st, .int .i64 a, .int .i64 b, .int .i64 c, .int .i64 d] 52 (0, 0))

/-- A call that returns a new image with the bytes bs. -/
def NewImg (N : Nat) (st a b c d : Int) (bs : List Int) (w : World) (e : Ending) (w' : World) : Prop :=
  ∃ gp gb, e = .returned (.pointer (some ⟨gp, 0, none⟩)) ∧ w.heap.size ≤ gp ∧ w.heap.size ≤ gb ∧ Img w' gp gb 0 N st a b c d ∧ Pix w' gb bs ∧ Below w.heap.size w w'

theorem made_zero (N : Nat) : madeCells #[Value.int .u8 0] (N * 1) = pixCells (List.replicate N 0) := by
  unfold madeCells pixCells
  apply Array.ext
  · simp
  · intro i h1 h2
    simp [Nat.mod_one]

section
variable {N : Nat} {st a b c d : Int} {bs : List Int} {w wt wu : World}
theorem newimg_a (bw : Below w.heap.size w wt) (bu : Below (wt.alloc (.cells (pixCells bs) 5)).heap.size (wt.alloc (.cells (pixCells bs) 5)) wu) (hb : ∀ z ∈ bs, 0 ≤ z ∧ z ≤ 255) :
    NewImg N st a b c d bs w (.returned (.pointer (some ⟨wu.heap.size, 0, none⟩))) (wu.alloc (.cells #[.slice (some ⟨wt.heap.size, 0, none⟩) N N, .int .i64 st, .int .i64 a, .int .i64 b, .int .i64 c, .int .i64 d] 52)) := by
  have hsz : wt.heap.size + 1 ≤ wu.heap.size := by have := bu.size; simpa using this
  have hb2 : Below w.heap.size w wu := (bw.alloc bw.size _).trans (bu.mono (by have := bw.size; simp; omega))
  refine ⟨wu.heap.size, wt.heap.size, rfl, hb2.size, bw.size, heap_alloc_new wu _, ⟨?_, hb⟩, hb2.alloc hb2.size _⟩
  rw [Below.heap_alloc _ _ _ (by omega), bu.block _ (by simp)]
  exact heap_alloc_new wt _
theorem newimg_b (bw : Below w.heap.size w wt) (bu : Below wt.heap.size wt wu) (hb : ∀ z ∈ bs, 0 ≤ z ∧ z ≤ 255) :
    NewImg N st a b c d bs w (.returned (.pointer (some ⟨wu.heap.size + 1, 0, none⟩))) ((wu.alloc (.cells (pixCells bs) 5)).alloc (.cells #[.slice (some ⟨wu.heap.size, 0, none⟩) N N, .int .i64 st, .int .i64 a, .int .i64 b, .int .i64 c, .int .i64 d] 52)) := by
  have hb2 : Below w.heap.size w wu := bw.trans (bu.mono bw.size)
  refine ⟨wu.heap.size + 1, wu.heap.size, rfl, Nat.le_succ_of_le hb2.size, hb2.size, heap_new2 wu _ _, ⟨?_, hb⟩, (hb2.alloc hb2.size _).alloc (by have := hb2.size; simp; omega) _⟩
  rw [Below.heap_alloc _ _ _ (by simp)]
  exact heap_alloc_new wu _
end
theorem zeros_ok (N : Nat) : ∀ z ∈ List.replicate N (0 : Int), 0 ≤ z ∧ z ≤ 255 := by
  intro z hz
  have := (List.mem_replicate.1 hz).2
  omega

theorem newNRGBA_any (a b c d : Int) (N : Nat) (h3 : 0 ≤ c - a) (h4 : c - a ≤ 1000) (h5 : 0 ≤ d - b) (h6 : d - b ≤ 1000) (hN : 4 * (c - a) * (d - b) = N) (w : World) :
    Calls Try.prog 17 #[.agg #[.int .i64 a, .int .i64 b, .int .i64 c, .int .i64 d]] w (NewImg N (4 * (c - a)) a b c d (List.replicate N 0) w) := by
  have HN := Lib.hid hN
  have k4 : 4 * (c - a) * (d - b) ≤ 4000 * 1000 := Int.mul_le_mul (by omega) h6 h5 (by decide)
  have k5 : N ≤ 4000000 := by omega
  clear hN k4
  have e1 : IntKind.i64.wrap (4 * (c - a)) = 4 * (c - a) := IntWalk.i64_in _ ⟨by omega, by omega⟩
  have e2 : IntKind.i64.wrap (c - a) = c - a := IntWalk.i64_in _ ⟨by omega, by omega⟩
  obtain ⟨i0, hi, hz0, hz1, hz2⟩ := info_parts (show (Try.prog.info? 5).map (fun i => (i.zero, i.size, i.bytes)) = some (some (.int .u8 0), 1, 1) from by kernel_rfl)
  have hmk : ∀ W : World, (Instr.makeSlice 50 (.int .i64 (N : Int)) (.int .i64 (N : Int))).run Try.prog W = .ok (.slice (some ⟨W.heap.size, 0, none⟩) N N) (W.alloc (.cells (pixCells (List.replicate N 0)) 5)) := by
    intro W
    have hr := run_make (P := Try.prog) W 50 5 i0 (.int .u8 0) Try.underlying50 hi hz0 .i64 .i64 N N (by omega) (by omega) (by rw [hz2]; omega) (by omega)
    rw [hr]
    simp only [Int.toNat_natCast, hz1, Value.cells, made_zero]
  clear hi hz0 hz1 hz2
  have bw : Below w.heap.size w (w.alloc (.cells #[.int .i64 a, .int .i64 b, .int .i64 c, .int .i64 d] 47)) := (Below.refl _ _).alloc (Nat.le_refl _) _
  go_enter Try.func17, Try.ntmps17
  go_wp2_with fail
  go_region_held3 (fun w' => w'.cell? ⟨w.heap.size, 0, none⟩ = some (.int .i64 a) ∧ w'.cell? ⟨w.heap.size, 1, none⟩ = some (.int .i64 b) ∧ w'.cell? ⟨w.heap.size, 2, none⟩ = some (.int .i64 c) ∧ w'.cell? ⟨w.heap.size, 3, none⟩ = some (.int .i64 d)) (first | go_keep | (refine ⟨?_, ?_, ?_, ?_⟩ <;> (rw [World.cell?_alloc_lt _ _ _ (by assumption)]; simp only [*])))
    (first
      | (go_at_call 25; refine (pbl_any _ _ _ _ _ _ N (by omega) (by omega) h3 h4 h5 h6 HN.out _).mono ?_; rintro e wt ⟨rfl, bt⟩; obtain ⟨hct, _⟩ := bcell bt; have zt : w.heap.size < wt.heap.size := Nat.lt_of_lt_of_le (by first | assumption | simp) bt.size; have zt1 : w.heap.size < wt.heap.size + 1 := Nat.lt_succ_of_lt zt; have zt2 : ¬ w.heap.size = wt.heap.size := Nat.ne_of_lt zt; have bw : Below w.heap.size w wt := (by first | exact bw.trans (bt.mono bw.size) | exact bw.drew.trans (bt.mono bw.size)))
      | (go_at_call 26; refine (dx_any _ _ _ _ (by unfold I64; omega) _).mono ?_; rintro e wu ⟨rfl, bu⟩; obtain ⟨hcu, _⟩ := bcell bu; have zu : w.heap.size < wu.heap.size := Nat.lt_of_lt_of_le (by first | exact zt | exact zt1 | (simp; omega)) bu.size; have zu2 : ¬ w.heap.size = wu.heap.size := Nat.ne_of_lt zu))
  all_goals go_wp2
  all_goals go_ret
  all_goals first | exact newimg_a bw bu (zeros_ok N) | exact newimg_b bw bu (zeros_ok N)

end Go.Proofs.Ytpllecddmpdaiaa
