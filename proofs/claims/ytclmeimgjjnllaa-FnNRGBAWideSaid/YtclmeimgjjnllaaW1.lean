/-
  Contracts of the functions on wide colors: what they return for every argument, and that they leave old memory alone. No condition.
-/
import Derived.Test.YtclmeimgjjnllaaBase
import Derived.Laws.BitsAllLaws
import Derived.StillTailTactics
namespace Go.Proofs.Ytclmeimgjjnllaa
open Go.ChangeShapes Go.WideShapes Go.ChangeAt Go.RowKit

theorem low_num (c : Int) (hc : I64 c) : (wrap64 (c.tmod 256 + 256)).tmod 256 = c % 256 := by
  have h1 : c.tmod 256 + 256 = c.tmod 256 + 256 := rfl
  have hb : -256 < c.tmod 256 ∧ c.tmod 256 < 256 := by
    constructor
    · have := Int.lt_tmod_of_pos c (show (0 : Int) < 256 by decide); omega
    · exact Int.tmod_lt_of_pos c (by decide)
  rw [IntWalk.wrap64_in _ ⟨by omega, by omega⟩, Int.tmod_eq_emod_of_nonneg (by omega)]
  have e : c.tmod 256 = c - 256 * c.tdiv 256 := by have := Int.mul_tdiv_add_tmod c 256; omega
  rw [e]; omega

theorem low_any (c : Int) (hc : I64 c) (w : World) :
    Calls Try.prog 15 #[.int .i64 c] w fun e w' => e = .returned (.int .i64 (c % 256)) ∧ w = w' := by
  have hn := Lib.hid (low_num c hc)
  obtain ⟨h1, h2⟩ := hc
  go_enter Try.func15, Try.ntmps15
  go_wp2
  go_ret
  refine ⟨?_, rfl⟩
  rw [← hn.out]; rfl

theorem slow_any (c : Int) (hc : I64 c) (w : World) :
    Calls Try.prog 20 #[.int .i64 c] w fun e w' => e = .returned (.int .i64 (c % 256)) ∧ w = w' := by
  have hn := Lib.hid (low_num c hc)
  obtain ⟨h1, h2⟩ := hc
  go_enter Try.func20, Try.ntmps20
  go_wp2
  go_ret
  refine ⟨?_, rfl⟩
  rw [← hn.out]; rfl

theorem or_257 (y : Int) (h1 : 0 ≤ y) (h2 : y ≤ 255) : bits .or .u32 y (y * 256) = y * 257 := by
  rw [u32_or y (y * 256) h1 (by omega) (by omega) (by omega)]
  have h := Nat.two_pow_add_eq_or_of_lt (i := 8) (b := y.toNat) (by omega) y.toNat
  have e : (y * 256).toNat = 2 ^ 8 * y.toNat := by omega
  rw [e, Nat.or_comm, ← h]
  omega

theorem results_four {fn : Func} {t u v x : Tmp} (h : fn.results = #[.tmp t, .tmp u, .tmp v, .tmp x]) (tmps : Array Value) (P : Program) (w : World) :
    (results fn tmps).run P w = .ok (.tuple #[tmps.getD t undef, tmps.getD u undef, tmps.getD v undef, tmps.getD x undef]) w := by simp [results, h]

theorem gray_rgba (y : Int) (h1 : 0 ≤ y) (h2 : y ≤ 255) (w : World) :
    Calls Try.prog 21 #[.agg #[.int .u8 y]] w fun e w' => e = .returned (.tuple #[.int .u32 (y * 257), .int .u32 (y * 257), .int .u32 (y * 257), .int .u32 65535]) ∧ Below w.heap.size w w' := by
  have ho := or_257 y h1 h2
  go_enter Try.func21, Try.ntmps21
  go_wp2
  refine bodyPost_ret (results_four rfl _ _ _) rfl ?_
  exact ⟨rfl, (Below.refl _ _).alloc (Nat.le_refl _) _⟩

theorem mul_le (r a : Int) (r1 : 0 ≤ r) (r2 : r ≤ 255) (a1 : 0 ≤ a) (a2 : a ≤ 255) : 0 ≤ r * 257 * a ∧ r * 257 * a ≤ 16711425 :=
  ⟨Int.mul_nonneg (by omega) a1, by have := Int.mul_le_mul (show r * 257 ≤ 65535 by omega) a2 a1 (by decide); omega⟩
theorem mul_in (r a : Int) (r1 : 0 ≤ r) (r2 : r ≤ 255) (a1 : 0 ≤ a) (a2 : a ≤ 255) : r * 257 * a % 4294967296 = r * 257 * a := by
  have := mul_le r a r1 r2 a1 a2; omega

theorem nrgba_rgba (r g b a : Int) (r1 : 0 ≤ r) (r2 : r ≤ 255) (g1 : 0 ≤ g) (g2 : g ≤ 255) (b1 : 0 ≤ b) (b2 : b ≤ 255) (a1 : 0 ≤ a) (a2 : a ≤ 255) (w : World) :
    Calls Try.prog 23 #[.agg #[.int .u8 r, .int .u8 g, .int .u8 b, .int .u8 a]] w fun e w' =>
      e = .returned (.tuple #[.int .u32 (r * 257 * a / 255), .int .u32 (g * 257 * a / 255), .int .u32 (b * 257 * a / 255), .int .u32 (a * 257)]) ∧ Below w.heap.size w w' := by
  have hr := or_257 r r1 r2
  have hg := or_257 g g1 g2
  have hb := or_257 b b1 b2
  have ha := or_257 a a1 a2
  have mr := mul_in r a r1 r2 a1 a2
  have mg := mul_in g a g1 g2 a1 a2
  have mb := mul_in b a b1 b2 a1 a2
  go_enter Try.func23, Try.ntmps23
  go_wp2
  refine bodyPost_ret (results_four rfl _ _ _) rfl ?_
  exact ⟨rfl, (Below.refl _ _).alloc (Nat.le_refl _) _⟩

/-- The call hands back four numbers in a new block; old memory is as it was. -/
def Four (a b c d : Int) (w : World) (e : Ending) (w' : World) : Prop :=
  ∃ g, e = .returned (.slice (some ⟨g, 0, none⟩) 4 4) ∧ w.heap.size ≤ g ∧ w'.heap[g]? = some (.cells #[.int .i64 a, .int .i64 b, .int .i64 c, .int .i64 d] 3 (0, 0)) ∧ Below w.heap.size w w'

theorem u8_wrap (c : Int) : IntKind.u8.wrap c = c % 256 := by simp [IntKind.wrap, IntKind.signed, IntKind.bits]

theorem gray_wide (c : Int) (w : World) :
    Calls Try.prog 11 #[.int .i64 c] w (Four (c % 256 * 257) (c % 256 * 257) (c % 256 * 257) 65535 w) := by
  have h1 : 0 ≤ c % 256 := by omega
  have h2 : c % 256 ≤ 255 := by omega
  go_enter Try.func11, Try.ntmps11
  go_wp2_with fail
  refine (gray_rgba _ h1 h2 _).mono ?_
  rintro e w1 ⟨rfl, hb⟩
  go_wp2_with fail
  go_ret
  exact ⟨w1.heap.size, rfl, hb.size, heap_alloc_new w1 _, hb.alloc hb.size _⟩

theorem sgray_wide (c : Int) (hc : I64 c) (w : World) :
    Calls Try.prog 10 #[.int .i64 c] w (Four (c % 256 * 257) (c % 256 * 257) (c % 256 * 257) 65535 w) := by
  have h1 : 0 ≤ c % 256 := by omega
  have h2 : c % 256 ≤ 255 := by omega
  go_enter Try.func10, Try.ntmps10
  go_wp2_with fail
  refine (slow_any c hc _).mono ?_
  rintro e w1 ⟨rfl, rfl⟩
  go_wp2_with fail
  go_ret
  exact ⟨w.heap.size, rfl, Nat.le_refl _, heap_alloc_new w _, (Below.refl _ _).alloc (Nat.le_refl _) _⟩

theorem toColor_any (q : Q4) (w : World) :
    Calls Try.prog 17 #[q.val] w fun e w' => e = .returned q.val ∧ Below w.heap.size w w' := by
  obtain ⟨a, b, c, d⟩ := q
  show Calls Try.prog 17 #[.agg #[.int .i64 a, .int .i64 b, .int .i64 c, .int .i64 d]] w _
  go_enter Try.func17, Try.ntmps17
  go_wp2
  exact bodyPost_ret (v := .agg #[.int .i64 a, .int .i64 b, .int .i64 c, .int .i64 d]) (by simp [results, Try.results17, go_sem]) rfl ⟨rfl, ((Below.refl _ _).alloc (Nat.le_refl _) _).alloc (by simp) _⟩

theorem nrgba_any (q : Q4) (w : World) :
    Calls Try.prog 22 #[q.val] w fun e w' => e = .returned (.agg #[.int .u8 (q.a % 256), .int .u8 (q.b % 256), .int .u8 (q.c % 256), .int .u8 (q.d % 256)]) ∧ Below w.heap.size w w' := by
  obtain ⟨a, b, c, d⟩ := q
  show Calls Try.prog 22 #[.agg #[.int .i64 a, .int .i64 b, .int .i64 c, .int .i64 d]] w _
  go_enter Try.func22, Try.ntmps22
  go_wp2
  exact bodyPost_ret (v := .agg #[.int .u8 (a % 256), .int .u8 (b % 256), .int .u8 (c % 256), .int .u8 (d % 256)]) (by simp [results, Try.results22, go_sem]) rfl ⟨rfl, ((Below.refl _ _).alloc (Nat.le_refl _) _).alloc (by simp) _⟩

theorem toColor4 (a b c d : Int) (w : World) :
    Calls Try.prog 17 #[.agg #[.int .i64 a, .int .i64 b, .int .i64 c, .int .i64 d]] w fun e w' => e = .returned (.agg #[.int .i64 a, .int .i64 b, .int .i64 c, .int .i64 d]) ∧ Below w.heap.size w w' := toColor_any ⟨a, b, c, d⟩ w
theorem Four.rd {a b c d : Int} {w w' : World} {e : Ending} (h : Four a b c d w e w') (ha : I64 a) (hb : I64 b) (hc : I64 c) (hd : I64 d) :
    ∃ g, e = .returned (.slice (some ⟨g, 0, none⟩) 4 4) ∧ w.heap.size ≤ g ∧ g < w'.heap.size ∧ Rd w' w'.heap.size (some ⟨g, 0, none⟩) 4 [a, b, c, d] ∧ w'.cell? ⟨g, 3, none⟩ = some (.int .i64 d) ∧ w'.cell? ⟨g, 0, none⟩ = some (.int .i64 a) ∧ Below w.heap.size w w' := by
  obtain ⟨g, he, hg, hh, hb'⟩ := h
  have hlt : g < w'.heap.size := (Array.getElem?_eq_some_iff.1 hh).1
  have hcell : ∀ i : Nat, w'.cell? ⟨g, i, none⟩ = (#[Value.int .i64 a, Value.int .i64 b, Value.int .i64 c, Value.int .i64 d])[i]? := fun i => cell_of_row w' g i _ _ (0, 0) hh
  refine ⟨g, he, hg, hlt, ⟨rfl, by omega, ?_, fun _ => ⟨g, 0, rfl, hlt, fun j hj => ?_⟩⟩, by rw [hcell]; rfl, by rw [hcell]; rfl, hb'⟩
  · intro z hz
    simp at hz
    rcases hz with rfl | rfl | rfl | rfl <;> assumption
  · rw [hcell]
    rcases (show j = 0 ∨ j = 1 ∨ j = 2 ∨ j = 3 by omega) with rfl | rfl | rfl | rfl <;> rfl

/-- One of the first three numbers of an NRGBA color. -/
def comp (r a : Int) : Int := r % 256 * 257 * (a % 256) / 255

theorem nrgba_wide (q : Q4) (w : World) :
    Calls Try.prog 16 #[q.val] w (Four (comp q.a q.d) (comp q.b q.d) (comp q.c q.d) (q.d % 256 * 257) w) := by
  obtain ⟨a, b, c, d⟩ := q
  have a1 : 0 ≤ a % 256 := by omega
  have a2 : a % 256 ≤ 255 := by omega
  have b1 : 0 ≤ b % 256 := by omega
  have b2 : b % 256 ≤ 255 := by omega
  have c1 : 0 ≤ c % 256 := by omega
  have c2 : c % 256 ≤ 255 := by omega
  have d1 : 0 ≤ d % 256 := by omega
  have d2 : d % 256 ≤ 255 := by omega
  have ma := mul_le _ _ a1 a2 d1 d2
  have mb := mul_le _ _ b1 b2 d1 d2
  have mc := mul_le _ _ c1 c2 d1 d2
  show Calls Try.prog 16 #[.agg #[.int .i64 a, .int .i64 b, .int .i64 c, .int .i64 d]] w _
  go_enter Try.func16, Try.ntmps16
  go_wp2_with fail
  refine (nrgba_any ⟨a, b, c, d⟩ _).mono ?_
  rintro e w1 ⟨rfl, hb⟩
  go_wp2_with fail
  refine (nrgba_rgba _ _ _ _ a1 a2 b1 b2 c1 c2 d1 d2 _).mono ?_
  rintro e w2 ⟨rfl, hb2⟩
  go_wp2_with fail
  go_ret
  have hb1 : Below w.heap.size w w1 := ((Below.refl _ _).alloc (Nat.le_refl _) _).trans (hb.mono (by simp))
  have hb3 : Below w.heap.size w w2 := hb1.trans (hb2.mono hb1.size)
  exact ⟨w2.heap.size, rfl, hb3.size, heap_alloc_new w2 _, hb3.alloc hb3.size _⟩

theorem nrgba_wide4 (a b c d : Int) (w : World) :
    Calls Try.prog 16 #[.agg #[.int .i64 a, .int .i64 b, .int .i64 c, .int .i64 d]] w (Four (comp a d) (comp b d) (comp c d) (d % 256 * 257) w) := nrgba_wide ⟨a, b, c, d⟩ w
theorem comp_range (r a : Int) : 0 ≤ comp r a ∧ comp r a ≤ a % 256 * 257 ∧ a % 256 * 257 ≤ 65535 := by
  have h1 : 0 ≤ r % 256 := by omega
  have h2 : r % 256 ≤ 255 := by omega
  have h3 : 0 ≤ a % 256 := by omega
  have h4 : a % 256 ≤ 255 := by omega
  unfold comp
  generalize r % 256 = x at *
  generalize a % 256 = y at *
  have h5 : x * 257 * y ≤ 255 * 257 * y := Int.mul_le_mul_of_nonneg_right (by omega) h3
  have h6 : 0 ≤ x * 257 * y := Int.mul_nonneg (by omega) h3
  generalize x * 257 * y = z at *
  omega
theorem slow_same (c : Int) (hc : I64 c) (w : World) :
    Calls Try.prog 20 #[.int .i64 c] w fun e w' => e = .returned (.int .i64 (c % 256)) ∧ w' = w :=
  (slow_any c hc w).mono fun _ _ ⟨h, k⟩ => ⟨h, k.symm⟩
theorem low_same (c : Int) (hc : I64 c) (w : World) :
    Calls Try.prog 15 #[.int .i64 c] w fun e w' => e = .returned (.int .i64 (c % 256)) ∧ w' = w :=
  (low_any c hc w).mono fun _ _ ⟨h, k⟩ => ⟨h, k.symm⟩

theorem snrgba_zero (q : Q4) (hq : q.ok) (hz : q.d % 256 = 0) (w : World) :
    Calls Try.prog 19 #[q.val] w (Four 0 0 0 0 w) := by
  obtain ⟨a, b, c, d⟩ := q
  obtain ⟨ha, hb, hc, hd⟩ := hq
  have hz := beq_iff_eq.2 hz
  show Calls Try.prog 19 #[.agg #[.int .i64 a, .int .i64 b, .int .i64 c, .int .i64 d]] w _
  go_enter Try.func19, Try.ntmps19
  go_wp2_with fail
  refine (slow_any d hd _).mono ?_
  rintro e w1 ⟨rfl, rfl⟩
  go_wp2_with fail
  go_ret
  exact ⟨w.heap.size + 1, by simp, by omega, heap_new2 w _ _, ((Below.refl _ _).alloc (Nat.le_refl _) _).alloc (by simp) _⟩

theorem snrgba_some (q : Q4) (hq : q.ok) (hz : ¬ q.d % 256 = 0) (w : World) :
    Calls Try.prog 19 #[q.val] w (Four (q.a % 256 * 257) (q.b % 256 * 257) (q.c % 256 * 257) 65535 w) := by
  obtain ⟨a, b, c, d⟩ := q
  obtain ⟨ha, hb, hc, hd⟩ := hq
  have hz : (d % 256 == 0) = false := beq_eq_false_iff_ne.2 hz
  have a1 : 0 ≤ a % 256 := by omega
  have a2 : a % 256 ≤ 255 := by omega
  have b1 : 0 ≤ b % 256 := by omega
  have b2 : b % 256 ≤ 255 := by omega
  have c1 : 0 ≤ c % 256 := by omega
  have c2 : c % 256 ≤ 255 := by omega
  show Calls Try.prog 19 #[.agg #[.int .i64 a, .int .i64 b, .int .i64 c, .int .i64 d]] w _
  go_enter Try.func19, Try.ntmps19
  go_wp2_with fail
  refine (slow_any d hd _).mono ?_
  rintro e w1 ⟨rfl, rfl⟩
  go_wp2_with fail
  refine region_tail 12 (by kernel_rfl) (by kernel_rfl) ?_
  simp only [List.take_succ_cons, List.take_zero, List.drop_succ_cons, List.drop_zero]
  repeat (first | still_step | still_call (slow_same _ (by assumption) _))
  refine wpStill_nil ?_
  go_wp2
  go_ret
  exact ⟨w.heap.size + 1, by simp, by omega, heap_new2 w _ _, (((Below.refl _ _).alloc (Nat.le_refl _) _).alloc (by simp) _).drew⟩

end Go.Proofs.Ytclmeimgjjnllaa
