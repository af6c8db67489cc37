/-
  Contracts of the functions on single colors: what they return for every argument, and that they leave old memory alone. No condition.
-/
import Derived.Test.YtbhccckfooobcaaBase
import Derived.Laws.BitsAllLaws
import Derived.StillTailTactics
import Derived.Deep.QuietTactic
import Derived.BigQuiet
namespace Go.Proofs.Ytbhccckfooobcaa
open Go.ChangeShapes Go.WideShapes Go.ChangeAt Go.RowKit
set_option linter.unusedVariables false
set_option linter.unusedSimpArgs false

theorem low_num (c : Int) (hc : I64 c) : (wrap64 (c.tmod 256 + 256)).tmod 256 = c % 256 := by
  have h1 : c.tmod 256 + 256 = c.tmod 256 + 256 := rfl
  have hb : -256 < c.tmod 256 ∧ c.tmod 256 < 256 := by
    constructor
    · have := Int.lt_tmod_of_pos c (show (0 : Int) < 256 by decide); omega
    · exact Int.tmod_lt_of_pos c (by decide)
  rw [IntWalk.wrap64_in _ ⟨by omega, by omega⟩, Int.tmod_eq_emod_of_nonneg (by omega)]
  have e : c.tmod 256 = c - 256 * c.tdiv 256 := by have := Int.mul_tdiv_add_tmod c 256; omega
  rw [e]; omega

theorem low_any (c : Int) (hc : I64 c) (w : World) :
    Calls Try.prog 11 #[.int .i64 c] w fun e w' => e = .returned (.int .i64 (c % 256)) ∧ w = w' := by
  have hn := Lib.hid (low_num c hc)
  obtain ⟨h1, h2⟩ := hc
  go_enter Try.func11, Try.ntmps11
  go_wp2
  go_ret
  refine ⟨?_, rfl⟩
  rw [← hn.out]; rfl

theorem slow_any (c : Int) (hc : I64 c) (w : World) :
    Calls Try.prog 26 #[.int .i64 c] w fun e w' => e = .returned (.int .i64 (c % 256)) ∧ w = w' := by
  have hn := Lib.hid (low_num c hc)
  obtain ⟨h1, h2⟩ := hc
  go_enter Try.func26, Try.ntmps26
  go_wp2
  go_ret
  refine ⟨?_, rfl⟩
  rw [← hn.out]; rfl

theorem or_257 (y : Int) (h1 : 0 ≤ y) (h2 : y ≤ 255) : bits .or .u32 y (y * 256) = y * 257 := by
  rw [u32_or y (y * 256) h1 (by omega) (by omega) (by omega)]
  have h := Nat.two_pow_add_eq_or_of_lt (i := 8) (b := y.toNat) (by omega) y.toNat
  have e : (y * 256).toNat = 2 ^ 8 * y.toNat := by omega
  rw [e, Nat.or_comm, ← h]
  omega

theorem results_four {fn : Func} {t u v x : Tmp} (h : fn.results = #[.tmp t, .tmp u, .tmp v, .tmp x]) (tmps : Array Value) (P : Program) (w : World) :
    (results fn tmps).run P w = .ok (.tuple #[tmps.getD t undef, tmps.getD u undef, tmps.getD v undef, tmps.getD x undef]) w := by simp [results, h]

theorem mul_le (r a : Int) (r1 : 0 ≤ r) (r2 : r ≤ 255) (a1 : 0 ≤ a) (a2 : a ≤ 255) : 0 ≤ r * 257 * a ∧ r * 257 * a ≤ 16711425 :=
  ⟨Int.mul_nonneg (by omega) a1, by have := Int.mul_le_mul (show r * 257 ≤ 65535 by omega) a2 a1 (by decide); omega⟩

theorem mul_in (r a : Int) (r1 : 0 ≤ r) (r2 : r ≤ 255) (a1 : 0 ≤ a) (a2 : a ≤ 255) : r * 257 * a % 4294967296 = r * 257 * a := by
  have := mul_le r a r1 r2 a1 a2; omega

theorem nrgba_rgba (r g b a : Int) (r1 : 0 ≤ r) (r2 : r ≤ 255) (g1 : 0 ≤ g) (g2 : g ≤ 255) (b1 : 0 ≤ b) (b2 : b ≤ 255) (a1 : 0 ≤ a) (a2 : a ≤ 255) (w : World) :
    Calls Try.prog 44 #[.agg #[.int .u8 r, .int .u8 g, .int .u8 b, .int .u8 a]] w fun e w' =>
      e = .returned (.tuple #[.int .u32 (r * 257 * a / 255), .int .u32 (g * 257 * a / 255), .int .u32 (b * 257 * a / 255), .int .u32 (a * 257)]) ∧ Below w.heap.size w w' := by
  have hr := or_257 r r1 r2
  have hg := or_257 g g1 g2
  have hb := or_257 b b1 b2
  have ha := or_257 a a1 a2
  have mr := mul_in r a r1 r2 a1 a2
  have mg := mul_in g a g1 g2 a1 a2
  have mb := mul_in b a b1 b2 a1 a2
  go_enter Try.func44, Try.ntmps44
  go_wp2
  refine bodyPost_ret (results_four rfl _ _ _) rfl ?_
  exact ⟨rfl, (Below.refl _ _).alloc (Nat.le_refl _) _⟩

theorem u8_wrap (c : Int) : IntKind.u8.wrap c = c % 256 := by simp [IntKind.wrap, IntKind.signed, IntKind.bits]

theorem toColor_any (q : Q4) (w : World) :
    Calls Try.prog 13 #[q.val] w fun e w' => e = .returned q.val ∧ Below w.heap.size w w' := by
  obtain ⟨a, b, c, d⟩ := q
  show Calls Try.prog 13 #[.agg #[.int .i64 a, .int .i64 b, .int .i64 c, .int .i64 d]] w _
  go_enter Try.func13, Try.ntmps13
  go_wp2
  exact bodyPost_ret (v := .agg #[.int .i64 a, .int .i64 b, .int .i64 c, .int .i64 d]) (by simp [results, Try.results13, go_sem]) rfl ⟨rfl, ((Below.refl _ _).alloc (Nat.le_refl _) _).alloc (by simp) _⟩

theorem nrgba_any (q : Q4) (w : World) :
    Calls Try.prog 23 #[q.val] w fun e w' => e = .returned (.agg #[.int .u8 (q.a % 256), .int .u8 (q.b % 256), .int .u8 (q.c % 256), .int .u8 (q.d % 256)]) ∧ Below w.heap.size w w' := by
  obtain ⟨a, b, c, d⟩ := q
  show Calls Try.prog 23 #[.agg #[.int .i64 a, .int .i64 b, .int .i64 c, .int .i64 d]] w _
  go_enter Try.func23, Try.ntmps23
  go_wp2
  exact bodyPost_ret (v := .agg #[.int .u8 (a % 256), .int .u8 (b % 256), .int .u8 (c % 256), .int .u8 (d % 256)]) (by simp [results, Try.results23, go_sem]) rfl ⟨rfl, ((Below.refl _ _).alloc (Nat.le_refl _) _).alloc (by simp) _⟩

theorem toColor4 (a b c d : Int) (w : World) :
    Calls Try.prog 13 #[.agg #[.int .i64 a, .int .i64 b, .int .i64 c, .int .i64 d]] w fun e w' => e = .returned (.agg #[.int .i64 a, .int .i64 b, .int .i64 c, .int .i64 d]) ∧ Below w.heap.size w w' := toColor_any ⟨a, b, c, d⟩ w

theorem slow_same (c : Int) (hc : I64 c) (w : World) :
    Calls Try.prog 26 #[.int .i64 c] w fun e w' => e = .returned (.int .i64 (c % 256)) ∧ w' = w :=
  (slow_any c hc w).mono fun _ _ ⟨h, k⟩ => ⟨h, k.symm⟩

theorem low_same (c : Int) (hc : I64 c) (w : World) :
    Calls Try.prog 11 #[.int .i64 c] w fun e w' => e = .returned (.int .i64 (c % 256)) ∧ w' = w :=
  (low_any c hc w).mono fun _ _ ⟨h, k⟩ => ⟨h, k.symm⟩

def comp (r a : Int) : Int := r % 256 * 257 * (a % 256) / 255

theorem comp_range (r a : Int) : 0 ≤ comp r a ∧ comp r a ≤ a % 256 * 257 ∧ a % 256 * 257 ≤ 65535 := by
  have h1 : 0 ≤ r % 256 := by omega
  have h2 : r % 256 ≤ 255 := by omega
  have h3 : 0 ≤ a % 256 := by omega
  have h4 : a % 256 ≤ 255 := by omega
  unfold comp
  generalize r % 256 = x at *
  generalize a % 256 = y at *
  have h5 : x * 257 * y ≤ 255 * 257 * y := Int.mul_le_mul_of_nonneg_right (by omega) h3
  have h6 : 0 ≤ x * 257 * y := Int.mul_nonneg (by omega) h3
  generalize x * 257 * y = z at *
  omega

theorem nrgba4 (a b c d : Int) (w : World) :
    Calls Try.prog 23 #[.agg #[.int .i64 a, .int .i64 b, .int .i64 c, .int .i64 d]] w fun e w' => e = .returned (.agg #[.int .u8 (a % 256), .int .u8 (b % 256), .int .u8 (c % 256), .int .u8 (d % 256)]) ∧ Below w.heap.size w w' := nrgba_any ⟨a, b, c, d⟩ w

theorem told_any (r g b a : Int) (r1 : 0 ≤ r) (r2 : r ≤ 255) (g1 : 0 ≤ g) (g2 : g ≤ 255) (b1 : 0 ≤ b) (b2 : b ≤ 255) (a1 : 0 ≤ a) (a2 : a ≤ 255) (w : World) :
    Calls Try.prog 25 #[.agg #[.int .u8 r, .int .u8 g, .int .u8 b, .int .u8 a]] w fun e w' => e = .returned (.agg #[.int .i64 r, .int .i64 g, .int .i64 b, .int .i64 a]) ∧ Below w.heap.size w w' := by
  go_enter Try.func25, Try.ntmps25
  go_wp2
  exact bodyPost_ret (v := .agg #[.int .i64 r, .int .i64 g, .int .i64 b, .int .i64 a]) (by simp [results, Try.results25, go_sem]) rfl ⟨rfl, ((Below.refl _ _).alloc (Nat.le_refl _) _).alloc (by simp) _⟩

/-- The square of a distance, in quarters, rounded down. -/
def sq (x y : Int) : Int := (x - y) * (x - y) / 4

theorem sq_le (x y : Int) (x1 : 0 ≤ x) (x2 : x ≤ 65535) (y1 : 0 ≤ y) (y2 : y ≤ 65535) : 0 ≤ (x - y) * (x - y) ∧ (x - y) * (x - y) ≤ 4294836225 := by
  rcases Int.le_total 0 (x - y) with h | h
  · exact ⟨Int.mul_nonneg h h, Int.mul_le_mul (show x - y ≤ 65535 by omega) (show x - y ≤ 65535 by omega) h (by decide)⟩
  · have e : (x - y) * (x - y) = (y - x) * (y - x) := by rw [show x - y = -(y - x) by omega, Int.neg_mul_neg]
    rw [e]
    exact ⟨Int.mul_nonneg (by omega) (by omega), Int.mul_le_mul (show y - x ≤ 65535 by omega) (show y - x ≤ 65535 by omega) (by omega) (by decide)⟩

theorem sq_mod (x y : Int) (x1 : 0 ≤ x) (x2 : x ≤ 65535) (y1 : 0 ≤ y) (y2 : y ≤ 65535) : (x - y) % 4294967296 * ((x - y) % 4294967296) % 4294967296 = (x - y) * (x - y) := by
  rw [← Int.mul_emod]
  have := sq_le x y x1 x2 y1 y2
  omega

theorem sqDiff_any (x y : Int) (x1 : 0 ≤ x) (x2 : x ≤ 65535) (y1 : 0 ≤ y) (y2 : y ≤ 65535) (w : World) :
    Calls Try.prog 28 #[.int .u32 x, .int .u32 y] w fun e w' => e = .returned (.int .u32 (sq x y)) ∧ w' = w := by
  have hm := sq_mod x y x1 x2 y1 y2
  have hl := sq_le x y x1 x2 y1 y2
  unfold sq
  go_enter Try.func28, Try.ntmps28
  go_wp2
  go_ret
  exact ⟨rfl, rfl⟩

/-- The square of the distance of two opaque colors. -/
def dist (p q : Q4) : Int := (p.a % 256 - q.a % 256) * (p.a % 256 - q.a % 256) + (p.b % 256 - q.b % 256) * (p.b % 256 - q.b % 256) + (p.c % 256 - q.c % 256) * (p.c % 256 - q.c % 256)

theorem sq255 (x y : Int) (x1 : 0 ≤ x) (x2 : x ≤ 255) (y1 : 0 ≤ y) (y2 : y ≤ 255) : 0 ≤ (x - y) * (x - y) ∧ (x - y) * (x - y) ≤ 65025 := by
  rcases Int.le_total 0 (x - y) with h | h
  · exact ⟨Int.mul_nonneg h h, Int.mul_le_mul (show x - y ≤ 255 by omega) (show x - y ≤ 255 by omega) h (by decide)⟩
  · have e : (x - y) * (x - y) = (y - x) * (y - x) := by rw [show x - y = -(y - x) by omega, Int.neg_mul_neg]
    rw [e]
    exact ⟨Int.mul_nonneg (by omega) (by omega), Int.mul_le_mul (show y - x ≤ 255 by omega) (show y - x ≤ 255 by omega) (by omega) (by decide)⟩

theorem far_any (p q : Q4) (hp : p.ok) (hq : q.ok) (w : World) :
    Calls Try.prog 17 #[p.val, q.val] w fun e w' => e = .returned (.int .i64 (dist p q)) ∧ Below w.heap.size w w' := by
  obtain ⟨a, b, c, d⟩ := p
  obtain ⟨r, s, t, u⟩ := q
  obtain ⟨ha, hb, hc, _⟩ := hp
  obtain ⟨hr, hs, ht, _⟩ := hq
  have k1 := sq255 (a % 256) (r % 256) (by omega) (by omega) (by omega) (by omega)
  have k2 := sq255 (b % 256) (s % 256) (by omega) (by omega) (by omega) (by omega)
  have k3 := sq255 (c % 256) (t % 256) (by omega) (by omega) (by omega) (by omega)
  have m1 : 0 ≤ a % 256 ∧ a % 256 ≤ 255 := by omega
  have m2 : 0 ≤ b % 256 ∧ b % 256 ≤ 255 := by omega
  have m3 : 0 ≤ c % 256 ∧ c % 256 ≤ 255 := by omega
  have m4 : 0 ≤ r % 256 ∧ r % 256 ≤ 255 := by omega
  have m5 : 0 ≤ s % 256 ∧ s % 256 ≤ 255 := by omega
  have m6 : 0 ≤ t % 256 ∧ t % 256 ≤ 255 := by omega
  have e1 : IntKind.i64.wrap (a % 256 - r % 256) = a % 256 - r % 256 := IntWalk.i64_in _ ⟨by omega, by omega⟩
  have e2 : IntKind.i64.wrap (b % 256 - s % 256) = b % 256 - s % 256 := IntWalk.i64_in _ ⟨by omega, by omega⟩
  have e3 : IntKind.i64.wrap (c % 256 - t % 256) = c % 256 - t % 256 := IntWalk.i64_in _ ⟨by omega, by omega⟩
  show Calls Try.prog 17 #[.agg #[.int .i64 a, .int .i64 b, .int .i64 c, .int .i64 d], .agg #[.int .i64 r, .int .i64 s, .int .i64 t, .int .i64 u]] w _
  unfold dist
  go_enter Try.func17, Try.ntmps17
  go_wp2_with fail
  go_quiet ((go_at_call 11; exact Calls.quiet_of_same (low_same _ (by assumption) _)))
  go_wp2
  go_ret
  exact ⟨rfl, below_drewN (((Below.refl _ _).alloc (Nat.le_refl _) _).alloc (by simp) _) _⟩

theorem sfar_any (p q : Q4) (hp : p.ok) (hq : q.ok) (w : World) :
    Calls Try.prog 27 #[p.val, q.val] w fun e w' => e = .returned (.int .i64 (dist p q)) ∧ Below w.heap.size w w' := by
  obtain ⟨a, b, c, d⟩ := p
  obtain ⟨r, s, t, u⟩ := q
  obtain ⟨ha, hb, hc, _⟩ := hp
  obtain ⟨hr, hs, ht, _⟩ := hq
  have k1 := sq255 (a % 256) (r % 256) (by omega) (by omega) (by omega) (by omega)
  have k2 := sq255 (b % 256) (s % 256) (by omega) (by omega) (by omega) (by omega)
  have k3 := sq255 (c % 256) (t % 256) (by omega) (by omega) (by omega) (by omega)
  have m1 : 0 ≤ a % 256 ∧ a % 256 ≤ 255 := by omega
  have m2 : 0 ≤ b % 256 ∧ b % 256 ≤ 255 := by omega
  have m3 : 0 ≤ c % 256 ∧ c % 256 ≤ 255 := by omega
  have m4 : 0 ≤ r % 256 ∧ r % 256 ≤ 255 := by omega
  have m5 : 0 ≤ s % 256 ∧ s % 256 ≤ 255 := by omega
  have m6 : 0 ≤ t % 256 ∧ t % 256 ≤ 255 := by omega
  have e1 : IntKind.i64.wrap (a % 256 - r % 256) = a % 256 - r % 256 := IntWalk.i64_in _ ⟨by omega, by omega⟩
  have e2 : IntKind.i64.wrap (b % 256 - s % 256) = b % 256 - s % 256 := IntWalk.i64_in _ ⟨by omega, by omega⟩
  have e3 : IntKind.i64.wrap (c % 256 - t % 256) = c % 256 - t % 256 := IntWalk.i64_in _ ⟨by omega, by omega⟩
  show Calls Try.prog 27 #[.agg #[.int .i64 a, .int .i64 b, .int .i64 c, .int .i64 d], .agg #[.int .i64 r, .int .i64 s, .int .i64 t, .int .i64 u]] w _
  unfold dist
  go_enter Try.func27, Try.ntmps27
  go_wp2_with fail
  go_quiet ((go_at_call 26; exact Calls.quiet_of_same (slow_same _ (by assumption) _)))
  go_wp2
  go_ret
  exact ⟨rfl, below_drewN (((Below.refl _ _).alloc (Nat.le_refl _) _).alloc (by simp) _) _⟩

theorem lowColor_any (p : Q4) (hp : p.ok) (w : World) :
    Calls Try.prog 18 #[p.val] w fun e w' => e = .returned (.agg #[.int .i64 (p.a % 256), .int .i64 (p.b % 256), .int .i64 (p.c % 256), .int .i64 (p.d % 256)]) ∧ Below w.heap.size w w' := by
  obtain ⟨a, b, c, d⟩ := p
  obtain ⟨ha, hb, hc, hd⟩ := hp
  show Calls Try.prog 18 #[.agg #[.int .i64 a, .int .i64 b, .int .i64 c, .int .i64 d]] w _
  go_enter Try.func18, Try.ntmps18
  go_wp2_with fail
  refine region_tail 13 (by kernel_rfl) (by kernel_rfl) ?_
  simp only [List.take_succ_cons, List.take_zero, List.drop_succ_cons, List.drop_zero]
  repeat (first | still_step | still_call (low_same _ (by assumption) _))
  refine wpStill_nil ?_
  go_wp2
  exact bodyPost_ret (v := .agg #[.int .i64 (a % 256), .int .i64 (b % 256), .int .i64 (c % 256), .int .i64 (d % 256)]) (by simp [results, Try.results18, go_sem]) rfl ⟨rfl, by first | exact ((Below.refl _ _).alloc (Nat.le_refl _) _).alloc (by simp) _ | exact (((Below.refl _ _).alloc (Nat.le_refl _) _).alloc (by simp) _).drew⟩

end Go.Proofs.Ytbhccckfooobcaa
