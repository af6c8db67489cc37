/-
  Contracts: a palette of the library, and whether all colors are opaque. No condition.
-/
import Derived.Test.YtbhccckfooobcaaP2
namespace Go.Proofs.Ytbhccckfooobcaa
open Go.ChangeShapes Go.WideShapes Go.ChangeAt Go.RowKit
set_option linter.unusedVariables false
set_option linter.unusedSimpArgs false

/-- A color of the library. -/
def clr (q : Q4) : Value := .agg #[.int .u8 (q.a % 256), .int .u8 (q.b % 256), .int .u8 (q.c % 256), .int .u8 (q.d % 256)]
def ifc (q : Q4) : Value := .iface 44 (clr q)

/-- A slice value that reads as a palette. -/
def RdPal (w : World) (B : Nat) (A : Option Addr) (n : Nat) (qs : List Q4) : Prop :=
  qs.length = n ∧ n * 32 ≤ 140737488355328 ∧ (0 < n → ∃ b off, A = some ⟨b, off, none⟩ ∧ b < B ∧ ∀ i, i < n → w.cell? ⟨b, off + i, none⟩ = some (ifc (qs.getD i default)))

theorem RdPal.below {w w' : World} {B n : Nat} {A : Option Addr} {qs : List Q4} (h : RdPal w B A n qs) (hb : Below B w w') : RdPal w' B A n qs :=
  ⟨h.1, h.2.1, fun hn => by
    obtain ⟨b, off, e, hlt, hc⟩ := h.2.2 hn
    exact ⟨b, off, e, hlt, fun i hi => (hb.cell (p := ⟨b, _, none⟩) hlt).trans (hc i hi)⟩⟩
theorem RdPal.more {w : World} {B B' n : Nat} {A : Option Addr} {qs : List Q4} (h : RdPal w B A n qs) (hB : B ≤ B') : RdPal w B' A n qs :=
  ⟨h.1, h.2.1, fun hn => by
    obtain ⟨b, off, e, hlt, hc⟩ := h.2.2 hn
    exact ⟨b, off, e, Nat.lt_of_lt_of_le hlt hB, hc⟩⟩

theorem RdPal.of_own {w : World} {base n e : Nat} {v : Value} {qs : List Q4} (h : w.ownsRow base e 1 v n (qs.map ifc)) (hn : n * 32 ≤ 140737488355328) :
    ∃ A c, v = .slice A n c ∧ RdPal w w.heap.size A n qs ∧ ∀ b o, A = some ⟨b, o, none⟩ → base ≤ b := by
  have hlen : qs.length = n := by have := h.1; simpa using this
  rcases h.2 with ⟨rfl, rfl⟩ | ⟨g, cap, cur, rfl, hb, hg, _⟩
  · obtain rfl : qs = [] := List.eq_nil_of_length_eq_zero hlen
    exact ⟨none, 0, rfl, ⟨rfl, by omega, fun h => absurd h (by omega)⟩, fun _ _ h => by cases h⟩
  · refine ⟨_, cap, rfl, ⟨hlen, hn, fun hp => ⟨g, 0, rfl, (Array.getElem?_eq_some_iff.1 hg).1, fun i hi => ?_⟩⟩, fun b o h => by injection h with h; injection h with h; omega⟩
    have := h.cells (g := g) rfl i (ifc (qs.getD i default)) (by simp [List.getD, show i < qs.length by omega])
    simpa [Addr.add_lit] using this

def PalOut (n : Nat) (qs : List Q4) (w : World) (e : Ending) (w' : World) : Prop :=
  ∃ A c, e = .returned (.slice A n c) ∧ RdPal w' w'.heap.size A n qs ∧ (∀ b o, A = some ⟨b, o, none⟩ → w.heap.size ≤ b) ∧ Below w.heap.size w w'

theorem palette_any (n cp : Nat) (A : Option Addr) (qs : List Q4) (w : World) (hr : RdQuads w w.heap.size A n qs) :
    Calls Try.prog 21 #[.slice A n cp] w (PalOut n qs w) := by
  have HR := Lib.hid hr
  have hn : n * 32 ≤ 140737488355328 := hr.2.1
  clear hr
  obtain ⟨i0, hi, hz0, hz1, hz2⟩ := info_parts (show (Try.prog.info? 48).map (fun i => (i.zero, i.size, i.bytes)) = some (some .nilIface, 1, 16) from by kernel_rfl)
  go_enter Try.func21, Try.ntmps21
  go_wp2_with fail
  go_loopw [8, 5, 3] (fun i _ v wr => ∃ (k : Nat), k ≤ n ∧ i = .int .i64 k ∧ Hid (wr.ownsRow w.heap.size 48 1 v k ((qs.take k).map ifc)) ∧ Hid (Below w.heap.size w wr)) (fun i _ _ _ => n - (intOf i).toNat)
  case atStart => exact ⟨0, by omega, rfl, World.ownsRow_nil _ _ _ _, Below.refl _ _⟩
  case round =>
    obtain ⟨k, hk, rfl, HO, HB⟩ := hrel
    obtain ⟨hl, _, hok, hrd⟩ := HR.out
    by_cases hlt : k < n
    · obtain ⟨g, off, rfl, hg, hc⟩ := hrd (by omega)
      obtain ⟨x1, x2, x3, x4⟩ := hc k hlt
      replace x1 := (HB.out.cell (p := ⟨g, off + k * 4, none⟩) hg).trans x1
      replace x2 := (HB.out.cell (p := ⟨g, off + k * 4 + 1, none⟩) hg).trans x2
      replace x3 := (HB.out.cell (p := ⟨g, off + k * 4 + 2, none⟩) hg).trans x3
      replace x4 := (HB.out.cell (p := ⟨g, off + k * 4 + 3, none⟩) hg).trans x4
      have HT := Lib.hid (takeq_snoc qs k (by omega))
      generalize qs.getD k default = q at x1 x2 x3 x4 HT
      obtain ⟨a, b, c, d⟩ := q
      clear hc hrd hl hok
      have hown := HO.out
      go_wp2_with fail
      refine (nrgba4 a b c d _).mono ?_
      rintro e w1 ⟨rfl, b1⟩
      have B1 := Lib.hid ((HB.out.alloc HB.out.size _).trans (b1.mono (by have := HB.out.size; simp; omega)))
      have own1 := own_below (hown.alloc _) b1
      have hsz1 : wr.heap.size + 1 ≤ w1.heap.size := by have := b1.size; simpa using this
      clear b1 x1 x2 x3 x4
      go_wp2_with (first
        | (at_builtin; refine wpList_append_own _ rfl _ _ 40 rfl w.heap.size 48 i0 .nilIface 1 16 Try.underlying40 hi hz0 hz1 hz2 rfl (by decide) _ _ _ rfl (own1.alloc _) ⟨w1.heap.size, 0, none⟩ 1 1 [ifc ⟨a, b, c, d⟩] rfl rfl ?c1 ?c2 ?c3 ?c4 ?c5 ?_))
      case c1 =>
        intro j u hj
        match j, hj with
        | 0, hj => simp at hj; subst hj; simp [Addr.add, ifc, clr]
      case c2 => intro u hu; simp at hu; subst hu; rfl
      case c3 => unfold maxLen; omega
      case c4 => omega
      case c5 => have := B1.out.size; simp; omega
      intro v' w2 hown' hgrow _
      rw [← List.map_take] at hown'
      have B2 := Lib.hid ((B1.out.alloc B1.out.size _).grown hgrow (by have := B1.out.size; simp; omega) (by intro j hj; exact (hown.lt j hj).1))
      have OW := Lib.hid hown'
      clear hown' hgrow own1 hown
      go_wp2
      go_roundw
      case rel => exact ⟨k + 1, by omega, by go_num, by rw [HT.out, List.map_append]; exact OW, B2⟩
      case measure => simp [intOf]; omega
    · obtain rfl : k = n := by omega
      obtain ⟨A', cp', rfl⟩ := own_slice HO.out
      clear hrd
      go_wp2
      go_ret
      have hqs : qs.take k = qs := List.take_of_length_le (by omega)
      have own1 := HO.out
      rw [hqs] at own1
      obtain ⟨A2, c2, e2, rd2, lo2⟩ := RdPal.of_own own1 hn
      simp only [Value.slice.injEq, true_and] at e2
      obtain ⟨rfl, rfl⟩ := e2
      exact ⟨A', cp', rfl, rd2, lo2, HB.out⟩

/-- All colors are opaque. -/
def Opq (qs : List Q4) : Prop := ∀ q ∈ qs, q.d % 256 = 255

instance (qs : List Q4) : Decidable (Opq qs) := by unfold Opq; infer_instance

theorem opaque_any (n cp : Nat) (A : Option Addr) (qs : List Q4) (w : World) (hr : RdQuads w w.heap.size A n qs) :
    Calls Try.prog 14 #[.slice A n cp] w fun e w' => e = .returned (.bool (decide (Opq qs))) ∧ Below w.heap.size w w' := by
  have HR := Lib.hid hr
  have hn : n * 32 ≤ 140737488355328 := hr.2.1
  clear hr
  go_enter Try.func14, Try.ntmps14
  go_wp2_with fail
  go_loopw [7, 4] (fun i _ wr => ∃ (k : Nat), k ≤ n ∧ i = .int .i64 k ∧ Hid (∀ j, j < k → (qs.getD j default).d % 256 = 255) ∧ Hid (Below w.heap.size w wr)) (fun i _ _ => n - (intOf i).toNat)
  case atStart => exact ⟨0, by omega, rfl, fun j h => absurd h (by omega), Below.refl _ _⟩
  case round =>
    obtain ⟨k, hk, rfl, HO, HB⟩ := hrel
    obtain ⟨hl, _, hok, hrd⟩ := HR.out
    by_cases hlt : k < n
    · obtain ⟨g, off, rfl, hg, hc⟩ := hrd (by omega)
      obtain ⟨x1, x2, x3, x4⟩ := hc k hlt
      replace x1 := (HB.out.cell (p := ⟨g, off + k * 4, none⟩) hg).trans x1
      replace x2 := (HB.out.cell (p := ⟨g, off + k * 4 + 1, none⟩) hg).trans x2
      replace x3 := (HB.out.cell (p := ⟨g, off + k * 4 + 2, none⟩) hg).trans x3
      replace x4 := (HB.out.cell (p := ⟨g, off + k * 4 + 3, none⟩) hg).trans x4
      have hmem : qs.getD k default ∈ qs := by simp [List.getD, show k < qs.length by omega]
      have hqk := hok _ hmem
      have HM := Lib.hid hmem
      have HE := Lib.hid (show qs.getD k default = qs.getD k default from rfl)
      revert x1 x2 x3 x4 hqk HM HE
      generalize hq : qs.getD k default = q
      intro x1 x2 x3 x4 hqk HM _
      have HQ := Lib.hid hq
      clear hq
      obtain ⟨a, b, c, d⟩ := q
      obtain ⟨_, _, _, hd⟩ := hqk
      clear hc hrd hl hok hmem
      by_cases h255 : d % 256 = 255
      · have h5 : (d % 256 != 255) = false := by simp [h255]
        have H5 := Lib.hid h255
        clear h255
        go_wp2_with fail
        refine (low_any d hd _).mono ?_
        rintro e w1 ⟨rfl, rfl⟩
        go_wp2
        go_roundw
        case rel => exact ⟨k + 1, by omega, by go_num, fun j hj => by
          rcases Nat.lt_succ_iff_lt_or_eq.1 hj with h | rfl
          · exact HO.out j h
          · rw [HQ.out]; exact H5.out, HB.out.alloc HB.out.size _⟩
        case measure => simp [intOf]; omega
      · have h5 : (d % 256 != 255) = true := by simp [h255]
        have hno : decide (Opq qs) = false := decide_eq_false fun h => h255 (h _ HM.out)
        clear h255
        go_wp2_with fail
        refine (low_any d hd _).mono ?_
        rintro e w1 ⟨rfl, rfl⟩
        go_wp2
        go_ret
        exact ⟨congrArg _ (congrArg _ hno.symm), HB.out.alloc HB.out.size _⟩
    · obtain rfl : k = n := by omega
      have hyes : decide (Opq qs) = true := decide_eq_true fun q hq => by
        obtain ⟨j, hj, rfl⟩ := List.getElem_of_mem hq
        have := HO.out j (by omega)
        simpa [List.getD, hj] using this
      clear hrd
      go_wp2
      go_ret
      exact ⟨congrArg _ (congrArg _ hyes.symm), HB.out⟩

end Go.Proofs.Ytbhccckfooobcaa
