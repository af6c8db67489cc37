/-
  What is common to all proofs of this seat: how arguments that are structs of integers, slices of integers and slices of such structs are opened into plain numbers. No condition.
-/
import Derived.Test.YtpllecddmpdaiaaRows
import Derived.WalkKit
import Derived.ProofKit
import Derived.OpenShut
import Derived.ChangeOld
import Derived.Below
import Derived.SizedLaws
import Derived.Lib.SmallJoins
import Derived.Deep.Slices
import Derived.Deep.Fields
import Derived.Lib.Hide
import Derived.Deep.QuietTactic
import Derived.BigQuiet
import Derived.RegionTactic
import Derived.Deep.Draws
import Derived.StillTailTactics
import Derived.Deep.RegionHeld3
namespace Go.Proofs.Ytpllecddmpdaiaa
set_option linter.unusedVariables false
set_option linter.unusedSimpArgs false
open Go.ChangeShapes Go.WideShapes Go.ChangeAt Go.RowKit Go.Deep

theorem own : ownKnob Try.prog.godebug = none := by kernel_rfl
theorem laidOut : laidOutB Try.prog = true := by kernel_rfl

/-- Four numbers: a rectangle's corners, or a color. -/
structure Q4 where
  a : Int
  b : Int
  c : Int
  d : Int

/-- A number that fits into 64 bits. -/
def I64 (n : Int) : Prop := -9223372036854775808 ≤ n ∧ n ≤ 9223372036854775807
theorem I64.of_wf {n : Int} (h : (Lit.int .i64 n).wf = true) : I64 n := by
  simpa [I64, Lit.wf, IntKind.min, IntKind.max, IntKind.signed, IntKind.bits] using h

def Q4.ok (q : Q4) : Prop := I64 q.a ∧ I64 q.b ∧ I64 q.c ∧ I64 q.d
def Q4.val (q : Q4) : Value := .agg #[.int .i64 q.a, .int .i64 q.b, .int .i64 q.c, .int .i64 q.d]

section
variable {H : Type} {enc : TypeId × Value → H} {P : Program} {w : World} {base : Nat} {spare : Nat → Bool} {held : Bool}

theorem quad_cells {t : TypeId} {f0 f1 f2 f3 : Field} {fuel : Nat} {cs : List Value} {x : DataW H × List MemPlace} (hs : P.underlying t = some (.struct #[f0, f1, f2, f3])) (hone : oneCellFields P #[f0, f1, f2, f3] = true) (hC : P.cellsOf t = 4)
    (e0 : P.underlying f0.type = some (.int .i64)) (e1 : P.underlying f1.type = some (.int .i64)) (e2 : P.underlying f2.type = some (.int .i64)) (e3 : P.underlying f3.type = some (.int .i64))
    (h : DataW.trod enc P w base spare held fuel t cs = some x) : ∃ q : Q4, q.ok ∧ cs = [.int .i64 q.a, .int .i64 q.b, .int .i64 q.c, .int .i64 q.d] := by
  obtain ⟨y0, y1, y2, y3, n, _, hl, h0, h1, h2, h3⟩ := Joins.trod_struct4 hs h
  obtain ⟨o0, k0⟩ := hone_of hone 0 f0 rfl
  obtain ⟨o1, k1⟩ := hone_of hone 1 f1 rfl
  obtain ⟨o2, k2⟩ := hone_of hone 2 f2 rfl
  obtain ⟨o3, k3⟩ := hone_of hone 3 f3 rfl
  match cs, hl.trans hC with
  | [c0, c1, c2, c3], _ =>
    simp only [o0, k0, o1, k1, o2, k2, o3, k3, List.drop, List.take] at h0 h1 h2 h3
    obtain ⟨a, g0, _, w0⟩ := DataW.trod_int e0 h0
    obtain ⟨b, g1, _, w1⟩ := DataW.trod_int e1 h1
    obtain ⟨c, g2, _, w2⟩ := DataW.trod_int e2 h2
    obtain ⟨d, g3, _, w3⟩ := DataW.trod_int e3 h3
    simp only [List.cons.injEq, and_true] at g0 g1 g2 g3
    subst g0 g1 g2 g3
    exact ⟨⟨a, b, c, d⟩, ⟨I64.of_wf w0, I64.of_wf w1, I64.of_wf w2, I64.of_wf w3⟩, rfl⟩

/-- A struct of four integers, by value. -/
theorem open_quad {r : Reach} {b0 : Nat} {t : TypeId} {f0 f1 f2 f3 : Field} {v : Value} {d : DataW H} {p : List MemPlace} (hs : P.underlying t = some (.struct #[f0, f1, f2, f3])) (hone : oneCellFields P #[f0, f1, f2, f3] = true) (hC : P.cellsOf t = 4)
    (e0 : P.underlying f0.type = some (.int .i64)) (e1 : P.underlying f1.type = some (.int .i64)) (e2 : P.underlying f2.type = some (.int .i64)) (e3 : P.underlying f3.type = some (.int .i64))
    (hv : Value.okWide P w r b0 t v) (h : DataW.Trod enc P w base spare held t v d p) : ∃ q : Q4, q.ok ∧ v = q.val := by
  obtain ⟨cs, rfl, hsz⟩ := okWide_struct hs hv
  obtain ⟨fuel, hf⟩ := h
  obtain ⟨q, hq, hc⟩ := quad_cells hs hone hC e0 e1 e2 e3 hf
  refine ⟨q, hq, ?_⟩
  obtain ⟨l⟩ := cs
  simp only [Value.cells] at hc
  subst hc
  rfl
end

/-- A slice value that reads as the list 'zs' of integers: nil or empty, or its elements lie in a block below B. -/
def Rd (w : World) (B : Nat) (A : Option Addr) (n : Nat) (zs : List Int) : Prop :=
  zs.length = n ∧ n * 8 ≤ 140737488355328 ∧ (∀ z ∈ zs, I64 z) ∧
  (0 < n → ∃ b off, A = some ⟨b, off, none⟩ ∧ b < B ∧ ∀ j, j < n → w.cell? ⟨b, off + j, none⟩ = some (.int .i64 (zs.getD j 0)))

instance : Inhabited Q4 := ⟨⟨0, 0, 0, 0⟩⟩
/-- The same for a slice of structs of four integers. -/
def RdQuads (w : World) (B : Nat) (A : Option Addr) (n : Nat) (qs : List Q4) : Prop :=
  qs.length = n ∧ n * 32 ≤ 140737488355328 ∧ (∀ q ∈ qs, q.ok) ∧
  (0 < n → ∃ b off, A = some ⟨b, off, none⟩ ∧ b < B ∧ ∀ i, i < n → w.cell? ⟨b, off + i * 4, none⟩ = some (.int .i64 (qs.getD i default).a) ∧ w.cell? ⟨b, off + i * 4 + 1, none⟩ = some (.int .i64 (qs.getD i default).b) ∧
    w.cell? ⟨b, off + i * 4 + 2, none⟩ = some (.int .i64 (qs.getD i default).c) ∧ w.cell? ⟨b, off + i * 4 + 3, none⟩ = some (.int .i64 (qs.getD i default).d))

section
variable {H : Type} {enc : TypeId × Value → H} {P : Program} {W : World}

theorem open_rdints {t e : TypeId} {A : Option Addr} {n c j : Nat} {d : DataW H} {p : List MemPlace} {ts : List TypeId} {ds : List (DataW H)} (ht : P.underlying t = some (.slice e)) (he : P.underlying e = some (.int .i64)) (hc : P.cellsOf e = 1) (hb : P.bytesOf e = 8)
    (h : DataW.Trod enc P W 0 (fun _ => true) true t (.slice A n c) d p) (hsz : (DataW.weightsEach P ts ds).all (· ≤ reachBytes) = true) (htj : ts[j]? = some t) (hdj : ds[j]? = some d) : ∃ zs, Rd W W.heap.size A n zs := by
  obtain ⟨fuel, hf⟩ := h
  rcases open_ints ht he hc hf with ⟨hcs, _⟩ | ⟨x, l, c', zs, hcs, _, hl, hm, hz, hx, hcell, hwz⟩
  · simp only [Value.cells, List.cons.injEq, Value.slice.injEq, and_true] at hcs
    obtain ⟨rfl, rfl, rfl⟩ := hcs
    exact ⟨[], rfl, by omega, by simp, fun h => absurd h (by omega)⟩
  · simp only [Value.cells, List.cons.injEq, Value.slice.injEq, and_true] at hcs
    obtain ⟨rfl, rfl, rfl⟩ := hcs
    simp only [if_true] at hz
    simp only [Prod.mk.injEq] at hx
    obtain ⟨rfl, _⟩ := hx
    have h8 := sized_slice hsz htj hdj ht
    rw [hb] at h8
    simp only [lits, List.length_map, List.length_take, List.length_drop, reachBytes] at h8
    refine ⟨zs.take n, by simp; omega, by omega, fun z hz' => I64.of_wf (hwz z (List.mem_of_mem_take hz')), fun hn => ?_⟩
    have hc0 := hcell 0 (by omega)
    obtain ⟨b, off, spot⟩ := x
    have hspot : spot = none := by simpa [Addr.add] using World.cell?_spot hc0
    subst hspot
    refine ⟨b, off, rfl, ?_, fun i hi => ?_⟩
    · have := World.block_lt_of_cell? _ _ hc0
      simpa [Addr.add] using this
    · have := hcell i (by omega)
      rw [Addr.add_lit] at this
      rw [this]
      simp [List.getD, hi]

theorem open_rdquads {t e : TypeId} {f0 f1 f2 f3 : Field} {A : Option Addr} {n c j : Nat} {d : DataW H} {p : List MemPlace} {ts : List TypeId} {ds : List (DataW H)} (ht : P.underlying t = some (.slice e)) (hs : P.underlying e = some (.struct #[f0, f1, f2, f3])) (hone : oneCellFields P #[f0, f1, f2, f3] = true) (hC : P.cellsOf e = 4) (hb : P.bytesOf e = 32)
    (e0 : P.underlying f0.type = some (.int .i64)) (e1 : P.underlying f1.type = some (.int .i64)) (e2 : P.underlying f2.type = some (.int .i64)) (e3 : P.underlying f3.type = some (.int .i64))
    (h : DataW.Trod enc P W 0 (fun _ => true) true t (.slice A n c) d p) (hsz : (DataW.weightsEach P ts ds).all (· ≤ reachBytes) = true) (htj : ts[j]? = some t) (hdj : ds[j]? = some d) : ∃ qs, RdQuads W W.heap.size A n qs := by
  obtain ⟨fuel, hf⟩ := h
  rcases open_slice ht hf with ⟨hcs, _⟩ | ⟨x, l, c', m, k, D, Pl, hcs, _, hl, hm, hmm, hx, hi⟩
  · simp only [Value.cells, List.cons.injEq, Value.slice.injEq, and_true] at hcs
    obtain ⟨rfl, rfl, rfl⟩ := hcs
    exact ⟨[], rfl, by omega, by simp, fun h => absurd h (by omega)⟩
  · simp only [Value.cells, List.cons.injEq, Value.slice.injEq, and_true] at hcs
    obtain ⟨rfl, rfl, rfl⟩ := hcs
    simp only [if_true] at hmm
    subst hmm
    simp only [Prod.mk.injEq] at hx
    obtain ⟨rfl, _⟩ := hx
    have h8 := sized_slice hsz htj hdj ht
    rw [hb] at h8
    simp only [List.length_map, List.length_range, reachBytes] at h8
    rw [hC] at hi
    obtain ⟨f, hf⟩ := choose_lt (α := Q4) (n := m) (p := fun i q => q.ok ∧ W.cell? (x.add (i * 4)) = some (.int .i64 q.a) ∧ W.cell? (x.add (i * 4 + 1)) = some (.int .i64 q.b) ∧ W.cell? (x.add (i * 4 + 2)) = some (.int .i64 q.c) ∧ W.cell? (x.add (i * 4 + 3)) = some (.int .i64 q.d)) (fun i him => by
      obtain ⟨cs', h1, h2⟩ := hi i him
      obtain ⟨q, hq, rfl⟩ := quad_cells hs hone hC e0 e1 e2 e3 h2
      obtain ⟨_, _, hat⟩ := World.cells?_some h1
      refine ⟨q, hq, ?_, ?_, ?_, ?_⟩
      · simpa [Go.Deep.add_add] using hat 0 (by omega)
      · simpa [Go.Deep.add_add] using hat 1 (by omega)
      · simpa [Go.Deep.add_add] using hat 2 (by omega)
      · simpa [Go.Deep.add_add] using hat 3 (by omega))
    refine ⟨(List.range n).map f, by simp, by omega, ?_, fun hn => ?_⟩
    · intro q hq
      obtain ⟨i, hir, rfl⟩ := List.mem_map.1 hq
      exact (hf i (by have := List.mem_range.1 hir; omega)).1
    · have hc0 := (hf 0 (by omega)).2.1
      obtain ⟨b, off, spot⟩ := x
      have hspot : spot = none := by simpa [Addr.add] using World.cell?_spot hc0
      subst hspot
      refine ⟨b, off, rfl, ?_, fun i hin => ?_⟩
      · have := World.block_lt_of_cell? _ _ hc0
        simpa [Addr.add] using this
      · have e : ((List.range n).map f).getD i default = f i := by simp [List.getD, hin]
        rw [e]
        have := (hf i (by omega)).2
        simpa [Addr.add_lit, Nat.add_assoc] using this
end

section
variable {w w' : World} {B B' n : Nat} {A : Option Addr} {zs : List Int}
theorem Rd.keep (h : Rd w B A n zs) (hk : ∀ p : Addr, p.block < B → w'.cell? p = w.cell? p) : Rd w' B A n zs :=
  ⟨h.1, h.2.1, h.2.2.1, fun hn => by
    obtain ⟨b, off, e, hb, hc⟩ := h.2.2.2 hn
    exact ⟨b, off, e, hb, fun j hj => (hk _ hb).trans (hc j hj)⟩⟩
theorem Rd.more (h : Rd w B A n zs) (hB : B ≤ B') : Rd w B' A n zs :=
  ⟨h.1, h.2.1, h.2.2.1, fun hn => by
    obtain ⟨b, off, e, hb, hc⟩ := h.2.2.2 hn
    exact ⟨b, off, e, by omega, hc⟩⟩
theorem Rd.below (h : Rd w B A n zs) (hb : Below B w w') : Rd w' B A n zs := h.keep fun _ hp => hb.cell hp
theorem Rd.nil (w : World) (B : Nat) (A : Option Addr) : Rd w B A 0 [] := ⟨rfl, by omega, by simp, fun h => absurd h (by omega)⟩
end
theorem heap_new2 (w : World) (X Y : Obj) : ((w.alloc X).alloc Y).heap[w.heap.size + 1]? = some Y := by
  have := heap_alloc_new (w.alloc X) Y
  simpa using this
theorem region_tail {P : Program} {id : Nat} {Q : Exit → Act → World → Prop} {a : Act} {w : World} {l : List Oper} (n : Nat) (hm : P.follows .mixedOrders = true) (hB : Region.lexTailB .any l.toArray n = true)
    (h : wpStill P l.toArray w.drew (fun a' => wpList P l.toArray Q (l.drop n) a' w.drew) (l.take n) a) : (Code.region id l.toArray true).wp P Q a w := wp_region_still_tail n hm hB h
theorem bcell {W w1 : World} (hb : Below W.heap.size W w1) : (∀ b o, b < W.heap.size → w1.cell? ⟨b, o, none⟩ = W.cell? ⟨b, o, none⟩) ∧ (∀ b o, b < W.heap.size → w1.frozen? ⟨b, o, none⟩ = W.frozen? ⟨b, o, none⟩) :=
  ⟨fun b o h => hb.cell (p := ⟨b, o, none⟩) h, fun b o h => hb.frozen (p := ⟨b, o, none⟩) h⟩
theorem below_drewN {B : Nat} {a w : World} (h : Below B a w) (n : Nat) : Below B a (w.drewN n) := ⟨h.os, h.tape, h.output, h.size, h.block⟩

end Go.Proofs.Ytpllecddmpdaiaa
