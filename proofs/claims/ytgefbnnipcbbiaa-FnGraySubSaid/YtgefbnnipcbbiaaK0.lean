/-
  Moves of a walk through a region that draws its order: an operation taken first, or skipped, with its slot named. No condition.
-/
import Derived.Test.YtgefbnnipcbbiaaBase
namespace Go.Proofs.Ytgefbnnipcbbiaa
set_option linter.unusedVariables false
set_option linter.unusedSimpArgs false
open Go.RowKit

/-- Old cells read as before, whether or not a draw came first. -/
theorem bcellx {W w1 : World} (hb : Below W.heap.size W w1) : ∀ b o, b < W.heap.size → w1.cell? ⟨b, o, none⟩ = W.cell? ⟨b, o, none⟩ := fun b o h => hb.cell (p := ⟨b, o, none⟩) h

theorem bcelld {W w1 : World} (hb : Below W.drew.heap.size W.drew w1) : ∀ b o, b < W.heap.size → w1.cell? ⟨b, o, none⟩ = W.cell? ⟨b, o, none⟩ := fun b o h => hb.cell (p := ⟨b, o, none⟩) h

section
variable {P : Program} {ops : Array Oper} {Q : Exit → Act → World → Prop} {md : Region.Mode} {S : World → Prop}
theorem take_at {i D : Nat} {oi : Oper} {v : Value} {fuel : Nat} {listed : Array Bool} {T : Array Value} {ds : List Deferred} {w : World} (hi : ops[i]? = some oi) (hd : oi.dst = some D)
    (hs : Region.noSelect ops = true) (hf : Region.free md ops listed i = true) (hr : (Region.ready md ops listed).contains i = true)
    (hQ : ∀ c a w, Q (.panic c) (Act.put a oi.dst v) w → Q (.panic c) a w) (hy : YieldsIf P ops S oi v { tmps := T, defers := ds }) (hS : S w)
    (h : wpAnyH P md ops Q S fuel (listed.setIfInBounds i true) { tmps := T.setIfInBounds D v, defers := ds } w) : wpAnyH P md ops Q S (fuel + 1) listed { tmps := T, defers := ds } w := by
  refine wpAnyH_take hi hs hf hr hQ hy hS ?_
  rw [hd]
  exact h
end

theorem pfld0 (a b c d st : Int) (v : Value) (W : World) : (Instr.field 31 (.agg #[.int .i64 a, .int .i64 b, .int .i64 c, .int .i64 d, .int .i64 st, v]) 0).run Try.prog W = .ok (.agg #[.int .i64 a, .int .i64 b, .int .i64 c, .int .i64 d]) W := by kernel_rfl
theorem pfld2 (a b c d st : Int) (A : Option Addr) (n cp : Nat) (W : World) : (Instr.field 31 (.agg #[.int .i64 a, .int .i64 b, .int .i64 c, .int .i64 d, .int .i64 st, .slice A n cp]) 2).run Try.prog W = .ok (.slice A n cp) W := by kernel_rfl

end Go.Proofs.Ytgefbnnipcbbiaa
