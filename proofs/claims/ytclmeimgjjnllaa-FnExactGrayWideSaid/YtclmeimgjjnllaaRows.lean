/-
  No cell of these rows narrows 'for every input' (looked for: loops, veiled, ifaces, maps, wideKeys, modest, calm, conditions, laid).
  DERIVED. THE GIVEN ROWS OF THIS SEAT. 7 by the template 'for every input the law returns true; each argument reads behind the call as it read before'; 0 by the template 'total and deterministic' (their statements: YtclmeimgjjnllaaTotals.lean).
  GIVEN WITH THE SEED: the statements are not yours to turn. If you find one false, say at which input.
  Laid BY PROGRAM, IN A SANDBOX (cutbox-rows.mjs): the forced cells as the released guide's own fill.sh prints them over the translation 7cbdb37036c6ba62… (all of the seat's roots in one cut). By AI agents, Wed Nov 11 2026. No macro, syntax, notation, axiom, sorry.
-/
import Derived.Test.YtclmeimgjjnllaaChecked
import GoSem.Claim
import GoSem.ClaimJoined
import GoSem.ClaimMapViews
import Derived.JoinedTies
import Derived.KernelRfl
namespace Go.Proofs.Ytclmeimgjjnllaa
/- THE CELL 'sum', in the pinned program and in every row, IS THE sha256 OF THE DUMP (.gsa) THAT YtclmeimgjjnllaaProg.lean LOADS. Nothing in Lean hashes anything: it is a label: what it is worth is what the hold of that sum in a sandbox is worth. -/
noncomputable def Try.pinned : Pinned := { name := "ytclmeimgjjnllaa", sum := "7cbdb37036c6ba626274ba929d6a498115e8333f62344d81b70e03cd81eecd14", checked := Try.checked }
namespace Rows
def none {H : Type} : Left H := { results := [], args := [] }

/-- 'laws.FnExactGrayWide': WHATEVER THE INPUT: true; the input reads as it did. -/
def fnExactGrayWideSpec : ChangeSpec := { name := "fnExactGrayWide", fn := fun _ => fun
  | [d] => { results := [.lit (.bool true)], args := [d] }
  | _ => none }
def fnExactGrayWideRow : OpenClaim := { program := "ytclmeimgjjnllaa", sum := "7cbdb37036c6ba626274ba929d6a498115e8333f62344d81b70e03cd81eecd14", func := "loop.example/lib-g01192/laws.FnExactGrayWide", spec := "fnExactGrayWide", apart := false }
def FnExactGrayWideSaid : Prop := fnExactGrayWideRow.holds Try.pinned (OpenSpec.ofChange fnExactGrayWideSpec)

/-- ITS FALSE NEIGHBOUR: 'it returns false'. Refute it at one input. -/
def fnExactGrayWideWrong : ChangeSpec := { name := "fnExactGrayWide", fn := fun _ => fun
  | [d] => { results := [.lit (.bool false)], args := [d] }
  | _ => none }
def FnExactGrayWideWrongFalsely : Prop := fnExactGrayWideRow.holds Try.pinned (OpenSpec.ofChange fnExactGrayWideWrong)

/-- 'laws.FnGrayWideDiffers': WHATEVER THE INPUT: true; the input reads as it did. -/
def fnGrayWideDiffersSpec : ChangeSpec := { name := "fnGrayWideDiffers", fn := fun _ => fun
  | [d1, d2] => { results := [.lit (.bool true)], args := [d1, d2] }
  | _ => none }
def fnGrayWideDiffersRow : OpenClaim := { program := "ytclmeimgjjnllaa", sum := "7cbdb37036c6ba626274ba929d6a498115e8333f62344d81b70e03cd81eecd14", func := "loop.example/lib-g01192/laws.FnGrayWideDiffers", spec := "fnGrayWideDiffers", apart := false }
def FnGrayWideDiffersSaid : Prop := fnGrayWideDiffersRow.holds Try.pinned (OpenSpec.ofChange fnGrayWideDiffersSpec)

/-- ITS FALSE NEIGHBOUR: 'it returns false'. Refute it at one input. -/
def fnGrayWideDiffersWrong : ChangeSpec := { name := "fnGrayWideDiffers", fn := fun _ => fun
  | [d1, d2] => { results := [.lit (.bool false)], args := [d1, d2] }
  | _ => none }
def FnGrayWideDiffersWrongFalsely : Prop := fnGrayWideDiffersRow.holds Try.pinned (OpenSpec.ofChange fnGrayWideDiffersWrong)

/-- 'laws.FnNRGBAWide': WHATEVER THE INPUT: true; the input reads as it did. -/
def fnNRGBAWideSpec : ChangeSpec := { name := "fnNRGBAWide", fn := fun _ => fun
  | [d] => { results := [.lit (.bool true)], args := [d] }
  | _ => none }
def fnNRGBAWideRow : OpenClaim := { program := "ytclmeimgjjnllaa", sum := "7cbdb37036c6ba626274ba929d6a498115e8333f62344d81b70e03cd81eecd14", func := "loop.example/lib-g01192/laws.FnNRGBAWide", spec := "fnNRGBAWide", apart := false }
def FnNRGBAWideSaid : Prop := fnNRGBAWideRow.holds Try.pinned (OpenSpec.ofChange fnNRGBAWideSpec)

/-- ITS FALSE NEIGHBOUR: 'it returns false'. Refute it at one input. -/
def fnNRGBAWideWrong : ChangeSpec := { name := "fnNRGBAWide", fn := fun _ => fun
  | [d] => { results := [.lit (.bool false)], args := [d] }
  | _ => none }
def FnNRGBAWideWrongFalsely : Prop := fnNRGBAWideRow.holds Try.pinned (OpenSpec.ofChange fnNRGBAWideWrong)

/-- 'laws.FnNRGBAWideMonotone': WHATEVER THE INPUT: true; the input reads as it did. -/
def fnNRGBAWideMonotoneSpec : ChangeSpec := { name := "fnNRGBAWideMonotone", fn := fun _ => fun
  | [d1, d2] => { results := [.lit (.bool true)], args := [d1, d2] }
  | _ => none }
def fnNRGBAWideMonotoneRow : OpenClaim := { program := "ytclmeimgjjnllaa", sum := "7cbdb37036c6ba626274ba929d6a498115e8333f62344d81b70e03cd81eecd14", func := "loop.example/lib-g01192/laws.FnNRGBAWideMonotone", spec := "fnNRGBAWideMonotone", apart := false }
def FnNRGBAWideMonotoneSaid : Prop := fnNRGBAWideMonotoneRow.holds Try.pinned (OpenSpec.ofChange fnNRGBAWideMonotoneSpec)

/-- ITS FALSE NEIGHBOUR: 'it returns false'. Refute it at one input. -/
def fnNRGBAWideMonotoneWrong : ChangeSpec := { name := "fnNRGBAWideMonotone", fn := fun _ => fun
  | [d1, d2] => { results := [.lit (.bool false)], args := [d1, d2] }
  | _ => none }
def FnNRGBAWideMonotoneWrongFalsely : Prop := fnNRGBAWideMonotoneRow.holds Try.pinned (OpenSpec.ofChange fnNRGBAWideMonotoneWrong)

/-- 'laws.FnNRGBAWideOpaque': WHATEVER THE INPUT: true; the input reads as it did. -/
def fnNRGBAWideOpaqueSpec : ChangeSpec := { name := "fnNRGBAWideOpaque", fn := fun _ => fun
  | [d] => { results := [.lit (.bool true)], args := [d] }
  | _ => none }
def fnNRGBAWideOpaqueRow : OpenClaim := { program := "ytclmeimgjjnllaa", sum := "7cbdb37036c6ba626274ba929d6a498115e8333f62344d81b70e03cd81eecd14", func := "loop.example/lib-g01192/laws.FnNRGBAWideOpaque", spec := "fnNRGBAWideOpaque", apart := false }
def FnNRGBAWideOpaqueSaid : Prop := fnNRGBAWideOpaqueRow.holds Try.pinned (OpenSpec.ofChange fnNRGBAWideOpaqueSpec)

/-- ITS FALSE NEIGHBOUR: 'it returns false'. Refute it at one input. -/
def fnNRGBAWideOpaqueWrong : ChangeSpec := { name := "fnNRGBAWideOpaque", fn := fun _ => fun
  | [d] => { results := [.lit (.bool false)], args := [d] }
  | _ => none }
def FnNRGBAWideOpaqueWrongFalsely : Prop := fnNRGBAWideOpaqueRow.holds Try.pinned (OpenSpec.ofChange fnNRGBAWideOpaqueWrong)

/-- 'laws.FnNRGBAWideScaled': WHATEVER THE INPUT: true; the input reads as it did. -/
def fnNRGBAWideScaledSpec : ChangeSpec := { name := "fnNRGBAWideScaled", fn := fun _ => fun
  | [d] => { results := [.lit (.bool true)], args := [d] }
  | _ => none }
def fnNRGBAWideScaledRow : OpenClaim := { program := "ytclmeimgjjnllaa", sum := "7cbdb37036c6ba626274ba929d6a498115e8333f62344d81b70e03cd81eecd14", func := "loop.example/lib-g01192/laws.FnNRGBAWideScaled", spec := "fnNRGBAWideScaled", apart := false }
def FnNRGBAWideScaledSaid : Prop := fnNRGBAWideScaledRow.holds Try.pinned (OpenSpec.ofChange fnNRGBAWideScaledSpec)

/-- ITS FALSE NEIGHBOUR: 'it returns false'. Refute it at one input. -/
def fnNRGBAWideScaledWrong : ChangeSpec := { name := "fnNRGBAWideScaled", fn := fun _ => fun
  | [d] => { results := [.lit (.bool false)], args := [d] }
  | _ => none }
def FnNRGBAWideScaledWrongFalsely : Prop := fnNRGBAWideScaledRow.holds Try.pinned (OpenSpec.ofChange fnNRGBAWideScaledWrong)

/-- 'laws.FnGrayWideIsNRGBA': WHATEVER THE INPUT: true; the input reads as it did. -/
def fnGrayWideIsNRGBASpec : ChangeSpec := { name := "fnGrayWideIsNRGBA", fn := fun _ => fun
  | [d] => { results := [.lit (.bool true)], args := [d] }
  | _ => none }
def fnGrayWideIsNRGBARow : OpenClaim := { program := "ytclmeimgjjnllaa", sum := "7cbdb37036c6ba626274ba929d6a498115e8333f62344d81b70e03cd81eecd14", func := "loop.example/lib-g01192/laws.FnGrayWideIsNRGBA", spec := "fnGrayWideIsNRGBA", apart := false }
def FnGrayWideIsNRGBASaid : Prop := fnGrayWideIsNRGBARow.holds Try.pinned (OpenSpec.ofChange fnGrayWideIsNRGBASpec)

/-- ITS FALSE NEIGHBOUR: 'it returns false'. Refute it at one input. -/
def fnGrayWideIsNRGBAWrong : ChangeSpec := { name := "fnGrayWideIsNRGBA", fn := fun _ => fun
  | [d] => { results := [.lit (.bool false)], args := [d] }
  | _ => none }
def FnGrayWideIsNRGBAWrongFalsely : Prop := fnGrayWideIsNRGBARow.holds Try.pinned (OpenSpec.ofChange fnGrayWideIsNRGBAWrong)

/- THE SECOND FORM. 'bulk': how many values and letters a reading holds, each counted each time it is reached (what is shared counts as often as it is met; a slice's spare places count too). A statement '..UptoSaid' is the law's where the arguments, and the package variables that the reading takes, are together of bulk at most 1048576: NARROWER than '..Said'. Prove '..Said' where nothing that the law and all that it calls make is longer than what came in: it says more and counts as full. Else prove '..UptoSaid'. A law counts once. -/
mutual
def uptoBulk {H : Type} : DataW H → Nat
  | .lit (.string bytes) => bytes.length + 1
  | .lit _ => 1
  | .nil => 1
  | .ptr d => uptoBulk d + 1
  | .slice elems spare => uptoBulkAll elems + uptoBulkAll spare + 1
  | .agg parts => uptoBulkAll parts + 1
  | .iface _ d => uptoBulk d + 1
  | .map entries => uptoBulkEntries entries + 1
  | .held _ => 1
def uptoBulkAll {H : Type} : List (DataW H) → Nat
  | [] => 0
  | d :: r => uptoBulk d + uptoBulkAll r
def uptoBulkEntries {H : Type} : List (Lit × DataW H) → Nat
  | [] => 0
  | x :: r => uptoBulkEntry x + uptoBulkEntries r
def uptoBulkEntry {H : Type} : Lit × DataW H → Nat
  | (.string bytes, d) => bytes.length + uptoBulk d + 1
  | (_, d) => uptoBulk d + 1
 end
def uptoSmall : (H : Type) → List (DataW H) → Bool := fun _ ds => decide (uptoBulkAll ds ≤ 1048576)
def OpenSpec.upto (s : _root_.Go.ChangeSpec) : _root_.Go.OpenSpec := { _root_.Go.OpenSpec.ofChange s with cond := some uptoSmall }

/-- 'laws.FnExactGrayWide', WHERE WHAT IT READS IS OF BULK AT MOST 1048576: true; the input reads as it did. -/
def fnExactGrayWideUptoRow : OpenClaim := { program := "ytclmeimgjjnllaa", sum := "7cbdb37036c6ba626274ba929d6a498115e8333f62344d81b70e03cd81eecd14", func := "loop.example/lib-g01192/laws.FnExactGrayWide", spec := "fnExactGrayWide", apart := false, narrowed := true }
def FnExactGrayWideUptoSaid : Prop := fnExactGrayWideUptoRow.holds Try.pinned (OpenSpec.upto fnExactGrayWideSpec)

/-- 'laws.FnGrayWideDiffers', WHERE WHAT IT READS IS OF BULK AT MOST 1048576: true; the input reads as it did. -/
def fnGrayWideDiffersUptoRow : OpenClaim := { program := "ytclmeimgjjnllaa", sum := "7cbdb37036c6ba626274ba929d6a498115e8333f62344d81b70e03cd81eecd14", func := "loop.example/lib-g01192/laws.FnGrayWideDiffers", spec := "fnGrayWideDiffers", apart := false, narrowed := true }
def FnGrayWideDiffersUptoSaid : Prop := fnGrayWideDiffersUptoRow.holds Try.pinned (OpenSpec.upto fnGrayWideDiffersSpec)

/-- 'laws.FnNRGBAWide', WHERE WHAT IT READS IS OF BULK AT MOST 1048576: true; the input reads as it did. -/
def fnNRGBAWideUptoRow : OpenClaim := { program := "ytclmeimgjjnllaa", sum := "7cbdb37036c6ba626274ba929d6a498115e8333f62344d81b70e03cd81eecd14", func := "loop.example/lib-g01192/laws.FnNRGBAWide", spec := "fnNRGBAWide", apart := false, narrowed := true }
def FnNRGBAWideUptoSaid : Prop := fnNRGBAWideUptoRow.holds Try.pinned (OpenSpec.upto fnNRGBAWideSpec)

/-- 'laws.FnNRGBAWideMonotone', WHERE WHAT IT READS IS OF BULK AT MOST 1048576: true; the input reads as it did. -/
def fnNRGBAWideMonotoneUptoRow : OpenClaim := { program := "ytclmeimgjjnllaa", sum := "7cbdb37036c6ba626274ba929d6a498115e8333f62344d81b70e03cd81eecd14", func := "loop.example/lib-g01192/laws.FnNRGBAWideMonotone", spec := "fnNRGBAWideMonotone", apart := false, narrowed := true }
def FnNRGBAWideMonotoneUptoSaid : Prop := fnNRGBAWideMonotoneUptoRow.holds Try.pinned (OpenSpec.upto fnNRGBAWideMonotoneSpec)

/-- 'laws.FnNRGBAWideOpaque', WHERE WHAT IT READS IS OF BULK AT MOST 1048576: true; the input reads as it did. -/
def fnNRGBAWideOpaqueUptoRow : OpenClaim := { program := "ytclmeimgjjnllaa", sum := "7cbdb37036c6ba626274ba929d6a498115e8333f62344d81b70e03cd81eecd14", func := "loop.example/lib-g01192/laws.FnNRGBAWideOpaque", spec := "fnNRGBAWideOpaque", apart := false, narrowed := true }
def FnNRGBAWideOpaqueUptoSaid : Prop := fnNRGBAWideOpaqueUptoRow.holds Try.pinned (OpenSpec.upto fnNRGBAWideOpaqueSpec)

/-- 'laws.FnNRGBAWideScaled', WHERE WHAT IT READS IS OF BULK AT MOST 1048576: true; the input reads as it did. -/
def fnNRGBAWideScaledUptoRow : OpenClaim := { program := "ytclmeimgjjnllaa", sum := "7cbdb37036c6ba626274ba929d6a498115e8333f62344d81b70e03cd81eecd14", func := "loop.example/lib-g01192/laws.FnNRGBAWideScaled", spec := "fnNRGBAWideScaled", apart := false, narrowed := true }
def FnNRGBAWideScaledUptoSaid : Prop := fnNRGBAWideScaledUptoRow.holds Try.pinned (OpenSpec.upto fnNRGBAWideScaledSpec)

/-- 'laws.FnGrayWideIsNRGBA', WHERE WHAT IT READS IS OF BULK AT MOST 1048576: true; the input reads as it did. -/
def fnGrayWideIsNRGBAUptoRow : OpenClaim := { program := "ytclmeimgjjnllaa", sum := "7cbdb37036c6ba626274ba929d6a498115e8333f62344d81b70e03cd81eecd14", func := "loop.example/lib-g01192/laws.FnGrayWideIsNRGBA", spec := "fnGrayWideIsNRGBA", apart := false, narrowed := true }
def FnGrayWideIsNRGBAUptoSaid : Prop := fnGrayWideIsNRGBAUptoRow.holds Try.pinned (OpenSpec.upto fnGrayWideIsNRGBASpec)

end Rows
end Go.Proofs.Ytclmeimgjjnllaa
