/-
  No cell of these rows narrows 'for every input' (looked for: loops, veiled, ifaces, maps, wideKeys, modest, calm, conditions, laid).
  DERIVED. THE GIVEN ROWS OF THIS SEAT. 8 by the template 'for every input the law returns true; each argument reads behind the call as it read before'; 0 by the template 'total and deterministic' (their statements: YtbhccckfooobcaaTotals.lean).
  GIVEN WITH THE SEED: the statements are not yours to turn. If you find one false, say at which input.
  Laid BY PROGRAM, IN A SANDBOX (cutbox-rows.mjs): the forced cells as the released guide's own fill.sh prints them over the translation 8b34440c95bb5894… (all of the seat's roots in one cut). By AI agents, Wed Nov 11 2026. No macro, syntax, notation, axiom, sorry.
-/
import Derived.Test.YtbhccckfooobcaaChecked
import GoSem.Claim
import GoSem.ClaimJoined
import GoSem.ClaimMapViews
import Derived.JoinedTies
import Derived.KernelRfl
namespace Go.Proofs.Ytbhccckfooobcaa
/- THE CELL 'sum', in the pinned program and in every row, IS THE sha256 OF THE DUMP (.gsa) THAT YtbhccckfooobcaaProg.lean LOADS. Nothing in Lean hashes anything: it is a label: what it is worth is what the hold of that sum in a sandbox is worth. -/
noncomputable def Try.pinned : Pinned := { name := "ytbhccckfooobcaa", sum := "8b34440c95bb58942c968a14fbb344813e119247a2b8b1f25b48899e93e09ccf", checked := Try.checked }
namespace Rows
def none {H : Type} : Left H := { results := [], args := [] }

/-- 'laws.FnPaletteOfGrays': WHATEVER THE INPUT: true; the input reads as it did. -/
def fnPaletteOfGraysSpec : ChangeSpec := { name := "fnPaletteOfGrays", fn := fun _ => fun
  | [d] => { results := [.lit (.bool true)], args := [d] }
  | _ => none }
def fnPaletteOfGraysRow : OpenClaim := { program := "ytbhccckfooobcaa", sum := "8b34440c95bb58942c968a14fbb344813e119247a2b8b1f25b48899e93e09ccf", func := "loop.example/lib-g01192/laws.FnPaletteOfGrays", spec := "fnPaletteOfGrays", unfollowed := true, recurses := true, apart := false }
def FnPaletteOfGraysSaid : Prop := fnPaletteOfGraysRow.holds Try.pinned (OpenSpec.ofChange fnPaletteOfGraysSpec)

/-- ITS FALSE NEIGHBOUR: 'it returns false'. Refute it at one input. -/
def fnPaletteOfGraysWrong : ChangeSpec := { name := "fnPaletteOfGrays", fn := fun _ => fun
  | [d] => { results := [.lit (.bool false)], args := [d] }
  | _ => none }
def FnPaletteOfGraysWrongFalsely : Prop := fnPaletteOfGraysRow.holds Try.pinned (OpenSpec.ofChange fnPaletteOfGraysWrong)

/-- 'laws.FnPaletteAgain': WHATEVER THE INPUT: true; the input reads as it did. -/
def fnPaletteAgainSpec : ChangeSpec := { name := "fnPaletteAgain", fn := fun _ => fun
  | [d1, d2] => { results := [.lit (.bool true)], args := [d1, d2] }
  | _ => none }
def fnPaletteAgainRow : OpenClaim := { program := "ytbhccckfooobcaa", sum := "8b34440c95bb58942c968a14fbb344813e119247a2b8b1f25b48899e93e09ccf", func := "loop.example/lib-g01192/laws.FnPaletteAgain", spec := "fnPaletteAgain", unfollowed := true, recurses := true, apart := false }
def FnPaletteAgainSaid : Prop := fnPaletteAgainRow.holds Try.pinned (OpenSpec.ofChange fnPaletteAgainSpec)

/-- ITS FALSE NEIGHBOUR: 'it returns false'. Refute it at one input. -/
def fnPaletteAgainWrong : ChangeSpec := { name := "fnPaletteAgain", fn := fun _ => fun
  | [d1, d2] => { results := [.lit (.bool false)], args := [d1, d2] }
  | _ => none }
def FnPaletteAgainWrongFalsely : Prop := fnPaletteAgainRow.holds Try.pinned (OpenSpec.ofChange fnPaletteAgainWrong)

/-- 'laws.FnPaletteOrder': WHATEVER THE INPUT: true; the input reads as it did. -/
def fnPaletteOrderSpec : ChangeSpec := { name := "fnPaletteOrder", fn := fun _ => fun
  | [d1, d2] => { results := [.lit (.bool true)], args := [d1, d2] }
  | _ => none }
def fnPaletteOrderRow : OpenClaim := { program := "ytbhccckfooobcaa", sum := "8b34440c95bb58942c968a14fbb344813e119247a2b8b1f25b48899e93e09ccf", func := "loop.example/lib-g01192/laws.FnPaletteOrder", spec := "fnPaletteOrder", unfollowed := true, recurses := true, apart := false }
def FnPaletteOrderSaid : Prop := fnPaletteOrderRow.holds Try.pinned (OpenSpec.ofChange fnPaletteOrderSpec)

/-- ITS FALSE NEIGHBOUR: 'it returns false'. Refute it at one input. -/
def fnPaletteOrderWrong : ChangeSpec := { name := "fnPaletteOrder", fn := fun _ => fun
  | [d1, d2] => { results := [.lit (.bool false)], args := [d1, d2] }
  | _ => none }
def FnPaletteOrderWrongFalsely : Prop := fnPaletteOrderRow.holds Try.pinned (OpenSpec.ofChange fnPaletteOrderWrong)

/-- 'laws.FnPaletteConvert': WHATEVER THE INPUT: true; the input reads as it did. -/
def fnPaletteConvertSpec : ChangeSpec := { name := "fnPaletteConvert", fn := fun _ => fun
  | [d1, d2] => { results := [.lit (.bool true)], args := [d1, d2] }
  | _ => none }
def fnPaletteConvertRow : OpenClaim := { program := "ytbhccckfooobcaa", sum := "8b34440c95bb58942c968a14fbb344813e119247a2b8b1f25b48899e93e09ccf", func := "loop.example/lib-g01192/laws.FnPaletteConvert", spec := "fnPaletteConvert", unfollowed := true, recurses := true, apart := false }
def FnPaletteConvertSaid : Prop := fnPaletteConvertRow.holds Try.pinned (OpenSpec.ofChange fnPaletteConvertSpec)

/-- ITS FALSE NEIGHBOUR: 'it returns false'. Refute it at one input. -/
def fnPaletteConvertWrong : ChangeSpec := { name := "fnPaletteConvert", fn := fun _ => fun
  | [d1, d2] => { results := [.lit (.bool false)], args := [d1, d2] }
  | _ => none }
def FnPaletteConvertWrongFalsely : Prop := fnPaletteConvertRow.holds Try.pinned (OpenSpec.ofChange fnPaletteConvertWrong)

/-- 'laws.FnPaletteFirst': WHATEVER THE INPUT: true; the input reads as it did. -/
def fnPaletteFirstSpec : ChangeSpec := { name := "fnPaletteFirst", fn := fun _ => fun
  | [d1, d2] => { results := [.lit (.bool true)], args := [d1, d2] }
  | _ => none }
def fnPaletteFirstRow : OpenClaim := { program := "ytbhccckfooobcaa", sum := "8b34440c95bb58942c968a14fbb344813e119247a2b8b1f25b48899e93e09ccf", func := "loop.example/lib-g01192/laws.FnPaletteFirst", spec := "fnPaletteFirst", unfollowed := true, recurses := true, apart := false }
def FnPaletteFirstSaid : Prop := fnPaletteFirstRow.holds Try.pinned (OpenSpec.ofChange fnPaletteFirstSpec)

/-- ITS FALSE NEIGHBOUR: 'it returns false'. Refute it at one input. -/
def fnPaletteFirstWrong : ChangeSpec := { name := "fnPaletteFirst", fn := fun _ => fun
  | [d1, d2] => { results := [.lit (.bool false)], args := [d1, d2] }
  | _ => none }
def FnPaletteFirstWrongFalsely : Prop := fnPaletteFirstRow.holds Try.pinned (OpenSpec.ofChange fnPaletteFirstWrong)

/-- 'laws.FnPaletteIndex': WHATEVER THE INPUT: true; the input reads as it did. -/
def fnPaletteIndexSpec : ChangeSpec := { name := "fnPaletteIndex", fn := fun _ => fun
  | [d1, d2] => { results := [.lit (.bool true)], args := [d1, d2] }
  | _ => none }
def fnPaletteIndexRow : OpenClaim := { program := "ytbhccckfooobcaa", sum := "8b34440c95bb58942c968a14fbb344813e119247a2b8b1f25b48899e93e09ccf", func := "loop.example/lib-g01192/laws.FnPaletteIndex", spec := "fnPaletteIndex", unfollowed := true, recurses := true, apart := false }
def FnPaletteIndexSaid : Prop := fnPaletteIndexRow.holds Try.pinned (OpenSpec.ofChange fnPaletteIndexSpec)

/-- ITS FALSE NEIGHBOUR: 'it returns false'. Refute it at one input. -/
def fnPaletteIndexWrong : ChangeSpec := { name := "fnPaletteIndex", fn := fun _ => fun
  | [d1, d2] => { results := [.lit (.bool false)], args := [d1, d2] }
  | _ => none }
def FnPaletteIndexWrongFalsely : Prop := fnPaletteIndexRow.holds Try.pinned (OpenSpec.ofChange fnPaletteIndexWrong)

/-- 'laws.FnPaletteMore': WHATEVER THE INPUT: true; the input reads as it did. -/
def fnPaletteMoreSpec : ChangeSpec := { name := "fnPaletteMore", fn := fun _ => fun
  | [d1, d2, d3] => { results := [.lit (.bool true)], args := [d1, d2, d3] }
  | _ => none }
def fnPaletteMoreRow : OpenClaim := { program := "ytbhccckfooobcaa", sum := "8b34440c95bb58942c968a14fbb344813e119247a2b8b1f25b48899e93e09ccf", func := "loop.example/lib-g01192/laws.FnPaletteMore", spec := "fnPaletteMore", unfollowed := true, recurses := true, apart := false }
def FnPaletteMoreSaid : Prop := fnPaletteMoreRow.holds Try.pinned (OpenSpec.ofChange fnPaletteMoreSpec)

/-- ITS FALSE NEIGHBOUR: 'it returns false'. Refute it at one input. -/
def fnPaletteMoreWrong : ChangeSpec := { name := "fnPaletteMore", fn := fun _ => fun
  | [d1, d2, d3] => { results := [.lit (.bool false)], args := [d1, d2, d3] }
  | _ => none }
def FnPaletteMoreWrongFalsely : Prop := fnPaletteMoreRow.holds Try.pinned (OpenSpec.ofChange fnPaletteMoreWrong)

/-- 'laws.FnPaletteOfOwn': WHATEVER THE INPUT: true; the input reads as it did. -/
def fnPaletteOfOwnSpec : ChangeSpec := { name := "fnPaletteOfOwn", fn := fun _ => fun
  | [d1, d2] => { results := [.lit (.bool true)], args := [d1, d2] }
  | _ => none }
def fnPaletteOfOwnRow : OpenClaim := { program := "ytbhccckfooobcaa", sum := "8b34440c95bb58942c968a14fbb344813e119247a2b8b1f25b48899e93e09ccf", func := "loop.example/lib-g01192/laws.FnPaletteOfOwn", spec := "fnPaletteOfOwn", unfollowed := true, recurses := true, apart := false }
def FnPaletteOfOwnSaid : Prop := fnPaletteOfOwnRow.holds Try.pinned (OpenSpec.ofChange fnPaletteOfOwnSpec)

/-- ITS FALSE NEIGHBOUR: 'it returns false'. Refute it at one input. -/
def fnPaletteOfOwnWrong : ChangeSpec := { name := "fnPaletteOfOwn", fn := fun _ => fun
  | [d1, d2] => { results := [.lit (.bool false)], args := [d1, d2] }
  | _ => none }
def FnPaletteOfOwnWrongFalsely : Prop := fnPaletteOfOwnRow.holds Try.pinned (OpenSpec.ofChange fnPaletteOfOwnWrong)

/- THE SECOND FORM. 'bulk': how many values and letters a reading holds, each counted each time it is reached (what is shared counts as often as it is met; a slice's spare places count too). A statement '..UptoSaid' is the law's where the arguments, and the package variables that the reading takes, are together of bulk at most 1048576: NARROWER than '..Said'. Prove '..Said' where nothing that the law and all that it calls make is longer than what came in: it says more and counts as full. Else prove '..UptoSaid'. A law counts once. -/
mutual
def uptoBulk {H : Type} : DataW H → Nat
  | .lit (.string bytes) => bytes.length + 1
  | .lit _ => 1
  | .nil => 1
  | .ptr d => uptoBulk d + 1
  | .slice elems spare => uptoBulkAll elems + uptoBulkAll spare + 1
  | .agg parts => uptoBulkAll parts + 1
  | .iface _ d => uptoBulk d + 1
  | .map entries => uptoBulkEntries entries + 1
  | .held _ => 1
def uptoBulkAll {H : Type} : List (DataW H) → Nat
  | [] => 0
  | d :: r => uptoBulk d + uptoBulkAll r
def uptoBulkEntries {H : Type} : List (Lit × DataW H) → Nat
  | [] => 0
  | x :: r => uptoBulkEntry x + uptoBulkEntries r
def uptoBulkEntry {H : Type} : Lit × DataW H → Nat
  | (.string bytes, d) => bytes.length + uptoBulk d + 1
  | (_, d) => uptoBulk d + 1
 end
def uptoSmall : (H : Type) → List (DataW H) → Bool := fun _ ds => decide (uptoBulkAll ds ≤ 1048576)
def OpenSpec.upto (s : _root_.Go.ChangeSpec) : _root_.Go.OpenSpec := { _root_.Go.OpenSpec.ofChange s with cond := some uptoSmall }

/-- 'laws.FnPaletteOfGrays', WHERE WHAT IT READS IS OF BULK AT MOST 1048576: true; the input reads as it did. -/
def fnPaletteOfGraysUptoRow : OpenClaim := { program := "ytbhccckfooobcaa", sum := "8b34440c95bb58942c968a14fbb344813e119247a2b8b1f25b48899e93e09ccf", func := "loop.example/lib-g01192/laws.FnPaletteOfGrays", spec := "fnPaletteOfGrays", unfollowed := true, recurses := true, apart := false, narrowed := true }
def FnPaletteOfGraysUptoSaid : Prop := fnPaletteOfGraysUptoRow.holds Try.pinned (OpenSpec.upto fnPaletteOfGraysSpec)

/-- 'laws.FnPaletteAgain', WHERE WHAT IT READS IS OF BULK AT MOST 1048576: true; the input reads as it did. -/
def fnPaletteAgainUptoRow : OpenClaim := { program := "ytbhccckfooobcaa", sum := "8b34440c95bb58942c968a14fbb344813e119247a2b8b1f25b48899e93e09ccf", func := "loop.example/lib-g01192/laws.FnPaletteAgain", spec := "fnPaletteAgain", unfollowed := true, recurses := true, apart := false, narrowed := true }
def FnPaletteAgainUptoSaid : Prop := fnPaletteAgainUptoRow.holds Try.pinned (OpenSpec.upto fnPaletteAgainSpec)

/-- 'laws.FnPaletteOrder', WHERE WHAT IT READS IS OF BULK AT MOST 1048576: true; the input reads as it did. -/
def fnPaletteOrderUptoRow : OpenClaim := { program := "ytbhccckfooobcaa", sum := "8b34440c95bb58942c968a14fbb344813e119247a2b8b1f25b48899e93e09ccf", func := "loop.example/lib-g01192/laws.FnPaletteOrder", spec := "fnPaletteOrder", unfollowed := true, recurses := true, apart := false, narrowed := true }
def FnPaletteOrderUptoSaid : Prop := fnPaletteOrderUptoRow.holds Try.pinned (OpenSpec.upto fnPaletteOrderSpec)

/-- 'laws.FnPaletteConvert', WHERE WHAT IT READS IS OF BULK AT MOST 1048576: true; the input reads as it did. -/
def fnPaletteConvertUptoRow : OpenClaim := { program := "ytbhccckfooobcaa", sum := "8b34440c95bb58942c968a14fbb344813e119247a2b8b1f25b48899e93e09ccf", func := "loop.example/lib-g01192/laws.FnPaletteConvert", spec := "fnPaletteConvert", unfollowed := true, recurses := true, apart := false, narrowed := true }
def FnPaletteConvertUptoSaid : Prop := fnPaletteConvertUptoRow.holds Try.pinned (OpenSpec.upto fnPaletteConvertSpec)

/-- 'laws.FnPaletteFirst', WHERE WHAT IT READS IS OF BULK AT MOST 1048576: true; the input reads as it did. -/
def fnPaletteFirstUptoRow : OpenClaim := { program := "ytbhccckfooobcaa", sum := "8b34440c95bb58942c968a14fbb344813e119247a2b8b1f25b48899e93e09ccf", func := "loop.example/lib-g01192/laws.FnPaletteFirst", spec := "fnPaletteFirst", unfollowed := true, recurses := true, apart := false, narrowed := true }
def FnPaletteFirstUptoSaid : Prop := fnPaletteFirstUptoRow.holds Try.pinned (OpenSpec.upto fnPaletteFirstSpec)

/-- 'laws.FnPaletteIndex', WHERE WHAT IT READS IS OF BULK AT MOST 1048576: true; the input reads as it did. -/
def fnPaletteIndexUptoRow : OpenClaim := { program := "ytbhccckfooobcaa", sum := "8b34440c95bb58942c968a14fbb344813e119247a2b8b1f25b48899e93e09ccf", func := "loop.example/lib-g01192/laws.FnPaletteIndex", spec := "fnPaletteIndex", unfollowed := true, recurses := true, apart := false, narrowed := true }
def FnPaletteIndexUptoSaid : Prop := fnPaletteIndexUptoRow.holds Try.pinned (OpenSpec.upto fnPaletteIndexSpec)

/-- 'laws.FnPaletteMore', WHERE WHAT IT READS IS OF BULK AT MOST 1048576: true; the input reads as it did. -/
def fnPaletteMoreUptoRow : OpenClaim := { program := "ytbhccckfooobcaa", sum := "8b34440c95bb58942c968a14fbb344813e119247a2b8b1f25b48899e93e09ccf", func := "loop.example/lib-g01192/laws.FnPaletteMore", spec := "fnPaletteMore", unfollowed := true, recurses := true, apart := false, narrowed := true }
def FnPaletteMoreUptoSaid : Prop := fnPaletteMoreUptoRow.holds Try.pinned (OpenSpec.upto fnPaletteMoreSpec)

/-- 'laws.FnPaletteOfOwn', WHERE WHAT IT READS IS OF BULK AT MOST 1048576: true; the input reads as it did. -/
def fnPaletteOfOwnUptoRow : OpenClaim := { program := "ytbhccckfooobcaa", sum := "8b34440c95bb58942c968a14fbb344813e119247a2b8b1f25b48899e93e09ccf", func := "loop.example/lib-g01192/laws.FnPaletteOfOwn", spec := "fnPaletteOfOwn", unfollowed := true, recurses := true, apart := false, narrowed := true }
def FnPaletteOfOwnUptoSaid : Prop := fnPaletteOfOwnUptoRow.holds Try.pinned (OpenSpec.upto fnPaletteOfOwnSpec)

end Rows
end Go.Proofs.Ytbhccckfooobcaa
