/-
  No cell of these rows narrows 'for every input' (looked for: loops, veiled, ifaces, maps, wideKeys, modest, calm, conditions, laid).
  DERIVED. THE GIVEN ROWS OF THIS SEAT. 19 by the template 'for every input the law returns true; each argument reads behind the call as it read before'; 0 by the template 'total and deterministic' (their statements: YtpijljokcoocpaaTotals.lean).
  GIVEN WITH THE SEED: the statements are not yours to turn. If you find one false, say at which input.
  Laid BY PROGRAM, IN A SANDBOX (cutbox-rows.mjs): the forced cells as the released guide's own fill.sh prints them over the translation 75fdd86c1908ff64… (all of the seat's roots in one cut). By AI agents, Wed Nov 11 2026. No macro, syntax, notation, axiom, sorry.
-/
import Derived.Test.YtpijljokcoocpaaChecked
import GoSem.Claim
import GoSem.ClaimJoined
import GoSem.ClaimMapViews
import Derived.JoinedTies
import Derived.KernelRfl
namespace Go.Proofs.Ytpijljokcoocpaa
/- THE CELL 'sum', in the pinned program and in every row, IS THE sha256 OF THE DUMP (.gsa) THAT YtpijljokcoocpaaProg.lean LOADS. Nothing in Lean hashes anything: it is a label: what it is worth is what the hold of that sum in a sandbox is worth. -/
noncomputable def Try.pinned : Pinned := { name := "ytpijljokcoocpaa", sum := "75fdd86c1908ff6451770cdaa3bbef23cf5c526b6b0df524ca69f2c5beb2b86d", checked := Try.checked }
namespace Rows
def none {H : Type} : Left H := { results := [], args := [] }

/-- 'laws.FnGrayNew': WHATEVER THE INPUT: true; the input reads as it did. -/
def fnGrayNewSpec : ChangeSpec := { name := "fnGrayNew", fn := fun _ => fun
  | [d] => { results := [.lit (.bool true)], args := [d] }
  | _ => none }
def fnGrayNewRow : OpenClaim := { program := "ytpijljokcoocpaa", sum := "75fdd86c1908ff6451770cdaa3bbef23cf5c526b6b0df524ca69f2c5beb2b86d", func := "loop.example/lib-g01192/laws.FnGrayNew", spec := "fnGrayNew", apart := false }
def FnGrayNewSaid : Prop := fnGrayNewRow.holds Try.pinned (OpenSpec.ofChange fnGrayNewSpec)

/-- ITS FALSE NEIGHBOUR: 'it returns false'. Refute it at one input. -/
def fnGrayNewWrong : ChangeSpec := { name := "fnGrayNew", fn := fun _ => fun
  | [d] => { results := [.lit (.bool false)], args := [d] }
  | _ => none }
def FnGrayNewWrongFalsely : Prop := fnGrayNewRow.holds Try.pinned (OpenSpec.ofChange fnGrayNewWrong)

/-- 'laws.FnGrayNewBounds': WHATEVER THE INPUT: true; the input reads as it did. -/
def fnGrayNewBoundsSpec : ChangeSpec := { name := "fnGrayNewBounds", fn := fun _ => fun
  | [d] => { results := [.lit (.bool true)], args := [d] }
  | _ => none }
def fnGrayNewBoundsRow : OpenClaim := { program := "ytpijljokcoocpaa", sum := "75fdd86c1908ff6451770cdaa3bbef23cf5c526b6b0df524ca69f2c5beb2b86d", func := "loop.example/lib-g01192/laws.FnGrayNewBounds", spec := "fnGrayNewBounds", apart := false }
def FnGrayNewBoundsSaid : Prop := fnGrayNewBoundsRow.holds Try.pinned (OpenSpec.ofChange fnGrayNewBoundsSpec)

/-- ITS FALSE NEIGHBOUR: 'it returns false'. Refute it at one input. -/
def fnGrayNewBoundsWrong : ChangeSpec := { name := "fnGrayNewBounds", fn := fun _ => fun
  | [d] => { results := [.lit (.bool false)], args := [d] }
  | _ => none }
def FnGrayNewBoundsWrongFalsely : Prop := fnGrayNewBoundsRow.holds Try.pinned (OpenSpec.ofChange fnGrayNewBoundsWrong)

/-- 'laws.FnGrayRead': WHATEVER THE INPUT: true; the input reads as it did. -/
def fnGrayReadSpec : ChangeSpec := { name := "fnGrayRead", fn := fun _ => fun
  | [d1, d2, d3, d4] => { results := [.lit (.bool true)], args := [d1, d2, d3, d4] }
  | _ => none }
def fnGrayReadRow : OpenClaim := { program := "ytpijljokcoocpaa", sum := "75fdd86c1908ff6451770cdaa3bbef23cf5c526b6b0df524ca69f2c5beb2b86d", func := "loop.example/lib-g01192/laws.FnGrayRead", spec := "fnGrayRead", apart := false }
def FnGrayReadSaid : Prop := fnGrayReadRow.holds Try.pinned (OpenSpec.ofChange fnGrayReadSpec)

/-- ITS FALSE NEIGHBOUR: 'it returns false'. Refute it at one input. -/
def fnGrayReadWrong : ChangeSpec := { name := "fnGrayRead", fn := fun _ => fun
  | [d1, d2, d3, d4] => { results := [.lit (.bool false)], args := [d1, d2, d3, d4] }
  | _ => none }
def FnGrayReadWrongFalsely : Prop := fnGrayReadRow.holds Try.pinned (OpenSpec.ofChange fnGrayReadWrong)

/-- 'laws.FnGrayApart': WHATEVER THE INPUT: true; the input reads as it did. -/
def fnGrayApartSpec : ChangeSpec := { name := "fnGrayApart", fn := fun _ => fun
  | [d1, d2, d3, d4, d5] => { results := [.lit (.bool true)], args := [d1, d2, d3, d4, d5] }
  | _ => none }
def fnGrayApartRow : OpenClaim := { program := "ytpijljokcoocpaa", sum := "75fdd86c1908ff6451770cdaa3bbef23cf5c526b6b0df524ca69f2c5beb2b86d", func := "loop.example/lib-g01192/laws.FnGrayApart", spec := "fnGrayApart", apart := false }
def FnGrayApartSaid : Prop := fnGrayApartRow.holds Try.pinned (OpenSpec.ofChange fnGrayApartSpec)

/-- ITS FALSE NEIGHBOUR: 'it returns false'. Refute it at one input. -/
def fnGrayApartWrong : ChangeSpec := { name := "fnGrayApart", fn := fun _ => fun
  | [d1, d2, d3, d4, d5] => { results := [.lit (.bool false)], args := [d1, d2, d3, d4, d5] }
  | _ => none }
def FnGrayApartWrongFalsely : Prop := fnGrayApartRow.holds Try.pinned (OpenSpec.ofChange fnGrayApartWrong)

/-- 'laws.FnGrayOffset': WHATEVER THE INPUT: true; the input reads as it did. -/
def fnGrayOffsetSpec : ChangeSpec := { name := "fnGrayOffset", fn := fun _ => fun
  | [d1, d2, d3] => { results := [.lit (.bool true)], args := [d1, d2, d3] }
  | _ => none }
def fnGrayOffsetRow : OpenClaim := { program := "ytpijljokcoocpaa", sum := "75fdd86c1908ff6451770cdaa3bbef23cf5c526b6b0df524ca69f2c5beb2b86d", func := "loop.example/lib-g01192/laws.FnGrayOffset", spec := "fnGrayOffset", apart := false }
def FnGrayOffsetSaid : Prop := fnGrayOffsetRow.holds Try.pinned (OpenSpec.ofChange fnGrayOffsetSpec)

/-- ITS FALSE NEIGHBOUR: 'it returns false'. Refute it at one input. -/
def fnGrayOffsetWrong : ChangeSpec := { name := "fnGrayOffset", fn := fun _ => fun
  | [d1, d2, d3] => { results := [.lit (.bool false)], args := [d1, d2, d3] }
  | _ => none }
def FnGrayOffsetWrongFalsely : Prop := fnGrayOffsetRow.holds Try.pinned (OpenSpec.ofChange fnGrayOffsetWrong)

/-- 'laws.FnGrayOpaque': WHATEVER THE INPUT: true; the input reads as it did. -/
def fnGrayOpaqueSpec : ChangeSpec := { name := "fnGrayOpaque", fn := fun _ => fun
  | [d1, d2] => { results := [.lit (.bool true)], args := [d1, d2] }
  | _ => none }
def fnGrayOpaqueRow : OpenClaim := { program := "ytpijljokcoocpaa", sum := "75fdd86c1908ff6451770cdaa3bbef23cf5c526b6b0df524ca69f2c5beb2b86d", func := "loop.example/lib-g01192/laws.FnGrayOpaque", spec := "fnGrayOpaque", apart := false }
def FnGrayOpaqueSaid : Prop := fnGrayOpaqueRow.holds Try.pinned (OpenSpec.ofChange fnGrayOpaqueSpec)

/-- ITS FALSE NEIGHBOUR: 'it returns false'. Refute it at one input. -/
def fnGrayOpaqueWrong : ChangeSpec := { name := "fnGrayOpaque", fn := fun _ => fun
  | [d1, d2] => { results := [.lit (.bool false)], args := [d1, d2] }
  | _ => none }
def FnGrayOpaqueWrongFalsely : Prop := fnGrayOpaqueRow.holds Try.pinned (OpenSpec.ofChange fnGrayOpaqueWrong)

/-- 'laws.FnGrayWrite': WHATEVER THE INPUT: true; the input reads as it did. -/
def fnGrayWriteSpec : ChangeSpec := { name := "fnGrayWrite", fn := fun _ => fun
  | [d1, d2, d3, d4, d5] => { results := [.lit (.bool true)], args := [d1, d2, d3, d4, d5] }
  | _ => none }
def fnGrayWriteRow : OpenClaim := { program := "ytpijljokcoocpaa", sum := "75fdd86c1908ff6451770cdaa3bbef23cf5c526b6b0df524ca69f2c5beb2b86d", func := "loop.example/lib-g01192/laws.FnGrayWrite", spec := "fnGrayWrite", apart := false }
def FnGrayWriteSaid : Prop := fnGrayWriteRow.holds Try.pinned (OpenSpec.ofChange fnGrayWriteSpec)

/-- ITS FALSE NEIGHBOUR: 'it returns false'. Refute it at one input. -/
def fnGrayWriteWrong : ChangeSpec := { name := "fnGrayWrite", fn := fun _ => fun
  | [d1, d2, d3, d4, d5] => { results := [.lit (.bool false)], args := [d1, d2, d3, d4, d5] }
  | _ => none }
def FnGrayWriteWrongFalsely : Prop := fnGrayWriteRow.holds Try.pinned (OpenSpec.ofChange fnGrayWriteWrong)

/-- 'laws.FnGrayWriteOutside': WHATEVER THE INPUT: true; the input reads as it did. -/
def fnGrayWriteOutsideSpec : ChangeSpec := { name := "fnGrayWriteOutside", fn := fun _ => fun
  | [d1, d2, d3, d4, d5] => { results := [.lit (.bool true)], args := [d1, d2, d3, d4, d5] }
  | _ => none }
def fnGrayWriteOutsideRow : OpenClaim := { program := "ytpijljokcoocpaa", sum := "75fdd86c1908ff6451770cdaa3bbef23cf5c526b6b0df524ca69f2c5beb2b86d", func := "loop.example/lib-g01192/laws.FnGrayWriteOutside", spec := "fnGrayWriteOutside", apart := false }
def FnGrayWriteOutsideSaid : Prop := fnGrayWriteOutsideRow.holds Try.pinned (OpenSpec.ofChange fnGrayWriteOutsideSpec)

/-- ITS FALSE NEIGHBOUR: 'it returns false'. Refute it at one input. -/
def fnGrayWriteOutsideWrong : ChangeSpec := { name := "fnGrayWriteOutside", fn := fun _ => fun
  | [d1, d2, d3, d4, d5] => { results := [.lit (.bool false)], args := [d1, d2, d3, d4, d5] }
  | _ => none }
def FnGrayWriteOutsideWrongFalsely : Prop := fnGrayWriteOutsideRow.holds Try.pinned (OpenSpec.ofChange fnGrayWriteOutsideWrong)

/-- 'laws.FnGrayWriteTwice': WHATEVER THE INPUT: true; the input reads as it did. -/
def fnGrayWriteTwiceSpec : ChangeSpec := { name := "fnGrayWriteTwice", fn := fun _ => fun
  | [d1, d2, d3, d4, d5, d6, d7, d8] => { results := [.lit (.bool true)], args := [d1, d2, d3, d4, d5, d6, d7, d8] }
  | _ => none }
def fnGrayWriteTwiceRow : OpenClaim := { program := "ytpijljokcoocpaa", sum := "75fdd86c1908ff6451770cdaa3bbef23cf5c526b6b0df524ca69f2c5beb2b86d", func := "loop.example/lib-g01192/laws.FnGrayWriteTwice", spec := "fnGrayWriteTwice", apart := false }
def FnGrayWriteTwiceSaid : Prop := fnGrayWriteTwiceRow.holds Try.pinned (OpenSpec.ofChange fnGrayWriteTwiceSpec)

/-- ITS FALSE NEIGHBOUR: 'it returns false'. Refute it at one input. -/
def fnGrayWriteTwiceWrong : ChangeSpec := { name := "fnGrayWriteTwice", fn := fun _ => fun
  | [d1, d2, d3, d4, d5, d6, d7, d8] => { results := [.lit (.bool false)], args := [d1, d2, d3, d4, d5, d6, d7, d8] }
  | _ => none }
def FnGrayWriteTwiceWrongFalsely : Prop := fnGrayWriteTwiceRow.holds Try.pinned (OpenSpec.ofChange fnGrayWriteTwiceWrong)

/-- 'laws.FnGrayReadOutside': WHATEVER THE INPUT: true; the input reads as it did. -/
def fnGrayReadOutsideSpec : ChangeSpec := { name := "fnGrayReadOutside", fn := fun _ => fun
  | [d1, d2, d3, d4] => { results := [.lit (.bool true)], args := [d1, d2, d3, d4] }
  | _ => none }
def fnGrayReadOutsideRow : OpenClaim := { program := "ytpijljokcoocpaa", sum := "75fdd86c1908ff6451770cdaa3bbef23cf5c526b6b0df524ca69f2c5beb2b86d", func := "loop.example/lib-g01192/laws.FnGrayReadOutside", spec := "fnGrayReadOutside", apart := false }
def FnGrayReadOutsideSaid : Prop := fnGrayReadOutsideRow.holds Try.pinned (OpenSpec.ofChange fnGrayReadOutsideSpec)

/-- ITS FALSE NEIGHBOUR: 'it returns false'. Refute it at one input. -/
def fnGrayReadOutsideWrong : ChangeSpec := { name := "fnGrayReadOutside", fn := fun _ => fun
  | [d1, d2, d3, d4] => { results := [.lit (.bool false)], args := [d1, d2, d3, d4] }
  | _ => none }
def FnGrayReadOutsideWrongFalsely : Prop := fnGrayReadOutsideRow.holds Try.pinned (OpenSpec.ofChange fnGrayReadOutsideWrong)

/-- 'laws.FnGrayColor': WHATEVER THE INPUT: true; the input reads as it did. -/
def fnGrayColorSpec : ChangeSpec := { name := "fnGrayColor", fn := fun _ => fun
  | [d1, d2, d3, d4] => { results := [.lit (.bool true)], args := [d1, d2, d3, d4] }
  | _ => none }
def fnGrayColorRow : OpenClaim := { program := "ytpijljokcoocpaa", sum := "75fdd86c1908ff6451770cdaa3bbef23cf5c526b6b0df524ca69f2c5beb2b86d", func := "loop.example/lib-g01192/laws.FnGrayColor", spec := "fnGrayColor", apart := false }
def FnGrayColorSaid : Prop := fnGrayColorRow.holds Try.pinned (OpenSpec.ofChange fnGrayColorSpec)

/-- ITS FALSE NEIGHBOUR: 'it returns false'. Refute it at one input. -/
def fnGrayColorWrong : ChangeSpec := { name := "fnGrayColor", fn := fun _ => fun
  | [d1, d2, d3, d4] => { results := [.lit (.bool false)], args := [d1, d2, d3, d4] }
  | _ => none }
def FnGrayColorWrongFalsely : Prop := fnGrayColorRow.holds Try.pinned (OpenSpec.ofChange fnGrayColorWrong)

/-- 'laws.FnGrayWriteRead': WHATEVER THE INPUT: true; the input reads as it did. -/
def fnGrayWriteReadSpec : ChangeSpec := { name := "fnGrayWriteRead", fn := fun _ => fun
  | [d1, d2, d3, d4, d5, d6, d7] => { results := [.lit (.bool true)], args := [d1, d2, d3, d4, d5, d6, d7] }
  | _ => none }
def fnGrayWriteReadRow : OpenClaim := { program := "ytpijljokcoocpaa", sum := "75fdd86c1908ff6451770cdaa3bbef23cf5c526b6b0df524ca69f2c5beb2b86d", func := "loop.example/lib-g01192/laws.FnGrayWriteRead", spec := "fnGrayWriteRead", apart := false }
def FnGrayWriteReadSaid : Prop := fnGrayWriteReadRow.holds Try.pinned (OpenSpec.ofChange fnGrayWriteReadSpec)

/-- ITS FALSE NEIGHBOUR: 'it returns false'. Refute it at one input. -/
def fnGrayWriteReadWrong : ChangeSpec := { name := "fnGrayWriteRead", fn := fun _ => fun
  | [d1, d2, d3, d4, d5, d6, d7] => { results := [.lit (.bool false)], args := [d1, d2, d3, d4, d5, d6, d7] }
  | _ => none }
def FnGrayWriteReadWrongFalsely : Prop := fnGrayWriteReadRow.holds Try.pinned (OpenSpec.ofChange fnGrayWriteReadWrong)

/-- 'laws.FnGraySubEmpty': WHATEVER THE INPUT: true; the input reads as it did. -/
def fnGraySubEmptySpec : ChangeSpec := { name := "fnGraySubEmpty", fn := fun _ => fun
  | [d1, d2, d3] => { results := [.lit (.bool true)], args := [d1, d2, d3] }
  | _ => none }
def fnGraySubEmptyRow : OpenClaim := { program := "ytpijljokcoocpaa", sum := "75fdd86c1908ff6451770cdaa3bbef23cf5c526b6b0df524ca69f2c5beb2b86d", func := "loop.example/lib-g01192/laws.FnGraySubEmpty", spec := "fnGraySubEmpty", apart := false }
def FnGraySubEmptySaid : Prop := fnGraySubEmptyRow.holds Try.pinned (OpenSpec.ofChange fnGraySubEmptySpec)

/-- ITS FALSE NEIGHBOUR: 'it returns false'. Refute it at one input. -/
def fnGraySubEmptyWrong : ChangeSpec := { name := "fnGraySubEmpty", fn := fun _ => fun
  | [d1, d2, d3] => { results := [.lit (.bool false)], args := [d1, d2, d3] }
  | _ => none }
def FnGraySubEmptyWrongFalsely : Prop := fnGraySubEmptyRow.holds Try.pinned (OpenSpec.ofChange fnGraySubEmptyWrong)

/-- 'laws.FnGrayRun': WHATEVER THE INPUT: true; the input reads as it did. -/
def fnGrayRunSpec : ChangeSpec := { name := "fnGrayRun", fn := fun _ => fun
  | [d1, d2, d3] => { results := [.lit (.bool true)], args := [d1, d2, d3] }
  | _ => none }
def fnGrayRunRow : OpenClaim := { program := "ytpijljokcoocpaa", sum := "75fdd86c1908ff6451770cdaa3bbef23cf5c526b6b0df524ca69f2c5beb2b86d", func := "loop.example/lib-g01192/laws.FnGrayRun", spec := "fnGrayRun", apart := false }
def FnGrayRunSaid : Prop := fnGrayRunRow.holds Try.pinned (OpenSpec.ofChange fnGrayRunSpec)

/-- ITS FALSE NEIGHBOUR: 'it returns false'. Refute it at one input. -/
def fnGrayRunWrong : ChangeSpec := { name := "fnGrayRun", fn := fun _ => fun
  | [d1, d2, d3] => { results := [.lit (.bool false)], args := [d1, d2, d3] }
  | _ => none }
def FnGrayRunWrongFalsely : Prop := fnGrayRunRow.holds Try.pinned (OpenSpec.ofChange fnGrayRunWrong)

/-- 'laws.FnGrayRunAnywhere': WHATEVER THE INPUT: true; the input reads as it did. -/
def fnGrayRunAnywhereSpec : ChangeSpec := { name := "fnGrayRunAnywhere", fn := fun _ => fun
  | [d1, d2, d3] => { results := [.lit (.bool true)], args := [d1, d2, d3] }
  | _ => none }
def fnGrayRunAnywhereRow : OpenClaim := { program := "ytpijljokcoocpaa", sum := "75fdd86c1908ff6451770cdaa3bbef23cf5c526b6b0df524ca69f2c5beb2b86d", func := "loop.example/lib-g01192/laws.FnGrayRunAnywhere", spec := "fnGrayRunAnywhere", apart := false }
def FnGrayRunAnywhereSaid : Prop := fnGrayRunAnywhereRow.holds Try.pinned (OpenSpec.ofChange fnGrayRunAnywhereSpec)

/-- ITS FALSE NEIGHBOUR: 'it returns false'. Refute it at one input. -/
def fnGrayRunAnywhereWrong : ChangeSpec := { name := "fnGrayRunAnywhere", fn := fun _ => fun
  | [d1, d2, d3] => { results := [.lit (.bool false)], args := [d1, d2, d3] }
  | _ => none }
def FnGrayRunAnywhereWrongFalsely : Prop := fnGrayRunAnywhereRow.holds Try.pinned (OpenSpec.ofChange fnGrayRunAnywhereWrong)

/-- 'laws.FnGraySplit': WHATEVER THE INPUT: true; the input reads as it did. -/
def fnGraySplitSpec : ChangeSpec := { name := "fnGraySplit", fn := fun _ => fun
  | [d1, d2, d3, d4] => { results := [.lit (.bool true)], args := [d1, d2, d3, d4] }
  | _ => none }
def fnGraySplitRow : OpenClaim := { program := "ytpijljokcoocpaa", sum := "75fdd86c1908ff6451770cdaa3bbef23cf5c526b6b0df524ca69f2c5beb2b86d", func := "loop.example/lib-g01192/laws.FnGraySplit", spec := "fnGraySplit", apart := false }
def FnGraySplitSaid : Prop := fnGraySplitRow.holds Try.pinned (OpenSpec.ofChange fnGraySplitSpec)

/-- ITS FALSE NEIGHBOUR: 'it returns false'. Refute it at one input. -/
def fnGraySplitWrong : ChangeSpec := { name := "fnGraySplit", fn := fun _ => fun
  | [d1, d2, d3, d4] => { results := [.lit (.bool false)], args := [d1, d2, d3, d4] }
  | _ => none }
def FnGraySplitWrongFalsely : Prop := fnGraySplitRow.holds Try.pinned (OpenSpec.ofChange fnGraySplitWrong)

/-- 'laws.FnGrayPartOfPart': WHATEVER THE INPUT: true; the input reads as it did. -/
def fnGrayPartOfPartSpec : ChangeSpec := { name := "fnGrayPartOfPart", fn := fun _ => fun
  | [d1, d2, d3, d4, d5, d6] => { results := [.lit (.bool true)], args := [d1, d2, d3, d4, d5, d6] }
  | _ => none }
def fnGrayPartOfPartRow : OpenClaim := { program := "ytpijljokcoocpaa", sum := "75fdd86c1908ff6451770cdaa3bbef23cf5c526b6b0df524ca69f2c5beb2b86d", func := "loop.example/lib-g01192/laws.FnGrayPartOfPart", spec := "fnGrayPartOfPart", apart := false }
def FnGrayPartOfPartSaid : Prop := fnGrayPartOfPartRow.holds Try.pinned (OpenSpec.ofChange fnGrayPartOfPartSpec)

/-- ITS FALSE NEIGHBOUR: 'it returns false'. Refute it at one input. -/
def fnGrayPartOfPartWrong : ChangeSpec := { name := "fnGrayPartOfPart", fn := fun _ => fun
  | [d1, d2, d3, d4, d5, d6] => { results := [.lit (.bool false)], args := [d1, d2, d3, d4, d5, d6] }
  | _ => none }
def FnGrayPartOfPartWrongFalsely : Prop := fnGrayPartOfPartRow.holds Try.pinned (OpenSpec.ofChange fnGrayPartOfPartWrong)

/-- 'laws.FnGrayKeepsArgument': WHATEVER THE INPUT: true; the input reads as it did. -/
def fnGrayKeepsArgumentSpec : ChangeSpec := { name := "fnGrayKeepsArgument", fn := fun _ => fun
  | [d1, d2, d3, d4, d5] => { results := [.lit (.bool true)], args := [d1, d2, d3, d4, d5] }
  | _ => none }
def fnGrayKeepsArgumentRow : OpenClaim := { program := "ytpijljokcoocpaa", sum := "75fdd86c1908ff6451770cdaa3bbef23cf5c526b6b0df524ca69f2c5beb2b86d", func := "loop.example/lib-g01192/laws.FnGrayKeepsArgument", spec := "fnGrayKeepsArgument", apart := false }
def FnGrayKeepsArgumentSaid : Prop := fnGrayKeepsArgumentRow.holds Try.pinned (OpenSpec.ofChange fnGrayKeepsArgumentSpec)

/-- ITS FALSE NEIGHBOUR: 'it returns false'. Refute it at one input. -/
def fnGrayKeepsArgumentWrong : ChangeSpec := { name := "fnGrayKeepsArgument", fn := fun _ => fun
  | [d1, d2, d3, d4, d5] => { results := [.lit (.bool false)], args := [d1, d2, d3, d4, d5] }
  | _ => none }
def FnGrayKeepsArgumentWrongFalsely : Prop := fnGrayKeepsArgumentRow.holds Try.pinned (OpenSpec.ofChange fnGrayKeepsArgumentWrong)

/-- 'laws.FnGrayShared': WHATEVER THE INPUT: true; the input reads as it did. -/
def fnGraySharedSpec : ChangeSpec := { name := "fnGrayShared", fn := fun _ => fun
  | [d1, d2, d3, d4, d5, d6] => { results := [.lit (.bool true)], args := [d1, d2, d3, d4, d5, d6] }
  | _ => none }
def fnGraySharedRow : OpenClaim := { program := "ytpijljokcoocpaa", sum := "75fdd86c1908ff6451770cdaa3bbef23cf5c526b6b0df524ca69f2c5beb2b86d", func := "loop.example/lib-g01192/laws.FnGrayShared", spec := "fnGrayShared", apart := false }
def FnGraySharedSaid : Prop := fnGraySharedRow.holds Try.pinned (OpenSpec.ofChange fnGraySharedSpec)

/-- ITS FALSE NEIGHBOUR: 'it returns false'. Refute it at one input. -/
def fnGraySharedWrong : ChangeSpec := { name := "fnGrayShared", fn := fun _ => fun
  | [d1, d2, d3, d4, d5, d6] => { results := [.lit (.bool false)], args := [d1, d2, d3, d4, d5, d6] }
  | _ => none }
def FnGraySharedWrongFalsely : Prop := fnGraySharedRow.holds Try.pinned (OpenSpec.ofChange fnGraySharedWrong)

/- THE SECOND FORM. 'bulk': how many values and letters a reading holds, each counted each time it is reached (what is shared counts as often as it is met; a slice's spare places count too). A statement '..UptoSaid' is the law's where the arguments, and the package variables that the reading takes, are together of bulk at most 1048576: NARROWER than '..Said'. Prove '..Said' where nothing that the law and all that it calls make is longer than what came in: it says more and counts as full. Else prove '..UptoSaid'. A law counts once. -/
mutual
def uptoBulk {H : Type} : DataW H → Nat
  | .lit (.string bytes) => bytes.length + 1
  | .lit _ => 1
  | .nil => 1
  | .ptr d => uptoBulk d + 1
  | .slice elems spare => uptoBulkAll elems + uptoBulkAll spare + 1
  | .agg parts => uptoBulkAll parts + 1
  | .iface _ d => uptoBulk d + 1
  | .map entries => uptoBulkEntries entries + 1
  | .held _ => 1
def uptoBulkAll {H : Type} : List (DataW H) → Nat
  | [] => 0
  | d :: r => uptoBulk d + uptoBulkAll r
def uptoBulkEntries {H : Type} : List (Lit × DataW H) → Nat
  | [] => 0
  | x :: r => uptoBulkEntry x + uptoBulkEntries r
def uptoBulkEntry {H : Type} : Lit × DataW H → Nat
  | (.string bytes, d) => bytes.length + uptoBulk d + 1
  | (_, d) => uptoBulk d + 1
 end
def uptoSmall : (H : Type) → List (DataW H) → Bool := fun _ ds => decide (uptoBulkAll ds ≤ 1048576)
def OpenSpec.upto (s : _root_.Go.ChangeSpec) : _root_.Go.OpenSpec := { _root_.Go.OpenSpec.ofChange s with cond := some uptoSmall }

/-- 'laws.FnGrayNew', WHERE WHAT IT READS IS OF BULK AT MOST 1048576: true; the input reads as it did. -/
def fnGrayNewUptoRow : OpenClaim := { program := "ytpijljokcoocpaa", sum := "75fdd86c1908ff6451770cdaa3bbef23cf5c526b6b0df524ca69f2c5beb2b86d", func := "loop.example/lib-g01192/laws.FnGrayNew", spec := "fnGrayNew", apart := false, narrowed := true }
def FnGrayNewUptoSaid : Prop := fnGrayNewUptoRow.holds Try.pinned (OpenSpec.upto fnGrayNewSpec)

/-- 'laws.FnGrayNewBounds', WHERE WHAT IT READS IS OF BULK AT MOST 1048576: true; the input reads as it did. -/
def fnGrayNewBoundsUptoRow : OpenClaim := { program := "ytpijljokcoocpaa", sum := "75fdd86c1908ff6451770cdaa3bbef23cf5c526b6b0df524ca69f2c5beb2b86d", func := "loop.example/lib-g01192/laws.FnGrayNewBounds", spec := "fnGrayNewBounds", apart := false, narrowed := true }
def FnGrayNewBoundsUptoSaid : Prop := fnGrayNewBoundsUptoRow.holds Try.pinned (OpenSpec.upto fnGrayNewBoundsSpec)

/-- 'laws.FnGrayRead', WHERE WHAT IT READS IS OF BULK AT MOST 1048576: true; the input reads as it did. -/
def fnGrayReadUptoRow : OpenClaim := { program := "ytpijljokcoocpaa", sum := "75fdd86c1908ff6451770cdaa3bbef23cf5c526b6b0df524ca69f2c5beb2b86d", func := "loop.example/lib-g01192/laws.FnGrayRead", spec := "fnGrayRead", apart := false, narrowed := true }
def FnGrayReadUptoSaid : Prop := fnGrayReadUptoRow.holds Try.pinned (OpenSpec.upto fnGrayReadSpec)

/-- 'laws.FnGrayApart', WHERE WHAT IT READS IS OF BULK AT MOST 1048576: true; the input reads as it did. -/
def fnGrayApartUptoRow : OpenClaim := { program := "ytpijljokcoocpaa", sum := "75fdd86c1908ff6451770cdaa3bbef23cf5c526b6b0df524ca69f2c5beb2b86d", func := "loop.example/lib-g01192/laws.FnGrayApart", spec := "fnGrayApart", apart := false, narrowed := true }
def FnGrayApartUptoSaid : Prop := fnGrayApartUptoRow.holds Try.pinned (OpenSpec.upto fnGrayApartSpec)

/-- 'laws.FnGrayOffset', WHERE WHAT IT READS IS OF BULK AT MOST 1048576: true; the input reads as it did. -/
def fnGrayOffsetUptoRow : OpenClaim := { program := "ytpijljokcoocpaa", sum := "75fdd86c1908ff6451770cdaa3bbef23cf5c526b6b0df524ca69f2c5beb2b86d", func := "loop.example/lib-g01192/laws.FnGrayOffset", spec := "fnGrayOffset", apart := false, narrowed := true }
def FnGrayOffsetUptoSaid : Prop := fnGrayOffsetUptoRow.holds Try.pinned (OpenSpec.upto fnGrayOffsetSpec)

/-- 'laws.FnGrayOpaque', WHERE WHAT IT READS IS OF BULK AT MOST 1048576: true; the input reads as it did. -/
def fnGrayOpaqueUptoRow : OpenClaim := { program := "ytpijljokcoocpaa", sum := "75fdd86c1908ff6451770cdaa3bbef23cf5c526b6b0df524ca69f2c5beb2b86d", func := "loop.example/lib-g01192/laws.FnGrayOpaque", spec := "fnGrayOpaque", apart := false, narrowed := true }
def FnGrayOpaqueUptoSaid : Prop := fnGrayOpaqueUptoRow.holds Try.pinned (OpenSpec.upto fnGrayOpaqueSpec)

/-- 'laws.FnGrayWrite', WHERE WHAT IT READS IS OF BULK AT MOST 1048576: true; the input reads as it did. -/
def fnGrayWriteUptoRow : OpenClaim := { program := "ytpijljokcoocpaa", sum := "75fdd86c1908ff6451770cdaa3bbef23cf5c526b6b0df524ca69f2c5beb2b86d", func := "loop.example/lib-g01192/laws.FnGrayWrite", spec := "fnGrayWrite", apart := false, narrowed := true }
def FnGrayWriteUptoSaid : Prop := fnGrayWriteUptoRow.holds Try.pinned (OpenSpec.upto fnGrayWriteSpec)

/-- 'laws.FnGrayWriteOutside', WHERE WHAT IT READS IS OF BULK AT MOST 1048576: true; the input reads as it did. -/
def fnGrayWriteOutsideUptoRow : OpenClaim := { program := "ytpijljokcoocpaa", sum := "75fdd86c1908ff6451770cdaa3bbef23cf5c526b6b0df524ca69f2c5beb2b86d", func := "loop.example/lib-g01192/laws.FnGrayWriteOutside", spec := "fnGrayWriteOutside", apart := false, narrowed := true }
def FnGrayWriteOutsideUptoSaid : Prop := fnGrayWriteOutsideUptoRow.holds Try.pinned (OpenSpec.upto fnGrayWriteOutsideSpec)

/-- 'laws.FnGrayWriteTwice', WHERE WHAT IT READS IS OF BULK AT MOST 1048576: true; the input reads as it did. -/
def fnGrayWriteTwiceUptoRow : OpenClaim := { program := "ytpijljokcoocpaa", sum := "75fdd86c1908ff6451770cdaa3bbef23cf5c526b6b0df524ca69f2c5beb2b86d", func := "loop.example/lib-g01192/laws.FnGrayWriteTwice", spec := "fnGrayWriteTwice", apart := false, narrowed := true }
def FnGrayWriteTwiceUptoSaid : Prop := fnGrayWriteTwiceUptoRow.holds Try.pinned (OpenSpec.upto fnGrayWriteTwiceSpec)

/-- 'laws.FnGrayReadOutside', WHERE WHAT IT READS IS OF BULK AT MOST 1048576: true; the input reads as it did. -/
def fnGrayReadOutsideUptoRow : OpenClaim := { program := "ytpijljokcoocpaa", sum := "75fdd86c1908ff6451770cdaa3bbef23cf5c526b6b0df524ca69f2c5beb2b86d", func := "loop.example/lib-g01192/laws.FnGrayReadOutside", spec := "fnGrayReadOutside", apart := false, narrowed := true }
def FnGrayReadOutsideUptoSaid : Prop := fnGrayReadOutsideUptoRow.holds Try.pinned (OpenSpec.upto fnGrayReadOutsideSpec)

/-- 'laws.FnGrayColor', WHERE WHAT IT READS IS OF BULK AT MOST 1048576: true; the input reads as it did. -/
def fnGrayColorUptoRow : OpenClaim := { program := "ytpijljokcoocpaa", sum := "75fdd86c1908ff6451770cdaa3bbef23cf5c526b6b0df524ca69f2c5beb2b86d", func := "loop.example/lib-g01192/laws.FnGrayColor", spec := "fnGrayColor", apart := false, narrowed := true }
def FnGrayColorUptoSaid : Prop := fnGrayColorUptoRow.holds Try.pinned (OpenSpec.upto fnGrayColorSpec)

/-- 'laws.FnGrayWriteRead', WHERE WHAT IT READS IS OF BULK AT MOST 1048576: true; the input reads as it did. -/
def fnGrayWriteReadUptoRow : OpenClaim := { program := "ytpijljokcoocpaa", sum := "75fdd86c1908ff6451770cdaa3bbef23cf5c526b6b0df524ca69f2c5beb2b86d", func := "loop.example/lib-g01192/laws.FnGrayWriteRead", spec := "fnGrayWriteRead", apart := false, narrowed := true }
def FnGrayWriteReadUptoSaid : Prop := fnGrayWriteReadUptoRow.holds Try.pinned (OpenSpec.upto fnGrayWriteReadSpec)

/-- 'laws.FnGraySubEmpty', WHERE WHAT IT READS IS OF BULK AT MOST 1048576: true; the input reads as it did. -/
def fnGraySubEmptyUptoRow : OpenClaim := { program := "ytpijljokcoocpaa", sum := "75fdd86c1908ff6451770cdaa3bbef23cf5c526b6b0df524ca69f2c5beb2b86d", func := "loop.example/lib-g01192/laws.FnGraySubEmpty", spec := "fnGraySubEmpty", apart := false, narrowed := true }
def FnGraySubEmptyUptoSaid : Prop := fnGraySubEmptyUptoRow.holds Try.pinned (OpenSpec.upto fnGraySubEmptySpec)

/-- 'laws.FnGrayRun', WHERE WHAT IT READS IS OF BULK AT MOST 1048576: true; the input reads as it did. -/
def fnGrayRunUptoRow : OpenClaim := { program := "ytpijljokcoocpaa", sum := "75fdd86c1908ff6451770cdaa3bbef23cf5c526b6b0df524ca69f2c5beb2b86d", func := "loop.example/lib-g01192/laws.FnGrayRun", spec := "fnGrayRun", apart := false, narrowed := true }
def FnGrayRunUptoSaid : Prop := fnGrayRunUptoRow.holds Try.pinned (OpenSpec.upto fnGrayRunSpec)

/-- 'laws.FnGrayRunAnywhere', WHERE WHAT IT READS IS OF BULK AT MOST 1048576: true; the input reads as it did. -/
def fnGrayRunAnywhereUptoRow : OpenClaim := { program := "ytpijljokcoocpaa", sum := "75fdd86c1908ff6451770cdaa3bbef23cf5c526b6b0df524ca69f2c5beb2b86d", func := "loop.example/lib-g01192/laws.FnGrayRunAnywhere", spec := "fnGrayRunAnywhere", apart := false, narrowed := true }
def FnGrayRunAnywhereUptoSaid : Prop := fnGrayRunAnywhereUptoRow.holds Try.pinned (OpenSpec.upto fnGrayRunAnywhereSpec)

/-- 'laws.FnGraySplit', WHERE WHAT IT READS IS OF BULK AT MOST 1048576: true; the input reads as it did. -/
def fnGraySplitUptoRow : OpenClaim := { program := "ytpijljokcoocpaa", sum := "75fdd86c1908ff6451770cdaa3bbef23cf5c526b6b0df524ca69f2c5beb2b86d", func := "loop.example/lib-g01192/laws.FnGraySplit", spec := "fnGraySplit", apart := false, narrowed := true }
def FnGraySplitUptoSaid : Prop := fnGraySplitUptoRow.holds Try.pinned (OpenSpec.upto fnGraySplitSpec)

/-- 'laws.FnGrayPartOfPart', WHERE WHAT IT READS IS OF BULK AT MOST 1048576: true; the input reads as it did. -/
def fnGrayPartOfPartUptoRow : OpenClaim := { program := "ytpijljokcoocpaa", sum := "75fdd86c1908ff6451770cdaa3bbef23cf5c526b6b0df524ca69f2c5beb2b86d", func := "loop.example/lib-g01192/laws.FnGrayPartOfPart", spec := "fnGrayPartOfPart", apart := false, narrowed := true }
def FnGrayPartOfPartUptoSaid : Prop := fnGrayPartOfPartUptoRow.holds Try.pinned (OpenSpec.upto fnGrayPartOfPartSpec)

/-- 'laws.FnGrayKeepsArgument', WHERE WHAT IT READS IS OF BULK AT MOST 1048576: true; the input reads as it did. -/
def fnGrayKeepsArgumentUptoRow : OpenClaim := { program := "ytpijljokcoocpaa", sum := "75fdd86c1908ff6451770cdaa3bbef23cf5c526b6b0df524ca69f2c5beb2b86d", func := "loop.example/lib-g01192/laws.FnGrayKeepsArgument", spec := "fnGrayKeepsArgument", apart := false, narrowed := true }
def FnGrayKeepsArgumentUptoSaid : Prop := fnGrayKeepsArgumentUptoRow.holds Try.pinned (OpenSpec.upto fnGrayKeepsArgumentSpec)

/-- 'laws.FnGrayShared', WHERE WHAT IT READS IS OF BULK AT MOST 1048576: true; the input reads as it did. -/
def fnGraySharedUptoRow : OpenClaim := { program := "ytpijljokcoocpaa", sum := "75fdd86c1908ff6451770cdaa3bbef23cf5c526b6b0df524ca69f2c5beb2b86d", func := "loop.example/lib-g01192/laws.FnGrayShared", spec := "fnGrayShared", apart := false, narrowed := true }
def FnGraySharedUptoSaid : Prop := fnGraySharedUptoRow.holds Try.pinned (OpenSpec.upto fnGraySharedSpec)

end Rows
end Go.Proofs.Ytpijljokcoocpaa
