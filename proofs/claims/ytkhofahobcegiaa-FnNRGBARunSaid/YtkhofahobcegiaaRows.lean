/-
  No cell of these rows narrows 'for every input' (looked for: loops, veiled, ifaces, maps, wideKeys, modest, calm, conditions, laid).
  DERIVED. THE GIVEN ROWS OF THIS SEAT. 19 by the template 'for every input the law returns true; each argument reads behind the call as it read before'; 0 by the template 'total and deterministic' (their statements: YtkhofahobcegiaaTotals.lean).
  GIVEN WITH THE SEED: the statements are not yours to turn. If you find one false, say at which input.
  Laid BY PROGRAM, IN A SANDBOX (cutbox-rows.mjs): the forced cells as the released guide's own fill.sh prints them over the translation 517115742c4f5d9a… (all of the seat's roots in one cut). By AI agents, Wed Nov 11 2026. No macro, syntax, notation, axiom, sorry.
-/
import Derived.Test.YtkhofahobcegiaaChecked
import GoSem.Claim
import GoSem.ClaimJoined
import GoSem.ClaimMapViews
import Derived.JoinedTies
import Derived.KernelRfl
namespace Go.Proofs.Ytkhofahobcegiaa
/- THE CELL 'sum', in the pinned program and in every row, IS THE sha256 OF THE DUMP (.gsa) THAT YtkhofahobcegiaaProg.lean LOADS. Nothing in Lean hashes anything: it is a label: what it is worth is what the hold of that sum in a sandbox is worth. -/
noncomputable def Try.pinned : Pinned := { name := "ytkhofahobcegiaa", sum := "517115742c4f5d9a91fe5534f43909d7e601ede4600392ee122dd3a5dbe6ea19", checked := Try.checked }
namespace Rows
def none {H : Type} : Left H := { results := [], args := [] }

/-- 'laws.FnNRGBAPartOfPart': WHATEVER THE INPUT: true; the input reads as it did. -/
def fnNRGBAPartOfPartSpec : ChangeSpec := { name := "fnNRGBAPartOfPart", fn := fun _ => fun
  | [d1, d2, d3, d4, d5, d6] => { results := [.lit (.bool true)], args := [d1, d2, d3, d4, d5, d6] }
  | _ => none }
def fnNRGBAPartOfPartRow : OpenClaim := { program := "ytkhofahobcegiaa", sum := "517115742c4f5d9a91fe5534f43909d7e601ede4600392ee122dd3a5dbe6ea19", func := "loop.example/lib-g01192/laws.FnNRGBAPartOfPart", spec := "fnNRGBAPartOfPart", apart := false }
def FnNRGBAPartOfPartSaid : Prop := fnNRGBAPartOfPartRow.holds Try.pinned (OpenSpec.ofChange fnNRGBAPartOfPartSpec)

/-- ITS FALSE NEIGHBOUR: 'it returns false'. Refute it at one input. -/
def fnNRGBAPartOfPartWrong : ChangeSpec := { name := "fnNRGBAPartOfPart", fn := fun _ => fun
  | [d1, d2, d3, d4, d5, d6] => { results := [.lit (.bool false)], args := [d1, d2, d3, d4, d5, d6] }
  | _ => none }
def FnNRGBAPartOfPartWrongFalsely : Prop := fnNRGBAPartOfPartRow.holds Try.pinned (OpenSpec.ofChange fnNRGBAPartOfPartWrong)

/-- 'laws.FnNRGBAKeepsArgument': WHATEVER THE INPUT: true; the input reads as it did. -/
def fnNRGBAKeepsArgumentSpec : ChangeSpec := { name := "fnNRGBAKeepsArgument", fn := fun _ => fun
  | [d1, d2, d3, d4, d5] => { results := [.lit (.bool true)], args := [d1, d2, d3, d4, d5] }
  | _ => none }
def fnNRGBAKeepsArgumentRow : OpenClaim := { program := "ytkhofahobcegiaa", sum := "517115742c4f5d9a91fe5534f43909d7e601ede4600392ee122dd3a5dbe6ea19", func := "loop.example/lib-g01192/laws.FnNRGBAKeepsArgument", spec := "fnNRGBAKeepsArgument", apart := false }
def FnNRGBAKeepsArgumentSaid : Prop := fnNRGBAKeepsArgumentRow.holds Try.pinned (OpenSpec.ofChange fnNRGBAKeepsArgumentSpec)

/-- ITS FALSE NEIGHBOUR: 'it returns false'. Refute it at one input. -/
def fnNRGBAKeepsArgumentWrong : ChangeSpec := { name := "fnNRGBAKeepsArgument", fn := fun _ => fun
  | [d1, d2, d3, d4, d5] => { results := [.lit (.bool false)], args := [d1, d2, d3, d4, d5] }
  | _ => none }
def FnNRGBAKeepsArgumentWrongFalsely : Prop := fnNRGBAKeepsArgumentRow.holds Try.pinned (OpenSpec.ofChange fnNRGBAKeepsArgumentWrong)

/-- 'laws.FnNRGBANew': WHATEVER THE INPUT: true; the input reads as it did. -/
def fnNRGBANewSpec : ChangeSpec := { name := "fnNRGBANew", fn := fun _ => fun
  | [d] => { results := [.lit (.bool true)], args := [d] }
  | _ => none }
def fnNRGBANewRow : OpenClaim := { program := "ytkhofahobcegiaa", sum := "517115742c4f5d9a91fe5534f43909d7e601ede4600392ee122dd3a5dbe6ea19", func := "loop.example/lib-g01192/laws.FnNRGBANew", spec := "fnNRGBANew", apart := false }
def FnNRGBANewSaid : Prop := fnNRGBANewRow.holds Try.pinned (OpenSpec.ofChange fnNRGBANewSpec)

/-- ITS FALSE NEIGHBOUR: 'it returns false'. Refute it at one input. -/
def fnNRGBANewWrong : ChangeSpec := { name := "fnNRGBANew", fn := fun _ => fun
  | [d] => { results := [.lit (.bool false)], args := [d] }
  | _ => none }
def FnNRGBANewWrongFalsely : Prop := fnNRGBANewRow.holds Try.pinned (OpenSpec.ofChange fnNRGBANewWrong)

/-- 'laws.FnNRGBANewBounds': WHATEVER THE INPUT: true; the input reads as it did. -/
def fnNRGBANewBoundsSpec : ChangeSpec := { name := "fnNRGBANewBounds", fn := fun _ => fun
  | [d] => { results := [.lit (.bool true)], args := [d] }
  | _ => none }
def fnNRGBANewBoundsRow : OpenClaim := { program := "ytkhofahobcegiaa", sum := "517115742c4f5d9a91fe5534f43909d7e601ede4600392ee122dd3a5dbe6ea19", func := "loop.example/lib-g01192/laws.FnNRGBANewBounds", spec := "fnNRGBANewBounds", apart := false }
def FnNRGBANewBoundsSaid : Prop := fnNRGBANewBoundsRow.holds Try.pinned (OpenSpec.ofChange fnNRGBANewBoundsSpec)

/-- ITS FALSE NEIGHBOUR: 'it returns false'. Refute it at one input. -/
def fnNRGBANewBoundsWrong : ChangeSpec := { name := "fnNRGBANewBounds", fn := fun _ => fun
  | [d] => { results := [.lit (.bool false)], args := [d] }
  | _ => none }
def FnNRGBANewBoundsWrongFalsely : Prop := fnNRGBANewBoundsRow.holds Try.pinned (OpenSpec.ofChange fnNRGBANewBoundsWrong)

/-- 'laws.FnNRGBAShared': WHATEVER THE INPUT: true; the input reads as it did. -/
def fnNRGBASharedSpec : ChangeSpec := { name := "fnNRGBAShared", fn := fun _ => fun
  | [d1, d2, d3, d4, d5, d6] => { results := [.lit (.bool true)], args := [d1, d2, d3, d4, d5, d6] }
  | _ => none }
def fnNRGBASharedRow : OpenClaim := { program := "ytkhofahobcegiaa", sum := "517115742c4f5d9a91fe5534f43909d7e601ede4600392ee122dd3a5dbe6ea19", func := "loop.example/lib-g01192/laws.FnNRGBAShared", spec := "fnNRGBAShared", apart := false }
def FnNRGBASharedSaid : Prop := fnNRGBASharedRow.holds Try.pinned (OpenSpec.ofChange fnNRGBASharedSpec)

/-- ITS FALSE NEIGHBOUR: 'it returns false'. Refute it at one input. -/
def fnNRGBASharedWrong : ChangeSpec := { name := "fnNRGBAShared", fn := fun _ => fun
  | [d1, d2, d3, d4, d5, d6] => { results := [.lit (.bool false)], args := [d1, d2, d3, d4, d5, d6] }
  | _ => none }
def FnNRGBASharedWrongFalsely : Prop := fnNRGBASharedRow.holds Try.pinned (OpenSpec.ofChange fnNRGBASharedWrong)

/-- 'laws.FnNRGBAApart': WHATEVER THE INPUT: true; the input reads as it did. -/
def fnNRGBAApartSpec : ChangeSpec := { name := "fnNRGBAApart", fn := fun _ => fun
  | [d1, d2, d3, d4, d5] => { results := [.lit (.bool true)], args := [d1, d2, d3, d4, d5] }
  | _ => none }
def fnNRGBAApartRow : OpenClaim := { program := "ytkhofahobcegiaa", sum := "517115742c4f5d9a91fe5534f43909d7e601ede4600392ee122dd3a5dbe6ea19", func := "loop.example/lib-g01192/laws.FnNRGBAApart", spec := "fnNRGBAApart", apart := false }
def FnNRGBAApartSaid : Prop := fnNRGBAApartRow.holds Try.pinned (OpenSpec.ofChange fnNRGBAApartSpec)

/-- ITS FALSE NEIGHBOUR: 'it returns false'. Refute it at one input. -/
def fnNRGBAApartWrong : ChangeSpec := { name := "fnNRGBAApart", fn := fun _ => fun
  | [d1, d2, d3, d4, d5] => { results := [.lit (.bool false)], args := [d1, d2, d3, d4, d5] }
  | _ => none }
def FnNRGBAApartWrongFalsely : Prop := fnNRGBAApartRow.holds Try.pinned (OpenSpec.ofChange fnNRGBAApartWrong)

/-- 'laws.FnNRGBAOffset': WHATEVER THE INPUT: true; the input reads as it did. -/
def fnNRGBAOffsetSpec : ChangeSpec := { name := "fnNRGBAOffset", fn := fun _ => fun
  | [d1, d2, d3] => { results := [.lit (.bool true)], args := [d1, d2, d3] }
  | _ => none }
def fnNRGBAOffsetRow : OpenClaim := { program := "ytkhofahobcegiaa", sum := "517115742c4f5d9a91fe5534f43909d7e601ede4600392ee122dd3a5dbe6ea19", func := "loop.example/lib-g01192/laws.FnNRGBAOffset", spec := "fnNRGBAOffset", apart := false }
def FnNRGBAOffsetSaid : Prop := fnNRGBAOffsetRow.holds Try.pinned (OpenSpec.ofChange fnNRGBAOffsetSpec)

/-- ITS FALSE NEIGHBOUR: 'it returns false'. Refute it at one input. -/
def fnNRGBAOffsetWrong : ChangeSpec := { name := "fnNRGBAOffset", fn := fun _ => fun
  | [d1, d2, d3] => { results := [.lit (.bool false)], args := [d1, d2, d3] }
  | _ => none }
def FnNRGBAOffsetWrongFalsely : Prop := fnNRGBAOffsetRow.holds Try.pinned (OpenSpec.ofChange fnNRGBAOffsetWrong)

/-- 'laws.FnNRGBARead': WHATEVER THE INPUT: true; the input reads as it did. -/
def fnNRGBAReadSpec : ChangeSpec := { name := "fnNRGBARead", fn := fun _ => fun
  | [d1, d2, d3, d4] => { results := [.lit (.bool true)], args := [d1, d2, d3, d4] }
  | _ => none }
def fnNRGBAReadRow : OpenClaim := { program := "ytkhofahobcegiaa", sum := "517115742c4f5d9a91fe5534f43909d7e601ede4600392ee122dd3a5dbe6ea19", func := "loop.example/lib-g01192/laws.FnNRGBARead", spec := "fnNRGBARead", apart := false }
def FnNRGBAReadSaid : Prop := fnNRGBAReadRow.holds Try.pinned (OpenSpec.ofChange fnNRGBAReadSpec)

/-- ITS FALSE NEIGHBOUR: 'it returns false'. Refute it at one input. -/
def fnNRGBAReadWrong : ChangeSpec := { name := "fnNRGBARead", fn := fun _ => fun
  | [d1, d2, d3, d4] => { results := [.lit (.bool false)], args := [d1, d2, d3, d4] }
  | _ => none }
def FnNRGBAReadWrongFalsely : Prop := fnNRGBAReadRow.holds Try.pinned (OpenSpec.ofChange fnNRGBAReadWrong)

/-- 'laws.FnNRGBAWrite': WHATEVER THE INPUT: true; the input reads as it did. -/
def fnNRGBAWriteSpec : ChangeSpec := { name := "fnNRGBAWrite", fn := fun _ => fun
  | [d1, d2, d3, d4, d5] => { results := [.lit (.bool true)], args := [d1, d2, d3, d4, d5] }
  | _ => none }
def fnNRGBAWriteRow : OpenClaim := { program := "ytkhofahobcegiaa", sum := "517115742c4f5d9a91fe5534f43909d7e601ede4600392ee122dd3a5dbe6ea19", func := "loop.example/lib-g01192/laws.FnNRGBAWrite", spec := "fnNRGBAWrite", apart := false }
def FnNRGBAWriteSaid : Prop := fnNRGBAWriteRow.holds Try.pinned (OpenSpec.ofChange fnNRGBAWriteSpec)

/-- ITS FALSE NEIGHBOUR: 'it returns false'. Refute it at one input. -/
def fnNRGBAWriteWrong : ChangeSpec := { name := "fnNRGBAWrite", fn := fun _ => fun
  | [d1, d2, d3, d4, d5] => { results := [.lit (.bool false)], args := [d1, d2, d3, d4, d5] }
  | _ => none }
def FnNRGBAWriteWrongFalsely : Prop := fnNRGBAWriteRow.holds Try.pinned (OpenSpec.ofChange fnNRGBAWriteWrong)

/-- 'laws.FnNRGBAWriteOutside': WHATEVER THE INPUT: true; the input reads as it did. -/
def fnNRGBAWriteOutsideSpec : ChangeSpec := { name := "fnNRGBAWriteOutside", fn := fun _ => fun
  | [d1, d2, d3, d4, d5] => { results := [.lit (.bool true)], args := [d1, d2, d3, d4, d5] }
  | _ => none }
def fnNRGBAWriteOutsideRow : OpenClaim := { program := "ytkhofahobcegiaa", sum := "517115742c4f5d9a91fe5534f43909d7e601ede4600392ee122dd3a5dbe6ea19", func := "loop.example/lib-g01192/laws.FnNRGBAWriteOutside", spec := "fnNRGBAWriteOutside", apart := false }
def FnNRGBAWriteOutsideSaid : Prop := fnNRGBAWriteOutsideRow.holds Try.pinned (OpenSpec.ofChange fnNRGBAWriteOutsideSpec)

/-- ITS FALSE NEIGHBOUR: 'it returns false'. Refute it at one input. -/
def fnNRGBAWriteOutsideWrong : ChangeSpec := { name := "fnNRGBAWriteOutside", fn := fun _ => fun
  | [d1, d2, d3, d4, d5] => { results := [.lit (.bool false)], args := [d1, d2, d3, d4, d5] }
  | _ => none }
def FnNRGBAWriteOutsideWrongFalsely : Prop := fnNRGBAWriteOutsideRow.holds Try.pinned (OpenSpec.ofChange fnNRGBAWriteOutsideWrong)

/-- 'laws.FnNRGBAWriteTwice': WHATEVER THE INPUT: true; the input reads as it did. -/
def fnNRGBAWriteTwiceSpec : ChangeSpec := { name := "fnNRGBAWriteTwice", fn := fun _ => fun
  | [d1, d2, d3, d4, d5, d6, d7, d8] => { results := [.lit (.bool true)], args := [d1, d2, d3, d4, d5, d6, d7, d8] }
  | _ => none }
def fnNRGBAWriteTwiceRow : OpenClaim := { program := "ytkhofahobcegiaa", sum := "517115742c4f5d9a91fe5534f43909d7e601ede4600392ee122dd3a5dbe6ea19", func := "loop.example/lib-g01192/laws.FnNRGBAWriteTwice", spec := "fnNRGBAWriteTwice", apart := false }
def FnNRGBAWriteTwiceSaid : Prop := fnNRGBAWriteTwiceRow.holds Try.pinned (OpenSpec.ofChange fnNRGBAWriteTwiceSpec)

/-- ITS FALSE NEIGHBOUR: 'it returns false'. Refute it at one input. -/
def fnNRGBAWriteTwiceWrong : ChangeSpec := { name := "fnNRGBAWriteTwice", fn := fun _ => fun
  | [d1, d2, d3, d4, d5, d6, d7, d8] => { results := [.lit (.bool false)], args := [d1, d2, d3, d4, d5, d6, d7, d8] }
  | _ => none }
def FnNRGBAWriteTwiceWrongFalsely : Prop := fnNRGBAWriteTwiceRow.holds Try.pinned (OpenSpec.ofChange fnNRGBAWriteTwiceWrong)

/-- 'laws.FnNRGBAReadOutside': WHATEVER THE INPUT: true; the input reads as it did. -/
def fnNRGBAReadOutsideSpec : ChangeSpec := { name := "fnNRGBAReadOutside", fn := fun _ => fun
  | [d1, d2, d3, d4] => { results := [.lit (.bool true)], args := [d1, d2, d3, d4] }
  | _ => none }
def fnNRGBAReadOutsideRow : OpenClaim := { program := "ytkhofahobcegiaa", sum := "517115742c4f5d9a91fe5534f43909d7e601ede4600392ee122dd3a5dbe6ea19", func := "loop.example/lib-g01192/laws.FnNRGBAReadOutside", spec := "fnNRGBAReadOutside", apart := false }
def FnNRGBAReadOutsideSaid : Prop := fnNRGBAReadOutsideRow.holds Try.pinned (OpenSpec.ofChange fnNRGBAReadOutsideSpec)

/-- ITS FALSE NEIGHBOUR: 'it returns false'. Refute it at one input. -/
def fnNRGBAReadOutsideWrong : ChangeSpec := { name := "fnNRGBAReadOutside", fn := fun _ => fun
  | [d1, d2, d3, d4] => { results := [.lit (.bool false)], args := [d1, d2, d3, d4] }
  | _ => none }
def FnNRGBAReadOutsideWrongFalsely : Prop := fnNRGBAReadOutsideRow.holds Try.pinned (OpenSpec.ofChange fnNRGBAReadOutsideWrong)

/-- 'laws.FnNRGBAOpaque': WHATEVER THE INPUT: true; the input reads as it did. -/
def fnNRGBAOpaqueSpec : ChangeSpec := { name := "fnNRGBAOpaque", fn := fun _ => fun
  | [d1, d2] => { results := [.lit (.bool true)], args := [d1, d2] }
  | _ => none }
def fnNRGBAOpaqueRow : OpenClaim := { program := "ytkhofahobcegiaa", sum := "517115742c4f5d9a91fe5534f43909d7e601ede4600392ee122dd3a5dbe6ea19", func := "loop.example/lib-g01192/laws.FnNRGBAOpaque", spec := "fnNRGBAOpaque", apart := false }
def FnNRGBAOpaqueSaid : Prop := fnNRGBAOpaqueRow.holds Try.pinned (OpenSpec.ofChange fnNRGBAOpaqueSpec)

/-- ITS FALSE NEIGHBOUR: 'it returns false'. Refute it at one input. -/
def fnNRGBAOpaqueWrong : ChangeSpec := { name := "fnNRGBAOpaque", fn := fun _ => fun
  | [d1, d2] => { results := [.lit (.bool false)], args := [d1, d2] }
  | _ => none }
def FnNRGBAOpaqueWrongFalsely : Prop := fnNRGBAOpaqueRow.holds Try.pinned (OpenSpec.ofChange fnNRGBAOpaqueWrong)

/-- 'laws.FnNRGBAColor': WHATEVER THE INPUT: true; the input reads as it did. -/
def fnNRGBAColorSpec : ChangeSpec := { name := "fnNRGBAColor", fn := fun _ => fun
  | [d1, d2, d3, d4] => { results := [.lit (.bool true)], args := [d1, d2, d3, d4] }
  | _ => none }
def fnNRGBAColorRow : OpenClaim := { program := "ytkhofahobcegiaa", sum := "517115742c4f5d9a91fe5534f43909d7e601ede4600392ee122dd3a5dbe6ea19", func := "loop.example/lib-g01192/laws.FnNRGBAColor", spec := "fnNRGBAColor", apart := false }
def FnNRGBAColorSaid : Prop := fnNRGBAColorRow.holds Try.pinned (OpenSpec.ofChange fnNRGBAColorSpec)

/-- ITS FALSE NEIGHBOUR: 'it returns false'. Refute it at one input. -/
def fnNRGBAColorWrong : ChangeSpec := { name := "fnNRGBAColor", fn := fun _ => fun
  | [d1, d2, d3, d4] => { results := [.lit (.bool false)], args := [d1, d2, d3, d4] }
  | _ => none }
def FnNRGBAColorWrongFalsely : Prop := fnNRGBAColorRow.holds Try.pinned (OpenSpec.ofChange fnNRGBAColorWrong)

/-- 'laws.FnNRGBAWriteRead': WHATEVER THE INPUT: true; the input reads as it did. -/
def fnNRGBAWriteReadSpec : ChangeSpec := { name := "fnNRGBAWriteRead", fn := fun _ => fun
  | [d1, d2, d3, d4, d5, d6, d7] => { results := [.lit (.bool true)], args := [d1, d2, d3, d4, d5, d6, d7] }
  | _ => none }
def fnNRGBAWriteReadRow : OpenClaim := { program := "ytkhofahobcegiaa", sum := "517115742c4f5d9a91fe5534f43909d7e601ede4600392ee122dd3a5dbe6ea19", func := "loop.example/lib-g01192/laws.FnNRGBAWriteRead", spec := "fnNRGBAWriteRead", apart := false }
def FnNRGBAWriteReadSaid : Prop := fnNRGBAWriteReadRow.holds Try.pinned (OpenSpec.ofChange fnNRGBAWriteReadSpec)

/-- ITS FALSE NEIGHBOUR: 'it returns false'. Refute it at one input. -/
def fnNRGBAWriteReadWrong : ChangeSpec := { name := "fnNRGBAWriteRead", fn := fun _ => fun
  | [d1, d2, d3, d4, d5, d6, d7] => { results := [.lit (.bool false)], args := [d1, d2, d3, d4, d5, d6, d7] }
  | _ => none }
def FnNRGBAWriteReadWrongFalsely : Prop := fnNRGBAWriteReadRow.holds Try.pinned (OpenSpec.ofChange fnNRGBAWriteReadWrong)

/-- 'laws.FnNRGBASubEmpty': WHATEVER THE INPUT: true; the input reads as it did. -/
def fnNRGBASubEmptySpec : ChangeSpec := { name := "fnNRGBASubEmpty", fn := fun _ => fun
  | [d1, d2, d3] => { results := [.lit (.bool true)], args := [d1, d2, d3] }
  | _ => none }
def fnNRGBASubEmptyRow : OpenClaim := { program := "ytkhofahobcegiaa", sum := "517115742c4f5d9a91fe5534f43909d7e601ede4600392ee122dd3a5dbe6ea19", func := "loop.example/lib-g01192/laws.FnNRGBASubEmpty", spec := "fnNRGBASubEmpty", apart := false }
def FnNRGBASubEmptySaid : Prop := fnNRGBASubEmptyRow.holds Try.pinned (OpenSpec.ofChange fnNRGBASubEmptySpec)

/-- ITS FALSE NEIGHBOUR: 'it returns false'. Refute it at one input. -/
def fnNRGBASubEmptyWrong : ChangeSpec := { name := "fnNRGBASubEmpty", fn := fun _ => fun
  | [d1, d2, d3] => { results := [.lit (.bool false)], args := [d1, d2, d3] }
  | _ => none }
def FnNRGBASubEmptyWrongFalsely : Prop := fnNRGBASubEmptyRow.holds Try.pinned (OpenSpec.ofChange fnNRGBASubEmptyWrong)

/-- 'laws.FnNRGBARun': WHATEVER THE INPUT: true; the input reads as it did. -/
def fnNRGBARunSpec : ChangeSpec := { name := "fnNRGBARun", fn := fun _ => fun
  | [d1, d2, d3] => { results := [.lit (.bool true)], args := [d1, d2, d3] }
  | _ => none }
def fnNRGBARunRow : OpenClaim := { program := "ytkhofahobcegiaa", sum := "517115742c4f5d9a91fe5534f43909d7e601ede4600392ee122dd3a5dbe6ea19", func := "loop.example/lib-g01192/laws.FnNRGBARun", spec := "fnNRGBARun", apart := false }
def FnNRGBARunSaid : Prop := fnNRGBARunRow.holds Try.pinned (OpenSpec.ofChange fnNRGBARunSpec)

/-- ITS FALSE NEIGHBOUR: 'it returns false'. Refute it at one input. -/
def fnNRGBARunWrong : ChangeSpec := { name := "fnNRGBARun", fn := fun _ => fun
  | [d1, d2, d3] => { results := [.lit (.bool false)], args := [d1, d2, d3] }
  | _ => none }
def FnNRGBARunWrongFalsely : Prop := fnNRGBARunRow.holds Try.pinned (OpenSpec.ofChange fnNRGBARunWrong)

/-- 'laws.FnNRGBARunAnywhere': WHATEVER THE INPUT: true; the input reads as it did. -/
def fnNRGBARunAnywhereSpec : ChangeSpec := { name := "fnNRGBARunAnywhere", fn := fun _ => fun
  | [d1, d2, d3] => { results := [.lit (.bool true)], args := [d1, d2, d3] }
  | _ => none }
def fnNRGBARunAnywhereRow : OpenClaim := { program := "ytkhofahobcegiaa", sum := "517115742c4f5d9a91fe5534f43909d7e601ede4600392ee122dd3a5dbe6ea19", func := "loop.example/lib-g01192/laws.FnNRGBARunAnywhere", spec := "fnNRGBARunAnywhere", apart := false }
def FnNRGBARunAnywhereSaid : Prop := fnNRGBARunAnywhereRow.holds Try.pinned (OpenSpec.ofChange fnNRGBARunAnywhereSpec)

/-- ITS FALSE NEIGHBOUR: 'it returns false'. Refute it at one input. -/
def fnNRGBARunAnywhereWrong : ChangeSpec := { name := "fnNRGBARunAnywhere", fn := fun _ => fun
  | [d1, d2, d3] => { results := [.lit (.bool false)], args := [d1, d2, d3] }
  | _ => none }
def FnNRGBARunAnywhereWrongFalsely : Prop := fnNRGBARunAnywhereRow.holds Try.pinned (OpenSpec.ofChange fnNRGBARunAnywhereWrong)

/-- 'laws.FnNRGBASplit': WHATEVER THE INPUT: true; the input reads as it did. -/
def fnNRGBASplitSpec : ChangeSpec := { name := "fnNRGBASplit", fn := fun _ => fun
  | [d1, d2, d3, d4] => { results := [.lit (.bool true)], args := [d1, d2, d3, d4] }
  | _ => none }
def fnNRGBASplitRow : OpenClaim := { program := "ytkhofahobcegiaa", sum := "517115742c4f5d9a91fe5534f43909d7e601ede4600392ee122dd3a5dbe6ea19", func := "loop.example/lib-g01192/laws.FnNRGBASplit", spec := "fnNRGBASplit", apart := false }
def FnNRGBASplitSaid : Prop := fnNRGBASplitRow.holds Try.pinned (OpenSpec.ofChange fnNRGBASplitSpec)

/-- ITS FALSE NEIGHBOUR: 'it returns false'. Refute it at one input. -/
def fnNRGBASplitWrong : ChangeSpec := { name := "fnNRGBASplit", fn := fun _ => fun
  | [d1, d2, d3, d4] => { results := [.lit (.bool false)], args := [d1, d2, d3, d4] }
  | _ => none }
def FnNRGBASplitWrongFalsely : Prop := fnNRGBASplitRow.holds Try.pinned (OpenSpec.ofChange fnNRGBASplitWrong)

/- THE SECOND FORM. 'bulk': how many values and letters a reading holds, each counted each time it is reached (what is shared counts as often as it is met; a slice's spare places count too). A statement '..UptoSaid' is the law's where the arguments, and the package variables that the reading takes, are together of bulk at most 1048576: NARROWER than '..Said'. Prove '..Said' where nothing that the law and all that it calls make is longer than what came in: it says more and counts as full. Else prove '..UptoSaid'. A law counts once. -/
mutual
def uptoBulk {H : Type} : DataW H → Nat
  | .lit (.string bytes) => bytes.length + 1
  | .lit _ => 1
  | .nil => 1
  | .ptr d => uptoBulk d + 1
  | .slice elems spare => uptoBulkAll elems + uptoBulkAll spare + 1
  | .agg parts => uptoBulkAll parts + 1
  | .iface _ d => uptoBulk d + 1
  | .map entries => uptoBulkEntries entries + 1
  | .held _ => 1
def uptoBulkAll {H : Type} : List (DataW H) → Nat
  | [] => 0
  | d :: r => uptoBulk d + uptoBulkAll r
def uptoBulkEntries {H : Type} : List (Lit × DataW H) → Nat
  | [] => 0
  | x :: r => uptoBulkEntry x + uptoBulkEntries r
def uptoBulkEntry {H : Type} : Lit × DataW H → Nat
  | (.string bytes, d) => bytes.length + uptoBulk d + 1
  | (_, d) => uptoBulk d + 1
 end
def uptoSmall : (H : Type) → List (DataW H) → Bool := fun _ ds => decide (uptoBulkAll ds ≤ 1048576)
def OpenSpec.upto (s : _root_.Go.ChangeSpec) : _root_.Go.OpenSpec := { _root_.Go.OpenSpec.ofChange s with cond := some uptoSmall }

/-- 'laws.FnNRGBAPartOfPart', WHERE WHAT IT READS IS OF BULK AT MOST 1048576: true; the input reads as it did. -/
def fnNRGBAPartOfPartUptoRow : OpenClaim := { program := "ytkhofahobcegiaa", sum := "517115742c4f5d9a91fe5534f43909d7e601ede4600392ee122dd3a5dbe6ea19", func := "loop.example/lib-g01192/laws.FnNRGBAPartOfPart", spec := "fnNRGBAPartOfPart", apart := false, narrowed := true }
def FnNRGBAPartOfPartUptoSaid : Prop := fnNRGBAPartOfPartUptoRow.holds Try.pinned (OpenSpec.upto fnNRGBAPartOfPartSpec)

/-- 'laws.FnNRGBAKeepsArgument', WHERE WHAT IT READS IS OF BULK AT MOST 1048576: true; the input reads as it did. -/
def fnNRGBAKeepsArgumentUptoRow : OpenClaim := { program := "ytkhofahobcegiaa", sum := "517115742c4f5d9a91fe5534f43909d7e601ede4600392ee122dd3a5dbe6ea19", func := "loop.example/lib-g01192/laws.FnNRGBAKeepsArgument", spec := "fnNRGBAKeepsArgument", apart := false, narrowed := true }
def FnNRGBAKeepsArgumentUptoSaid : Prop := fnNRGBAKeepsArgumentUptoRow.holds Try.pinned (OpenSpec.upto fnNRGBAKeepsArgumentSpec)

/-- 'laws.FnNRGBANew', WHERE WHAT IT READS IS OF BULK AT MOST 1048576: true; the input reads as it did. -/
def fnNRGBANewUptoRow : OpenClaim := { program := "ytkhofahobcegiaa", sum := "517115742c4f5d9a91fe5534f43909d7e601ede4600392ee122dd3a5dbe6ea19", func := "loop.example/lib-g01192/laws.FnNRGBANew", spec := "fnNRGBANew", apart := false, narrowed := true }
def FnNRGBANewUptoSaid : Prop := fnNRGBANewUptoRow.holds Try.pinned (OpenSpec.upto fnNRGBANewSpec)

/-- 'laws.FnNRGBANewBounds', WHERE WHAT IT READS IS OF BULK AT MOST 1048576: true; the input reads as it did. -/
def fnNRGBANewBoundsUptoRow : OpenClaim := { program := "ytkhofahobcegiaa", sum := "517115742c4f5d9a91fe5534f43909d7e601ede4600392ee122dd3a5dbe6ea19", func := "loop.example/lib-g01192/laws.FnNRGBANewBounds", spec := "fnNRGBANewBounds", apart := false, narrowed := true }
def FnNRGBANewBoundsUptoSaid : Prop := fnNRGBANewBoundsUptoRow.holds Try.pinned (OpenSpec.upto fnNRGBANewBoundsSpec)

/-- 'laws.FnNRGBAShared', WHERE WHAT IT READS IS OF BULK AT MOST 1048576: true; the input reads as it did. -/
def fnNRGBASharedUptoRow : OpenClaim := { program := "ytkhofahobcegiaa", sum := "517115742c4f5d9a91fe5534f43909d7e601ede4600392ee122dd3a5dbe6ea19", func := "loop.example/lib-g01192/laws.FnNRGBAShared", spec := "fnNRGBAShared", apart := false, narrowed := true }
def FnNRGBASharedUptoSaid : Prop := fnNRGBASharedUptoRow.holds Try.pinned (OpenSpec.upto fnNRGBASharedSpec)

/-- 'laws.FnNRGBAApart', WHERE WHAT IT READS IS OF BULK AT MOST 1048576: true; the input reads as it did. -/
def fnNRGBAApartUptoRow : OpenClaim := { program := "ytkhofahobcegiaa", sum := "517115742c4f5d9a91fe5534f43909d7e601ede4600392ee122dd3a5dbe6ea19", func := "loop.example/lib-g01192/laws.FnNRGBAApart", spec := "fnNRGBAApart", apart := false, narrowed := true }
def FnNRGBAApartUptoSaid : Prop := fnNRGBAApartUptoRow.holds Try.pinned (OpenSpec.upto fnNRGBAApartSpec)

/-- 'laws.FnNRGBAOffset', WHERE WHAT IT READS IS OF BULK AT MOST 1048576: true; the input reads as it did. -/
def fnNRGBAOffsetUptoRow : OpenClaim := { program := "ytkhofahobcegiaa", sum := "517115742c4f5d9a91fe5534f43909d7e601ede4600392ee122dd3a5dbe6ea19", func := "loop.example/lib-g01192/laws.FnNRGBAOffset", spec := "fnNRGBAOffset", apart := false, narrowed := true }
def FnNRGBAOffsetUptoSaid : Prop := fnNRGBAOffsetUptoRow.holds Try.pinned (OpenSpec.upto fnNRGBAOffsetSpec)

/-- 'laws.FnNRGBARead', WHERE WHAT IT READS IS OF BULK AT MOST 1048576: true; the input reads as it did. -/
def fnNRGBAReadUptoRow : OpenClaim := { program := "ytkhofahobcegiaa", sum := "517115742c4f5d9a91fe5534f43909d7e601ede4600392ee122dd3a5dbe6ea19", func := "loop.example/lib-g01192/laws.FnNRGBARead", spec := "fnNRGBARead", apart := false, narrowed := true }
def FnNRGBAReadUptoSaid : Prop := fnNRGBAReadUptoRow.holds Try.pinned (OpenSpec.upto fnNRGBAReadSpec)

/-- 'laws.FnNRGBAWrite', WHERE WHAT IT READS IS OF BULK AT MOST 1048576: true; the input reads as it did. -/
def fnNRGBAWriteUptoRow : OpenClaim := { program := "ytkhofahobcegiaa", sum := "517115742c4f5d9a91fe5534f43909d7e601ede4600392ee122dd3a5dbe6ea19", func := "loop.example/lib-g01192/laws.FnNRGBAWrite", spec := "fnNRGBAWrite", apart := false, narrowed := true }
def FnNRGBAWriteUptoSaid : Prop := fnNRGBAWriteUptoRow.holds Try.pinned (OpenSpec.upto fnNRGBAWriteSpec)

/-- 'laws.FnNRGBAWriteOutside', WHERE WHAT IT READS IS OF BULK AT MOST 1048576: true; the input reads as it did. -/
def fnNRGBAWriteOutsideUptoRow : OpenClaim := { program := "ytkhofahobcegiaa", sum := "517115742c4f5d9a91fe5534f43909d7e601ede4600392ee122dd3a5dbe6ea19", func := "loop.example/lib-g01192/laws.FnNRGBAWriteOutside", spec := "fnNRGBAWriteOutside", apart := false, narrowed := true }
def FnNRGBAWriteOutsideUptoSaid : Prop := fnNRGBAWriteOutsideUptoRow.holds Try.pinned (OpenSpec.upto fnNRGBAWriteOutsideSpec)

/-- 'laws.FnNRGBAWriteTwice', WHERE WHAT IT READS IS OF BULK AT MOST 1048576: true; the input reads as it did. -/
def fnNRGBAWriteTwiceUptoRow : OpenClaim := { program := "ytkhofahobcegiaa", sum := "517115742c4f5d9a91fe5534f43909d7e601ede4600392ee122dd3a5dbe6ea19", func := "loop.example/lib-g01192/laws.FnNRGBAWriteTwice", spec := "fnNRGBAWriteTwice", apart := false, narrowed := true }
def FnNRGBAWriteTwiceUptoSaid : Prop := fnNRGBAWriteTwiceUptoRow.holds Try.pinned (OpenSpec.upto fnNRGBAWriteTwiceSpec)

/-- 'laws.FnNRGBAReadOutside', WHERE WHAT IT READS IS OF BULK AT MOST 1048576: true; the input reads as it did. -/
def fnNRGBAReadOutsideUptoRow : OpenClaim := { program := "ytkhofahobcegiaa", sum := "517115742c4f5d9a91fe5534f43909d7e601ede4600392ee122dd3a5dbe6ea19", func := "loop.example/lib-g01192/laws.FnNRGBAReadOutside", spec := "fnNRGBAReadOutside", apart := false, narrowed := true }
def FnNRGBAReadOutsideUptoSaid : Prop := fnNRGBAReadOutsideUptoRow.holds Try.pinned (OpenSpec.upto fnNRGBAReadOutsideSpec)

/-- 'laws.FnNRGBAOpaque', WHERE WHAT IT READS IS OF BULK AT MOST 1048576: true; the input reads as it did. -/
def fnNRGBAOpaqueUptoRow : OpenClaim := { program := "ytkhofahobcegiaa", sum := "517115742c4f5d9a91fe5534f43909d7e601ede4600392ee122dd3a5dbe6ea19", func := "loop.example/lib-g01192/laws.FnNRGBAOpaque", spec := "fnNRGBAOpaque", apart := false, narrowed := true }
def FnNRGBAOpaqueUptoSaid : Prop := fnNRGBAOpaqueUptoRow.holds Try.pinned (OpenSpec.upto fnNRGBAOpaqueSpec)

/-- 'laws.FnNRGBAColor', WHERE WHAT IT READS IS OF BULK AT MOST 1048576: true; the input reads as it did. -/
def fnNRGBAColorUptoRow : OpenClaim := { program := "ytkhofahobcegiaa", sum := "517115742c4f5d9a91fe5534f43909d7e601ede4600392ee122dd3a5dbe6ea19", func := "loop.example/lib-g01192/laws.FnNRGBAColor", spec := "fnNRGBAColor", apart := false, narrowed := true }
def FnNRGBAColorUptoSaid : Prop := fnNRGBAColorUptoRow.holds Try.pinned (OpenSpec.upto fnNRGBAColorSpec)

/-- 'laws.FnNRGBAWriteRead', WHERE WHAT IT READS IS OF BULK AT MOST 1048576: true; the input reads as it did. -/
def fnNRGBAWriteReadUptoRow : OpenClaim := { program := "ytkhofahobcegiaa", sum := "517115742c4f5d9a91fe5534f43909d7e601ede4600392ee122dd3a5dbe6ea19", func := "loop.example/lib-g01192/laws.FnNRGBAWriteRead", spec := "fnNRGBAWriteRead", apart := false, narrowed := true }
def FnNRGBAWriteReadUptoSaid : Prop := fnNRGBAWriteReadUptoRow.holds Try.pinned (OpenSpec.upto fnNRGBAWriteReadSpec)

/-- 'laws.FnNRGBASubEmpty', WHERE WHAT IT READS IS OF BULK AT MOST 1048576: true; the input reads as it did. -/
def fnNRGBASubEmptyUptoRow : OpenClaim := { program := "ytkhofahobcegiaa", sum := "517115742c4f5d9a91fe5534f43909d7e601ede4600392ee122dd3a5dbe6ea19", func := "loop.example/lib-g01192/laws.FnNRGBASubEmpty", spec := "fnNRGBASubEmpty", apart := false, narrowed := true }
def FnNRGBASubEmptyUptoSaid : Prop := fnNRGBASubEmptyUptoRow.holds Try.pinned (OpenSpec.upto fnNRGBASubEmptySpec)

/-- 'laws.FnNRGBARun', WHERE WHAT IT READS IS OF BULK AT MOST 1048576: true; the input reads as it did. -/
def fnNRGBARunUptoRow : OpenClaim := { program := "ytkhofahobcegiaa", sum := "517115742c4f5d9a91fe5534f43909d7e601ede4600392ee122dd3a5dbe6ea19", func := "loop.example/lib-g01192/laws.FnNRGBARun", spec := "fnNRGBARun", apart := false, narrowed := true }
def FnNRGBARunUptoSaid : Prop := fnNRGBARunUptoRow.holds Try.pinned (OpenSpec.upto fnNRGBARunSpec)

/-- 'laws.FnNRGBARunAnywhere', WHERE WHAT IT READS IS OF BULK AT MOST 1048576: true; the input reads as it did. -/
def fnNRGBARunAnywhereUptoRow : OpenClaim := { program := "ytkhofahobcegiaa", sum := "517115742c4f5d9a91fe5534f43909d7e601ede4600392ee122dd3a5dbe6ea19", func := "loop.example/lib-g01192/laws.FnNRGBARunAnywhere", spec := "fnNRGBARunAnywhere", apart := false, narrowed := true }
def FnNRGBARunAnywhereUptoSaid : Prop := fnNRGBARunAnywhereUptoRow.holds Try.pinned (OpenSpec.upto fnNRGBARunAnywhereSpec)

/-- 'laws.FnNRGBASplit', WHERE WHAT IT READS IS OF BULK AT MOST 1048576: true; the input reads as it did. -/
def fnNRGBASplitUptoRow : OpenClaim := { program := "ytkhofahobcegiaa", sum := "517115742c4f5d9a91fe5534f43909d7e601ede4600392ee122dd3a5dbe6ea19", func := "loop.example/lib-g01192/laws.FnNRGBASplit", spec := "fnNRGBASplit", apart := false, narrowed := true }
def FnNRGBASplitUptoSaid : Prop := fnNRGBASplitUptoRow.holds Try.pinned (OpenSpec.upto fnNRGBASplitSpec)

end Rows
end Go.Proofs.Ytkhofahobcegiaa
