/-
  No cell of these rows narrows 'for every input' (looked for: loops, veiled, ifaces, maps, wideKeys, modest, calm, conditions, laid).
  DERIVED. THE GIVEN ROWS OF THIS SEAT. 30 by the template 'for every input the law returns true; each argument reads behind the call as it read before'; 0 by the template 'total and deterministic' (their statements: YtapnmgkpljlgmaaTotals.lean).
  GIVEN WITH THE SEED: the statements are not yours to turn. If you find one false, say at which input.
  Laid BY PROGRAM, IN A SANDBOX (cutbox-rows.mjs): the forced cells as the released guide's own fill.sh prints them over the translation 896401cfe9038056… (all of the seat's roots in one cut). By AI agents, Wed Nov 11 2026. No macro, syntax, notation, axiom, sorry.
-/
import Derived.Test.YtapnmgkpljlgmaaChecked
import GoSem.Claim
import GoSem.ClaimJoined
import GoSem.ClaimMapViews
import Derived.JoinedTies
import Derived.KernelRfl
namespace Go.Proofs.Ytapnmgkpljlgmaa
/- THE CELL 'sum', in the pinned program and in every row, IS THE sha256 OF THE DUMP (.gsa) THAT YtapnmgkpljlgmaaProg.lean LOADS. Nothing in Lean hashes anything: it is a label: what it is worth is what the hold of that sum in a sandbox is worth. -/
noncomputable def Try.pinned : Pinned := { name := "ytapnmgkpljlgmaa", sum := "896401cfe9038056b1a0488d8a8b2de45654ce3e38f3d1a94dc1e36ef31f68b4", checked := Try.checked }
namespace Rows
def none {H : Type} : Left H := { results := [], args := [] }

/-- 'laws.FnApart': WHATEVER THE INPUT: true; the input reads as it did. -/
def fnApartSpec : ChangeSpec := { name := "fnApart", fn := fun _ => fun
  | [d1, d2, d3, d4] => { results := [.lit (.bool true)], args := [d1, d2, d3, d4] }
  | _ => none }
def fnApartRow : OpenClaim := { program := "ytapnmgkpljlgmaa", sum := "896401cfe9038056b1a0488d8a8b2de45654ce3e38f3d1a94dc1e36ef31f68b4", func := "loop.example/pub-factsofsizes/laws.FnApart", spec := "fnApart", unfollowed := true, recurses := true, apart := false }
def FnApartSaid : Prop := fnApartRow.holds Try.pinned (OpenSpec.ofChange fnApartSpec)

/-- ITS FALSE NEIGHBOUR: 'it returns false'. Refute it at one input. -/
def fnApartWrong : ChangeSpec := { name := "fnApart", fn := fun _ => fun
  | [d1, d2, d3, d4] => { results := [.lit (.bool false)], args := [d1, d2, d3, d4] }
  | _ => none }
def FnApartWrongFalsely : Prop := fnApartRow.holds Try.pinned (OpenSpec.ofChange fnApartWrong)

/-- 'laws.FnSame': WHATEVER THE INPUT: true; the input reads as it did. -/
def fnSameSpec : ChangeSpec := { name := "fnSame", fn := fun _ => fun
  | [d1, d2, d3, d4] => { results := [.lit (.bool true)], args := [d1, d2, d3, d4] }
  | _ => none }
def fnSameRow : OpenClaim := { program := "ytapnmgkpljlgmaa", sum := "896401cfe9038056b1a0488d8a8b2de45654ce3e38f3d1a94dc1e36ef31f68b4", func := "loop.example/pub-factsofsizes/laws.FnSame", spec := "fnSame", unfollowed := true, recurses := true, apart := false }
def FnSameSaid : Prop := fnSameRow.holds Try.pinned (OpenSpec.ofChange fnSameSpec)

/-- ITS FALSE NEIGHBOUR: 'it returns false'. Refute it at one input. -/
def fnSameWrong : ChangeSpec := { name := "fnSame", fn := fun _ => fun
  | [d1, d2, d3, d4] => { results := [.lit (.bool false)], args := [d1, d2, d3, d4] }
  | _ => none }
def FnSameWrongFalsely : Prop := fnSameRow.holds Try.pinned (OpenSpec.ofChange fnSameWrong)

/-- 'laws.FnOrders': WHATEVER THE INPUT: true; the input reads as it did. -/
def fnOrdersSpec : ChangeSpec := { name := "fnOrders", fn := fun _ => fun
  | [d1, d2, d3, d4] => { results := [.lit (.bool true)], args := [d1, d2, d3, d4] }
  | _ => none }
def fnOrdersRow : OpenClaim := { program := "ytapnmgkpljlgmaa", sum := "896401cfe9038056b1a0488d8a8b2de45654ce3e38f3d1a94dc1e36ef31f68b4", func := "loop.example/pub-factsofsizes/laws.FnOrders", spec := "fnOrders", unfollowed := true, recurses := true, apart := false }
def FnOrdersSaid : Prop := fnOrdersRow.holds Try.pinned (OpenSpec.ofChange fnOrdersSpec)

/-- ITS FALSE NEIGHBOUR: 'it returns false'. Refute it at one input. -/
def fnOrdersWrong : ChangeSpec := { name := "fnOrders", fn := fun _ => fun
  | [d1, d2, d3, d4] => { results := [.lit (.bool false)], args := [d1, d2, d3, d4] }
  | _ => none }
def FnOrdersWrongFalsely : Prop := fnOrdersRow.holds Try.pinned (OpenSpec.ofChange fnOrdersWrong)

/-- 'laws.FnUndone': WHATEVER THE INPUT: true; the input reads as it did. -/
def fnUndoneSpec : ChangeSpec := { name := "fnUndone", fn := fun _ => fun
  | [d1, d2, d3] => { results := [.lit (.bool true)], args := [d1, d2, d3] }
  | _ => none }
def fnUndoneRow : OpenClaim := { program := "ytapnmgkpljlgmaa", sum := "896401cfe9038056b1a0488d8a8b2de45654ce3e38f3d1a94dc1e36ef31f68b4", func := "loop.example/pub-factsofsizes/laws.FnUndone", spec := "fnUndone", unfollowed := true, recurses := true, apart := false }
def FnUndoneSaid : Prop := fnUndoneRow.holds Try.pinned (OpenSpec.ofChange fnUndoneSpec)

/-- ITS FALSE NEIGHBOUR: 'it returns false'. Refute it at one input. -/
def fnUndoneWrong : ChangeSpec := { name := "fnUndone", fn := fun _ => fun
  | [d1, d2, d3] => { results := [.lit (.bool false)], args := [d1, d2, d3] }
  | _ => none }
def FnUndoneWrongFalsely : Prop := fnUndoneRow.holds Try.pinned (OpenSpec.ofChange fnUndoneWrong)

/-- 'laws.FnAtMost': WHATEVER THE INPUT: true; the input reads as it did. -/
def fnAtMostSpec : ChangeSpec := { name := "fnAtMost", fn := fun _ => fun
  | [d1, d2, d3, d4] => { results := [.lit (.bool true)], args := [d1, d2, d3, d4] }
  | _ => none }
def fnAtMostRow : OpenClaim := { program := "ytapnmgkpljlgmaa", sum := "896401cfe9038056b1a0488d8a8b2de45654ce3e38f3d1a94dc1e36ef31f68b4", func := "loop.example/pub-factsofsizes/laws.FnAtMost", spec := "fnAtMost", unfollowed := true, recurses := true, apart := false }
def FnAtMostSaid : Prop := fnAtMostRow.holds Try.pinned (OpenSpec.ofChange fnAtMostSpec)

/-- ITS FALSE NEIGHBOUR: 'it returns false'. Refute it at one input. -/
def fnAtMostWrong : ChangeSpec := { name := "fnAtMost", fn := fun _ => fun
  | [d1, d2, d3, d4] => { results := [.lit (.bool false)], args := [d1, d2, d3, d4] }
  | _ => none }
def FnAtMostWrongFalsely : Prop := fnAtMostRow.holds Try.pinned (OpenSpec.ofChange fnAtMostWrong)

/-- 'laws.FnAnyOrder': WHATEVER THE INPUT: true; the input reads as it did. -/
def fnAnyOrderSpec : ChangeSpec := { name := "fnAnyOrder", fn := fun _ => fun
  | [d1, d2, d3, d4] => { results := [.lit (.bool true)], args := [d1, d2, d3, d4] }
  | _ => none }
def fnAnyOrderRow : OpenClaim := { program := "ytapnmgkpljlgmaa", sum := "896401cfe9038056b1a0488d8a8b2de45654ce3e38f3d1a94dc1e36ef31f68b4", func := "loop.example/pub-factsofsizes/laws.FnAnyOrder", spec := "fnAnyOrder", unfollowed := true, recurses := true, apart := false }
def FnAnyOrderSaid : Prop := fnAnyOrderRow.holds Try.pinned (OpenSpec.ofChange fnAnyOrderSpec)

/-- ITS FALSE NEIGHBOUR: 'it returns false'. Refute it at one input. -/
def fnAnyOrderWrong : ChangeSpec := { name := "fnAnyOrder", fn := fun _ => fun
  | [d1, d2, d3, d4] => { results := [.lit (.bool false)], args := [d1, d2, d3, d4] }
  | _ => none }
def FnAnyOrderWrongFalsely : Prop := fnAnyOrderRow.holds Try.pinned (OpenSpec.ofChange fnAnyOrderWrong)

/-- 'laws.FnApartStays': WHATEVER THE INPUT: true; the input reads as it did. -/
def fnApartStaysSpec : ChangeSpec := { name := "fnApartStays", fn := fun _ => fun
  | [d1, d2, d3] => { results := [.lit (.bool true)], args := [d1, d2, d3] }
  | _ => none }
def fnApartStaysRow : OpenClaim := { program := "ytapnmgkpljlgmaa", sum := "896401cfe9038056b1a0488d8a8b2de45654ce3e38f3d1a94dc1e36ef31f68b4", func := "loop.example/pub-factsofsizes/laws.FnApartStays", spec := "fnApartStays", unfollowed := true, recurses := true, apart := false }
def FnApartStaysSaid : Prop := fnApartStaysRow.holds Try.pinned (OpenSpec.ofChange fnApartStaysSpec)

/-- ITS FALSE NEIGHBOUR: 'it returns false'. Refute it at one input. -/
def fnApartStaysWrong : ChangeSpec := { name := "fnApartStays", fn := fun _ => fun
  | [d1, d2, d3] => { results := [.lit (.bool false)], args := [d1, d2, d3] }
  | _ => none }
def FnApartStaysWrongFalsely : Prop := fnApartStaysRow.holds Try.pinned (OpenSpec.ofChange fnApartStaysWrong)

/-- 'laws.FnEmptyAgain': WHATEVER THE INPUT: true; the input reads as it did. -/
def fnEmptyAgainSpec : ChangeSpec := { name := "fnEmptyAgain", fn := fun _ => fun
  | [d1, d2] => { results := [.lit (.bool true)], args := [d1, d2] }
  | _ => none }
def fnEmptyAgainRow : OpenClaim := { program := "ytapnmgkpljlgmaa", sum := "896401cfe9038056b1a0488d8a8b2de45654ce3e38f3d1a94dc1e36ef31f68b4", func := "loop.example/pub-factsofsizes/laws.FnEmptyAgain", spec := "fnEmptyAgain", unfollowed := true, recurses := true, apart := false }
def FnEmptyAgainSaid : Prop := fnEmptyAgainRow.holds Try.pinned (OpenSpec.ofChange fnEmptyAgainSpec)

/-- ITS FALSE NEIGHBOUR: 'it returns false'. Refute it at one input. -/
def fnEmptyAgainWrong : ChangeSpec := { name := "fnEmptyAgain", fn := fun _ => fun
  | [d1, d2] => { results := [.lit (.bool false)], args := [d1, d2] }
  | _ => none }
def FnEmptyAgainWrongFalsely : Prop := fnEmptyAgainRow.holds Try.pinned (OpenSpec.ofChange fnEmptyAgainWrong)

/-- 'laws.FnAsking': WHATEVER THE INPUT: true; the input reads as it did. -/
def fnAskingSpec : ChangeSpec := { name := "fnAsking", fn := fun _ => fun
  | [d1, d2] => { results := [.lit (.bool true)], args := [d1, d2] }
  | _ => none }
def fnAskingRow : OpenClaim := { program := "ytapnmgkpljlgmaa", sum := "896401cfe9038056b1a0488d8a8b2de45654ce3e38f3d1a94dc1e36ef31f68b4", func := "loop.example/pub-factsofsizes/laws.FnAsking", spec := "fnAsking", unfollowed := true, recurses := true, apart := false }
def FnAskingSaid : Prop := fnAskingRow.holds Try.pinned (OpenSpec.ofChange fnAskingSpec)

/-- ITS FALSE NEIGHBOUR: 'it returns false'. Refute it at one input. -/
def fnAskingWrong : ChangeSpec := { name := "fnAsking", fn := fun _ => fun
  | [d1, d2] => { results := [.lit (.bool false)], args := [d1, d2] }
  | _ => none }
def FnAskingWrongFalsely : Prop := fnAskingRow.holds Try.pinned (OpenSpec.ofChange fnAskingWrong)

/-- 'laws.FnBoth': WHATEVER THE INPUT: true; the input reads as it did. -/
def fnBothSpec : ChangeSpec := { name := "fnBoth", fn := fun _ => fun
  | [d1, d2, d3, d4] => { results := [.lit (.bool true)], args := [d1, d2, d3, d4] }
  | _ => none }
def fnBothRow : OpenClaim := { program := "ytapnmgkpljlgmaa", sum := "896401cfe9038056b1a0488d8a8b2de45654ce3e38f3d1a94dc1e36ef31f68b4", func := "loop.example/pub-factsofsizes/laws.FnBoth", spec := "fnBoth", unfollowed := true, recurses := true, apart := false }
def FnBothSaid : Prop := fnBothRow.holds Try.pinned (OpenSpec.ofChange fnBothSpec)

/-- ITS FALSE NEIGHBOUR: 'it returns false'. Refute it at one input. -/
def fnBothWrong : ChangeSpec := { name := "fnBoth", fn := fun _ => fun
  | [d1, d2, d3, d4] => { results := [.lit (.bool false)], args := [d1, d2, d3, d4] }
  | _ => none }
def FnBothWrongFalsely : Prop := fnBothRow.holds Try.pinned (OpenSpec.ofChange fnBothWrong)

/-- 'laws.FnIntact': WHATEVER THE INPUT: true; the input reads as it did. -/
def fnIntactSpec : ChangeSpec := { name := "fnIntact", fn := fun _ => fun
  | [d1, d2] => { results := [.lit (.bool true)], args := [d1, d2] }
  | _ => none }
def fnIntactRow : OpenClaim := { program := "ytapnmgkpljlgmaa", sum := "896401cfe9038056b1a0488d8a8b2de45654ce3e38f3d1a94dc1e36ef31f68b4", func := "loop.example/pub-factsofsizes/laws.FnIntact", spec := "fnIntact", unfollowed := true, recurses := true, apart := false }
def FnIntactSaid : Prop := fnIntactRow.holds Try.pinned (OpenSpec.ofChange fnIntactSpec)

/-- ITS FALSE NEIGHBOUR: 'it returns false'. Refute it at one input. -/
def fnIntactWrong : ChangeSpec := { name := "fnIntact", fn := fun _ => fun
  | [d1, d2] => { results := [.lit (.bool false)], args := [d1, d2] }
  | _ => none }
def FnIntactWrongFalsely : Prop := fnIntactRow.holds Try.pinned (OpenSpec.ofChange fnIntactWrong)

/-- 'laws.FnFirst': WHATEVER THE INPUT: true; the input reads as it did. -/
def fnFirstSpec : ChangeSpec := { name := "fnFirst", fn := fun _ => fun
  | [d1, d2, d3] => { results := [.lit (.bool true)], args := [d1, d2, d3] }
  | _ => none }
def fnFirstRow : OpenClaim := { program := "ytapnmgkpljlgmaa", sum := "896401cfe9038056b1a0488d8a8b2de45654ce3e38f3d1a94dc1e36ef31f68b4", func := "loop.example/pub-factsofsizes/laws.FnFirst", spec := "fnFirst", unfollowed := true, recurses := true, apart := false }
def FnFirstSaid : Prop := fnFirstRow.holds Try.pinned (OpenSpec.ofChange fnFirstSpec)

/-- ITS FALSE NEIGHBOUR: 'it returns false'. Refute it at one input. -/
def fnFirstWrong : ChangeSpec := { name := "fnFirst", fn := fun _ => fun
  | [d1, d2, d3] => { results := [.lit (.bool false)], args := [d1, d2, d3] }
  | _ => none }
def FnFirstWrongFalsely : Prop := fnFirstRow.holds Try.pinned (OpenSpec.ofChange fnFirstWrong)

/-- 'laws.FnGrows': WHATEVER THE INPUT: true; the input reads as it did. -/
def fnGrowsSpec : ChangeSpec := { name := "fnGrows", fn := fun _ => fun
  | [d1, d2, d3] => { results := [.lit (.bool true)], args := [d1, d2, d3] }
  | _ => none }
def fnGrowsRow : OpenClaim := { program := "ytapnmgkpljlgmaa", sum := "896401cfe9038056b1a0488d8a8b2de45654ce3e38f3d1a94dc1e36ef31f68b4", func := "loop.example/pub-factsofsizes/laws.FnGrows", spec := "fnGrows", unfollowed := true, recurses := true, apart := false }
def FnGrowsSaid : Prop := fnGrowsRow.holds Try.pinned (OpenSpec.ofChange fnGrowsSpec)

/-- ITS FALSE NEIGHBOUR: 'it returns false'. Refute it at one input. -/
def fnGrowsWrong : ChangeSpec := { name := "fnGrows", fn := fun _ => fun
  | [d1, d2, d3] => { results := [.lit (.bool false)], args := [d1, d2, d3] }
  | _ => none }
def FnGrowsWrongFalsely : Prop := fnGrowsRow.holds Try.pinned (OpenSpec.ofChange fnGrowsWrong)

/-- 'laws.FnMerged': WHATEVER THE INPUT: true; the input reads as it did. -/
def fnMergedSpec : ChangeSpec := { name := "fnMerged", fn := fun _ => fun
  | [d1, d2, d3, d4, d5] => { results := [.lit (.bool true)], args := [d1, d2, d3, d4, d5] }
  | _ => none }
def fnMergedRow : OpenClaim := { program := "ytapnmgkpljlgmaa", sum := "896401cfe9038056b1a0488d8a8b2de45654ce3e38f3d1a94dc1e36ef31f68b4", func := "loop.example/pub-factsofsizes/laws.FnMerged", spec := "fnMerged", unfollowed := true, recurses := true, apart := false }
def FnMergedSaid : Prop := fnMergedRow.holds Try.pinned (OpenSpec.ofChange fnMergedSpec)

/-- ITS FALSE NEIGHBOUR: 'it returns false'. Refute it at one input. -/
def fnMergedWrong : ChangeSpec := { name := "fnMerged", fn := fun _ => fun
  | [d1, d2, d3, d4, d5] => { results := [.lit (.bool false)], args := [d1, d2, d3, d4, d5] }
  | _ => none }
def FnMergedWrongFalsely : Prop := fnMergedRow.holds Try.pinned (OpenSpec.ofChange fnMergedWrong)

/-- 'laws.FnMirror': WHATEVER THE INPUT: true; the input reads as it did. -/
def fnMirrorSpec : ChangeSpec := { name := "fnMirror", fn := fun _ => fun
  | [d1, d2] => { results := [.lit (.bool true)], args := [d1, d2] }
  | _ => none }
def fnMirrorRow : OpenClaim := { program := "ytapnmgkpljlgmaa", sum := "896401cfe9038056b1a0488d8a8b2de45654ce3e38f3d1a94dc1e36ef31f68b4", func := "loop.example/pub-factsofsizes/laws.FnMirror", spec := "fnMirror", unfollowed := true, recurses := true, apart := false }
def FnMirrorSaid : Prop := fnMirrorRow.holds Try.pinned (OpenSpec.ofChange fnMirrorSpec)

/-- ITS FALSE NEIGHBOUR: 'it returns false'. Refute it at one input. -/
def fnMirrorWrong : ChangeSpec := { name := "fnMirror", fn := fun _ => fun
  | [d1, d2] => { results := [.lit (.bool false)], args := [d1, d2] }
  | _ => none }
def FnMirrorWrongFalsely : Prop := fnMirrorRow.holds Try.pinned (OpenSpec.ofChange fnMirrorWrong)

/-- 'laws.FnNames': WHATEVER THE INPUT: true; the input reads as it did. -/
def fnNamesSpec : ChangeSpec := { name := "fnNames", fn := fun _ => fun
  | [d1, d2, d3] => { results := [.lit (.bool true)], args := [d1, d2, d3] }
  | _ => none }
def fnNamesRow : OpenClaim := { program := "ytapnmgkpljlgmaa", sum := "896401cfe9038056b1a0488d8a8b2de45654ce3e38f3d1a94dc1e36ef31f68b4", func := "loop.example/pub-factsofsizes/laws.FnNames", spec := "fnNames", unfollowed := true, recurses := true, apart := false }
def FnNamesSaid : Prop := fnNamesRow.holds Try.pinned (OpenSpec.ofChange fnNamesSpec)

/-- ITS FALSE NEIGHBOUR: 'it returns false'. Refute it at one input. -/
def fnNamesWrong : ChangeSpec := { name := "fnNames", fn := fun _ => fun
  | [d1, d2, d3] => { results := [.lit (.bool false)], args := [d1, d2, d3] }
  | _ => none }
def FnNamesWrongFalsely : Prop := fnNamesRow.holds Try.pinned (OpenSpec.ofChange fnNamesWrong)

/-- 'laws.FnNumbers': WHATEVER THE INPUT: true; the input reads as it did. -/
def fnNumbersSpec : ChangeSpec := { name := "fnNumbers", fn := fun _ => fun
  | [d1, d2] => { results := [.lit (.bool true)], args := [d1, d2] }
  | _ => none }
def fnNumbersRow : OpenClaim := { program := "ytapnmgkpljlgmaa", sum := "896401cfe9038056b1a0488d8a8b2de45654ce3e38f3d1a94dc1e36ef31f68b4", func := "loop.example/pub-factsofsizes/laws.FnNumbers", spec := "fnNumbers", unfollowed := true, recurses := true, apart := false }
def FnNumbersSaid : Prop := fnNumbersRow.holds Try.pinned (OpenSpec.ofChange fnNumbersSpec)

/-- ITS FALSE NEIGHBOUR: 'it returns false'. Refute it at one input. -/
def fnNumbersWrong : ChangeSpec := { name := "fnNumbers", fn := fun _ => fun
  | [d1, d2] => { results := [.lit (.bool false)], args := [d1, d2] }
  | _ => none }
def FnNumbersWrongFalsely : Prop := fnNumbersRow.holds Try.pinned (OpenSpec.ofChange fnNumbersWrong)

/-- 'laws.FnOneOf': WHATEVER THE INPUT: true; the input reads as it did. -/
def fnOneOfSpec : ChangeSpec := { name := "fnOneOf", fn := fun _ => fun
  | [d1, d2, d3, d4] => { results := [.lit (.bool true)], args := [d1, d2, d3, d4] }
  | _ => none }
def fnOneOfRow : OpenClaim := { program := "ytapnmgkpljlgmaa", sum := "896401cfe9038056b1a0488d8a8b2de45654ce3e38f3d1a94dc1e36ef31f68b4", func := "loop.example/pub-factsofsizes/laws.FnOneOf", spec := "fnOneOf", unfollowed := true, recurses := true, apart := false }
def FnOneOfSaid : Prop := fnOneOfRow.holds Try.pinned (OpenSpec.ofChange fnOneOfSpec)

/-- ITS FALSE NEIGHBOUR: 'it returns false'. Refute it at one input. -/
def fnOneOfWrong : ChangeSpec := { name := "fnOneOf", fn := fun _ => fun
  | [d1, d2, d3, d4] => { results := [.lit (.bool false)], args := [d1, d2, d3, d4] }
  | _ => none }
def FnOneOfWrongFalsely : Prop := fnOneOfRow.holds Try.pinned (OpenSpec.ofChange fnOneOfWrong)

/-- 'laws.FnRefused': WHATEVER THE INPUT: true; the input reads as it did. -/
def fnRefusedSpec : ChangeSpec := { name := "fnRefused", fn := fun _ => fun
  | [d1, d2, d3] => { results := [.lit (.bool true)], args := [d1, d2, d3] }
  | _ => none }
def fnRefusedRow : OpenClaim := { program := "ytapnmgkpljlgmaa", sum := "896401cfe9038056b1a0488d8a8b2de45654ce3e38f3d1a94dc1e36ef31f68b4", func := "loop.example/pub-factsofsizes/laws.FnRefused", spec := "fnRefused", unfollowed := true, recurses := true, apart := false }
def FnRefusedSaid : Prop := fnRefusedRow.holds Try.pinned (OpenSpec.ofChange fnRefusedSpec)

/-- ITS FALSE NEIGHBOUR: 'it returns false'. Refute it at one input. -/
def fnRefusedWrong : ChangeSpec := { name := "fnRefused", fn := fun _ => fun
  | [d1, d2, d3] => { results := [.lit (.bool false)], args := [d1, d2, d3] }
  | _ => none }
def FnRefusedWrongFalsely : Prop := fnRefusedRow.holds Try.pinned (OpenSpec.ofChange fnRefusedWrong)

/-- 'laws.FnRing': WHATEVER THE INPUT: true; the input reads as it did. -/
def fnRingSpec : ChangeSpec := { name := "fnRing", fn := fun _ => fun
  | [d1, d2, d3] => { results := [.lit (.bool true)], args := [d1, d2, d3] }
  | _ => none }
def fnRingRow : OpenClaim := { program := "ytapnmgkpljlgmaa", sum := "896401cfe9038056b1a0488d8a8b2de45654ce3e38f3d1a94dc1e36ef31f68b4", func := "loop.example/pub-factsofsizes/laws.FnRing", spec := "fnRing", unfollowed := true, recurses := true, apart := false }
def FnRingSaid : Prop := fnRingRow.holds Try.pinned (OpenSpec.ofChange fnRingSpec)

/-- ITS FALSE NEIGHBOUR: 'it returns false'. Refute it at one input. -/
def fnRingWrong : ChangeSpec := { name := "fnRing", fn := fun _ => fun
  | [d1, d2, d3] => { results := [.lit (.bool false)], args := [d1, d2, d3] }
  | _ => none }
def FnRingWrongFalsely : Prop := fnRingRow.holds Try.pinned (OpenSpec.ofChange fnRingWrong)

/-- 'laws.FnRow': WHATEVER THE INPUT: true; the input reads as it did. -/
def fnRowSpec : ChangeSpec := { name := "fnRow", fn := fun _ => fun
  | [d1, d2, d3, d4, d5] => { results := [.lit (.bool true)], args := [d1, d2, d3, d4, d5] }
  | _ => none }
def fnRowRow : OpenClaim := { program := "ytapnmgkpljlgmaa", sum := "896401cfe9038056b1a0488d8a8b2de45654ce3e38f3d1a94dc1e36ef31f68b4", func := "loop.example/pub-factsofsizes/laws.FnRow", spec := "fnRow", unfollowed := true, recurses := true, apart := false }
def FnRowSaid : Prop := fnRowRow.holds Try.pinned (OpenSpec.ofChange fnRowSpec)

/-- ITS FALSE NEIGHBOUR: 'it returns false'. Refute it at one input. -/
def fnRowWrong : ChangeSpec := { name := "fnRow", fn := fun _ => fun
  | [d1, d2, d3, d4, d5] => { results := [.lit (.bool false)], args := [d1, d2, d3, d4, d5] }
  | _ => none }
def FnRowWrongFalsely : Prop := fnRowRow.holds Try.pinned (OpenSpec.ofChange fnRowWrong)

/-- 'laws.FnScript': WHATEVER THE INPUT: true; the input reads as it did. -/
def fnScriptSpec : ChangeSpec := { name := "fnScript", fn := fun _ => fun
  | [d1, d2] => { results := [.lit (.bool true)], args := [d1, d2] }
  | _ => none }
def fnScriptRow : OpenClaim := { program := "ytapnmgkpljlgmaa", sum := "896401cfe9038056b1a0488d8a8b2de45654ce3e38f3d1a94dc1e36ef31f68b4", func := "loop.example/pub-factsofsizes/laws.FnScript", spec := "fnScript", unfollowed := true, recurses := true, apart := false }
def FnScriptSaid : Prop := fnScriptRow.holds Try.pinned (OpenSpec.ofChange fnScriptSpec)

/-- ITS FALSE NEIGHBOUR: 'it returns false'. Refute it at one input. -/
def fnScriptWrong : ChangeSpec := { name := "fnScript", fn := fun _ => fun
  | [d1, d2] => { results := [.lit (.bool false)], args := [d1, d2] }
  | _ => none }
def FnScriptWrongFalsely : Prop := fnScriptRow.holds Try.pinned (OpenSpec.ofChange fnScriptWrong)

/-- 'laws.FnSound': WHATEVER THE INPUT: true; the input reads as it did. -/
def fnSoundSpec : ChangeSpec := { name := "fnSound", fn := fun _ => fun
  | [d1, d2] => { results := [.lit (.bool true)], args := [d1, d2] }
  | _ => none }
def fnSoundRow : OpenClaim := { program := "ytapnmgkpljlgmaa", sum := "896401cfe9038056b1a0488d8a8b2de45654ce3e38f3d1a94dc1e36ef31f68b4", func := "loop.example/pub-factsofsizes/laws.FnSound", spec := "fnSound", unfollowed := true, recurses := true, apart := false }
def FnSoundSaid : Prop := fnSoundRow.holds Try.pinned (OpenSpec.ofChange fnSoundSpec)

/-- ITS FALSE NEIGHBOUR: 'it returns false'. Refute it at one input. -/
def fnSoundWrong : ChangeSpec := { name := "fnSound", fn := fun _ => fun
  | [d1, d2] => { results := [.lit (.bool false)], args := [d1, d2] }
  | _ => none }
def FnSoundWrongFalsely : Prop := fnSoundRow.holds Try.pinned (OpenSpec.ofChange fnSoundWrong)

/-- 'laws.FnStar': WHATEVER THE INPUT: true; the input reads as it did. -/
def fnStarSpec : ChangeSpec := { name := "fnStar", fn := fun _ => fun
  | [d1, d2, d3] => { results := [.lit (.bool true)], args := [d1, d2, d3] }
  | _ => none }
def fnStarRow : OpenClaim := { program := "ytapnmgkpljlgmaa", sum := "896401cfe9038056b1a0488d8a8b2de45654ce3e38f3d1a94dc1e36ef31f68b4", func := "loop.example/pub-factsofsizes/laws.FnStar", spec := "fnStar", unfollowed := true, recurses := true, apart := false }
def FnStarSaid : Prop := fnStarRow.holds Try.pinned (OpenSpec.ofChange fnStarSpec)

/-- ITS FALSE NEIGHBOUR: 'it returns false'. Refute it at one input. -/
def fnStarWrong : ChangeSpec := { name := "fnStar", fn := fun _ => fun
  | [d1, d2, d3] => { results := [.lit (.bool false)], args := [d1, d2, d3] }
  | _ => none }
def FnStarWrongFalsely : Prop := fnStarRow.holds Try.pinned (OpenSpec.ofChange fnStarWrong)

/-- 'laws.FnStrict': WHATEVER THE INPUT: true; the input reads as it did. -/
def fnStrictSpec : ChangeSpec := { name := "fnStrict", fn := fun _ => fun
  | [d1, d2, d3, d4] => { results := [.lit (.bool true)], args := [d1, d2, d3, d4] }
  | _ => none }
def fnStrictRow : OpenClaim := { program := "ytapnmgkpljlgmaa", sum := "896401cfe9038056b1a0488d8a8b2de45654ce3e38f3d1a94dc1e36ef31f68b4", func := "loop.example/pub-factsofsizes/laws.FnStrict", spec := "fnStrict", unfollowed := true, recurses := true, apart := false }
def FnStrictSaid : Prop := fnStrictRow.holds Try.pinned (OpenSpec.ofChange fnStrictSpec)

/-- ITS FALSE NEIGHBOUR: 'it returns false'. Refute it at one input. -/
def fnStrictWrong : ChangeSpec := { name := "fnStrict", fn := fun _ => fun
  | [d1, d2, d3, d4] => { results := [.lit (.bool false)], args := [d1, d2, d3, d4] }
  | _ => none }
def FnStrictWrongFalsely : Prop := fnStrictRow.holds Try.pinned (OpenSpec.ofChange fnStrictWrong)

/-- 'laws.FnStrictly': WHATEVER THE INPUT: true; the input reads as it did. -/
def fnStrictlySpec : ChangeSpec := { name := "fnStrictly", fn := fun _ => fun
  | [d1, d2, d3, d4] => { results := [.lit (.bool true)], args := [d1, d2, d3, d4] }
  | _ => none }
def fnStrictlyRow : OpenClaim := { program := "ytapnmgkpljlgmaa", sum := "896401cfe9038056b1a0488d8a8b2de45654ce3e38f3d1a94dc1e36ef31f68b4", func := "loop.example/pub-factsofsizes/laws.FnStrictly", spec := "fnStrictly", unfollowed := true, recurses := true, apart := false }
def FnStrictlySaid : Prop := fnStrictlyRow.holds Try.pinned (OpenSpec.ofChange fnStrictlySpec)

/-- ITS FALSE NEIGHBOUR: 'it returns false'. Refute it at one input. -/
def fnStrictlyWrong : ChangeSpec := { name := "fnStrictly", fn := fun _ => fun
  | [d1, d2, d3, d4] => { results := [.lit (.bool false)], args := [d1, d2, d3, d4] }
  | _ => none }
def FnStrictlyWrongFalsely : Prop := fnStrictlyRow.holds Try.pinned (OpenSpec.ofChange fnStrictlyWrong)

/-- 'laws.FnThree': WHATEVER THE INPUT: true; the input reads as it did. -/
def fnThreeSpec : ChangeSpec := { name := "fnThree", fn := fun _ => fun
  | [d1, d2, d3, d4, d5] => { results := [.lit (.bool true)], args := [d1, d2, d3, d4, d5] }
  | _ => none }
def fnThreeRow : OpenClaim := { program := "ytapnmgkpljlgmaa", sum := "896401cfe9038056b1a0488d8a8b2de45654ce3e38f3d1a94dc1e36ef31f68b4", func := "loop.example/pub-factsofsizes/laws.FnThree", spec := "fnThree", unfollowed := true, recurses := true, apart := false }
def FnThreeSaid : Prop := fnThreeRow.holds Try.pinned (OpenSpec.ofChange fnThreeSpec)

/-- ITS FALSE NEIGHBOUR: 'it returns false'. Refute it at one input. -/
def fnThreeWrong : ChangeSpec := { name := "fnThree", fn := fun _ => fun
  | [d1, d2, d3, d4, d5] => { results := [.lit (.bool false)], args := [d1, d2, d3, d4, d5] }
  | _ => none }
def FnThreeWrongFalsely : Prop := fnThreeRow.holds Try.pinned (OpenSpec.ofChange fnThreeWrong)

/-- 'laws.FnTold': WHATEVER THE INPUT: true; the input reads as it did. -/
def fnToldSpec : ChangeSpec := { name := "fnTold", fn := fun _ => fun
  | [d1, d2, d3] => { results := [.lit (.bool true)], args := [d1, d2, d3] }
  | _ => none }
def fnToldRow : OpenClaim := { program := "ytapnmgkpljlgmaa", sum := "896401cfe9038056b1a0488d8a8b2de45654ce3e38f3d1a94dc1e36ef31f68b4", func := "loop.example/pub-factsofsizes/laws.FnTold", spec := "fnTold", unfollowed := true, recurses := true, apart := false }
def FnToldSaid : Prop := fnToldRow.holds Try.pinned (OpenSpec.ofChange fnToldSpec)

/-- ITS FALSE NEIGHBOUR: 'it returns false'. Refute it at one input. -/
def fnToldWrong : ChangeSpec := { name := "fnTold", fn := fun _ => fun
  | [d1, d2, d3] => { results := [.lit (.bool false)], args := [d1, d2, d3] }
  | _ => none }
def FnToldWrongFalsely : Prop := fnToldRow.holds Try.pinned (OpenSpec.ofChange fnToldWrong)

/-- 'laws.FnTwice': WHATEVER THE INPUT: true; the input reads as it did. -/
def fnTwiceSpec : ChangeSpec := { name := "fnTwice", fn := fun _ => fun
  | [d1, d2, d3] => { results := [.lit (.bool true)], args := [d1, d2, d3] }
  | _ => none }
def fnTwiceRow : OpenClaim := { program := "ytapnmgkpljlgmaa", sum := "896401cfe9038056b1a0488d8a8b2de45654ce3e38f3d1a94dc1e36ef31f68b4", func := "loop.example/pub-factsofsizes/laws.FnTwice", spec := "fnTwice", unfollowed := true, recurses := true, apart := false }
def FnTwiceSaid : Prop := fnTwiceRow.holds Try.pinned (OpenSpec.ofChange fnTwiceSpec)

/-- ITS FALSE NEIGHBOUR: 'it returns false'. Refute it at one input. -/
def fnTwiceWrong : ChangeSpec := { name := "fnTwice", fn := fun _ => fun
  | [d1, d2, d3] => { results := [.lit (.bool false)], args := [d1, d2, d3] }
  | _ => none }
def FnTwiceWrongFalsely : Prop := fnTwiceRow.holds Try.pinned (OpenSpec.ofChange fnTwiceWrong)

/-- 'laws.FnUndo': WHATEVER THE INPUT: true; the input reads as it did. -/
def fnUndoSpec : ChangeSpec := { name := "fnUndo", fn := fun _ => fun
  | [d1, d2, d3, d4] => { results := [.lit (.bool true)], args := [d1, d2, d3, d4] }
  | _ => none }
def fnUndoRow : OpenClaim := { program := "ytapnmgkpljlgmaa", sum := "896401cfe9038056b1a0488d8a8b2de45654ce3e38f3d1a94dc1e36ef31f68b4", func := "loop.example/pub-factsofsizes/laws.FnUndo", spec := "fnUndo", unfollowed := true, recurses := true, apart := false }
def FnUndoSaid : Prop := fnUndoRow.holds Try.pinned (OpenSpec.ofChange fnUndoSpec)

/-- ITS FALSE NEIGHBOUR: 'it returns false'. Refute it at one input. -/
def fnUndoWrong : ChangeSpec := { name := "fnUndo", fn := fun _ => fun
  | [d1, d2, d3, d4] => { results := [.lit (.bool false)], args := [d1, d2, d3, d4] }
  | _ => none }
def FnUndoWrongFalsely : Prop := fnUndoRow.holds Try.pinned (OpenSpec.ofChange fnUndoWrong)

/- THE SECOND FORM. 'bulk': how many values and letters a reading holds, each counted each time it is reached (what is shared counts as often as it is met; a slice's spare places count too). A statement '..UptoSaid' is the law's where the arguments, and the package variables that the reading takes, are together of bulk at most 1048576: NARROWER than '..Said'. Prove '..Said' where nothing that the law and all that it calls make is longer than what came in: it says more and counts as full. Else prove '..UptoSaid'. A law counts once. -/
mutual
def uptoBulk {H : Type} : DataW H → Nat
  | .lit (.string bytes) => bytes.length + 1
  | .lit _ => 1
  | .nil => 1
  | .ptr d => uptoBulk d + 1
  | .slice elems spare => uptoBulkAll elems + uptoBulkAll spare + 1
  | .agg parts => uptoBulkAll parts + 1
  | .iface _ d => uptoBulk d + 1
  | .map entries => uptoBulkEntries entries + 1
  | .held _ => 1
def uptoBulkAll {H : Type} : List (DataW H) → Nat
  | [] => 0
  | d :: r => uptoBulk d + uptoBulkAll r
def uptoBulkEntries {H : Type} : List (Lit × DataW H) → Nat
  | [] => 0
  | x :: r => uptoBulkEntry x + uptoBulkEntries r
def uptoBulkEntry {H : Type} : Lit × DataW H → Nat
  | (.string bytes, d) => bytes.length + uptoBulk d + 1
  | (_, d) => uptoBulk d + 1
 end
def uptoSmall : (H : Type) → List (DataW H) → Bool := fun _ ds => decide (uptoBulkAll ds ≤ 1048576)
def OpenSpec.upto (s : _root_.Go.ChangeSpec) : _root_.Go.OpenSpec := { _root_.Go.OpenSpec.ofChange s with cond := some uptoSmall }

/-- 'laws.FnApart', WHERE WHAT IT READS IS OF BULK AT MOST 1048576: true; the input reads as it did. -/
def fnApartUptoRow : OpenClaim := { program := "ytapnmgkpljlgmaa", sum := "896401cfe9038056b1a0488d8a8b2de45654ce3e38f3d1a94dc1e36ef31f68b4", func := "loop.example/pub-factsofsizes/laws.FnApart", spec := "fnApart", unfollowed := true, recurses := true, apart := false, narrowed := true }
def FnApartUptoSaid : Prop := fnApartUptoRow.holds Try.pinned (OpenSpec.upto fnApartSpec)

/-- 'laws.FnSame', WHERE WHAT IT READS IS OF BULK AT MOST 1048576: true; the input reads as it did. -/
def fnSameUptoRow : OpenClaim := { program := "ytapnmgkpljlgmaa", sum := "896401cfe9038056b1a0488d8a8b2de45654ce3e38f3d1a94dc1e36ef31f68b4", func := "loop.example/pub-factsofsizes/laws.FnSame", spec := "fnSame", unfollowed := true, recurses := true, apart := false, narrowed := true }
def FnSameUptoSaid : Prop := fnSameUptoRow.holds Try.pinned (OpenSpec.upto fnSameSpec)

/-- 'laws.FnOrders', WHERE WHAT IT READS IS OF BULK AT MOST 1048576: true; the input reads as it did. -/
def fnOrdersUptoRow : OpenClaim := { program := "ytapnmgkpljlgmaa", sum := "896401cfe9038056b1a0488d8a8b2de45654ce3e38f3d1a94dc1e36ef31f68b4", func := "loop.example/pub-factsofsizes/laws.FnOrders", spec := "fnOrders", unfollowed := true, recurses := true, apart := false, narrowed := true }
def FnOrdersUptoSaid : Prop := fnOrdersUptoRow.holds Try.pinned (OpenSpec.upto fnOrdersSpec)

/-- 'laws.FnUndone', WHERE WHAT IT READS IS OF BULK AT MOST 1048576: true; the input reads as it did. -/
def fnUndoneUptoRow : OpenClaim := { program := "ytapnmgkpljlgmaa", sum := "896401cfe9038056b1a0488d8a8b2de45654ce3e38f3d1a94dc1e36ef31f68b4", func := "loop.example/pub-factsofsizes/laws.FnUndone", spec := "fnUndone", unfollowed := true, recurses := true, apart := false, narrowed := true }
def FnUndoneUptoSaid : Prop := fnUndoneUptoRow.holds Try.pinned (OpenSpec.upto fnUndoneSpec)

/-- 'laws.FnAtMost', WHERE WHAT IT READS IS OF BULK AT MOST 1048576: true; the input reads as it did. -/
def fnAtMostUptoRow : OpenClaim := { program := "ytapnmgkpljlgmaa", sum := "896401cfe9038056b1a0488d8a8b2de45654ce3e38f3d1a94dc1e36ef31f68b4", func := "loop.example/pub-factsofsizes/laws.FnAtMost", spec := "fnAtMost", unfollowed := true, recurses := true, apart := false, narrowed := true }
def FnAtMostUptoSaid : Prop := fnAtMostUptoRow.holds Try.pinned (OpenSpec.upto fnAtMostSpec)

/-- 'laws.FnAnyOrder', WHERE WHAT IT READS IS OF BULK AT MOST 1048576: true; the input reads as it did. -/
def fnAnyOrderUptoRow : OpenClaim := { program := "ytapnmgkpljlgmaa", sum := "896401cfe9038056b1a0488d8a8b2de45654ce3e38f3d1a94dc1e36ef31f68b4", func := "loop.example/pub-factsofsizes/laws.FnAnyOrder", spec := "fnAnyOrder", unfollowed := true, recurses := true, apart := false, narrowed := true }
def FnAnyOrderUptoSaid : Prop := fnAnyOrderUptoRow.holds Try.pinned (OpenSpec.upto fnAnyOrderSpec)

/-- 'laws.FnApartStays', WHERE WHAT IT READS IS OF BULK AT MOST 1048576: true; the input reads as it did. -/
def fnApartStaysUptoRow : OpenClaim := { program := "ytapnmgkpljlgmaa", sum := "896401cfe9038056b1a0488d8a8b2de45654ce3e38f3d1a94dc1e36ef31f68b4", func := "loop.example/pub-factsofsizes/laws.FnApartStays", spec := "fnApartStays", unfollowed := true, recurses := true, apart := false, narrowed := true }
def FnApartStaysUptoSaid : Prop := fnApartStaysUptoRow.holds Try.pinned (OpenSpec.upto fnApartStaysSpec)

/-- 'laws.FnEmptyAgain', WHERE WHAT IT READS IS OF BULK AT MOST 1048576: true; the input reads as it did. -/
def fnEmptyAgainUptoRow : OpenClaim := { program := "ytapnmgkpljlgmaa", sum := "896401cfe9038056b1a0488d8a8b2de45654ce3e38f3d1a94dc1e36ef31f68b4", func := "loop.example/pub-factsofsizes/laws.FnEmptyAgain", spec := "fnEmptyAgain", unfollowed := true, recurses := true, apart := false, narrowed := true }
def FnEmptyAgainUptoSaid : Prop := fnEmptyAgainUptoRow.holds Try.pinned (OpenSpec.upto fnEmptyAgainSpec)

/-- 'laws.FnAsking', WHERE WHAT IT READS IS OF BULK AT MOST 1048576: true; the input reads as it did. -/
def fnAskingUptoRow : OpenClaim := { program := "ytapnmgkpljlgmaa", sum := "896401cfe9038056b1a0488d8a8b2de45654ce3e38f3d1a94dc1e36ef31f68b4", func := "loop.example/pub-factsofsizes/laws.FnAsking", spec := "fnAsking", unfollowed := true, recurses := true, apart := false, narrowed := true }
def FnAskingUptoSaid : Prop := fnAskingUptoRow.holds Try.pinned (OpenSpec.upto fnAskingSpec)

/-- 'laws.FnBoth', WHERE WHAT IT READS IS OF BULK AT MOST 1048576: true; the input reads as it did. -/
def fnBothUptoRow : OpenClaim := { program := "ytapnmgkpljlgmaa", sum := "896401cfe9038056b1a0488d8a8b2de45654ce3e38f3d1a94dc1e36ef31f68b4", func := "loop.example/pub-factsofsizes/laws.FnBoth", spec := "fnBoth", unfollowed := true, recurses := true, apart := false, narrowed := true }
def FnBothUptoSaid : Prop := fnBothUptoRow.holds Try.pinned (OpenSpec.upto fnBothSpec)

/-- 'laws.FnIntact', WHERE WHAT IT READS IS OF BULK AT MOST 1048576: true; the input reads as it did. -/
def fnIntactUptoRow : OpenClaim := { program := "ytapnmgkpljlgmaa", sum := "896401cfe9038056b1a0488d8a8b2de45654ce3e38f3d1a94dc1e36ef31f68b4", func := "loop.example/pub-factsofsizes/laws.FnIntact", spec := "fnIntact", unfollowed := true, recurses := true, apart := false, narrowed := true }
def FnIntactUptoSaid : Prop := fnIntactUptoRow.holds Try.pinned (OpenSpec.upto fnIntactSpec)

/-- 'laws.FnFirst', WHERE WHAT IT READS IS OF BULK AT MOST 1048576: true; the input reads as it did. -/
def fnFirstUptoRow : OpenClaim := { program := "ytapnmgkpljlgmaa", sum := "896401cfe9038056b1a0488d8a8b2de45654ce3e38f3d1a94dc1e36ef31f68b4", func := "loop.example/pub-factsofsizes/laws.FnFirst", spec := "fnFirst", unfollowed := true, recurses := true, apart := false, narrowed := true }
def FnFirstUptoSaid : Prop := fnFirstUptoRow.holds Try.pinned (OpenSpec.upto fnFirstSpec)

/-- 'laws.FnGrows', WHERE WHAT IT READS IS OF BULK AT MOST 1048576: true; the input reads as it did. -/
def fnGrowsUptoRow : OpenClaim := { program := "ytapnmgkpljlgmaa", sum := "896401cfe9038056b1a0488d8a8b2de45654ce3e38f3d1a94dc1e36ef31f68b4", func := "loop.example/pub-factsofsizes/laws.FnGrows", spec := "fnGrows", unfollowed := true, recurses := true, apart := false, narrowed := true }
def FnGrowsUptoSaid : Prop := fnGrowsUptoRow.holds Try.pinned (OpenSpec.upto fnGrowsSpec)

/-- 'laws.FnMerged', WHERE WHAT IT READS IS OF BULK AT MOST 1048576: true; the input reads as it did. -/
def fnMergedUptoRow : OpenClaim := { program := "ytapnmgkpljlgmaa", sum := "896401cfe9038056b1a0488d8a8b2de45654ce3e38f3d1a94dc1e36ef31f68b4", func := "loop.example/pub-factsofsizes/laws.FnMerged", spec := "fnMerged", unfollowed := true, recurses := true, apart := false, narrowed := true }
def FnMergedUptoSaid : Prop := fnMergedUptoRow.holds Try.pinned (OpenSpec.upto fnMergedSpec)

/-- 'laws.FnMirror', WHERE WHAT IT READS IS OF BULK AT MOST 1048576: true; the input reads as it did. -/
def fnMirrorUptoRow : OpenClaim := { program := "ytapnmgkpljlgmaa", sum := "896401cfe9038056b1a0488d8a8b2de45654ce3e38f3d1a94dc1e36ef31f68b4", func := "loop.example/pub-factsofsizes/laws.FnMirror", spec := "fnMirror", unfollowed := true, recurses := true, apart := false, narrowed := true }
def FnMirrorUptoSaid : Prop := fnMirrorUptoRow.holds Try.pinned (OpenSpec.upto fnMirrorSpec)

/-- 'laws.FnNames', WHERE WHAT IT READS IS OF BULK AT MOST 1048576: true; the input reads as it did. -/
def fnNamesUptoRow : OpenClaim := { program := "ytapnmgkpljlgmaa", sum := "896401cfe9038056b1a0488d8a8b2de45654ce3e38f3d1a94dc1e36ef31f68b4", func := "loop.example/pub-factsofsizes/laws.FnNames", spec := "fnNames", unfollowed := true, recurses := true, apart := false, narrowed := true }
def FnNamesUptoSaid : Prop := fnNamesUptoRow.holds Try.pinned (OpenSpec.upto fnNamesSpec)

/-- 'laws.FnNumbers', WHERE WHAT IT READS IS OF BULK AT MOST 1048576: true; the input reads as it did. -/
def fnNumbersUptoRow : OpenClaim := { program := "ytapnmgkpljlgmaa", sum := "896401cfe9038056b1a0488d8a8b2de45654ce3e38f3d1a94dc1e36ef31f68b4", func := "loop.example/pub-factsofsizes/laws.FnNumbers", spec := "fnNumbers", unfollowed := true, recurses := true, apart := false, narrowed := true }
def FnNumbersUptoSaid : Prop := fnNumbersUptoRow.holds Try.pinned (OpenSpec.upto fnNumbersSpec)

/-- 'laws.FnOneOf', WHERE WHAT IT READS IS OF BULK AT MOST 1048576: true; the input reads as it did. -/
def fnOneOfUptoRow : OpenClaim := { program := "ytapnmgkpljlgmaa", sum := "896401cfe9038056b1a0488d8a8b2de45654ce3e38f3d1a94dc1e36ef31f68b4", func := "loop.example/pub-factsofsizes/laws.FnOneOf", spec := "fnOneOf", unfollowed := true, recurses := true, apart := false, narrowed := true }
def FnOneOfUptoSaid : Prop := fnOneOfUptoRow.holds Try.pinned (OpenSpec.upto fnOneOfSpec)

/-- 'laws.FnRefused', WHERE WHAT IT READS IS OF BULK AT MOST 1048576: true; the input reads as it did. -/
def fnRefusedUptoRow : OpenClaim := { program := "ytapnmgkpljlgmaa", sum := "896401cfe9038056b1a0488d8a8b2de45654ce3e38f3d1a94dc1e36ef31f68b4", func := "loop.example/pub-factsofsizes/laws.FnRefused", spec := "fnRefused", unfollowed := true, recurses := true, apart := false, narrowed := true }
def FnRefusedUptoSaid : Prop := fnRefusedUptoRow.holds Try.pinned (OpenSpec.upto fnRefusedSpec)

/-- 'laws.FnRing', WHERE WHAT IT READS IS OF BULK AT MOST 1048576: true; the input reads as it did. -/
def fnRingUptoRow : OpenClaim := { program := "ytapnmgkpljlgmaa", sum := "896401cfe9038056b1a0488d8a8b2de45654ce3e38f3d1a94dc1e36ef31f68b4", func := "loop.example/pub-factsofsizes/laws.FnRing", spec := "fnRing", unfollowed := true, recurses := true, apart := false, narrowed := true }
def FnRingUptoSaid : Prop := fnRingUptoRow.holds Try.pinned (OpenSpec.upto fnRingSpec)

/-- 'laws.FnRow', WHERE WHAT IT READS IS OF BULK AT MOST 1048576: true; the input reads as it did. -/
def fnRowUptoRow : OpenClaim := { program := "ytapnmgkpljlgmaa", sum := "896401cfe9038056b1a0488d8a8b2de45654ce3e38f3d1a94dc1e36ef31f68b4", func := "loop.example/pub-factsofsizes/laws.FnRow", spec := "fnRow", unfollowed := true, recurses := true, apart := false, narrowed := true }
def FnRowUptoSaid : Prop := fnRowUptoRow.holds Try.pinned (OpenSpec.upto fnRowSpec)

/-- 'laws.FnScript', WHERE WHAT IT READS IS OF BULK AT MOST 1048576: true; the input reads as it did. -/
def fnScriptUptoRow : OpenClaim := { program := "ytapnmgkpljlgmaa", sum := "896401cfe9038056b1a0488d8a8b2de45654ce3e38f3d1a94dc1e36ef31f68b4", func := "loop.example/pub-factsofsizes/laws.FnScript", spec := "fnScript", unfollowed := true, recurses := true, apart := false, narrowed := true }
def FnScriptUptoSaid : Prop := fnScriptUptoRow.holds Try.pinned (OpenSpec.upto fnScriptSpec)

/-- 'laws.FnSound', WHERE WHAT IT READS IS OF BULK AT MOST 1048576: true; the input reads as it did. -/
def fnSoundUptoRow : OpenClaim := { program := "ytapnmgkpljlgmaa", sum := "896401cfe9038056b1a0488d8a8b2de45654ce3e38f3d1a94dc1e36ef31f68b4", func := "loop.example/pub-factsofsizes/laws.FnSound", spec := "fnSound", unfollowed := true, recurses := true, apart := false, narrowed := true }
def FnSoundUptoSaid : Prop := fnSoundUptoRow.holds Try.pinned (OpenSpec.upto fnSoundSpec)

/-- 'laws.FnStar', WHERE WHAT IT READS IS OF BULK AT MOST 1048576: true; the input reads as it did. -/
def fnStarUptoRow : OpenClaim := { program := "ytapnmgkpljlgmaa", sum := "896401cfe9038056b1a0488d8a8b2de45654ce3e38f3d1a94dc1e36ef31f68b4", func := "loop.example/pub-factsofsizes/laws.FnStar", spec := "fnStar", unfollowed := true, recurses := true, apart := false, narrowed := true }
def FnStarUptoSaid : Prop := fnStarUptoRow.holds Try.pinned (OpenSpec.upto fnStarSpec)

/-- 'laws.FnStrict', WHERE WHAT IT READS IS OF BULK AT MOST 1048576: true; the input reads as it did. -/
def fnStrictUptoRow : OpenClaim := { program := "ytapnmgkpljlgmaa", sum := "896401cfe9038056b1a0488d8a8b2de45654ce3e38f3d1a94dc1e36ef31f68b4", func := "loop.example/pub-factsofsizes/laws.FnStrict", spec := "fnStrict", unfollowed := true, recurses := true, apart := false, narrowed := true }
def FnStrictUptoSaid : Prop := fnStrictUptoRow.holds Try.pinned (OpenSpec.upto fnStrictSpec)

/-- 'laws.FnStrictly', WHERE WHAT IT READS IS OF BULK AT MOST 1048576: true; the input reads as it did. -/
def fnStrictlyUptoRow : OpenClaim := { program := "ytapnmgkpljlgmaa", sum := "896401cfe9038056b1a0488d8a8b2de45654ce3e38f3d1a94dc1e36ef31f68b4", func := "loop.example/pub-factsofsizes/laws.FnStrictly", spec := "fnStrictly", unfollowed := true, recurses := true, apart := false, narrowed := true }
def FnStrictlyUptoSaid : Prop := fnStrictlyUptoRow.holds Try.pinned (OpenSpec.upto fnStrictlySpec)

/-- 'laws.FnThree', WHERE WHAT IT READS IS OF BULK AT MOST 1048576: true; the input reads as it did. -/
def fnThreeUptoRow : OpenClaim := { program := "ytapnmgkpljlgmaa", sum := "896401cfe9038056b1a0488d8a8b2de45654ce3e38f3d1a94dc1e36ef31f68b4", func := "loop.example/pub-factsofsizes/laws.FnThree", spec := "fnThree", unfollowed := true, recurses := true, apart := false, narrowed := true }
def FnThreeUptoSaid : Prop := fnThreeUptoRow.holds Try.pinned (OpenSpec.upto fnThreeSpec)

/-- 'laws.FnTold', WHERE WHAT IT READS IS OF BULK AT MOST 1048576: true; the input reads as it did. -/
def fnToldUptoRow : OpenClaim := { program := "ytapnmgkpljlgmaa", sum := "896401cfe9038056b1a0488d8a8b2de45654ce3e38f3d1a94dc1e36ef31f68b4", func := "loop.example/pub-factsofsizes/laws.FnTold", spec := "fnTold", unfollowed := true, recurses := true, apart := false, narrowed := true }
def FnToldUptoSaid : Prop := fnToldUptoRow.holds Try.pinned (OpenSpec.upto fnToldSpec)

/-- 'laws.FnTwice', WHERE WHAT IT READS IS OF BULK AT MOST 1048576: true; the input reads as it did. -/
def fnTwiceUptoRow : OpenClaim := { program := "ytapnmgkpljlgmaa", sum := "896401cfe9038056b1a0488d8a8b2de45654ce3e38f3d1a94dc1e36ef31f68b4", func := "loop.example/pub-factsofsizes/laws.FnTwice", spec := "fnTwice", unfollowed := true, recurses := true, apart := false, narrowed := true }
def FnTwiceUptoSaid : Prop := fnTwiceUptoRow.holds Try.pinned (OpenSpec.upto fnTwiceSpec)

/-- 'laws.FnUndo', WHERE WHAT IT READS IS OF BULK AT MOST 1048576: true; the input reads as it did. -/
def fnUndoUptoRow : OpenClaim := { program := "ytapnmgkpljlgmaa", sum := "896401cfe9038056b1a0488d8a8b2de45654ce3e38f3d1a94dc1e36ef31f68b4", func := "loop.example/pub-factsofsizes/laws.FnUndo", spec := "fnUndo", unfollowed := true, recurses := true, apart := false, narrowed := true }
def FnUndoUptoSaid : Prop := fnUndoUptoRow.holds Try.pinned (OpenSpec.upto fnUndoSpec)

end Rows
end Go.Proofs.Ytapnmgkpljlgmaa
