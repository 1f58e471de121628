/-
  No cell of these rows narrows 'for every input' (looked for: loops, veiled, ifaces, maps, wideKeys, modest, calm, conditions, laid).
  DERIVED. THE GIVEN ROWS OF THIS SEAT. 5 by the template 'for every input the law returns true; each argument reads behind the call as it read before'; 0 by the template 'total and deterministic' (their statements: Qxb6614810aTotals.lean).
  GIVEN WITH THE SEED: the statements are not yours to turn. If you find one false, say at which input.
  Laid BY PROGRAM, IN A SANDBOX (cutbox-rows.mjs): the forced cells as the released guide's own fill.sh prints them over the translation 2b3385b88978f53a… (all of the seat's roots in one cut). By AI agents, Wed Nov 11 2026. No macro, syntax, notation, axiom, sorry.
-/
import Derived.Test.Qxb6614810aChecked
import GoSem.Claim
import GoSem.ClaimJoined
import GoSem.ClaimMapViews
import Derived.JoinedTies
import Derived.KernelRfl
namespace Go.Proofs.Qxb6614810a
/- THE CELL 'sum', in the pinned program and in every row, IS THE sha256 OF THE DUMP (.gsa) THAT Qxb6614810aProg.lean LOADS. Nothing in Lean hashes anything: it is a label: what it is worth is what the hold of that sum in a sandbox is worth. -/
noncomputable def Try.pinned : Pinned := { name := "qxb6614810a", sum := "2b3385b88978f53adf7bced1f98c993798ae965cec706f2998f6f55959da1886", checked := Try.checked }
namespace Rows
def none {H : Type} : Left H := { results := [], args := [] }

/-- 'zzlaws_root_b1.FnScratchSetsAreEmptySizedAndDisjoint': WHATEVER THE INPUT: true; the input reads as it did. -/
def fnScratchSetsAreEmptySizedAndDisjointSpec : ChangeSpec := { name := "fnScratchSetsAreEmptySizedAndDisjoint", fn := fun _ => fun
  | [d1, d2, d3] => { results := [.lit (.bool true)], args := [d1, d2, d3] }
  | _ => none }
def fnScratchSetsAreEmptySizedAndDisjointRow : OpenClaim := { program := "qxb6614810a", sum := "2b3385b88978f53adf7bced1f98c993798ae965cec706f2998f6f55959da1886", func := "example.com/coterie/coterie/zzlaws_root_b1.FnScratchSetsAreEmptySizedAndDisjoint", spec := "fnScratchSetsAreEmptySizedAndDisjoint", apart := false }
def FnScratchSetsAreEmptySizedAndDisjointSaid : Prop := fnScratchSetsAreEmptySizedAndDisjointRow.holds Try.pinned (OpenSpec.ofChange fnScratchSetsAreEmptySizedAndDisjointSpec)

/-- ITS FALSE NEIGHBOUR: 'it returns false'. Refute it at one input. -/
def fnScratchSetsAreEmptySizedAndDisjointWrong : ChangeSpec := { name := "fnScratchSetsAreEmptySizedAndDisjoint", fn := fun _ => fun
  | [d1, d2, d3] => { results := [.lit (.bool false)], args := [d1, d2, d3] }
  | _ => none }
def FnScratchSetsAreEmptySizedAndDisjointWrongFalsely : Prop := fnScratchSetsAreEmptySizedAndDisjointRow.holds Try.pinned (OpenSpec.ofChange fnScratchSetsAreEmptySizedAndDisjointWrong)

/-- 'zzlaws_root_b1.FnScratchSetLeavesCarvedWordsAndCoversN': WHATEVER THE INPUT: true; the input reads as it did. -/
def fnScratchSetLeavesCarvedWordsAndCoversNSpec : ChangeSpec := { name := "fnScratchSetLeavesCarvedWordsAndCoversN", fn := fun _ => fun
  | [d1, d2, d3] => { results := [.lit (.bool true)], args := [d1, d2, d3] }
  | _ => none }
def fnScratchSetLeavesCarvedWordsAndCoversNRow : OpenClaim := { program := "qxb6614810a", sum := "2b3385b88978f53adf7bced1f98c993798ae965cec706f2998f6f55959da1886", func := "example.com/coterie/coterie/zzlaws_root_b1.FnScratchSetLeavesCarvedWordsAndCoversN", spec := "fnScratchSetLeavesCarvedWordsAndCoversN", apart := false }
def FnScratchSetLeavesCarvedWordsAndCoversNSaid : Prop := fnScratchSetLeavesCarvedWordsAndCoversNRow.holds Try.pinned (OpenSpec.ofChange fnScratchSetLeavesCarvedWordsAndCoversNSpec)

/-- ITS FALSE NEIGHBOUR: 'it returns false'. Refute it at one input. -/
def fnScratchSetLeavesCarvedWordsAndCoversNWrong : ChangeSpec := { name := "fnScratchSetLeavesCarvedWordsAndCoversN", fn := fun _ => fun
  | [d1, d2, d3] => { results := [.lit (.bool false)], args := [d1, d2, d3] }
  | _ => none }
def FnScratchSetLeavesCarvedWordsAndCoversNWrongFalsely : Prop := fnScratchSetLeavesCarvedWordsAndCoversNRow.holds Try.pinned (OpenSpec.ofChange fnScratchSetLeavesCarvedWordsAndCoversNWrong)

/-- 'zzlaws_root_b1.FnWritesCutAtAnySetJoins': WHATEVER THE INPUT: true; the input reads as it did. -/
def fnWritesCutAtAnySetJoinsSpec : ChangeSpec := { name := "fnWritesCutAtAnySetJoins", fn := fun _ => fun
  | [d1, d2, d3, d4] => { results := [.lit (.bool true)], args := [d1, d2, d3, d4] }
  | _ => none }
def fnWritesCutAtAnySetJoinsRow : OpenClaim := { program := "qxb6614810a", sum := "2b3385b88978f53adf7bced1f98c993798ae965cec706f2998f6f55959da1886", func := "example.com/coterie/coterie/zzlaws_root_b1.FnWritesCutAtAnySetJoins", spec := "fnWritesCutAtAnySetJoins", apart := false }
def FnWritesCutAtAnySetJoinsSaid : Prop := fnWritesCutAtAnySetJoinsRow.holds Try.pinned (OpenSpec.ofChange fnWritesCutAtAnySetJoinsSpec)

/-- ITS FALSE NEIGHBOUR: 'it returns false'. Refute it at one input. -/
def fnWritesCutAtAnySetJoinsWrong : ChangeSpec := { name := "fnWritesCutAtAnySetJoins", fn := fun _ => fun
  | [d1, d2, d3, d4] => { results := [.lit (.bool false)], args := [d1, d2, d3, d4] }
  | _ => none }
def FnWritesCutAtAnySetJoinsWrongFalsely : Prop := fnWritesCutAtAnySetJoinsRow.holds Try.pinned (OpenSpec.ofChange fnWritesCutAtAnySetJoinsWrong)

/-- 'zzlaws_root_b1.FnWriteSizesOneWriteQuorumPutInAtAnyPlace': WHATEVER THE INPUT: true; the input reads as it did. -/
def fnWriteSizesOneWriteQuorumPutInAtAnyPlaceSpec : ChangeSpec := { name := "fnWriteSizesOneWriteQuorumPutInAtAnyPlace", fn := fun _ => fun
  | [d1, d2, d3, d4, d5, d6, d7] => { results := [.lit (.bool true)], args := [d1, d2, d3, d4, d5, d6, d7] }
  | _ => none }
def fnWriteSizesOneWriteQuorumPutInAtAnyPlaceRow : OpenClaim := { program := "qxb6614810a", sum := "2b3385b88978f53adf7bced1f98c993798ae965cec706f2998f6f55959da1886", func := "example.com/coterie/coterie/zzlaws_root_b1.FnWriteSizesOneWriteQuorumPutInAtAnyPlace", spec := "fnWriteSizesOneWriteQuorumPutInAtAnyPlace", unfollowed := true, recurses := true, apart := false }
def FnWriteSizesOneWriteQuorumPutInAtAnyPlaceSaid : Prop := fnWriteSizesOneWriteQuorumPutInAtAnyPlaceRow.holds Try.pinned (OpenSpec.ofChange fnWriteSizesOneWriteQuorumPutInAtAnyPlaceSpec)

/-- ITS FALSE NEIGHBOUR: 'it returns false'. Refute it at one input. -/
def fnWriteSizesOneWriteQuorumPutInAtAnyPlaceWrong : ChangeSpec := { name := "fnWriteSizesOneWriteQuorumPutInAtAnyPlace", fn := fun _ => fun
  | [d1, d2, d3, d4, d5, d6, d7] => { results := [.lit (.bool false)], args := [d1, d2, d3, d4, d5, d6, d7] }
  | _ => none }
def FnWriteSizesOneWriteQuorumPutInAtAnyPlaceWrongFalsely : Prop := fnWriteSizesOneWriteQuorumPutInAtAnyPlaceRow.holds Try.pinned (OpenSpec.ofChange fnWriteSizesOneWriteQuorumPutInAtAnyPlaceWrong)

/-- 'zzlaws_root_b1.FnWriteSizesOrderFreeAndSpansEveryWriteQuorum': WHATEVER THE INPUT: true; the input reads as it did. -/
def fnWriteSizesOrderFreeAndSpansEveryWriteQuorumSpec : ChangeSpec := { name := "fnWriteSizesOrderFreeAndSpansEveryWriteQuorum", fn := fun _ => fun
  | [d1, d2, d3, d4, d5, d6, d7] => { results := [.lit (.bool true)], args := [d1, d2, d3, d4, d5, d6, d7] }
  | _ => none }
def fnWriteSizesOrderFreeAndSpansEveryWriteQuorumRow : OpenClaim := { program := "qxb6614810a", sum := "2b3385b88978f53adf7bced1f98c993798ae965cec706f2998f6f55959da1886", func := "example.com/coterie/coterie/zzlaws_root_b1.FnWriteSizesOrderFreeAndSpansEveryWriteQuorum", spec := "fnWriteSizesOrderFreeAndSpansEveryWriteQuorum", unfollowed := true, recurses := true, apart := false }
def FnWriteSizesOrderFreeAndSpansEveryWriteQuorumSaid : Prop := fnWriteSizesOrderFreeAndSpansEveryWriteQuorumRow.holds Try.pinned (OpenSpec.ofChange fnWriteSizesOrderFreeAndSpansEveryWriteQuorumSpec)

/-- ITS FALSE NEIGHBOUR: 'it returns false'. Refute it at one input. -/
def fnWriteSizesOrderFreeAndSpansEveryWriteQuorumWrong : ChangeSpec := { name := "fnWriteSizesOrderFreeAndSpansEveryWriteQuorum", fn := fun _ => fun
  | [d1, d2, d3, d4, d5, d6, d7] => { results := [.lit (.bool false)], args := [d1, d2, d3, d4, d5, d6, d7] }
  | _ => none }
def FnWriteSizesOrderFreeAndSpansEveryWriteQuorumWrongFalsely : Prop := fnWriteSizesOrderFreeAndSpansEveryWriteQuorumRow.holds Try.pinned (OpenSpec.ofChange fnWriteSizesOrderFreeAndSpansEveryWriteQuorumWrong)

end Rows
end Go.Proofs.Qxb6614810a
