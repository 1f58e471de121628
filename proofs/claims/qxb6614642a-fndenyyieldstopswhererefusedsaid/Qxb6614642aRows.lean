/-
  No cell of these rows narrows 'for every input' (looked for: loops, veiled, ifaces, maps, wideKeys, modest, calm, conditions, laid).
  DERIVED. THE GIVEN ROWS OF THIS SEAT. 3 by the template 'for every input the law returns true; each argument reads behind the call as it read before'; 0 by the template 'total and deterministic' (their statements: Qxb6614642aTotals.lean).
  GIVEN WITH THE SEED: the statements are not yours to turn. If you find one false, say at which input.
  Laid BY PROGRAM, IN A SANDBOX (cutbox-rows.mjs): the forced cells as the released guide's own fill.sh prints them over the translation ad00171d4a9caef0… (all of the seat's roots in one cut). By AI agents, Wed Nov 11 2026. No macro, syntax, notation, axiom, sorry.
-/
import Derived.Test.Qxb6614642aChecked
import GoSem.Claim
import GoSem.ClaimJoined
import GoSem.ClaimMapViews
import Derived.JoinedTies
import Derived.KernelRfl
namespace Go.Proofs.Qxb6614642a
/- THE CELL 'sum', in the pinned program and in every row, IS THE sha256 OF THE DUMP (.gsa) THAT Qxb6614642aProg.lean LOADS. Nothing in Lean hashes anything: it is a label: what it is worth is what the hold of that sum in a sandbox is worth. -/
noncomputable def Try.pinned : Pinned := { name := "qxb6614642a", sum := "ad00171d4a9caef06ac5703f75551562c8011e53f300c22b2c34ad3ddc83b647", checked := Try.checked }
namespace Rows
def none {H : Type} : Left H := { results := [], args := [] }

/-- 'zzlaws_root_b1.FnTookSpansFirstToLast': WHATEVER THE INPUT: true; the input reads as it did. -/
def fnTookSpansFirstToLastSpec : ChangeSpec := { name := "fnTookSpansFirstToLast", fn := fun _ => fun
  | [d1, d2, d3] => { results := [.lit (.bool true)], args := [d1, d2, d3] }
  | _ => none }
def fnTookSpansFirstToLastRow : OpenClaim := { program := "qxb6614642a", sum := "ad00171d4a9caef06ac5703f75551562c8011e53f300c22b2c34ad3ddc83b647", func := "example.com/ingrant/ingrant/zzlaws_root_b1.FnTookSpansFirstToLast", spec := "fnTookSpansFirstToLast", apart := false }
def FnTookSpansFirstToLastSaid : Prop := fnTookSpansFirstToLastRow.holds Try.pinned (OpenSpec.ofChange fnTookSpansFirstToLastSpec)

/-- ITS FALSE NEIGHBOUR: 'it returns false'. Refute it at one input. -/
def fnTookSpansFirstToLastWrong : ChangeSpec := { name := "fnTookSpansFirstToLast", fn := fun _ => fun
  | [d1, d2, d3] => { results := [.lit (.bool false)], args := [d1, d2, d3] }
  | _ => none }
def FnTookSpansFirstToLastWrongFalsely : Prop := fnTookSpansFirstToLastRow.holds Try.pinned (OpenSpec.ofChange fnTookSpansFirstToLastWrong)

/-- 'zzlaws_root_b1.FnDenyYieldEveryJoins': WHATEVER THE INPUT: true; the input reads as it did. -/
def fnDenyYieldEveryJoinsSpec : ChangeSpec := { name := "fnDenyYieldEveryJoins", fn := fun _ => fun
  | [d1, d2, d3, d4, d5] => { results := [.lit (.bool true)], args := [d1, d2, d3, d4, d5] }
  | _ => none }
def fnDenyYieldEveryJoinsRow : OpenClaim := { program := "qxb6614642a", sum := "ad00171d4a9caef06ac5703f75551562c8011e53f300c22b2c34ad3ddc83b647", func := "example.com/ingrant/ingrant/zzlaws_root_b1.FnDenyYieldEveryJoins", spec := "fnDenyYieldEveryJoins", unfollowed := true, recurses := true, apart := false }
def FnDenyYieldEveryJoinsSaid : Prop := fnDenyYieldEveryJoinsRow.holds Try.pinned (OpenSpec.ofChange fnDenyYieldEveryJoinsSpec)

/-- ITS FALSE NEIGHBOUR: 'it returns false'. Refute it at one input. -/
def fnDenyYieldEveryJoinsWrong : ChangeSpec := { name := "fnDenyYieldEveryJoins", fn := fun _ => fun
  | [d1, d2, d3, d4, d5] => { results := [.lit (.bool false)], args := [d1, d2, d3, d4, d5] }
  | _ => none }
def FnDenyYieldEveryJoinsWrongFalsely : Prop := fnDenyYieldEveryJoinsRow.holds Try.pinned (OpenSpec.ofChange fnDenyYieldEveryJoinsWrong)

/-- 'zzlaws_root_b1.FnDenyYieldStopsWhereRefused': WHATEVER THE INPUT: true; the input reads as it did. -/
def fnDenyYieldStopsWhereRefusedSpec : ChangeSpec := { name := "fnDenyYieldStopsWhereRefused", fn := fun _ => fun
  | [d1, d2, d3, d4, d5] => { results := [.lit (.bool true)], args := [d1, d2, d3, d4, d5] }
  | _ => none }
def fnDenyYieldStopsWhereRefusedRow : OpenClaim := { program := "qxb6614642a", sum := "ad00171d4a9caef06ac5703f75551562c8011e53f300c22b2c34ad3ddc83b647", func := "example.com/ingrant/ingrant/zzlaws_root_b1.FnDenyYieldStopsWhereRefused", spec := "fnDenyYieldStopsWhereRefused", unfollowed := true, recurses := true, apart := false }
def FnDenyYieldStopsWhereRefusedSaid : Prop := fnDenyYieldStopsWhereRefusedRow.holds Try.pinned (OpenSpec.ofChange fnDenyYieldStopsWhereRefusedSpec)

/-- ITS FALSE NEIGHBOUR: 'it returns false'. Refute it at one input. -/
def fnDenyYieldStopsWhereRefusedWrong : ChangeSpec := { name := "fnDenyYieldStopsWhereRefused", fn := fun _ => fun
  | [d1, d2, d3, d4, d5] => { results := [.lit (.bool false)], args := [d1, d2, d3, d4, d5] }
  | _ => none }
def FnDenyYieldStopsWhereRefusedWrongFalsely : Prop := fnDenyYieldStopsWhereRefusedRow.holds Try.pinned (OpenSpec.ofChange fnDenyYieldStopsWhereRefusedWrong)

end Rows
end Go.Proofs.Qxb6614642a
