/-
  DERIVED. GIVEN WITH THE SEED: THE CARDS: each row of Qxb6614702aDoorRows.lean that lists a variable, with what it lists TIED to the program's text (the seventh form; the later family's looks); each row that meets fmt, with fmt's text TOLD by the authors' own Lean function (tested against real Go, not proved from fmt's source: count such statements apart). THE CARD IS WHAT COUNTS. Prove the row's statement (the work); the ties are given (Qxb6614702aDoorTie.lean); close each card by the builder's one call (the guide's Derived/Test/ToyasCard.lean, 'card_holds'). Laid BY PROGRAM, IN A SANDBOX (cutbox-door.mjs). By AI agents, Wed Nov 11 2026. No macro, syntax, notation, axiom, sorry.
-/
import Derived.Test.Qxb6614702aDoorRows
import GoSem.ClaimSeven
namespace Go.Proofs.Qxb6614702aDoor
namespace Rows

/-- THE TIED CARD OF 'zzlaws_expr_b1.FnNewScaleJoin'. -/
def fnNewScaleJoinCard : Claim7 := { stood := { row := fnNewScaleJoinRow, standIns := [], harness := (true, "f024a3bc184924145531bd6fcc2bd6cb2120023fb2b74fe8b2a7462e7551dc1c"), looks := false }, kinds := [], alts := [], laidByText := true, laidKinds := [.data], laidTests := true, laidLooks := .later }
def FnNewScaleJoinCardSaid : Prop := Claim7.holds Tryd.pinned (.plain (OpenSpec.ofChange fnNewScaleJoinSpec)) fnNewScaleJoinCard

/-- THE TIED CARD OF 'zzlaws_expr_b1.FnNewScaleInsertOne'. -/
def fnNewScaleInsertOneCard : Claim7 := { stood := { row := fnNewScaleInsertOneRow, standIns := [], harness := (true, "f024a3bc184924145531bd6fcc2bd6cb2120023fb2b74fe8b2a7462e7551dc1c"), looks := false }, kinds := [], alts := [], laidByText := true, laidKinds := [.data], laidTests := true, laidLooks := .later }
def FnNewScaleInsertOneCardSaid : Prop := Claim7.holds Tryd.pinned (.plain (OpenSpec.ofChange fnNewScaleInsertOneSpec)) fnNewScaleInsertOneCard

/-- THE TIED CARD OF 'zzlaws_expr_b1.FnLackSlotsCut'. -/
def fnLackSlotsCutCard : Claim7 := { stood := { row := fnLackSlotsCutRow, standIns := [], harness := (true, "f024a3bc184924145531bd6fcc2bd6cb2120023fb2b74fe8b2a7462e7551dc1c"), looks := false }, kinds := [], alts := [], laidByText := true, laidKinds := [.data], laidTests := true, laidLooks := .later }
def FnLackSlotsCutCardSaid : Prop := Claim7.holds Tryd.pinned (.plain (OpenSpec.ofChange fnLackSlotsCutSpec)) fnLackSlotsCutCard

/-- THE TIED CARD OF 'zzlaws_expr_b1.FnLackSlotsStopsEarly'. -/
def fnLackSlotsStopsEarlyCard : Claim7 := { stood := { row := fnLackSlotsStopsEarlyRow, standIns := [], harness := (true, "f024a3bc184924145531bd6fcc2bd6cb2120023fb2b74fe8b2a7462e7551dc1c"), looks := false }, kinds := [], alts := [], laidByText := true, laidKinds := [.data], laidTests := true, laidLooks := .later }
def FnLackSlotsStopsEarlyCardSaid : Prop := Claim7.holds Tryd.pinned (.plain (OpenSpec.ofChange fnLackSlotsStopsEarlySpec)) fnLackSlotsStopsEarlyCard
end Rows
end Go.Proofs.Qxb6614702aDoor
