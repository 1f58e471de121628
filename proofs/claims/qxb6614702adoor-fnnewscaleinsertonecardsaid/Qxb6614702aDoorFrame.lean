/-
  SEAT b6614702aD: what the two laws' frames share: the door's world meets the listed variable; a slice of strings is opened.
-/
import Derived.Test.Qxb6614702aDoorRows
import Derived.Test.Qxb6614702aDoorNew
import Derived.ProofKit
import Derived.LaidMore
import Derived.OpenShut
import Derived.ShutString
import Derived.ChangeOld
import Derived.Below
import Derived.SliceStrings
import Derived.Stop.Joined
namespace Go.Proofs.Qxb6614702aDoor
open Go.ChangeShapes Go.WideShapes Go.ChangeAt Go.RowKit
set_option linter.unusedVariables false

theorem own : ownKnob Tryd.prog.godebug = none := by kernel_rfl
theorem laidOut : laidOutB Tryd.prog = true := by kernel_rfl
theorem cells9 : Tryd.prog.cellsOf 9 = 1 := by kernel_rfl

/-- The door's own heap meets the condition. -/
theorem door_met (os : Os) (args : Array Value) : laidMetH Tryd.prog Rows.fnNewScaleJoinRow.laid ((World.doorLaid Tryd.prog 400 os).forCall (fun _ _ => 0) ⟨#[], args, []⟩).memory :=
  laidMetH_of_parts3 (fuel := 8) (laidMet_of_run' 8 (by kernel_rfl) (by kernel_rfl)) (by kernel_rfl) (by kernel_rfl)

theorem strings_of {H : Type} {enc : TypeId × Value → H} {W : World} {fuel : Nat} {a : Option Addr} {len cap : Nat} {x : DataW H × List MemPlace}
    (h : DataW.trod enc Tryd.prog W 0 (fun _ => true) true fuel 22 [.slice a len cap] = some x) :
    ∃ l : List ByteArray, l.length = len ∧ SS W.heap.size W a cap l := by
  rcases open_strings Tryd.underlying22 Tryd.underlying9 cells9 h with ⟨hc, _⟩ | ⟨ad, len', cap', ss, hc, _, hl, hm, hz, _, hcell, hws⟩
  · simp at hc
    obtain ⟨rfl, rfl, rfl⟩ := hc
    exact ⟨[], rfl, Nat.le_refl _, Nat.zero_le _, fun s h => by simp at h, .inl rfl⟩
  · simp at hc
    obtain ⟨rfl, rfl, rfl⟩ := hc
    have hzl : ss.length = cap := by simpa using hz
    refine ⟨ss.take len, by rw [List.length_take]; omega, by rw [List.length_take]; omega, hm, fun s hs => hws s (List.mem_of_mem_take hs), ?_⟩
    by_cases h0 : len = 0
    · exact .inl (by subst h0; simp)
    · right
      obtain ⟨b, off, spot⟩ := ad
      have hspot : spot = none := by simpa [Addr.add] using World.cell?_spot (hcell 0 (by omega))
      subst hspot
      have hlt : b < W.heap.size := by
        have := World.block_lt_of_cell? W _ (hcell 0 (by omega))
        simpa [Addr.add] using this
      refine ⟨b, off, rfl, hlt, fun j hj => ?_⟩
      rw [List.length_take] at hj
      have hjs : j < ss.length := by omega
      have hc := hcell j hjs
      rw [Addr.add_lit] at hc
      rw [hc, List.getElem_take]
      simp [List.getD, List.getElem?_eq_getElem hjs]
end Go.Proofs.Qxb6614702aDoor
