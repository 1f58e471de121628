/-
  No cell of these rows narrows 'for every input' (looked for: loops, veiled, ifaces, maps, wideKeys, modest, calm, conditions, laid).
  DERIVED. THE GIVEN ROWS OF THIS SEAT. 2 by the template 'for every input the law returns true; each argument reads behind the call as it read before'; 0 by the template 'total and deterministic' (their statements: Qxb6614526aTotals.lean).
  GIVEN WITH THE SEED: the statements are not yours to turn. If you find one false, say at which input.
  Laid BY PROGRAM, IN A SANDBOX (cutbox-rows.mjs): the forced cells as the released guide's own fill.sh prints them over the translation d1853ae1cab6e123… (all of the seat's roots in one cut). By AI agents, Wed Nov 11 2026. No macro, syntax, notation, axiom, sorry.
-/
import Derived.Test.Qxb6614526aChecked
import GoSem.Claim
import GoSem.ClaimJoined
import GoSem.ClaimMapViews
import Derived.JoinedTies
import Derived.KernelRfl
namespace Go.Proofs.Qxb6614526a
/- THE CELL 'sum', in the pinned program and in every row, IS THE sha256 OF THE DUMP (.gsa) THAT Qxb6614526aProg.lean LOADS. Nothing in Lean hashes anything: it is a label: what it is worth is what the hold of that sum in a sandbox is worth. -/
noncomputable def Try.pinned : Pinned := { name := "qxb6614526a", sum := "d1853ae1cab6e12330c995873b415821f8d50e55d4da9fe77bfeaf2bd9970775", checked := Try.checked }
namespace Rows
def none {H : Type} : Left H := { results := [], args := [] }

/-- 'zzlaws_internal_journal_b1.FnDecoderStringReadsWhatAppendStringWrote': WHATEVER THE INPUT: true; the input reads as it did. -/
def fnDecoderStringReadsWhatAppendStringWroteSpec : ChangeSpec := { name := "fnDecoderStringReadsWhatAppendStringWrote", fn := fun _ => fun
  | [d1, d2, d3] => { results := [.lit (.bool true)], args := [d1, d2, d3] }
  | _ => none }
def fnDecoderStringReadsWhatAppendStringWroteRow : OpenClaim := { program := "qxb6614526a", sum := "d1853ae1cab6e12330c995873b415821f8d50e55d4da9fe77bfeaf2bd9970775", func := "example.com/smolder/smolder/zzlaws_internal_journal_b1.FnDecoderStringReadsWhatAppendStringWrote", spec := "fnDecoderStringReadsWhatAppendStringWrote", apart := false }
def FnDecoderStringReadsWhatAppendStringWroteSaid : Prop := fnDecoderStringReadsWhatAppendStringWroteRow.holds Try.pinned (OpenSpec.ofChange fnDecoderStringReadsWhatAppendStringWroteSpec)

/-- ITS FALSE NEIGHBOUR: 'it returns false'. Refute it at one input. -/
def fnDecoderStringReadsWhatAppendStringWroteWrong : ChangeSpec := { name := "fnDecoderStringReadsWhatAppendStringWrote", fn := fun _ => fun
  | [d1, d2, d3] => { results := [.lit (.bool false)], args := [d1, d2, d3] }
  | _ => none }
def FnDecoderStringReadsWhatAppendStringWroteWrongFalsely : Prop := fnDecoderStringReadsWhatAppendStringWroteRow.holds Try.pinned (OpenSpec.ofChange fnDecoderStringReadsWhatAppendStringWroteWrong)

/-- 'zzlaws_internal_journal_b1.FnDecoderStringRefusesEveryShortCut': WHATEVER THE INPUT: true; the input reads as it did. -/
def fnDecoderStringRefusesEveryShortCutSpec : ChangeSpec := { name := "fnDecoderStringRefusesEveryShortCut", fn := fun _ => fun
  | [d1, d2] => { results := [.lit (.bool true)], args := [d1, d2] }
  | _ => none }
def fnDecoderStringRefusesEveryShortCutRow : OpenClaim := { program := "qxb6614526a", sum := "d1853ae1cab6e12330c995873b415821f8d50e55d4da9fe77bfeaf2bd9970775", func := "example.com/smolder/smolder/zzlaws_internal_journal_b1.FnDecoderStringRefusesEveryShortCut", spec := "fnDecoderStringRefusesEveryShortCut", apart := false }
def FnDecoderStringRefusesEveryShortCutSaid : Prop := fnDecoderStringRefusesEveryShortCutRow.holds Try.pinned (OpenSpec.ofChange fnDecoderStringRefusesEveryShortCutSpec)

/-- ITS FALSE NEIGHBOUR: 'it returns false'. Refute it at one input. -/
def fnDecoderStringRefusesEveryShortCutWrong : ChangeSpec := { name := "fnDecoderStringRefusesEveryShortCut", fn := fun _ => fun
  | [d1, d2] => { results := [.lit (.bool false)], args := [d1, d2] }
  | _ => none }
def FnDecoderStringRefusesEveryShortCutWrongFalsely : Prop := fnDecoderStringRefusesEveryShortCutRow.holds Try.pinned (OpenSpec.ofChange fnDecoderStringRefusesEveryShortCutWrong)

end Rows
end Go.Proofs.Qxb6614526a
