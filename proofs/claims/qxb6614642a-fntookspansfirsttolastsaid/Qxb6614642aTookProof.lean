/-
  THE PROOF OF 'Rows.FnTookSpansFirstToLastSaid': the frame after the guide's skeleton (a slice of pairs opened by 'open_slice_pairs'), the walk in Qxb6614642aTookWalk.
-/
import Derived.Test.Qxb6614642aRows
import Derived.Test.Qxb6614642aTookWalk
import Derived.WalkKit
import Derived.ProofKit
import Derived.OpenShut
import Derived.ShutString
import Derived.ChangeOld
import Derived.Below
import Derived.Deep.SlicePairs
namespace Go.Proofs.Qxb6614642a.fnTookSpansFirstToLast
open Go.ChangeShapes Go.WideShapes Go.ChangeAt Go.RowKit Go.Deep
open Go.ChangeMaps (open_string shut_string)
set_option linter.unusedVariables false

theorem own : ownKnob Try.prog.godebug = none := by kernel_rfl
theorem laidOut : laidOutB Try.prog = true := by kernel_rfl
theorem cells29 : Try.prog.cellsOf 29 = 2 := by kernel_rfl
theorem cells3 : Try.prog.cellsOf 3 = 1 := by kernel_rfl

theorem steps_of {H : Type} {enc : TypeId × Value → H} {W : World} {base : Nat} {held : Bool} {fuel : Nat} {a : Option Addr} {len cap : Nat} {x : DataW H × List MemPlace}
    (h : DataW.trod enc Try.prog W base (fun _ => true) held fuel 22 [.slice a len cap] = some x) :
    len ≤ maxLen ∧ ∃ fs ts : Nat → Int, Steps W.heap.size W a len fs ts := by
  rcases open_slice_pairs Try.underlying22 Try.underlying29 cells29 rfl rfl cells3 cells3 h with ⟨hc, _⟩ | ⟨ad, len', cap', m, n, V0, V1, D0, D1, P0, P1, hc, _, hl, hm, hmm, _, hx⟩
  · simp at hc
    obtain ⟨rfl, rfl, rfl⟩ := hc
    exact ⟨Nat.zero_le _, fun _ => 0, fun _ => 0, .inl rfl⟩
  · simp at hc
    obtain ⟨rfl, rfl, rfl⟩ := hc
    have hmc : m = cap := by simpa using hmm
    subst hmc
    refine ⟨Nat.le_trans hl hm, fun i => intOf (V0 i), fun i => intOf (V1 i), ?_⟩
    by_cases h0 : len = 0
    · exact .inl h0
    · right
      obtain ⟨b, off, spot⟩ := ad
      have hspot : spot = none := by simpa [Addr.add] using World.cell?_spot (hx 0 (by omega)).1
      subst hspot
      have hlt : b < W.heap.size := by
        have := World.block_lt_of_cell? W _ (hx 0 (by omega)).1
        simpa [Addr.add] using this
      refine ⟨b, off, rfl, hlt, fun i hi => ?_⟩
      obtain ⟨c0, c1, t0, t1⟩ := hx i (by omega)
      rw [Addr.add_lit] at c0 c1
      obtain ⟨z0, e0, _, _⟩ := DataW.trod_int Try.underlying3 t0
      obtain ⟨z1, e1, _, _⟩ := DataW.trod_int Try.underlying3 t1
      simp at e0 e1
      rw [e0] at c0
      rw [e1] at c1
      rw [Nat.add_assoc]
      refine ⟨?_, ?_⟩
      · show W.cell? _ = some (.int .i64 (intOf (V0 i)))
        rw [e0]; exact c0
      · show W.cell? _ = some (.int .i64 (intOf (V1 i)))
        rw [e1]; exact c1

set_option maxRecDepth 100000 in
theorem lifted (os : Os) (started : os.Started) (H : Type) (enc : TypeId × Value → H) :
    ReturnsInHanded {} Try.checked os 3 .any (Rows.fnTookSpansFirstToLastSpec.pre6 enc Try.prog Try.f3 Rows.fnTookSpansFirstToLastRow.domain false) (Rows.fnTookSpansFirstToLastSpec.post enc Try.prog Try.f3 false true false false) := by
  refine returnsInHanded_of_change (C := Try.checked) own started (by kernel_rfl) Try.func3
    (ChangeSpec.witness6 (enc := enc) (C := Try.checked) false ⟨#[], #[.int .i64 0, .int .i64 0, .slice none 0 0], []⟩ 8 (by kernel_rfl) (by kernel_rfl) (by kernel_rfl) (by kernel_rfl)) ?_
  intro W base args ds gs before hval0 hW hcnd _
  have hval : ∀ (j : Nat) t v, Try.f3.params[j]? = some t → args[j]? = some v → Value.okWide Try.prog W .any base t v := hval0
  have hW' := hW
  obtain ⟨p, q, hA0, hV, rfl, hfz, hnd⟩ := hW
  have hA : DataW.TrodAll enc Try.prog W 0 (fun _ => true) true Try.f3.params.toList args.toList ds p := hA0
  rw [Try.params3] at hA hval
  obtain ⟨v0, vs0, d0, ds0, p0, q0, hargs, rfl, rfl, h0, r0⟩ := trodAll_cons hA
  obtain ⟨v1, vs1, d1, ds1, p1, q1, rfl, rfl, rfl, h1, r1⟩ := trodAll_cons r0
  obtain ⟨v2, vs2, d2, ds2, p2, q2, rfl, rfl, rfl, h2, r2⟩ := trodAll_cons r1
  obtain ⟨rfl, rfl, rfl⟩ := trodAll_nil r2
  obtain rfl : args = #[v0, v1, v2] := by cases args; simp_all
  obtain ⟨rfl, rfl⟩ := trodVars_none hV
  obtain ⟨a0, rfl, rfl, rfl, w0⟩ := open_int Try.underlying3 (hval 0 3 v0 rfl rfl) h0
  obtain ⟨a1, rfl, rfl, rfl, w1⟩ := open_int Try.underlying3 (hval 1 3 v1 rfl rfl) h1
  obtain ⟨a2, len2, cap2, rfl⟩ := okWide_slice Try.underlying22 (hval 2 22 v2 rfl rfl)
  have k2 := h2
  have lt2 : ∀ x ∈ p2, x.block < W.heap.size := by obtain ⟨m, hm⟩ := k2; exact DataW.trod_lt m _ _ _ hm
  obtain ⟨hl2, fs, ts, w2⟩ : len2 ≤ maxLen ∧ ∃ fs ts : Nat → Int, Steps W.heap.size W a2 len2 fs ts := by
    obtain ⟨fuel, hf⟩ := h2
    exact steps_of (by simpa [Value.cells] using hf)
  clear hA0 hval0
  refine (tookWalk a0 a1 a2 len2 cap2 fs ts W w2 hl2).mono fun e W' ⟨he, bel⟩ => ?_
  subst he
  exact ⟨_, rfl, _, _, _, [], _, [], hW', trodAll_mk1 (shut_bool Try.underlying4 _), (trodAll_cons_mk (shut_int Try.underlying3 w0) (trodAll_cons_mk (shut_int Try.underlying3 w1) (trodAll_cons_mk (Below.trod laidOut (by kernel_rfl) (of_decide_eq_true (by kernel_rfl)) k2 bel lt2) trodAll_mk0))), rfl, bel.frame _, fun h => by cases h⟩

theorem over : Rows.fnTookSpansFirstToLastRow.holds Try.pinned (OpenSpec.ofChange Rows.fnTookSpansFirstToLastSpec) :=
  OpenClaim.holds_of_wide 3 Try.f3 rfl rfl rfl rfl rfl rfl rfl ⟨rfl, rfl, rfl, rfl, rfl⟩ rfl rfl rfl rfl rfl (by kernel_rfl) Try.func3 (by kernel_rfl)
    (of_decide_eq_true (by kernel_rfl)) (by unfold Func.isWrapper; first | (rw [if_pos (by decide +kernel)]; kernel_rfl) | (rw [if_neg (by decide +kernel)]; exact ⟨rfl, rfl⟩))
    (fun os started H enc _ => lifted os started H enc)

/-- THE STATEMENT -/
theorem proved : Rows.FnTookSpansFirstToLastSaid := over
end Go.Proofs.Qxb6614642a.fnTookSpansFirstToLast
