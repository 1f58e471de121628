/-
  THE PROOF OF 'Rows.FnDecoderStringRefusesEveryShortCutSaid': the frame by the guide's skeleton tool (its end by 'Below'), the walk by hand.
-/
import Derived.Test.Qxb6614526aRows
import Derived.Test.Qxb6614526aWalks3
import Derived.WalkKit
import Derived.ProofKit
import Derived.OpenShut
import Derived.ShutString
namespace Go.Proofs.Qxb6614526a.fnDecoderStringRefusesEveryShortCut
open Go.ChangeShapes Go.WideShapes Go.ChangeAt Go.RowKit
open Go.ChangeMaps (open_string shut_string)
set_option linter.unusedVariables false      -- a walk need not use every 'w<i>' (that an integer argument fits its kind)

theorem own : ownKnob Try.prog.godebug = none := by kernel_rfl

/-- A beginning of the bytes, at the same address. -/
theorem BB_take {G : Nat} {w : World} {a : Option Addr} {c : Nat} {l : List UInt8} (h : BB G w a c l) (k : Nat) : BB G w a c (l.take k) := by
  obtain ⟨h1, h2, h3⟩ := h
  refine ⟨by rw [List.length_take]; omega, h2, ?_⟩
  rcases h3 with rfl | ⟨g, o, rfl, hg, hc⟩
  · exact .inl (by simp)
  · refine .inr ⟨g, o, rfl, hg, fun j hj => ?_⟩
    rw [List.length_take] at hj
    rw [List.getElem_take]
    exact hc j (by omega)

/-! ### STEP 1: THE WALK -/
set_option maxHeartbeats 1000000 in
theorem walk (a0 : ByteArray) (a1 : Int) (w0 : a0.size ≤ maxLen) (w1 : (Lit.int .i64 a1).wf = true) (w : World) :
    Calls Try.prog 4 #[.string a0, .int .i64 a1] w fun e w' => e = .returned (.bool true) ∧ Below w.heap.size w w' := by
  have bd := bounds_i64 w1
  by_cases hsum : a0.size ≤ 1048576
  · have hvl := vlen_le hsum
    have hvp := vlen_pos a0.size
    have hel : (encS a0).length = vlen a0.size + a0.size := encS_length a0
    generalize hfull : vlen a0.size + a0.size = full at *
    have hfb : full ≤ 2000000 := by omega
    have hfp : 0 < full := by omega
    have Hel : Hid ((encS a0).length = full) := hel
    have Hfull : Hid (vlen a0.size + a0.size = full) := hfull
    clear hel hfull hvl hvp w1
    by_cases hc : 0 ≤ a1 ∧ a1 < full
    · obtain ⟨hc0, hc1⟩ := hc
      obtain ⟨k, rfl⟩ := Int.eq_ofNat_of_zero_le hc0
      have hk : k < full := by omega
      have hkE : k ≤ (encS a0).length := by have := Hel.out; omega
      go_enter Try.func4, Try.ntmps4
      go_wp2_with fail
      refine (zzBytes2 a0 k w w0).mono ?_
      rw [decide_eq_true hsum]
      rintro e W0 ⟨rfl, rfl⟩
      go_wp2_with fail
      refine (encLen_any a0.size W0 hsum).mono ?_
      rw [Hfull.out]
      rintro e W0 ⟨rfl, rfl⟩
      go_wp2_with fail
      refine (zzAppendString_any W0.heap.size 0 (.slice none 0 0) [] a0 W0 (World.ownsRow_nil _ _ _ _) (Nat.le_refl _) (by omega) (by omega)).mono ?_
      rintro e W1 ⟨v1, rfl, hown1, hbel1⟩
      have hz1' := hbel1.size
      rw [List.nil_append] at hown1
      obtain ⟨a3, c3, rfl, hb3, hn3⟩ := BB_of_owns hown1
      have hc3 := hb3.1
      rw [Hel.out] at hc3
      obtain ⟨ad, rfl⟩ : ∃ ad, a3 = some ad := by
        cases a3 with
        | some ad => exact ⟨ad, rfl⟩
        | none => have := hn3 rfl; omega
      have htk : ((encS a0).take k).length = k := by rw [List.length_take]; omega
      have hbT : BB W1.heap.size W1 (some ad) c3 ((encS a0).take k) := BB_take hb3 k
      rw [Hel.out]
      generalize hL : (encS a0).take k = L at *
      have HL : Hid ((encS a0).take k = L) := hL
      have Hk : Hid (k < (encS a0).length) := by unfold Hid; have := Hel.out; omega
      clear hL hown1 hb3 hn3 hkE
      subst htk
      have hm3 : c3 ≤ 9223372036854775807 := hbT.2.1
      have qnil : ∀ (w : World) a n c, (binOp .neq 22 (.slice a n c) (.slice none 0 0)).run Try.prog w = .ok (.bool (!a.isNone)) w := fun w a n c => run_neq_slice_nil_any w 22 5 a n c 0 0 Try.underlying22
      go_wp2_with fail
      refine (copyBytes_any W1.heap.size ad c3 L W1 hbT (Nat.le_refl _) (by omega)).mono ?_
      rintro e W2 ⟨a4, c4, rfl, hb4, hbel2⟩
      have hz2' := hbel2.size
      go_wp2_with fail
      refine (newDecoder_any a4 L.length c4 W2).mono ?_
      rintro e W3 ⟨rfl, rfl⟩
      have hD3 := dec_new W2 a4 c4 L hb4
      have hbel3 := (hbel1.trans (hbel2.mono hz1')).alloc (by omega) (.cells #[.slice a4 L.length c4, .nilIface] 37)
      have hz3 := hbel3.size
      generalize hW3 : W2.alloc (.cells #[.slice a4 L.length c4, .nilIface] 37) = W3 at *
      clear hW3 hb4 hbel2 hbT
      rw [← HL.out] at hD3
      go_wp2_with fail
      refine (read_short W2.heap.size a0 L.length W3 hD3 hsum Hk.out).mono ?_
      rintro e W4 ⟨rfl, hF4, hbel4⟩
      have hz4 := hbel4.size
      have HF4 : Hid (Failed W2.heap.size W4) := hF4
      obtain ⟨h04, t4, y4, hD4⟩ := hF4
      clear hD3
      go_wp2_with fail
      refine (decFailed_yes W2.heap.size [] t4 y4 W4 hD4).mono ?_
      rintro e W5 ⟨rfl, rfl⟩
      go_wp2_with fail
      refine (decRest_any W2.heap.size _ W5 h04 ⟨_, _, _, rfl⟩).mono ?_
      rintro e W6 ⟨rfl, rfl⟩
      go_wp2_with fail
      refine (read_failed W2.heap.size W6 HF4.out).mono ?_
      rintro e W7 ⟨rfl, hF7, hbel7⟩
      have hz7 := hbel7.size
      obtain ⟨h07, t7, y7, hD7⟩ := hF7
      go_wp2_with fail
      refine (decFailed_yes W2.heap.size [] t7 y7 W7 hD7).mono ?_
      rintro e W8 ⟨rfl, rfl⟩
      go_wp2_with fail
      refine (decRest_any W2.heap.size _ W8 h07 ⟨_, _, _, rfl⟩).mono ?_
      rintro e W9 ⟨rfl, rfl⟩
      go_wp2
      go_ret
      exact ⟨rfl, (hbel3.trans (hbel4.mono (by omega))).trans (hbel7.mono (by omega))⟩
    · have hw : ¬ (0 ≤ a1 ∧ a1 < full) := hc
      by_cases hneg : a1 < 0
      · go_enter Try.func4, Try.ntmps4
        go_wp2_with fail
        refine (zzBytes2 a0 a1 w w0).mono ?_
        rw [decide_eq_true hsum]
        rintro e W0 ⟨rfl, rfl⟩
        go_wp2_with fail
        refine (encLen_any a0.size W0 hsum).mono ?_
        rw [Hfull.out]
        rintro e W0 ⟨rfl, rfl⟩
        go_wp2
        go_ret
        exact ⟨rfl, Below.refl _ _⟩
      · have hge : (full : Int) ≤ a1 := by omega
        go_enter Try.func4, Try.ntmps4
        go_wp2_with fail
        refine (zzBytes2 a0 a1 w w0).mono ?_
        rw [decide_eq_true hsum]
        rintro e W0 ⟨rfl, rfl⟩
        go_wp2_with fail
        refine (encLen_any a0.size W0 hsum).mono ?_
        rw [Hfull.out]
        rintro e W0 ⟨rfl, rfl⟩
        go_wp2
        go_ret
        exact ⟨rfl, Below.refl _ _⟩
  · go_enter Try.func4, Try.ntmps4
    go_wp2_with fail
    refine (zzBytes2 a0 a1 w w0).mono ?_
    rw [decide_eq_false hsum]
    rintro e W0 ⟨rfl, rfl⟩
    go_wp2
    go_ret
    exact ⟨rfl, Below.refl _ _⟩

/-! ### THE ROW's STEP: WRITTEN OUT: LEAVE IT -/
set_option maxRecDepth 100000 in
theorem lifted (os : Os) (started : os.Started) (H : Type) (enc : TypeId × Value → H) :
    ReturnsInHanded {} Try.checked os 4 .any (Rows.fnDecoderStringRefusesEveryShortCutSpec.pre6 enc Try.prog Try.f4 Rows.fnDecoderStringRefusesEveryShortCutRow.domain false) (Rows.fnDecoderStringRefusesEveryShortCutSpec.post enc Try.prog Try.f4 false true false false) := by
  refine returnsInHanded_of_change (C := Try.checked) own started (by kernel_rfl) Try.func4
    (ChangeSpec.witness6 (enc := enc) (C := Try.checked) false ⟨#[], #[.string ByteArray.empty, .int .i64 0], []⟩ 8 (by kernel_rfl) (by kernel_rfl) (by kernel_rfl) (by kernel_rfl)) ?_
  intro W base args ds gs before hval0 hW hcnd _
  have hval : ∀ (j : Nat) t v, Try.f4.params[j]? = some t → args[j]? = some v → Value.okWide Try.prog W .any base t v := hval0
  have hW' := hW
  obtain ⟨p, q, hA0, hV, rfl, hfz, hnd⟩ := hW
  have hA : DataW.TrodAll enc Try.prog W 0 (fun _ => true) true Try.f4.params.toList args.toList ds p := hA0
  rw [Try.params4] at hA hval
  obtain ⟨v0, vs0, d0, ds0, p0, q0, hargs, rfl, rfl, h0, r0⟩ := trodAll_cons hA
  obtain ⟨v1, vs1, d1, ds1, p1, q1, rfl, rfl, rfl, h1, r1⟩ := trodAll_cons r0
  obtain ⟨rfl, rfl, rfl⟩ := trodAll_nil r1
  obtain rfl : args = #[v0, v1] := by cases args; simp_all
  obtain ⟨rfl, rfl⟩ := trodVars_none hV
  obtain ⟨a0, rfl, rfl, rfl, w0⟩ := open_string Try.underlying9 (hval 0 9 v0 rfl rfl) h0
  obtain ⟨a1, rfl, rfl, rfl, w1⟩ := open_int Try.underlying3 (hval 1 3 v1 rfl rfl) h1
  clear hA0 hval0
  refine (walk a0 a1 w0 w1 W).mono fun e W' ⟨he, bel⟩ => ?_
  subst he
  exact ⟨_, rfl, _, _, _, [], _, [], hW', trodAll_mk1 (shut_bool Try.underlying4 _), (trodAll_cons_mk (shut_string Try.underlying9 w0) (trodAll_cons_mk (shut_int Try.underlying3 w1) trodAll_mk0)), rfl, bel.frame _, fun h => by cases h⟩

theorem over : Rows.fnDecoderStringRefusesEveryShortCutRow.holds Try.pinned (OpenSpec.ofChange Rows.fnDecoderStringRefusesEveryShortCutSpec) :=
  OpenClaim.holds_of_wide 4 Try.f4 rfl rfl rfl rfl rfl rfl rfl ⟨rfl, rfl, rfl, rfl, rfl⟩ rfl rfl rfl rfl rfl (by kernel_rfl) Try.func4 (by kernel_rfl)
    (of_decide_eq_true (by kernel_rfl)) (by unfold Func.isWrapper; first | (rw [if_pos (by decide +kernel)]; kernel_rfl) | (rw [if_neg (by decide +kernel)]; exact ⟨rfl, rfl⟩))
    (fun os started H enc _ => lifted os started H enc)

/-- ████ THE STATEMENT ████ -/
theorem proved : Rows.FnDecoderStringRefusesEveryShortCutSaid :=
  over
end Go.Proofs.Qxb6614526a.fnDecoderStringRefusesEveryShortCut
