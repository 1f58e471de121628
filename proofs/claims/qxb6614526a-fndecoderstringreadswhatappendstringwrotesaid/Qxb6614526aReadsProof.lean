/-
  THE PROOF OF 'Rows.FnDecoderStringReadsWhatAppendStringWroteSaid': the frame by the guide's skeleton tool, the walk by hand.
-/
import Derived.Test.Qxb6614526aRows
import Derived.Test.Qxb6614526aWalks2
import Derived.WalkKit
import Derived.ProofKit
import Derived.OpenShut
import Derived.ShutString
import Derived.ChangeOld
import Derived.Below
namespace Go.Proofs.Qxb6614526a.fnDecoderStringReadsWhatAppendStringWrote
open Go.ChangeShapes Go.WideShapes Go.ChangeAt Go.RowKit
open Go.ChangeMaps (open_string shut_string)
set_option linter.unusedVariables false

theorem own : ownKnob Try.prog.godebug = none := by kernel_rfl
theorem laidOut : laidOutB Try.prog = true := by kernel_rfl

/-- WHAT THE WALK IS TOLD OF A SLICE OF INTEGERS THAT CAME IN: it is nil; or it leads to a row of 'cap' cells, the numbers 'zs' (the first 'len' are its elements, the rest its spare room), each fitting its kind. -/
def IsRow (k : IntKind) (w : World) (a : Option Addr) (len cap : Nat) (zs : List Int) : Prop :=
  (a = none ∧ len = 0 ∧ cap = 0 ∧ zs = []) ∨
  ∃ x, a = some x ∧ len ≤ cap ∧ cap ≤ maxLen ∧ zs.length = cap ∧ (∀ i, i < zs.length → w.cell? (x.add i) = some (.int k (zs.getD i 0))) ∧ ∀ n ∈ zs, (Lit.int k n).wf = true

/-! ### STEP 1: THE WALK: the Go text returns true, AND WRITES NOTHING THAT WAS THERE: 'Below w.heap.size w w'' (Derived/Below.lean: '.refl', '.alloc', '.drew', '.setCell' at a new block, '.trans'). Open each 'IsRow' by 'rcases' AHEAD of 'go_enter'; part every test ahead of the walk. -/
def bs (len : Nat) (zs : List Int) : List UInt8 := (zs.take len).map fun z => z.toNat.toUInt8

theorem BB_of_row {w : World} {a : Option Addr} {len cap : Nat} {zs : List Int} (h : IsRow .u8 w a len cap zs) : (bs len zs).length = len ∧ BB w.heap.size w a cap (bs len zs) ∧ (a = none → cap = 0) := by
  rcases h with ⟨rfl, rfl, rfl, rfl⟩ | ⟨x, rfl, hl, hc, hz, hcell, hwf⟩
  · exact ⟨rfl, ⟨Nat.le_refl _, Nat.zero_le _, .inl rfl⟩, fun _ => rfl⟩
  · have hlen : (bs len zs).length = len := by simp [bs]; omega
    refine ⟨hlen, ⟨by omega, hc, ?_⟩, fun h => by cases h⟩
    by_cases h0 : len = 0
    · exact .inl (List.eq_nil_of_length_eq_zero (by omega))
    · obtain ⟨b, off, spot⟩ := x
      have hspot : spot = none := by simpa [Addr.add] using World.cell?_spot (hcell 0 (by omega))
      subst hspot
      refine .inr ⟨b, off, rfl, ?_, fun j hj => ?_⟩
      · have := World.block_lt_of_cell? w _ (hcell 0 (by omega))
        simpa [Addr.add] using this
      · have hjz : j < zs.length := by omega
        have hcj := hcell j hjz
        rw [Addr.add_lit] at hcj
        rw [hcj]
        have hw := hwf zs[j] (List.getElem_mem hjz)
        have e : (bs len zs)[j] = (zs[j]).toNat.toUInt8 := by simp [bs]
        rw [e]
        have hr : 0 ≤ zs[j] ∧ zs[j] ≤ 255 := bounds_u8 hw
        rw [Lib.toUInt8_toNat (by omega), List.getD_eq_getElem?_getD, List.getElem?_eq_getElem hjz]
        simp
        omega

set_option maxHeartbeats 1000000 in
theorem walk (a0 : ByteArray) (a1 : ByteArray) (a2 : Option Addr) (len2 cap2 : Nat) (z2 : List Int) (w : World) (w0 : a0.size ≤ maxLen) (w1 : a1.size ≤ maxLen) (w2 : IsRow .u8 w a2 len2 cap2 z2) :
    Calls Try.prog 3 #[.string a0, .string a1, .slice a2 len2 cap2] w fun e w' => e = .returned (.bool true) ∧ Below w.heap.size w w' := by
  obtain ⟨hl2, hb2, hn2⟩ := BB_of_row w2
  generalize htl : bs len2 z2 = tl at *
  clear htl w2
  subst hl2
  have hm2 : tl.length ≤ maxLen := Nat.le_trans hb2.1 hb2.2.1
  obtain ⟨i0, hi, hz0, hz1, hz2⟩ := info_parts Try.info5
  by_cases hsum : a0.size + a1.size + tl.length ≤ 1048576
  · go_enter Try.func3, Try.ntmps3
    go_wp2_with fail
    refine (zzBytes1 a0 a1 a2 tl.length cap2 w w0 w1 hm2).mono ?_
    rw [decide_eq_true hsum]
    rintro e W0 ⟨rfl, rfl⟩
    go_wp2_with fail
    refine (zzAppendString_any W0.heap.size 0 (.slice none 0 0) [] a0 W0 (World.ownsRow_nil _ _ _ _) (Nat.le_refl _) (by omega) (by omega)).mono ?_
    rintro e W1 ⟨v1, rfl, hown1, hbel1⟩
    have hz1' := hbel1.size
    have he0 := encS_length a0
    have he1 := encS_length a1
    have hv0 := Lib.uvarint_length64 (x := a0.size) (by omega)
    have hv1 := Lib.uvarint_length64 (x := a1.size) (by omega)
    have hE0 : (encS a0).length ≤ 1048586 := by omega
    have hE1 : (encS a1).length ≤ 1048586 := by omega
    clear he0 he1 hv0 hv1
    go_wp2_with fail
    refine (zzAppendString_any W0.heap.size _ v1 _ a1 W1 hown1 (by omega) (by omega) (by omega)).mono ?_
    rintro e W2 ⟨v2, rfl, hown2, hbel2⟩
    have hz2' := hbel2.size
    have hbel12 := hbel1.trans hbel2
    have hb22 := hb2.below hbel12
    go_wp2_with (at_builtin; refine wpList_append_BB _ rfl _ _ rfl W0.heap.size i0 Try.underlying22 hi hz0 hz1 hz2 _ _ _ rfl hown2 W0.heap.size a2 cap2 tl rfl hb22 hn2 ?c1 ?c2 ?c3 ?_)
    case c1 => unfold maxLen; omega
    case c2 => omega
    case c3 => omega
    intro v3 W3 hown3 hg3
    have hbel3 := hbel12.grown hg3 (by omega) (fun k hk => (hown2.lt k hk).1)
    rw [← Lib.byteCells_append, ← Lib.byteCells_append] at hown3
    obtain ⟨a3, c3, rfl, hb3, _⟩ := BB_of_owns hown3
    clear hown1 hown2 hown3 hg3 hb22 hbel12 hbel1 hbel2
    have hz3 := hbel3.size
    generalize hL : encS a0 ++ (encS a1 ++ tl) = L at *
    have HL : Hid (encS a0 ++ (encS a1 ++ tl) = L) := hL
    clear hL
    go_wp2_with fail
    refine (newDecoder_any a3 L.length c3 W3).mono ?_
    rintro e W4 ⟨rfl, rfl⟩
    have hD4 := dec_new W3 a3 c3 L hb3
    have hbel4 := hbel3.alloc (by omega) (.cells #[.slice a3 L.length c3, .nilIface] 37)
    have hz4 := hbel4.size
    generalize hW4 : W3.alloc (.cells #[.slice a3 L.length c3, .nilIface] 37) = W4 at *
    clear hW4 hb3 hbel3
    rw [← HL.out] at hD4
    go_wp2_with fail
    refine (read_enc W3.heap.size a0 (encS a1 ++ tl) .nilIface W4 hD4 (by omega)).mono ?_
    rintro e W5 ⟨rfl, hD5, hbel5⟩
    have hz5 := hbel5.size
    go_wp2_with fail
    refine (read_enc W3.heap.size a1 tl .nilIface W5 hD5 (by omega)).mono ?_
    rintro e W6 ⟨rfl, hD6, hbel6⟩
    have hz6 := hbel6.size
    have hbel : Below W0.heap.size W0 W6 := (hbel4.trans (hbel5.mono (by omega))).trans (hbel6.mono (by omega))
    have hb6 := hb2.below hbel
    clear hD4 hD5 hbel4 hbel5 hbel6
    have HD6 : Hid (Dec W3.heap.size W6 tl .nilIface) := hD6
    obtain ⟨_, _, _, _, a6, c6, h6, hb66⟩ := hD6
    go_wp2_with fail
    refine (decFailed_no W3.heap.size tl W6 HD6.out).mono ?_
    rintro e W7 ⟨rfl, rfl⟩
    go_wp2_with fail
    refine (decRest_any W3.heap.size _ W7 h6 ⟨_, _, _, rfl⟩).mono ?_
    rintro e W8 ⟨rfl, rfl⟩
    go_wp2_with fail
    refine (bytesEqual_same W3.heap.size W0.heap.size a6 a2 c6 cap2 tl W8 hb66 hb6).mono ?_
    rintro e W9 ⟨rfl, n9, rfl⟩
    go_wp2
    go_ret
    exact ⟨rfl, hbel.trans ⟨rfl, rfl, rfl, Nat.le_refl _, fun _ _ => rfl⟩⟩
  · go_enter Try.func3, Try.ntmps3
    go_wp2_with fail
    refine (zzBytes1 a0 a1 a2 tl.length cap2 w w0 w1 hm2).mono ?_
    rw [decide_eq_false hsum]
    rintro e w1 ⟨rfl, rfl⟩
    go_wp2
    go_ret
    exact ⟨rfl, Below.refl _ _⟩

/-! ### THE ROW's STEP: WRITTEN OUT: LEAVE IT -/
set_option maxRecDepth 100000 in
theorem lifted (os : Os) (started : os.Started) (H : Type) (enc : TypeId × Value → H) :
    ReturnsInHanded {} Try.checked os 3 .any (Rows.fnDecoderStringReadsWhatAppendStringWroteSpec.pre6 enc Try.prog Try.f3 Rows.fnDecoderStringReadsWhatAppendStringWroteRow.domain false) (Rows.fnDecoderStringReadsWhatAppendStringWroteSpec.post enc Try.prog Try.f3 false true false false) := by
  refine returnsInHanded_of_change (C := Try.checked) own started (by kernel_rfl) Try.func3
    (ChangeSpec.witness6 (enc := enc) (C := Try.checked) false ⟨#[], #[.string ByteArray.empty, .string ByteArray.empty, .slice none 0 0], []⟩ 8 (by kernel_rfl) (by kernel_rfl) (by kernel_rfl) (by kernel_rfl)) ?_
  intro W base args ds gs before hval0 hW hcnd _
  have hval : ∀ (j : Nat) t v, Try.f3.params[j]? = some t → args[j]? = some v → Value.okWide Try.prog W .any base t v := hval0
  have hW' := hW
  obtain ⟨p, q, hA0, hV, rfl, hfz, hnd⟩ := hW
  have hA : DataW.TrodAll enc Try.prog W 0 (fun _ => true) true Try.f3.params.toList args.toList ds p := hA0
  rw [Try.params3] at hA hval
  obtain ⟨v0, vs0, d0, ds0, p0, q0, hargs, rfl, rfl, h0, r0⟩ := trodAll_cons hA
  obtain ⟨v1, vs1, d1, ds1, p1, q1, rfl, rfl, rfl, h1, r1⟩ := trodAll_cons r0
  obtain ⟨v2, vs2, d2, ds2, p2, q2, rfl, rfl, rfl, h2, r2⟩ := trodAll_cons r1
  obtain ⟨rfl, rfl, rfl⟩ := trodAll_nil r2
  obtain rfl : args = #[v0, v1, v2] := by cases args; simp_all
  obtain ⟨rfl, rfl⟩ := trodVars_none hV
  obtain ⟨a0, rfl, rfl, rfl, w0⟩ := open_string Try.underlying9 (hval 0 9 v0 rfl rfl) h0
  obtain ⟨a1, rfl, rfl, rfl, w1⟩ := open_string Try.underlying9 (hval 1 9 v1 rfl rfl) h1
  obtain ⟨a2, len2, cap2, rfl⟩ := okWide_slice Try.underlying22 (hval 2 22 v2 rfl rfl)
  have k2 := h2
  have lt2 : ∀ x ∈ p2, x.block < W.heap.size := by obtain ⟨m, hm⟩ := k2; exact DataW.trod_lt m _ _ _ hm
  obtain ⟨z2, w2⟩ : ∃ zs, IsRow .u8 W a2 len2 cap2 zs := by
    obtain ⟨fuel, hf⟩ := h2
    rcases open_ints Try.underlying22 Try.underlying5 (by kernel_rfl) hf with ⟨hcs, _⟩ | ⟨x, l, c, zs, hcs, _, hl, hm, hz, _, hcell, hwz⟩
    · simp [Value.cells] at hcs
      obtain ⟨rfl, rfl, rfl⟩ := hcs
      exact ⟨[], .inl ⟨rfl, rfl, rfl, rfl⟩⟩
    · simp [Value.cells] at hcs
      obtain ⟨rfl, rfl, rfl⟩ := hcs
      exact ⟨zs, .inr ⟨_, rfl, hl, hm, by simpa using hz, hcell, hwz⟩⟩
  clear hA0 hval0
  refine (walk a0 a1 a2 len2 cap2 z2 W w0 w1 w2).mono fun e W' ⟨he, bel⟩ => ?_
  subst he
  exact ⟨_, rfl, _, _, _, [], _, [], hW', trodAll_mk1 (shut_bool Try.underlying4 _), (trodAll_cons_mk (shut_string Try.underlying9 w0) (trodAll_cons_mk (shut_string Try.underlying9 w1) (trodAll_cons_mk (Below.trod laidOut (by kernel_rfl) (of_decide_eq_true (by kernel_rfl)) k2 bel lt2) trodAll_mk0))), rfl, bel.frame _, fun h => by cases h⟩

theorem over : Rows.fnDecoderStringReadsWhatAppendStringWroteRow.holds Try.pinned (OpenSpec.ofChange Rows.fnDecoderStringReadsWhatAppendStringWroteSpec) :=
  OpenClaim.holds_of_wide 3 Try.f3 rfl rfl rfl rfl rfl rfl rfl ⟨rfl, rfl, rfl, rfl, rfl⟩ rfl rfl rfl rfl rfl (by kernel_rfl) Try.func3 (by kernel_rfl)
    (of_decide_eq_true (by kernel_rfl)) (by unfold Func.isWrapper; first | (rw [if_pos (by decide +kernel)]; kernel_rfl) | (rw [if_neg (by decide +kernel)]; exact ⟨rfl, rfl⟩))
    (fun os started H enc _ => lifted os started H enc)

/-- ████ THE STATEMENT ████ -/
theorem proved : Rows.FnDecoderStringReadsWhatAppendStringWroteSaid := over
end Go.Proofs.Qxb6614526a.fnDecoderStringReadsWhatAppendStringWrote
