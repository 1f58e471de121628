/-
  SEAT b6614702aD: the walk of the law FnNewScaleJoin.
-/
import Derived.Test.Qxb6614702aDoorHelp
import Derived.Deep.DeepCutAuto
namespace Go.Proofs.Qxb6614702aDoor
open Go.RowKit
set_option linter.unusedVariables false

/-- A slot holds a slice that reads as l; nothing that was below G has turned. -/
def Copied (W0 : World) (l : List ByteArray) (v : Value) (w : World) : Prop :=
  ∃ a c, v = .slice a l.length c ∧ SS w.heap.size w a c l ∧ Below W0.heap.size W0 w

set_option maxRecDepth 100000 in
set_option maxHeartbeats 2000000 in
theorem joinWalk (a b : Option Addr) (c d : Nat) (A B : List ByteArray) (w : World) (hA : SS w.heap.size w a c A) (hB : SS w.heap.size w b d B) :
    Calls Tryd.prog 3 #[.slice a A.length c, .slice b B.length d] w fun e w' => e = .returned (.bool true) ∧ Below w.heap.size w w' := by
  have hla : A.length ≤ 9223372036854775807 := Nat.le_trans hA.1 hA.2.1
  have hlb : B.length ≤ 9223372036854775807 := Nat.le_trans hB.1 hB.2.1
  have HA : Hid (SS w.heap.size w a c A) := hA
  have HB : Hid (SS w.heap.size w b d B) := hB
  have HszA : Hid (∀ s ∈ A, s.size ≤ maxLen) := hA.2.2.1
  have HszB : Hid (∀ s ∈ B, s.size ≤ maxLen) := hB.2.2.1
  clear hA hB
  have qnil : ∀ (w : World) a n c, (binOp .neq 22 (.slice a n c) (.slice none 0 0)).run Tryd.prog w = .ok (.bool (!a.isNone)) w := fun w a n c => run_neq_slice_nil_any w 22 9 a n c 0 0 Tryd.underlying22
  obtain ⟨i0, hi, hz0, hz1, hz2⟩ := info_parts info9
  have hsz1 : (Tryd.prog.info? 9).map (·.size) = some 1 := by rw [hi]; simp [hz1]
  go_enter Tryd.func3, Tryd.ntmps3
  go_wp2_with fail
  refine (zzBytes7_any w.heap.size a b c d A B w HA.out HB.out).mono ?_
  rintro e W0 ⟨⟨bb, rfl, hbb⟩, rfl⟩
  cases bb with
  | false =>
    go_wp2
    go_ret
    exact ⟨rfl, Below.refl _ _⟩
  | true =>
    have HSh : Hid (Short A ∧ Short B) := hbb rfl
    clear hbb
    by_cases h16a : A.length ≤ 65536
    · by_cases h16b : B.length ≤ 65536
      · clear hla hlb
        go_upto_if 38 with fail
        go_cut [0] (fun v wx => Copied W0 A v wx)
        case first =>
          cases a with
          | none =>
            go_wp2_with fail
            go_meet
            case rel => exact ⟨_, _, rfl, HA.out, Below.refl _ _⟩
          | some ad =>
            go_wp2_with (at_make; refine wpList_make_full _ rfl _ _ 22 rfl W0.heap.size 9 i0 (.string ByteArray.empty) 1 Tryd.underlying22 hi hz0 hz1 _ _ _ _ A.length rfl rfl rfl rfl ?c1 ?c2 ?c3 ?_)
            case c1 => rw [hz2]; omega
            case c2 => unfold maxLen; omega
            case c3 => exact Nat.le_refl _
            intro w1 hown1 hg1
            have hb1 : Below W0.heap.size W0 w1 := (Below.refl _ _).grown hg1 (Nat.le_refl _) (fun k hk => by cases hk)
            obtain ⟨cur, hcl, hrow⟩ : ∃ cur : List Value, cur.length = A.length ∧ w1.heap[W0.heap.size]? = some (.cells cur.toArray 9 (0, 0)) := by
              rcases hown1.2 with ⟨h, _⟩ | ⟨g, cap, cur, hv, _, hg, _, _, hs, _⟩
              · cases h
              · cases hv
                exact ⟨cur.toList, by simpa using hs, by simpa using hg⟩
            clear hown1 hg1
            have Hrow : Hid (w1.heap[W0.heap.size]? = some (.cells cur.toArray 9 (0, 0))) := hrow
            have Hcl : Hid (cur.length = A.length) := hcl
            obtain ⟨cs, hcs⟩ : ∃ cs, cs = strs A := ⟨_, rfl⟩
            have Hcs : Hid (cs = strs A) := hcs
            clear hcl hrow hcs
            go_wp2_with (refine wpList_copy_splice rfl (.tmp 42) (.tmp 43) 22 22 rfl 9 Tryd.underlying22 hsz1 _ _ _ _ _ _ rfl rfl W0.heap.size 0 cur 9 Hrow.out cs ?d1 ?d2 ?d3 ?d4 W0.heap.size W0 hb1 (Nat.le_refl _) ?_)
            case d1 => rw [Hcs.out, strs_length]; exact (Nat.min_self _).symm
            case d2 =>
              intro h0 j v hj
              exact src_of HA.out hb1 j v (by rw [← Hcs.out]; exact hj)
            case d3 => rw [Hcs.out, strs_length, Hcl.out]; omega
            case d4 => rw [Hcs.out]; exact strs_one _
            intro w2 HG2 hB
            have hsp : splice cur 0 cs = strs A := by
              rw [Hcs.out]
              simp only [splice, List.take_zero, List.nil_append]
              rw [List.drop_eq_nil_of_le (by rw [strs_length, Hcl.out]; omega), List.append_nil]
            have hg2 := HG2.out
            rw [hsp] at hg2
            have hSS := SS_of_row hg2 (by unfold maxLen; omega) HszA.out
            clear hg2 hsp HG2 Hrow Hcl Hcs hb1
            go_wp2_with fail
            go_meet
            case rel => exact ⟨_, _, rfl, hSS, hB⟩
        case rest =>
        obtain ⟨a1, c1, rfl, hA1, hb1⟩ := hcut
        obtain ⟨W1, hW1⟩ : ∃ W1, W1 = wc := ⟨_, rfl⟩
        subst hW1
        have HB1 : Hid (SS W1.heap.size W1 b d B) := (HB.out.below hb1).up hb1.size
        have HA1 : Hid (SS W1.heap.size W1 a1 c1 A) := hA1
        have hz01 := hb1.size
        clear hA1 HA HB
        go_upto_if 47 with fail
        go_cut [1] (fun v wx => Copied W1 B v wx)
        case first =>
          cases b with
          | none =>
            go_wp2_with fail
            go_meet
            case rel => exact ⟨_, _, rfl, HB1.out, Below.refl _ _⟩
          | some ad =>
            go_wp2_with (at_make; refine wpList_make_full _ rfl _ _ 22 rfl W1.heap.size 9 i0 (.string ByteArray.empty) 1 Tryd.underlying22 hi hz0 hz1 _ _ _ _ B.length rfl rfl rfl rfl ?c1 ?c2 ?c3 ?_)
            case c1 => rw [hz2]; omega
            case c2 => unfold maxLen; omega
            case c3 => exact Nat.le_refl _
            intro w1 hown1 hg1
            have hb1 : Below W1.heap.size W1 w1 := (Below.refl _ _).grown hg1 (Nat.le_refl _) (fun k hk => by cases hk)
            obtain ⟨cur, hcl, hrow⟩ : ∃ cur : List Value, cur.length = B.length ∧ w1.heap[W1.heap.size]? = some (.cells cur.toArray 9 (0, 0)) := by
              rcases hown1.2 with ⟨h, _⟩ | ⟨g, cap, cur, hv, _, hg, _, _, hs, _⟩
              · cases h
              · cases hv
                exact ⟨cur.toList, by simpa using hs, by simpa using hg⟩
            clear hown1 hg1
            have Hrow : Hid (w1.heap[W1.heap.size]? = some (.cells cur.toArray 9 (0, 0))) := hrow
            have Hcl : Hid (cur.length = B.length) := hcl
            obtain ⟨cs, hcs⟩ : ∃ cs, cs = strs B := ⟨_, rfl⟩
            have Hcs : Hid (cs = strs B) := hcs
            clear hcl hrow hcs
            go_wp2_with (refine wpList_copy_splice rfl (.tmp 51) (.tmp 52) 22 22 rfl 9 Tryd.underlying22 hsz1 _ _ _ _ _ _ rfl rfl W1.heap.size 0 cur 9 Hrow.out cs ?d1 ?d2 ?d3 ?d4 W1.heap.size W1 hb1 (Nat.le_refl _) ?_)
            case d1 => rw [Hcs.out, strs_length]; exact (Nat.min_self _).symm
            case d2 =>
              intro h0 j v hj
              exact src_of HB1.out hb1 j v (by rw [← Hcs.out]; exact hj)
            case d3 => rw [Hcs.out, strs_length, Hcl.out]; omega
            case d4 => rw [Hcs.out]; exact strs_one _
            intro w2 HG2 hB
            have hsp : splice cur 0 cs = strs B := by
              rw [Hcs.out]
              simp only [splice, List.take_zero, List.nil_append]
              rw [List.drop_eq_nil_of_le (by rw [strs_length, Hcl.out]; omega), List.append_nil]
            have hg2 := HG2.out
            rw [hsp] at hg2
            have hSS := SS_of_row hg2 (by unfold maxLen; omega) HszB.out
            clear hg2 hsp HG2 Hrow Hcl Hcs hb1
            go_wp2_with fail
            go_meet
            case rel => exact ⟨_, _, rfl, hSS, hB⟩
        case rest =>
        obtain ⟨b2, d2, rfl, hB2, hb2⟩ := hcut
        obtain ⟨W2, hW2⟩ : ∃ W2, W2 = wc := ⟨_, rfl⟩
        subst hW2
        have HB2 : Hid (SS W2.heap.size W2 b2 d2 B) := hB2
        have HA2 : Hid (SS W2.heap.size W2 a1 c1 A) := (HA1.out.below hb2).up hb2.size
        have hb02 : Below W0.heap.size W0 W2 := hb1.trans (hb2.mono hz01)
        have hz02 := hb02.size
        have Hb02 : Hid (Below W0.heap.size W0 W2) := hb02
        clear hB2 HB1 HA1 hb1 hb2 hb02
        go_wp2_with fail
        go_loop [7, 8] (fun n i => ∃ (k : Nat) (r : Int), k ≤ A.length ∧ i = .int .i64 k ∧ n = .int .i64 r ∧ 0 ≤ r ∧ r ≤ 1048576) (fun _ i => A.length - (intOf i).toNat)
        case atStart => exact ⟨0, 0, Nat.zero_le _, rfl, rfl, by omega, by omega⟩
        case round =>
        obtain ⟨k, r, hk, rfl, rfl, hr0, hr1⟩ := hrel
        by_cases hlt : k < A.length
        · obtain ⟨_, _, _, h3⟩ := HA2.out
          rcases h3 with rfl | ⟨g, o, rfl, hg, hc⟩
          · simp at hlt
          have hck := hc k hlt
          have hsk := HSh.out.1 A[k] (List.getElem_mem hlt)
          clear hc
          go_wp2
          · go_ret
            exact ⟨rfl, Hb02.out⟩
          · go_round
            case rel => exact ⟨k + 1, _, by omega, by go_num, rfl, by omega, by omega⟩
            case measure => simp [intOf]; omega
        go_wp2_with fail
        go_loop [7, 9] (fun n i => ∃ (k : Nat) (r : Int), k ≤ B.length ∧ i = .int .i64 k ∧ n = .int .i64 r ∧ 0 ≤ r ∧ r ≤ 1048576) (fun _ i => B.length - (intOf i).toNat)
        case atStart => exact ⟨0, r, Nat.zero_le _, rfl, rfl, by omega, by omega⟩
        case round =>
        clear hr0 hr1 hlt hk
        obtain ⟨k2, r2, hk, rfl, rfl, hr0, hr1⟩ := hrel
        by_cases hlt : k2 < B.length
        · obtain ⟨_, _, _, h3⟩ := HB2.out
          rcases h3 with rfl | ⟨g, o, rfl, hg, hc⟩
          · simp at hlt
          have hck := hc k2 hlt
          have hsk := HSh.out.2 B[k2] (List.getElem_mem hlt)
          clear hc
          go_wp2
          · go_ret
            exact ⟨rfl, Hb02.out⟩
          · go_round
            case rel => exact ⟨k2 + 1, _, by omega, by go_num, rfl, by omega, by omega⟩
            case measure => simp [intOf]; omega
        go_wp2_with (at_make; refine wpList_make_own _ rfl _ _ 22 rfl W2.heap.size 9 i0 (.string ByteArray.empty) 1 Tryd.underlying22 hi hz0 hz1 _ _ _ (A.length + B.length) rfl rfl (by omega) (by rw [hz2]; omega) (by unfold maxLen; omega) (Nat.le_refl _) ?_)
        clear hlt hk hr0 hr1
        intro W3 hown3 hg3
        have hb3 : Below W2.heap.size W2 W3 := (Below.refl _ _).grown hg3 (Nat.le_refl _) (fun k hk => by cases hk)
        have Hown3 : Hid (W3.ownsRow W2.heap.size 9 1 (.slice (some ⟨W2.heap.size, 0, none⟩) 0 (A.length + B.length)) 0 []) := hown3
        clear hown3 hg3
        go_wp2_with fail
        go_loopw [10, 11] (fun v i wr => ∃ (k : Nat), k ≤ A.length ∧ i = .int .i64 k ∧ wr.ownsRow W2.heap.size 9 1 v (A.take k).length (strs (A.take k)) ∧ Below W2.heap.size W2 wr) (fun _ i _ => A.length - (intOf i).toNat)
        case atStart => exact ⟨0, Nat.zero_le _, rfl, Hown3.out, hb3⟩
        case round =>
        obtain ⟨k3, hk, rfl, hown, hb⟩ := hrel
        by_cases hlt : k3 < A.length
        · have hSr := HA2.out.below hb
          obtain ⟨_, _, _, h3⟩ := hSr
          rcases h3 with h0 | ⟨g, o, rfl, hg, hc⟩
          · rw [h0] at hlt; simp at hlt
          have hck := hc k3 hlt
          have hgw : g < wr.heap.size := by have := hb.size; omega
          have hlk : (A.take k3).length = k3 := by rw [List.length_take]; omega
          have hown2 : wr.ownsRow W2.heap.size 9 1 u10 (k3) (strs (A.take k3)) := by rw [hlk] at hown; exact hown
          have Hlk : Hid ((A.take k3).length = k3) := hlk
          clear hc hown hlk
          have hzw := hb.size
          go_wp2_with (at_builtin; refine wpList_append_own _ rfl _ _ 22 rfl W2.heap.size 9 i0 (.string ByteArray.empty) 1 16 Tryd.underlying22 hi hz0 hz1 hz2 rfl (by decide) _ _ _ rfl (hown2.alloc _) ⟨wr.heap.size, 0, none⟩ 1 1 [.string A[k3]] rfl rfl ?c1 ?c2 ?c3 ?c4 ?c5 ?_)
          case c1 =>
            intro j u hj
            match j, hj with
            | 0, hj => simp at hj; subst hj; simp [Addr.add]
          case c2 => intro u hu; simp at hu; subst hu; rfl
          case c3 => unfold maxLen; omega
          case c4 => omega
          case c5 => simp; omega
          intro v' w1 hown' hg' _
          have hbn : Below W2.heap.size W2 w1 := (hb.alloc hzw _).grown hg' (by simp; omega) (fun k hk => (hown2.lt k hk).1)
          have hownn : w1.ownsRow W2.heap.size 9 1 v' (A.take (k3 + 1)).length (strs (A.take (k3 + 1))) := by
            rw [List.take_succ_eq_append_getElem hlt, strs_snoc, List.length_append, Hlk.out]
            exact hown'
          have Hn : Hid (w1.ownsRow W2.heap.size 9 1 v' (A.take (k3 + 1)).length (strs (A.take (k3 + 1)))) := hownn
          clear hown' hg' hown2 hownn
          go_wp2
          go_roundw
          case rel => exact ⟨k3 + 1, by omega, by go_num, Hn.out, hbn⟩
          case measure => simp [intOf]; omega
        have hkA : k3 = A.length := by omega
        subst hkA
        rw [List.take_of_length_le (Nat.le_refl _)] at hown
        have Hown4 : Hid (wr.ownsRow W2.heap.size 9 1 u10 A.length (strs A)) := hown
        clear hk hown hb3
        go_wp2_with fail
        go_loopw [10, 12] (fun v i wr => ∃ (k : Nat), k ≤ B.length ∧ i = .int .i64 k ∧ wr.ownsRow W2.heap.size 9 1 v (A ++ B.take k).length (strs (A ++ B.take k)) ∧ Below W2.heap.size W2 wr) (fun _ i _ => B.length - (intOf i).toNat)
        case atStart =>
          refine ⟨0, Nat.zero_le _, rfl, ?_, hb⟩
          rw [List.take_zero, List.append_nil]
          exact Hown4.out
        case round =>
        clear hb Hown4 hlt
        obtain ⟨k4, hk, rfl, hown, hb⟩ := hrel
        by_cases hlt : k4 < B.length
        · have hSr := HB2.out.below hb
          obtain ⟨_, _, _, h3⟩ := hSr
          rcases h3 with h0 | ⟨g, o, rfl, hg, hc⟩
          · rw [h0] at hlt; simp at hlt
          have hck := hc k4 hlt
          have hgw : g < wr.heap.size := by have := hb.size; omega
          have hlk : (A ++ B.take k4).length = A.length + k4 := by rw [List.length_append, List.length_take]; omega
          have hown2 : wr.ownsRow W2.heap.size 9 1 u10 (A.length + k4) (strs (A ++ B.take k4)) := by rw [hlk] at hown; exact hown
          have Hlk : Hid ((A ++ B.take k4).length = A.length + k4) := hlk
          clear hc hown hlk
          have hzw := hb.size
          go_wp2_with (at_builtin; refine wpList_append_own _ rfl _ _ 22 rfl W2.heap.size 9 i0 (.string ByteArray.empty) 1 16 Tryd.underlying22 hi hz0 hz1 hz2 rfl (by decide) _ _ _ rfl (hown2.alloc _) ⟨wr.heap.size, 0, none⟩ 1 1 [.string B[k4]] rfl rfl ?c1 ?c2 ?c3 ?c4 ?c5 ?_)
          case c1 =>
            intro j u hj
            match j, hj with
            | 0, hj => simp at hj; subst hj; simp [Addr.add]
          case c2 => intro u hu; simp at hu; subst hu; rfl
          case c3 => unfold maxLen; omega
          case c4 => omega
          case c5 => simp; omega
          intro v' w1 hown' hg' _
          have hbn : Below W2.heap.size W2 w1 := (hb.alloc hzw _).grown hg' (by simp; omega) (fun k hk => (hown2.lt k hk).1)
          have hownn : w1.ownsRow W2.heap.size 9 1 v' (A ++ B.take (k4 + 1)).length (strs (A ++ B.take (k4 + 1))) := by
            rw [List.take_succ_eq_append_getElem hlt, ← List.append_assoc, strs_snoc, List.length_append, Hlk.out]
            exact hown'
          have Hn : Hid (w1.ownsRow W2.heap.size 9 1 v' (A ++ B.take (k4 + 1)).length (strs (A ++ B.take (k4 + 1)))) := hownn
          clear hown' hg' hown2 hownn
          go_wp2
          go_roundw
          case rel => exact ⟨k4 + 1, by omega, by go_num, Hn.out, hbn⟩
          case measure => simp [intOf]; omega
        have hkB : k4 = B.length := by omega
        subst hkB
        rw [List.take_of_length_le (Nat.le_refl _)] at hown
        have hszAB : ∀ s ∈ A ++ B, s.size ≤ maxLen := fun s hs => (List.mem_append.1 hs).elim (HszA.out s) (HszB.out s)
        obtain ⟨AB, hABe⟩ : ∃ AB, AB = A ++ B := ⟨_, rfl⟩
        have hABl : AB.length ≤ 131072 := by rw [hABe, List.length_append]; omega
        rw [← hABe] at hown hszAB
        have HABe : Hid (AB = A ++ B) := hABe
        clear hABe
        obtain ⟨aAB, cAB, rfl, hAB⟩ := SS_of_owns hown hszAB
        have HAB : Hid (SS wr.heap.size wr aAB cAB AB) := hAB
        clear hk hown hAB hszAB
        have hzwr := hb.size
        have HA5 : Hid (SS wr.heap.size wr a1 c1 A) := (HA2.out.below hb).up hb.size
        have HB5 : Hid (SS wr.heap.size wr b2 d2 B) := (HB2.out.below hb).up hb.size
        have Hb5 : Hid (Below W0.heap.size W0 wr) := Hb02.out.trans (hb.mono hz02)
        clear hb HA2 HB2 Hb02 hlt Hown3
        go_wp2_with fail
        refine (newScale_any wr.heap.size a1 c1 A wr HA5.out (Nat.le_refl _) (by omega)).mono ?_
        rintro e X1 ⟨rfl, hSa, hbX1⟩
        have hzX1 := hbX1.size
        have hlX1 := hSa.lt
        have HSa1 : Hid (Scale (wr.heap.size + 1) wr.heap.size X1 A.length (rankI A) (dist A)) := hSa
        have HbX1 : Hid (Below wr.heap.size wr X1) := hbX1
        clear hSa hbX1
        go_wp2_with fail
        refine (newScale_any X1.heap.size b2 d2 B X1 ((HB5.out.below HbX1.out).up hzX1) (Nat.le_refl _) (by omega)).mono ?_
        rintro e X2 ⟨rfl, hSb, hbX2⟩
        have hzX2 := hbX2.size
        have hlX2 := hSb.lt
        have HSb2 : Hid (Scale (X1.heap.size + 1) X1.heap.size X2 B.length (rankI B) (dist B)) := hSb
        have HbX2 : Hid (Below X1.heap.size X1 X2) := hbX2
        clear hSb hbX2
        go_wp2_with fail
        refine (newScale_any X2.heap.size aAB cAB AB X2 (((HAB.out.below HbX1.out).below (HbX2.out.mono hzX1)).up (by omega)) (Nat.le_refl _) (by omega)).mono ?_
        rintro e X3 ⟨rfl, hSs, hbX3⟩
        have hzX3 := hbX3.size
        have hlX3 := hSs.lt
        have HSs : Hid (Scale (X2.heap.size + 1) X2.heap.size X3 AB.length (rankI AB) (dist AB)) := hSs
        have HSb : Hid (Scale (X1.heap.size + 1) X1.heap.size X3 B.length (rankI B) (dist B)) := HSb2.out.below hbX3 (by omega) (by omega)
        have HSa : Hid (Scale (wr.heap.size + 1) wr.heap.size X3 A.length (rankI A) (dist A)) := (HSa1.out.below HbX2.out (by omega) (by omega)).below hbX3 (by omega) (by omega)
        have HbX : Hid (Below wr.heap.size wr X3) := (HbX1.out.trans (HbX2.out.mono hzX1)).trans (hbX3.mono (by omega))
        have HA6 : Hid (SS X3.heap.size X3 a1 c1 A) := (HA5.out.below HbX.out).up (by omega)
        have HB6 : Hid (SS X3.heap.size X3 b2 d2 B) := (HB5.out.below HbX.out).up (by omega)
        have Hb6 : Hid (Below W0.heap.size W0 X3) := Hb5.out.trans (HbX.out.mono (by omega))
        clear hSs hbX3 HSa1 HSb2 HbX1 HbX2 HbX HAB HA5 HB5 Hb5
        have q26 := make26
        have hset0 := set_made X3
        have hbset0 : Below X3.heap.size X3 (X3.alloc (.map #[] 0)) := (Below.refl _ _).alloc (Nat.le_refl _) _
        have Hset0 : Hid (Set' (X3.alloc (.map #[] 0)) X3.heap.size 0 (fun _ => false)) := hset0
        clear hset0
        go_wp2_with fail
        clear q26
        go_loopw [17, 18] (fun cnt j wx => ∃ (k : Nat) (z : Int), k ≤ B.length ∧ z = (k : Int) - 1 ∧ j = .int .i64 z ∧ cnt = .int .i64 (dist (B.drop k)) ∧ Set' wx X3.heap.size (B.length - k) (isIn (B.drop k)) ∧ Below X3.heap.size X3 wx) (fun _ j _ => (intOf j + 1).toNat)
        case atStart =>
          refine ⟨B.length, _, Nat.le_refl _, rfl, rfl, ?_, ?_, hbset0⟩
          · rw [List.drop_eq_nil_of_le (Nat.le_refl _)]; rfl
          · rw [List.drop_eq_nil_of_le (Nat.le_refl _), Nat.sub_self]; exact Hset0.out
        case round =>
        clear Hset0 hbset0
        obtain ⟨k5, z5, hk, hz5, rfl, rfl, hset, hbx⟩ := hrel
        obtain ⟨X4, hX4⟩ : ∃ X4, X4 = wr := ⟨_, rfl⟩
        subst hX4
        have Hset : Hid (Set' X4 X3.heap.size (B.length - k5) (isIn (B.drop k5))) := hset
        have hltX4 := hset.lt
        have hdl := dist_le (B.drop k5)
        rw [List.length_drop] at hdl
        clear hset
        by_cases hk0 : 0 < k5
        · obtain ⟨j, rfl⟩ : ∃ j, k5 = j + 1 := ⟨k5 - 1, by omega⟩
          obtain rfl : z5 = (j : Int) := by omega
          clear hz5 hk0
          have hlt : j < B.length := by omega
          have hSr := HB6.out.below hbx
          obtain ⟨_, _, hszz, h3⟩ := hSr
          rcases h3 with h0 | ⟨g, o, rfl, hg, hc⟩
          · rw [h0] at hlt; simp at hlt
          have hck := hc j hlt
          have hsk := hszz B[j] (List.getElem_mem hlt)
          have hjl : j ≤ 65535 := by omega
          clear hc hszz hk
          have hlook := Hset.out.look hsk
          cases hin : isIn (B.drop (j + 1)) B[j] with
          | true =>
            rw [hin] at hlook
            have Hn : Hid (Set' X4 X3.heap.size (B.length - j) (isIn (B.drop j)) ∧ dist (B.drop j) = dist (B.drop (j + 1))) := by
              refine ⟨?_, dist_drop_same B j hlt hin⟩
              rw [isIn_drop_same B j hlt hin]
              obtain ⟨D, h1, h2⟩ := Hset.out
              exact ⟨D, h1.mono (by omega), h2⟩
            have Hcnt : Hid (dist (B.drop (j + 1)) ≤ 65536) := by unfold Hid; omega
            clear hin hdl
            generalize hdd : dist (B.drop (j + 1)) = dd at *
            clear hdd
            go_wp2
            go_roundw
            case rel => exact ⟨j, _, by omega, rfl, by go_num, by rw [Hn.out.2], Hn.out.1, hbx⟩
            case measure => simp [intOf]
          | false =>
            rw [hin] at hlook
            obtain ⟨w1, hput, hset1, hg1⟩ := Hset.out.put (by unfold maxLen; omega) hsk
            have hb1 : Below X3.heap.size X4 w1 := below_of_grown hg1 (by omega)
            have hz1w := hb1.size
            have Hset1 : Hid (Set' w1 X3.heap.size (B.length - j) (isIn (B.drop j))) := by
              rw [isIn_drop_put B j hlt] at hset1
              obtain ⟨D, h1, h2⟩ := hset1
              exact ⟨D, h1.mono (by omega), h2⟩
            have hbx1 := hbx.trans hb1
            have hfin : rankI B B[j] = some ((B.length : Int) - j) := rankI_last B j hlt (isIn_false.1 hin)
            have hfinAB : rankI AB B[j] = some ((B.length : Int) - j) := by rw [HABe.out, rankI_append_right A B B[j] (List.getElem_mem hlt)]; exact hfin
            have Hfin : Hid (rankI B B[j] = some ((B.length : Int) - j)) := hfin
            have HfinAB : Hid (rankI AB B[j] = some ((B.length : Int) - j)) := hfinAB
            have Hdd : Hid (dist (B.drop j) = dist (B.drop (j + 1)) + 1) := dist_drop_new B j hlt hin
            have hcnt : dist (B.drop (j + 1)) ≤ 65536 := by omega
            clear hset1 hg1 hfin hfinAB hin hdl
            generalize hdd : dist (B.drop (j + 1)) = dd at *
            clear hdd
            go_wp2_with fail
            refine (hasRank_yes (X1.heap.size + 1) X1.heap.size B.length (rankI B) (dist B) B[j] _ w1 (HSb.out.below hbx1 (by omega) (by omega)) hsk Hfin.out (by omega) (by omega)).mono ?_
            rintro e w2 ⟨rfl, hb2⟩
            have hz2w := hb2.size
            have hbx2 : Below X3.heap.size X3 w2 := hbx1.trans (hb2.mono (by omega))
            have Hset2 : Hid (Set' w2 X3.heap.size (B.length - j) (isIn (B.drop j))) := Hset1.out.below hb2 (by omega)
            clear hb2 Hset1 hput hlook hbx1 hb1 hbx
            go_wp2_with fail
            refine (hasRank_yes (X2.heap.size + 1) X2.heap.size AB.length (rankI AB) (dist AB) B[j] _ w2 (HSs.out.below hbx2 (by omega) (by omega)) hsk HfinAB.out (by omega) (by omega)).mono ?_
            rintro e w3 ⟨rfl, hb3⟩
            have hbx3 : Below X3.heap.size X3 w3 := hbx2.trans (hb3.mono (by omega))
            have Hset3 : Hid (Set' w3 X3.heap.size (B.length - j) (isIn (B.drop j))) := Hset2.out.below hb3 (by omega)
            clear hb3 Hset2 hbx2
            go_wp2
            go_roundw
            case rel => exact ⟨j, _, by omega, rfl, by go_num, by rw [Hdd.out]; go_num, Hset3.out, hbx3⟩
            case measure => simp [intOf]
        obtain rfl : k5 = 0 := by omega
        obtain rfl : z5 = -1 := by omega
        rw [List.drop_zero] at *
        have HsetB : Hid (Set' X4 X3.heap.size B.length (isIn B)) := Hset.out
        have hdB : dist B ≤ 65536 := by omega
        clear hk hz5 hdl hk0 Hset
        have q26 := make26
        have hset0 := set_made X4
        have hbset0 : Below X4.heap.size X4 (X4.alloc (.map #[] 0)) := (Below.refl _ _).alloc (Nat.le_refl _) _
        have Hset0 : Hid (Set' (X4.alloc (.map #[] 0)) X4.heap.size 0 (fun _ => false)) := hset0
        have hz34 := hbx.size
        have HSa4 : Hid (Scale (wr.heap.size + 1) wr.heap.size X4 A.length (rankI A) (dist A)) := HSa.out.below hbx (by omega) (by omega)
        have HSb4 : Hid (Scale (X1.heap.size + 1) X1.heap.size X4 B.length (rankI B) (dist B)) := HSb.out.below hbx (by omega) (by omega)
        have HSs4 : Hid (Scale (X2.heap.size + 1) X2.heap.size X4 AB.length (rankI AB) (dist AB)) := HSs.out.below hbx (by omega) (by omega)
        have HA4 : Hid (SS X3.heap.size X4 a1 c1 A) := HA6.out.below hbx
        have Hb4 : Hid (Below W0.heap.size W0 X4) := Hb6.out.trans (hbx.mono (by omega))
        clear hset0 hbx HSa HSb HSs HA6 HB6 Hb6
        go_wp2_with fail
        clear q26
        go_loopw [21, 22, 23] (fun cnt ocnt j wx => ∃ (k : Nat) (z : Int), k ≤ A.length ∧ z = (k : Int) - 1 ∧ j = .int .i64 z ∧ cnt = .int .i64 (dist (A.drop k)) ∧ ocnt = .int .i64 (only B (A.drop k)) ∧ Set' wx X4.heap.size (A.length - k) (isIn (A.drop k)) ∧ Below X4.heap.size X4 wx) (fun _ _ j _ => (intOf j + 1).toNat)
        case atStart =>
          refine ⟨A.length, _, Nat.le_refl _, rfl, rfl, ?_, ?_, ?_, hbset0⟩
          · rw [List.drop_eq_nil_of_le (Nat.le_refl _)]; rfl
          · rw [List.drop_eq_nil_of_le (Nat.le_refl _)]; rfl
          · rw [List.drop_eq_nil_of_le (Nat.le_refl _), Nat.sub_self]; exact Hset0.out
        case round =>
        clear Hset0 hbset0
        obtain ⟨k6, z6, hk, hz6, rfl, rfl, rfl, hset, hbx⟩ := hrel
        obtain ⟨X5, hX5⟩ : ∃ X5, X5 = wr := ⟨_, rfl⟩
        subst hX5
        have Hset : Hid (Set' X5 X4.heap.size (A.length - k6) (isIn (A.drop k6))) := hset
        have hltX5 := hset.lt
        have hdl := dist_le (A.drop k6)
        have hol := only_le B (A.drop k6)
        rw [List.length_drop] at hdl hol
        clear hset
        by_cases hk0 : 0 < k6
        · obtain ⟨j, rfl⟩ : ∃ j, k6 = j + 1 := ⟨k6 - 1, by omega⟩
          obtain rfl : z6 = (j : Int) := by omega
          clear hz6 hk0
          have hlt : j < A.length := by omega
          have hSr := HA4.out.below (hbx.mono hz34)
          obtain ⟨_, _, hszz, h3⟩ := hSr
          rcases h3 with h0 | ⟨g, o, rfl, hg, hc⟩
          · rw [h0] at hlt; simp at hlt
          have hck := hc j hlt
          have hsk := hszz A[j] (List.getElem_mem hlt)
          have hjl : j ≤ 65535 := by omega
          clear hc hszz hk
          have hlook := Hset.out.look hsk
          cases hin : isIn (A.drop (j + 1)) A[j] with
          | true =>
            rw [hin] at hlook
            have Hn : Hid (Set' X5 X4.heap.size (A.length - j) (isIn (A.drop j)) ∧ dist (A.drop j) = dist (A.drop (j + 1)) ∧ only B (A.drop j) = only B (A.drop (j + 1))) := by
              refine ⟨?_, dist_drop_same A j hlt hin, only_drop_same B A j hlt (.inl hin)⟩
              rw [isIn_drop_same A j hlt hin]
              obtain ⟨D, h1, h2⟩ := Hset.out
              exact ⟨D, h1.mono (by omega), h2⟩
            clear hin hdl hol
            generalize hdd : dist (A.drop (j + 1)) = dd at *
            generalize hoo : only B (A.drop (j + 1)) = oo at *
            clear hdd hoo
            go_wp2
            go_roundw
            case rel => exact ⟨j, _, by omega, rfl, by go_num, by rw [Hn.out.2.1], by rw [Hn.out.2.2], Hn.out.1, hbx⟩
            case measure => simp [intOf]
          | false =>
            rw [hin] at hlook
            obtain ⟨w1, hput, hset1, hg1⟩ := Hset.out.put (by unfold maxLen; omega) hsk
            have hb1 : Below X4.heap.size X5 w1 := below_of_grown hg1 (by omega)
            have hz1w := hb1.size
            have Hset1 : Hid (Set' w1 X4.heap.size (A.length - j) (isIn (A.drop j))) := by
              rw [isIn_drop_put A j hlt] at hset1
              obtain ⟨D, h1, h2⟩ := hset1
              exact ⟨D, h1.mono (by omega), h2⟩
            have hbx1 := hbx.trans hb1
            have hfin : rankI A A[j] = some ((A.length : Int) - j) := rankI_last A j hlt (isIn_false.1 hin)
            have Hfin : Hid (rankI A A[j] = some ((A.length : Int) - j)) := hfin
            have Hdd : Hid (dist (A.drop j) = dist (A.drop (j + 1)) + 1) := dist_drop_new A j hlt hin
            have hcnt : dist (A.drop (j + 1)) ≤ 65536 := by omega
            have hocnt : only B (A.drop (j + 1)) ≤ 65536 := by omega
            have Hin : Hid (isIn (A.drop (j + 1)) A[j] = false) := hin
            clear hset1 hg1 hfin hin hdl hol
            cases hinB : isIn B A[j] with
            | true =>
              have Hoo : Hid (only B (A.drop j) = only B (A.drop (j + 1))) := only_drop_same B A j hlt (.inr hinB)
              have HinB : Hid (isIn B A[j] = true) := hinB
              clear hinB Hin
              generalize hdd : dist (A.drop (j + 1)) = dd at *
              generalize hoo : only B (A.drop (j + 1)) = oo at *
              clear hdd hoo
              go_wp2_with fail
              refine (hasRank_yes (wr.heap.size + 1) wr.heap.size A.length (rankI A) (dist A) A[j] _ w1 (HSa4.out.below hbx1 (by omega) (by omega)) hsk Hfin.out (by omega) (by omega)).mono ?_
              rintro e w2 ⟨rfl, hb2⟩
              have hz2w := hb2.size
              have hbx2 : Below X4.heap.size X4 w2 := hbx1.trans (hb2.mono (by omega))
              have Hset2 : Hid (Set' w2 X4.heap.size (A.length - j) (isIn (A.drop j))) := Hset1.out.below hb2 (by omega)
              have hlookB := (HsetB.out.below hbx2 hltX4).look hsk
              rw [HinB.out] at hlookB
              clear hb2 Hset1 hput hlook hbx1 hb1 hbx
              go_wp2
              go_roundw
              case rel => exact ⟨j, _, by omega, rfl, by go_num, by rw [Hdd.out]; go_num, by rw [Hoo.out], Hset2.out, hbx2⟩
              case measure => simp [intOf]
            | false =>
              have hfinAB : rankI AB A[j] = some ((A.length : Int) + B.length - j) := by
                rw [HABe.out, rankI_append_left A B A[j] (isIn_false.1 hinB) _ Hfin.out]
                congr 1
                omega
              have HfinAB : Hid (rankI AB A[j] = some ((A.length : Int) + B.length - j)) := hfinAB
              have Hoo : Hid (only B (A.drop j) = only B (A.drop (j + 1)) + 1) := only_drop_new B A j hlt Hin.out hinB
              have HinB : Hid (isIn B A[j] = false) := hinB
              clear hinB Hin hfinAB
              generalize hdd : dist (A.drop (j + 1)) = dd at *
              generalize hoo : only B (A.drop (j + 1)) = oo at *
              clear hdd hoo
              go_wp2_with fail
              refine (hasRank_yes (wr.heap.size + 1) wr.heap.size A.length (rankI A) (dist A) A[j] _ w1 (HSa4.out.below hbx1 (by omega) (by omega)) hsk Hfin.out (by omega) (by omega)).mono ?_
              rintro e w2 ⟨rfl, hb2⟩
              have hz2w := hb2.size
              have hbx2 : Below X4.heap.size X4 w2 := hbx1.trans (hb2.mono (by omega))
              have Hset2 : Hid (Set' w2 X4.heap.size (A.length - j) (isIn (A.drop j))) := Hset1.out.below hb2 (by omega)
              have hlookB := (HsetB.out.below hbx2 hltX4).look hsk
              rw [HinB.out] at hlookB
              clear hb2 Hset1 hput hlook hbx1 hb1 hbx
              go_wp2_with fail
              refine (hasRank_yes (X2.heap.size + 1) X2.heap.size AB.length (rankI AB) (dist AB) A[j] _ w2 (HSs4.out.below hbx2 (by omega) (by omega)) hsk HfinAB.out (by omega) (by omega)).mono ?_
              rintro e w3 ⟨rfl, hb3⟩
              have hbx3 : Below X4.heap.size X4 w3 := hbx2.trans (hb3.mono (by omega))
              have Hset3 : Hid (Set' w3 X4.heap.size (A.length - j) (isIn (A.drop j))) := Hset2.out.below hb3 (by omega)
              clear hb3 Hset2 hbx2 hlookB
              go_wp2
              go_roundw
              case rel => exact ⟨j, _, by omega, rfl, by go_num, by rw [Hdd.out]; go_num, by rw [Hoo.out]; go_num, Hset3.out, hbx3⟩
              case measure => simp [intOf]
        obtain rfl : k6 = 0 := by omega
        obtain rfl : z6 = -1 := by omega
        rw [List.drop_zero] at *
        have hdA : dist A ≤ 65536 := by omega
        have hoA : only B A ≤ 65536 := by omega
        clear hk hz6 hdl hk0 Hset hol
        have HSa5 : Hid (Scale (wr.heap.size + 1) wr.heap.size X5 A.length (rankI A) (dist A)) := HSa4.out.below hbx (by omega) (by omega)
        have HSb5 : Hid (Scale (X1.heap.size + 1) X1.heap.size X5 B.length (rankI B) (dist B)) := HSb4.out.below hbx (by omega) (by omega)
        have HSs5 : Hid (Scale (X2.heap.size + 1) X2.heap.size X5 AB.length (rankI AB) (dist B + only B A)) := by
          have h := HSs4.out.below hbx (by omega) (by omega)
          rw [HABe.out, dist_append] at h
          rw [HABe.out]
          exact h
        have Hb5 : Hid (Below W0.heap.size W0 X5) := Hb4.out.trans (hbx.mono (by omega))
        clear hbx HSa4 HSb4 HSs4 HA4 Hb4 HsetB
        go_wp2_with fail
        refine (zzSize_any (wr.heap.size + 1) wr.heap.size A.length (rankI A) (dist A) X5 HSa5.out).mono ?_
        rintro e Y ⟨rfl, rfl⟩
        go_wp2_with fail
        refine (zzSize_any (X1.heap.size + 1) X1.heap.size B.length (rankI B) (dist B) Y HSb5.out).mono ?_
        rintro e Y2 ⟨rfl, rfl⟩
        go_wp2_with fail
        refine (zzSize_any (X2.heap.size + 1) X2.heap.size AB.length (rankI AB) (dist B + only B A) Y2 HSs5.out).mono ?_
        rintro e Y3 ⟨rfl, rfl⟩
        go_wp2
        go_ret
        exact ⟨by simp, Hb5.out⟩
      · go_wp2
        go_ret
        exact ⟨rfl, Below.refl _ _⟩
    · go_wp2
      go_ret
      exact ⟨rfl, Below.refl _ _⟩
end Go.Proofs.Qxb6614702aDoor
