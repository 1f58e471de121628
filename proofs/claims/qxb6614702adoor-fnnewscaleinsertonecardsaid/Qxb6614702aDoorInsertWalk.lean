/-
  SEAT b6614702aD: the walk of the law FnNewScaleInsertOne.
-/
import Derived.Test.Qxb6614702aDoorHelp2
import Derived.Test.Qxb6614702aDoorPlain2
import Derived.Deep.DeepCutAuto
namespace Go.Proofs.Qxb6614702aDoor
open Go.RowKit
set_option linter.unusedVariables false

/-- A slot holds a slice that reads as l; nothing that was there has turned. -/
def CopiedI (W0 : World) (l : List ByteArray) (v : Value) (w : World) : Prop :=
  ∃ a c, v = .slice a l.length c ∧ SS w.heap.size w a c l ∧ Below W0.heap.size W0 w

/-- Each of the first k is not among those before it. -/
def NewTo (l : List ByteArray) (k : Nat) : Prop := ∀ i (hi : i < l.length), i < k → isIn (l.take i) l[i] = false

set_option maxRecDepth 100000 in
set_option maxHeartbeats 4000000 in
theorem insertWalk (a : Option Addr) (c : Nat) (L : List ByteArray) (g : ByteArray) (p : Int) (w : World) (hA : SS w.heap.size w a c L) (hgm : g.size ≤ maxLen) (hp0 : -9223372036854775808 ≤ p) (hp1 : p ≤ 9223372036854775807) :
    Calls Tryd.prog 4 #[.slice a L.length c, .string g, .int .i64 p] w fun e w' => e = .returned (.bool true) ∧ Below w.heap.size w w' := by
  have hla : L.length ≤ 9223372036854775807 := Nat.le_trans hA.1 hA.2.1
  have HA : Hid (SS w.heap.size w a c L) := hA
  have Hsz : Hid (∀ s ∈ L, s.size ≤ maxLen) := hA.2.2.1
  have Hgm : Hid (g.size ≤ maxLen) := hgm
  have hgm2 : g.size ≤ 9223372036854775807 := hgm
  clear hA hgm
  have qnil : ∀ (w : World) a n c, (binOp .neq 22 (.slice a n c) (.slice none 0 0)).run Tryd.prog w = .ok (.bool (!a.isNone)) w := fun w a n c => run_neq_slice_nil_any w 22 9 a n c 0 0 Tryd.underlying22
  obtain ⟨i0, hi, hz0, hz1, hz2⟩ := info_parts info9
  have hsz1 : (Tryd.prog.info? 9).map (·.size) = some 1 := by rw [hi]; simp [hz1]
  go_enter Tryd.func4, Tryd.ntmps4
  go_wp2_with fail
  refine (zzBytes11_any w.heap.size a c L g p w HA.out Hgm.out).mono ?_
  rintro e W0 ⟨⟨bb, rfl, hbb⟩, rfl⟩
  cases bb with
  | false =>
    go_wp2
    go_ret
    exact ⟨rfl, Below.refl _ _⟩
  | true =>
    have HSh : Hid (Short L) := hbb rfl
    clear hbb
    by_cases h16a : L.length ≤ 65536
    · by_cases h16b : g.size ≤ 65536
      · clear hla hgm2
        go_upto_if 39 with fail
        go_cut [0] (fun v wx => CopiedI W0 L v wx)
        case first =>
          cases a with
          | none =>
            go_wp2_with fail
            go_meet
            case rel => exact ⟨_, _, rfl, HA.out, Below.refl _ _⟩
          | some ad =>
            go_wp2_with (at_make; refine wpList_make_full _ rfl _ _ 22 rfl W0.heap.size 9 i0 (.string ByteArray.empty) 1 Tryd.underlying22 hi hz0 hz1 _ _ _ _ L.length rfl rfl rfl rfl ?c1 ?c2 ?c3 ?_)
            case c1 => rw [hz2]; omega
            case c2 => unfold maxLen; omega
            case c3 => exact Nat.le_refl _
            intro w1 hown1 hg1
            have hb1 : Below W0.heap.size W0 w1 := (Below.refl _ _).grown hg1 (Nat.le_refl _) (fun k hk => by cases hk)
            obtain ⟨cur, hcl, hrow⟩ : ∃ cur : List Value, cur.length = L.length ∧ w1.heap[W0.heap.size]? = some (.cells cur.toArray 9 (0, 0)) := by
              rcases hown1.2 with ⟨h, _⟩ | ⟨g, cap, cur, hv, _, hg, _, _, hs, _⟩
              · cases h
              · cases hv
                exact ⟨cur.toList, by simpa using hs, by simpa using hg⟩
            clear hown1 hg1
            have Hrow : Hid (w1.heap[W0.heap.size]? = some (.cells cur.toArray 9 (0, 0))) := hrow
            have Hcl : Hid (cur.length = L.length) := hcl
            obtain ⟨cs, hcs⟩ : ∃ cs, cs = strs L := ⟨_, rfl⟩
            have Hcs : Hid (cs = strs L) := hcs
            clear hcl hrow hcs
            go_wp2_with (refine wpList_copy_splice rfl (.tmp 43) (.tmp 44) 22 22 rfl 9 Tryd.underlying22 hsz1 _ _ _ _ _ _ rfl rfl W0.heap.size 0 cur 9 Hrow.out cs ?d1 ?d2 ?d3 ?d4 W0.heap.size W0 hb1 (Nat.le_refl _) ?_)
            case d1 => rw [Hcs.out, strs_length]; exact (Nat.min_self _).symm
            case d2 =>
              intro h0 j v hj
              exact src_of HA.out hb1 j v (by rw [← Hcs.out]; exact hj)
            case d3 => rw [Hcs.out, strs_length, Hcl.out]; omega
            case d4 => rw [Hcs.out]; exact strs_one _
            intro w2 HG2 hB
            have hsp : splice cur 0 cs = strs L := by
              rw [Hcs.out]
              simp only [splice, List.take_zero, List.nil_append]
              rw [List.drop_eq_nil_of_le (by rw [strs_length, Hcl.out]; omega), List.append_nil]
            have hg2 := HG2.out
            rw [hsp] at hg2
            have hSS := SS_of_row hg2 (by unfold maxLen; omega) Hsz.out
            clear hg2 hsp HG2 Hrow Hcl Hcs hb1
            go_wp2_with fail
            go_meet
            case rel => exact ⟨_, _, rfl, hSS, hB⟩
        case rest =>
        obtain ⟨a1, c1, rfl, hA1, hb1⟩ := hcut
        obtain ⟨W2, hW2⟩ : ∃ W2, W2 = wc := ⟨_, rfl⟩
        subst hW2
        have HA2 : Hid (SS W2.heap.size W2 a1 c1 L) := hA1
        have hz02 := hb1.size
        have Hb02 : Hid (Below W0.heap.size W0 W2) := hb1
        clear hA1 HA hb1
        go_wp2_with fail
        go_loop [8, 9] (fun n i => ∃ (k : Nat) (r : Int), k ≤ L.length ∧ i = .int .i64 k ∧ n = .int .i64 r ∧ 0 ≤ r ∧ r ≤ 1048576) (fun _ i => L.length - (intOf i).toNat)
        case atStart => exact ⟨0, _, Nat.zero_le _, rfl, rfl, by omega, by omega⟩
        case round =>
        obtain ⟨k, r, hk, rfl, rfl, hr0, hr1⟩ := hrel
        by_cases hlt : k < L.length
        · obtain ⟨_, _, _, h3⟩ := HA2.out
          rcases h3 with rfl | ⟨gg, o, rfl, hg, hc⟩
          · simp at hlt
          have hck := hc k hlt
          have hsk := HSh.out L[k] (List.getElem_mem hlt)
          clear hc
          go_wp2
          · go_ret
            exact ⟨rfl, Hb02.out⟩
          · go_round
            case rel => exact ⟨k + 1, _, by omega, by go_num, rfl, by omega, by omega⟩
            case measure => simp [intOf]; omega
        by_cases hpneg : p < 0
        · go_wp2
          go_ret
          exact ⟨rfl, Hb02.out⟩
        by_cases hpbig : (L.length : Int) < p
        · go_wp2
          go_ret
          exact ⟨rfl, Hb02.out⟩
        obtain ⟨pp, rfl⟩ := Int.eq_ofNat_of_zero_le (by omega : 0 ≤ p)
        have hpL : pp ≤ L.length := by omega
        have q26 := make26
        have hset0 := set_made W2
        have hbset0 : Below W2.heap.size W2 (W2.alloc (.map #[] 0)) := (Below.refl _ _).alloc (Nat.le_refl _) _
        have Hset0 : Hid (Set' (W2.alloc (.map #[] 0)) W2.heap.size 0 (fun _ => false)) := hset0
        clear hset0 hp0 hp1
        go_wp2_with fail
        clear q26 hpneg hpbig hlt hk hr0 hr1
        go_loopw [11] (fun i wx => ∃ (k : Nat), k ≤ L.length ∧ i = .int .i64 k ∧ Set' wx W2.heap.size k (isIn (L.take k)) ∧ Hid (NewTo L k) ∧ Below W2.heap.size W2 wx) (fun i _ => L.length - (intOf i).toNat)
        case atStart => exact ⟨0, Nat.zero_le _, rfl, Hset0.out, fun i hi h => absurd h (Nat.not_lt_zero _), hbset0⟩
        case round =>
        clear Hset0 hbset0
        obtain ⟨k2, hk, rfl, hset, Hnew, hbx⟩ := hrel
        obtain ⟨X4, hX4⟩ : ∃ X4, X4 = wr := ⟨_, rfl⟩
        subst hX4
        have Hset : Hid (Set' X4 W2.heap.size k2 (isIn (L.take k2))) := hset
        have hltX4 := hset.lt
        clear hset
        by_cases hlt : k2 < L.length
        · have hSr := HA2.out.below hbx
          obtain ⟨_, _, hszz, h3⟩ := hSr
          rcases h3 with h0 | ⟨gg, o, rfl, hg, hc⟩
          · rw [h0] at hlt; simp at hlt
          have hck := hc k2 hlt
          have hsk := hszz L[k2] (List.getElem_mem hlt)
          clear hc hszz
          have hlook := Hset.out.look hsk
          cases hin : isIn (L.take k2) L[k2] with
          | true =>
            rw [hin] at hlook
            clear hin
            go_wp2
            go_ret
            exact ⟨rfl, Hb02.out.trans (hbx.mono hz02)⟩
          | false =>
            rw [hin] at hlook
            obtain ⟨w1, hput, hset1, hg1⟩ := Hset.out.put (by unfold maxLen; omega) hsk
            have hb1 : Below W2.heap.size X4 w1 := below_of_grown hg1 (by omega)
            have Hset1 : Hid (Set' w1 W2.heap.size (k2 + 1) (isIn (L.take (k2 + 1)))) := by
              have e : putS (isIn (L.take k2)) L[k2] = isIn (L.take (k2 + 1)) := by
                funext s
                rw [List.take_succ_eq_append_getElem hlt, isIn_append, isIn_cons, isIn_nil, putS]
                by_cases hs : s = L[k2]
                · rw [if_pos hs]; simp [hs]
                · have : ¬ L[k2] = s := fun e => hs e.symm
                  rw [if_neg hs]; simp [this]
              rw [e] at hset1
              exact hset1
            have Hnew1 : Hid (NewTo L (k2 + 1)) := by
              intro i hi hik
              by_cases h : i = k2
              · subst h; exact hin
              · exact Hnew.out i hi (by omega)
            have hbx1 := hbx.trans hb1
            clear hset1 hg1 hin hb1
            go_wp2
            go_roundw
            case rel => exact ⟨k2 + 1, by omega, by go_num, Hset1.out, Hnew1, hbx1⟩
            case measure => simp [intOf]; omega
        have hkL : k2 = L.length := by omega
        subst hkL
        have Hnd : Hid (L.Nodup) := nodup_of_takes L (fun i hi => Hnew.out i hi hi)
        have HsetL : Hid (Set' X4 W2.heap.size L.length (isIn L)) := by
          have h := Hset.out
          rw [List.take_of_length_le (Nat.le_refl _)] at h
          exact h
        have hlook := HsetL.out.look Hgm.out
        clear Hset Hnew hk
        have HA4 : Hid (SS W2.heap.size X4 a1 c1 L) := HA2.out.below hbx
        have Hb4 : Hid (Below W0.heap.size W0 X4) := Hb02.out.trans (hbx.mono hz02)
        have hz24 := hbx.size
        clear hbx HA2 Hb02
        cases hin : isIn L g with
        | true =>
          rw [hin] at hlook
          clear hin
          go_wp2
          go_ret
          exact ⟨rfl, Hb4.out⟩
        | false =>
        rw [hin] at hlook
        have Hng : Hid (g ∉ L) := isIn_false.1 hin
        clear hin
        go_wp2_with (at_make; refine wpList_make_own _ rfl _ _ 22 rfl X4.heap.size 9 i0 (.string ByteArray.empty) 1 Tryd.underlying22 hi hz0 hz1 _ _ _ (L.length + 1) rfl rfl (by omega) (by rw [hz2]; omega) (by unfold maxLen; omega) (Nat.le_refl _) ?_)
        clear hlt hlook
        intro W3 hown3 hg3
        have hb3 : Below X4.heap.size X4 W3 := (Below.refl _ _).grown hg3 (Nat.le_refl _) (fun k hk => by cases hk)
        have Hown3 : Hid (W3.ownsRow X4.heap.size 9 1 (.slice (some ⟨X4.heap.size, 0, none⟩) 0 (L.length + 1)) 0 []) := hown3
        clear hown3 hg3
        go_wp2_with fail
        go_loopw [13, 14] (fun v i wr => ∃ (k : Nat), k ≤ pp ∧ i = .int .i64 k ∧ wr.ownsRow X4.heap.size 9 1 v (L.take k).length (strs (L.take k)) ∧ Below X4.heap.size X4 wr) (fun _ i _ => pp - (intOf i).toNat)
        case atStart => exact ⟨0, Nat.zero_le _, rfl, Hown3.out, hb3⟩
        case round =>
        obtain ⟨k3, hk, rfl, hown, hb⟩ := hrel
        have hzw := hb.size
        by_cases hlt : k3 < pp
        · have hltL : k3 < L.length := by omega
          have hSr := HA4.out.below (hb.mono hz24)
          obtain ⟨_, _, _, h3⟩ := hSr
          rcases h3 with h0 | ⟨gg, o, rfl, hg, hc⟩
          · rw [h0] at hltL; simp at hltL
          have hck := hc k3 hltL
          have hgw : gg < wr.heap.size := by omega
          have hlk : (L.take k3).length = k3 := by rw [List.length_take]; omega
          have hown2 : wr.ownsRow X4.heap.size 9 1 u13 k3 (strs (L.take k3)) := by rw [hlk] at hown; exact hown
          have Hlk : Hid ((L.take k3).length = k3) := hlk
          clear hc hown hlk
          go_wp2_with (at_builtin; refine wpList_append_own _ rfl _ _ 22 rfl X4.heap.size 9 i0 (.string ByteArray.empty) 1 16 Tryd.underlying22 hi hz0 hz1 hz2 rfl (by decide) _ _ _ rfl (hown2.alloc _) ⟨wr.heap.size, 0, none⟩ 1 1 [.string L[k3]] rfl rfl ?c1 ?c2 ?c3 ?c4 ?c5 ?_)
          case c1 =>
            intro j u hj
            match j, hj with
            | 0, hj => simp at hj; subst hj; simp [Addr.add]
          case c2 => intro u hu; simp at hu; subst hu; rfl
          case c3 => unfold maxLen; omega
          case c4 => omega
          case c5 => simp; omega
          intro v' w1 hown' hg' _
          have hbn : Below X4.heap.size X4 w1 := (hb.alloc hzw _).grown hg' (by simp; omega) (fun k hk => (hown2.lt k hk).1)
          have hownn : w1.ownsRow X4.heap.size 9 1 v' (L.take (k3 + 1)).length (strs (L.take (k3 + 1))) := by
            rw [List.take_succ_eq_append_getElem hltL, strs_snoc, List.length_append, Hlk.out]
            exact hown'
          have Hn : Hid (w1.ownsRow X4.heap.size 9 1 v' (L.take (k3 + 1)).length (strs (L.take (k3 + 1)))) := hownn
          clear hown' hg' hown2 hownn
          go_wp2
          go_roundw
          case rel => exact ⟨k3 + 1, by omega, by go_num, Hn.out, hbn⟩
          case measure => simp [intOf]; omega
        have hkp : k3 = pp := by omega
        subst hkp
        have hlk : (L.take k3).length = k3 := by rw [List.length_take]; omega
        have hown2 : wr.ownsRow X4.heap.size 9 1 u13 k3 (strs (L.take k3)) := by rw [hlk] at hown; exact hown
        have Hlk : Hid ((L.take k3).length = k3) := hlk
        clear hk hown hb3 hlk
        go_wp2_with (at_builtin; refine wpList_append_own _ rfl _ _ 22 rfl X4.heap.size 9 i0 (.string ByteArray.empty) 1 16 Tryd.underlying22 hi hz0 hz1 hz2 rfl (by decide) _ _ _ rfl (hown2.alloc _) ⟨wr.heap.size, 0, none⟩ 1 1 [.string g] rfl rfl ?c1 ?c2 ?c3 ?c4 ?c5 ?_)
        case c1 =>
          intro j u hj
          match j, hj with
          | 0, hj => simp at hj; subst hj; simp [Addr.add]
        case c2 => intro u hu; simp at hu; subst hu; rfl
        case c3 => unfold maxLen; omega
        case c4 => omega
        case c5 => simp; omega
        intro v' w1 hown' hg' _
        have hbn : Below X4.heap.size X4 w1 := (hb.alloc hzw _).grown hg' (by simp; omega) (fun k hk => (hown2.lt k hk).1)
        have hownn : w1.ownsRow X4.heap.size 9 1 v' (L.take k3 ++ [g]).length (strs (L.take k3 ++ [g])) := by
          rw [show L.take k3 ++ [g] = L.take k3 ++ [g] from rfl, strs_snoc, List.length_append, Hlk.out]
          exact hown'
        have Hn : Hid (w1.ownsRow X4.heap.size 9 1 v' (L.take k3 ++ [g]).length (strs (L.take k3 ++ [g]))) := hownn
        clear hown' hg' hown2 hownn
        clear hlt hb
        go_wp2_with fail
        go_loopw [13, 15] (fun v i wr => ∃ (k : Nat), k3 ≤ k ∧ k ≤ L.length ∧ i = .int .i64 k ∧ wr.ownsRow X4.heap.size 9 1 v (L.take k3 ++ [g] ++ (L.take k).drop k3).length (strs (L.take k3 ++ [g] ++ (L.take k).drop k3)) ∧ Below X4.heap.size X4 wr) (fun _ i _ => L.length - (intOf i).toNat)
        case atStart =>
          refine ⟨k3, Nat.le_refl _, hpL, rfl, ?_, hbn⟩
          rw [List.drop_eq_nil_of_le (by rw [List.length_take]; omega), List.append_nil]
          exact Hn.out
        case round =>
        clear hbn Hn hzw
        obtain ⟨k4, hk0, hk, rfl, hown, hb⟩ := hrel
        have hzw := hb.size
        by_cases hlt : k4 < L.length
        · have hSr := HA4.out.below (hb.mono hz24)
          obtain ⟨_, _, _, h3⟩ := hSr
          rcases h3 with h0 | ⟨gg, o, rfl, hg, hc⟩
          · rw [h0] at hlt; simp at hlt
          have hck := hc k4 hlt
          have hgw : gg < wr.heap.size := by omega
          have hlk : (L.take k3 ++ [g] ++ (L.take k4).drop k3).length = k4 + 1 := by simp; omega
          have hown2 : wr.ownsRow X4.heap.size 9 1 u13 (k4 + 1) (strs (L.take k3 ++ [g] ++ (L.take k4).drop k3)) := by rw [hlk] at hown; exact hown
          have Hlk : Hid ((L.take k3 ++ [g] ++ (L.take k4).drop k3).length = k4 + 1) := hlk
          have Hnx : Hid (L.take k3 ++ [g] ++ (L.take (k4 + 1)).drop k3 = L.take k3 ++ [g] ++ (L.take k4).drop k3 ++ [L[k4]]) := by
            unfold Hid
            rw [List.take_succ_eq_append_getElem hlt, List.drop_append_of_le_length (by rw [List.length_take]; omega)]
            simp
          clear hc hown hlk
          obtain ⟨PRE, hPRE⟩ : ∃ PRE, PRE = L.take k3 ++ [g] ++ (L.take k4).drop k3 := ⟨_, rfl⟩
          rw [← hPRE] at hown2 Hlk Hnx
          clear hPRE
          go_wp2_with (at_builtin; refine wpList_append_own _ rfl _ _ 22 rfl X4.heap.size 9 i0 (.string ByteArray.empty) 1 16 Tryd.underlying22 hi hz0 hz1 hz2 rfl (by decide) _ _ _ rfl (hown2.alloc _) ⟨wr.heap.size, 0, none⟩ 1 1 [.string L[k4]] rfl rfl ?c1 ?c2 ?c3 ?c4 ?c5 ?_)
          case c1 =>
            intro j u hj
            match j, hj with
            | 0, hj => simp at hj; subst hj; simp [Addr.add]
          case c2 => intro u hu; simp at hu; subst hu; rfl
          case c3 => unfold maxLen; omega
          case c4 => omega
          case c5 => simp; omega
          intro v' w1 hown' hg' _
          have hbn : Below X4.heap.size X4 w1 := (hb.alloc hzw _).grown hg' (by simp; omega) (fun k hk => (hown2.lt k hk).1)
          have hownn : w1.ownsRow X4.heap.size 9 1 v' (L.take k3 ++ [g] ++ (L.take (k4 + 1)).drop k3).length (strs (L.take k3 ++ [g] ++ (L.take (k4 + 1)).drop k3)) := by
            rw [Hnx.out, strs_snoc, List.length_append, Hlk.out]
            exact hown'
          have Hn : Hid (w1.ownsRow X4.heap.size 9 1 v' (L.take k3 ++ [g] ++ (L.take (k4 + 1)).drop k3).length (strs (L.take k3 ++ [g] ++ (L.take (k4 + 1)).drop k3))) := hownn
          clear hown' hg' hown2 hownn
          go_wp2
          go_roundw
          case rel => exact ⟨k4 + 1, by omega, by omega, by go_num, Hn.out, hbn⟩
          case measure => simp [intOf]; omega
        have hkL : k4 = L.length := by omega
        subst hkL
        rw [List.take_of_length_le (Nat.le_refl L.length)] at hown
        obtain ⟨I, hIe⟩ : ∃ I, I = ins L g k3 := ⟨_, rfl⟩
        have hIl : I.length = L.length + 1 := by rw [hIe]; exact ins_length L g k3 hpL
        have hszI : ∀ s ∈ I, s.size ≤ maxLen := by
          intro s hs
          rw [hIe] at hs
          rcases List.mem_append.1 hs with h | h
          · exact Hsz.out s (List.mem_of_mem_take h)
          · rcases List.mem_cons.1 h with rfl | h
            · exact Hgm.out
            · exact Hsz.out s (List.mem_of_mem_drop h)
        have e1 : L.take k3 ++ [g] ++ L.drop k3 = I := by rw [hIe]; simp [ins]
        rw [e1] at hown
        have HIe : Hid (I = ins L g k3) := hIe
        have HIl : Hid (I.length = L.length + 1) := hIl
        have hIb : I.length ≤ 65537 := by omega
        clear hIe hIl e1
        obtain ⟨aI, cI, rfl, hI⟩ := SS_of_owns hown hszI
        have HI : Hid (SS wr.heap.size wr aI cI I) := hI
        clear hk hown hI hszI
        have HA5 : Hid (SS wr.heap.size wr a1 c1 L) := (HA4.out.below (hb.mono hz24)).up (by omega)
        have Hb5 : Hid (Below W0.heap.size W0 wr) := Hb4.out.trans (hb.mono (by omega))
        clear hb HA4 Hb4 Hown3
        go_wp2_with fail
        clear hlt
        refine (newScale_any wr.heap.size a1 c1 L wr HA5.out (Nat.le_refl _) (by omega)).mono ?_
        rintro e X1 ⟨rfl, hSa, hbX1⟩
        have hzX1 := hbX1.size
        have hlX1 := hSa.lt
        have HSa1 : Hid (Scale (wr.heap.size + 1) wr.heap.size X1 L.length (rankI L) (dist L)) := hSa
        have HbX1 : Hid (Below wr.heap.size wr X1) := hbX1
        clear hSa hbX1
        go_wp2_with fail
        refine (newScale_any X1.heap.size aI cI I X1 ((HI.out.below HbX1.out).up hzX1) (Nat.le_refl _) (by omega)).mono ?_
        rintro e X2 ⟨rfl, hSb, hbX2⟩
        have hzX2 := hbX2.size
        have hlX2 := hSb.lt
        have HSi : Hid (Scale (X1.heap.size + 1) X1.heap.size X2 I.length (rankI I) (L.length + 1)) := by
          have e : dist I = L.length + 1 := by rw [HIe.out]; exact ins_dist Hnd.out Hng.out k3 hpL
          rw [e] at hSb
          exact hSb
        have HSl : Hid (Scale (wr.heap.size + 1) wr.heap.size X2 L.length (rankI L) L.length) := by
          have h := HSa1.out.below hbX2 (by omega) (by omega)
          rw [dist_nodup Hnd.out] at h
          exact h
        have HA6 : Hid (SS X2.heap.size X2 a1 c1 L) := ((HA5.out.below HbX1.out).below (hbX2.mono hzX1)).up (by omega)
        have Hb6 : Hid (Below W0.heap.size W0 X2) := (Hb5.out.trans (HbX1.out.mono (by omega))).trans (hbX2.mono (by omega))
        clear hSb hbX2 HSa1 HbX1 HI HA5 Hb5 HsetL
        go_wp2_with fail
        go_loopw [18] (fun i wx => ∃ (k : Nat), k ≤ L.length ∧ i = .int .i64 k ∧ Below X2.heap.size X2 wx) (fun i _ => L.length - (intOf i).toNat)
        case atStart => exact ⟨0, Nat.zero_le _, rfl, Below.refl _ _⟩
        case round =>
        obtain ⟨k5, hk, rfl, hbx⟩ := hrel
        obtain ⟨Y0, hY0⟩ : ∃ Y0, Y0 = wr := ⟨_, rfl⟩
        subst hY0
        have q30 := eq30
        by_cases hlt : k5 < L.length
        · obtain ⟨_, _, hszz, h3⟩ := HA6.out
          rcases h3 with h0 | ⟨gg, o, rfl, hg, hc⟩
          · rw [h0] at hlt; simp at hlt
          have hck2 := hc k5 hlt
          have hsk := hszz L[k5] (List.getElem_mem hlt)
          have hck : Y0.cell? ⟨gg, o + k5, none⟩ = some (.string L[k5]) := (hbx.cell (p := ⟨gg, o + k5, none⟩) hg).trans hck2
          have Hck2 : Hid (X2.cell? ⟨gg, o + k5, none⟩ = some (.string L[k5])) := hck2
          clear hc hszz hck2
          have Hr1 : Hid (rankI L L[k5] = some ((L.length : Int) - k5)) := rankI_nodup Hnd.out k5 hlt
          have Hr2 : Hid (rankI I L[k5] = some (if k5 < k3 then (L.length : Int) + 1 - k5 else (L.length : Int) - k5)) := by
            unfold Hid; rw [HIe.out]; exact ins_rank Hnd.out Hng.out k3 hpL k5 hlt
          have hz20 := hbx.size
          go_wp2_with fail
          refine (hasRank_yes (wr.heap.size + 1) wr.heap.size L.length (rankI L) L.length L[k5] _ Y0 (HSl.out.below hbx (by omega) (by omega)) hsk Hr1.out (by omega) (by omega)).mono ?_
          rintro e Y1 ⟨rfl, hb1⟩
          have hz1y := hb1.size
          have hbx1 : Below X2.heap.size X2 Y1 := hbx.trans (hb1.mono hz20)
          have hck1 : Y1.cell? ⟨gg, o + k5, none⟩ = some (.string L[k5]) := (hbx1.cell (p := ⟨gg, o + k5, none⟩) hg).trans Hck2.out
          clear hck hb1 hbx
          go_wp2_with fail
          refine (zzRank_at (wr.heap.size + 1) wr.heap.size L.length (rankI L) L.length L[k5] _ Y1 (HSl.out.below hbx1 (by omega) (by omega)) hsk Hr1.out).mono ?_
          rintro e Y2 ⟨rfl, hb2⟩
          have hz2y := hb2.size
          have hbx2 : Below X2.heap.size X2 Y2 := hbx1.trans (hb2.mono (by omega))
          have hck2 : Y2.cell? ⟨gg, o + k5, none⟩ = some (.string L[k5]) := (hbx2.cell (p := ⟨gg, o + k5, none⟩) hg).trans Hck2.out
          have hgy2 : gg < Y2.heap.size := by omega
          clear hck1 hb2 hbx1
          unfold rat
          go_wp2_with fail
          have hv2 : ∃ v2 : Int, v2 = (if k5 < k3 then (L.length : Int) + 1 - k5 else (L.length : Int) - k5) := ⟨_, rfl⟩
          by_cases hkp : k5 < k3
          · rw [if_pos hkp] at Hr2
            have hwr1 : IntKind.i64.wrap ((L.length : Int) + 1) = (L.length : Int) + 1 := by rw [IntKind.wrap_i64]; omega
            have hwr2 : IntKind.i64.wrap ((L.length : Int) + 1 - k5) = (L.length : Int) + 1 - k5 := by rw [IntKind.wrap_i64]; omega
            refine (zzRank_at (X1.heap.size + 1) X1.heap.size I.length (rankI I) (L.length + 1) L[k5] _ _ (HSi.out.below (hbx2.alloc (by omega) _) (by omega) (by omega)) hsk Hr2.out).mono ?_
            rintro e Y3 ⟨rfl, hb3⟩
            have hz3y := hb3.size
            simp at hz3y
            have hbx3 : Below X2.heap.size X2 Y3 := (hbx2.alloc (by omega) _).trans (hb3.mono (by simp; omega))
            clear hb3 hbx2 hck2 hv2
            unfold rat
            go_wp2_with fail
            go_region_with (go_at_call 13; refine (int_any ((L.length : Int) + 1 - k5) _ (by omega) (by omega)).mono ?_; rintro e w' ⟨rfl, rfl⟩; unfold rat ratB)
            all_goals
              go_wp2
              go_roundw
              case rel => exact ⟨k5 + 1, by omega, by go_num, (((hbx3.alloc (by omega) _).alloc (by simp; omega) _).alloc (by simp; omega) _).drew⟩
              case measure => simp [intOf]; omega
          · rw [if_neg hkp] at Hr2
            refine (zzRank_at (X1.heap.size + 1) X1.heap.size I.length (rankI I) (L.length + 1) L[k5] _ _ (HSi.out.below (hbx2.alloc (by omega) _) (by omega) (by omega)) hsk Hr2.out).mono ?_
            rintro e Y3 ⟨rfl, hb3⟩
            have hz3y := hb3.size
            simp at hz3y
            have hbx3 : Below X2.heap.size X2 Y3 := (hbx2.alloc (by omega) _).trans (hb3.mono (by simp; omega))
            obtain ⟨c10, c11, c12⟩ := rat_cells (v := (L.length : Int) - k5) (w := Y2) (w' := Y3) (hb3.mono (by simp))
            have hlty : Y2.heap.size < Y3.heap.size := by omega
            clear hb3 hbx2 hck2 hv2
            unfold rat
            go_wp2
            go_roundw
            case rel => exact ⟨k5 + 1, by omega, by go_num, hbx3.alloc (by omega) _⟩
            case measure => simp [intOf]; omega
        have hkL : k5 = L.length := by omega
        subst hkL
        clear hk
        have hz20 := hbx.size
        go_wp2_with fail
        refine (zzRank_none (wr.heap.size + 1) wr.heap.size L.length (rankI L) L.length g Y0 (HSl.out.below hbx (by omega) (by omega)) Hgm.out (rankI_none Hng.out)).mono ?_
        rintro e Y1 ⟨r1, rfl, hb1⟩
        have hz1y := hb1.size
        have hbx1 : Below X2.heap.size X2 Y1 := hbx.trans (hb1.mono hz20)
        have Hrg : Hid (rankI I g = some ((L.length : Int) + 1 - k3)) := by unfold Hid; rw [HIe.out]; exact ins_rank_g Hnd.out Hng.out k3 hpL
        clear hb1 hbx
        unfold rat
        go_wp2_with fail
        refine (hasRank_yes (X1.heap.size + 1) X1.heap.size I.length (rankI I) (L.length + 1) g _ _ (HSi.out.below (hbx1.alloc (by omega) _) (by omega) (by omega)) Hgm.out Hrg.out (by omega) (by omega)).mono ?_
        rintro e Y2 ⟨rfl, hb2⟩
        have hz2y := hb2.size
        simp at hz2y
        have hbx2 : Below X2.heap.size X2 Y2 := (hbx1.alloc (by omega) _).trans (hb2.mono (by simp; omega))
        clear hb2 hbx1
        go_wp2_with fail
        refine (zzSize_any (wr.heap.size + 1) wr.heap.size L.length (rankI L) L.length Y2 (HSl.out.below hbx2 (by omega) (by omega))).mono ?_
        rintro e Y3 ⟨rfl, rfl⟩
        go_wp2_with fail
        refine (zzSize_any (X1.heap.size + 1) X1.heap.size I.length (rankI I) (L.length + 1) Y3 (HSi.out.below hbx2 (by omega) (by omega))).mono ?_
        rintro e Y4 ⟨rfl, rfl⟩
        go_wp2
        go_ret
        exact ⟨by simp, Hb6.out.trans (hbx2.mono (by omega))⟩
      · go_wp2
        go_ret
        exact ⟨rfl, Below.refl _ _⟩
    · go_wp2
      go_ret
      exact ⟨rfl, Below.refl _ _⟩
end Go.Proofs.Qxb6614702aDoor
