/-
  SEAT b6614642a: the walk of the law FnDenyYieldStopsWhereRefused.
-/
import Derived.Test.Qxb6614642aYield2
namespace Go.Proofs.Qxb6614642a
open Go.RowKit
set_option linter.unusedVariables false

theorem strs_length (l : List ByteArray) : (strs l).length = l.length := by simp [strs]

/-- An owned row of strings reads as those strings. -/
theorem SS_of_owns {B n : Nat} {v : Value} {w : World} {L : List ByteArray} (h : w.ownsRow B 9 1 v n (strs L)) (hs : ∀ s ∈ L, s.size ≤ maxLen) :
    ∃ a c, v = .slice a L.length c ∧ SS w.heap.size w a c L := by
  have hn : n = L.length := by have := h.1; rw [strs_length] at this; omega
  subst hn
  rcases h.2 with ⟨rfl, h0⟩ | ⟨g, cap, cur, rfl, _, hg, hcap, hm, _⟩
  · exact ⟨none, 0, by rw [h0], by omega, Nat.zero_le _, hs, .inl (List.eq_nil_of_length_eq_zero h0)⟩
  · refine ⟨some ⟨g, 0, none⟩, cap, rfl, hcap, hm, hs, .inr ⟨g, 0, rfl, (Array.getElem?_eq_some_iff.1 hg).1, fun j hj => ?_⟩⟩
    have hc := h.cells (g := g) rfl j (.string L[j]) (by simp [strs, List.getElem?_eq_getElem hj])
    rw [Addr.add_lit] at hc
    exact hc

theorem SS.take {G : Nat} {w : World} {a : Option Addr} {c : Nat} {l : List ByteArray} (h : SS G w a c l) (k : Nat) : SS G w a c (l.take k) := by
  obtain ⟨h1, h2, hs, h3⟩ := h
  refine ⟨by rw [List.length_take]; omega, h2, fun s hm => hs s (List.mem_of_mem_take hm), ?_⟩
  rcases h3 with rfl | ⟨g, o, rfl, hg, hc⟩
  · exact .inl (by simp)
  · refine .inr ⟨g, o, rfl, hg, fun j hj => ?_⟩
    rw [List.length_take] at hj
    rw [List.getElem_take]
    exact hc j (by omega)

theorem src_of {G : Nat} {w w1 : World} {ad : Addr} {c : Nat} {l : List ByteArray} (h : SS G w (some ad) c l) (hb : Below G w w1) : ∀ j v, (strs l)[j]? = some v → w1.cell? (ad.add j) = some v := by
  intro j v hj
  obtain ⟨_, _, _, rfl | ⟨g, o', ha, hg, hc⟩⟩ := h
  · simp [strs] at hj
  · obtain rfl := Option.some.inj ha
    have hjl : j < l.length := by
      have := (List.getElem?_eq_some_iff.1 hj).1
      rwa [strs_length] at this
    rw [Addr.add_lit, hb.cell (p := ⟨g, o' + j, none⟩) hg, hc j hjl]
    simp [strs, List.getElem?_eq_getElem hjl] at hj
    rw [← hj]

set_option maxRecDepth 100000 in
set_option maxHeartbeats 1000000 in
theorem denyWalk (a : Option Addr) (c : Nat) (l : List ByteArray) (st : Int) (x y z : ByteArray) (w : World) (hS : SS w.heap.size w a c l) (hnil : a = none → c = 0) (hx : x.size ≤ maxLen) (hy : y.size ≤ maxLen) (hz : z.size ≤ maxLen) (hst0 : -9223372036854775808 ≤ st) (hst1 : st ≤ 9223372036854775807) :
    Calls Try.prog 5 #[.slice a l.length c, .int .i64 st, .string x, .string y, .string z] w fun e w' => e = .returned (.bool true) ∧ Below w.heap.size w w' := by
  have HS : Hid (SS w.heap.size w a c l) := hS
  have Hx : Hid (x.size ≤ maxLen) := hx
  have Hy : Hid (y.size ≤ maxLen) := hy
  have Hz : Hid (z.size ≤ maxLen) := hz
  have Hnil : Hid (a = none → c = 0) := hnil
  have hsz := hS.2.2.1
  have Hsz : Hid (∀ s ∈ l, s.size ≤ maxLen) := hsz
  clear hS hx hy hz hnil hsz
  have qnil : ∀ (w : World) a n c, (binOp .neq 34 (.slice a n c) (.slice none 0 0)).run Try.prog w = .ok (.bool (!a.isNone)) w := fun w a n c => run_neq_slice_nil_any w 34 9 a n c 0 0 Try.underlying34
  obtain ⟨i0, hi, hz0, hz1, hz2⟩ := info_parts info9
  have hsz1 : (Try.prog.info? 9).map (·.size) = some 1 := by rw [hi]; simp [hz1]
  go_enter Try.func5, Try.ntmps5
  go_wp2_with fail
  refine (zzBytes18_any w.heap.size a c l st x y z w HS.out Hx.out Hy.out Hz.out).mono ?_
  rintro e W0 ⟨⟨b, rfl⟩, rfl⟩
  cases b with
  | false =>
    go_wp2
    go_ret
    exact ⟨rfl, Below.refl _ _⟩
  | true =>
    go_wp2_with fail
    refine (denyInputBytes_any W0.heap.size a c l x y z W0 HS.out Hx.out Hy.out Hz.out).mono ?_
    rintro e W1 ⟨r, rfl, hr0, hfew, rfl⟩
    by_cases hr : r ≤ 1048576
    · have hl : l.length ≤ 65536 := hfew hr
      clear hfew
      by_cases hneg : st < 0
      · go_wp2
        go_ret
        exact ⟨rfl, Below.refl _ _⟩
      · by_cases hbig : 65536 < st
        · go_wp2
          go_ret
          exact ⟨rfl, Below.refl _ _⟩
        · obtain ⟨m, rfl⟩ := Int.eq_ofNat_of_zero_le (by omega : 0 ≤ st)
          have hm : m ≤ 65536 := by omega
          have h30 : passed l.length 1073741824 = l.length := by unfold passed; rw [if_pos (by omega)]
          have ht30 : l.take (passed l.length 1073741824) = l := by rw [h30]; exact List.take_of_length_le (Nat.le_refl _)
          have hd30 : decide ((l.length : Int) ≤ 1073741824) = true := by simp; omega
          have Ht30 : Hid (l.take (passed l.length 1073741824) = l) := ht30
          have Hd30 : Hid (decide ((l.length : Int) ≤ 1073741824) = true) := hd30
          clear h30 ht30 hd30 hst0 hst1 hneg hbig hr0
          cases a with
          | none =>
            have hA := HS.out
            have hB := Below.refl W1.heap.size W1
            go_wp2_with fail
            have HA : Hid (SS W1.heap.size W1 none c l) := hA
            refine (newDenySet_any W1.heap.size none c l W1 HA.out (Nat.le_refl _) hl).mono ?_
            rintro e X1 ⟨rfl, ⟨v1, Ps1, hD1⟩, hbX1⟩
            have HD1 : Hid (DSet W1.heap.size X1 v1 Ps1 l) := hD1
            have HB1 : Hid (Below W1.heap.size W1 X1) := hB.trans (hbX1.mono hB.size)
            have HA1 : Hid (SS W1.heap.size X1 none c l) := HA.out.below hbX1
            have hlt1 := hD1.lt
            have hzB := hB.size
            clear hD1 hA hB HA hbX1
            go_wp2_with fail
            refine (denyYield_every W1.heap.size v1 Ps1 l 1073741824 x y z X1 HD1.out hl (by omega)).mono ?_
            rw [Ht30.out, Hd30.out]
            rintro e X2 ⟨f2, rfl, hown2, hb2⟩
            obtain ⟨a2, c2, rfl, hS2⟩ := SS_of_owns hown2 Hsz.out
            have hz2' := hb2.size
            have hc2 : l.length ≤ c2 := hS2.1
            have hc2m : c2 ≤ 9223372036854775807 := hS2.2.1
            have HS2 : Hid (SS X2.heap.size X2 a2 c2 l) := hS2
            have HD2 : Hid (DSet W1.heap.size X2 v1 Ps1 l) := HD1.out.below hb2
            have HA2 : Hid (SS W1.heap.size X2 none c l) := HA1.out.below (hb2.mono (by omega))
            have HB2 : Hid (Below W1.heap.size W1 X2) := HB1.out.trans (hb2.mono (by omega))
            clear hown2 hb2 hS2 HD1 HA1 HB1
            go_wp2_with fail
            refine (denyYield_every W1.heap.size v1 Ps1 l m x y z X2 HD2.out hl (by omega)).mono ?_
            rintro e X3 ⟨f3, rfl, hown3, hb3⟩
            obtain ⟨a3, c3, rfl, hS3⟩ := SS_of_owns hown3 (fun s h => Hsz.out s (List.mem_of_mem_take h))
            obtain ⟨K, hK⟩ : ∃ K, K = passed l.length m := ⟨_, rfl⟩
            have hKl : K ≤ l.length := by rw [hK]; unfold passed; split <;> omega
            have hKw : K = if (m : Int) + 1 < l.length then m + 1 else l.length := by rw [hK]; unfold passed; split <;> split <;> omega
            rw [← hK] at hS3
            rw [← hK]
            have hKlen : (l.take K).length = K := by rw [List.length_take]; omega
            rw [hKlen]
            have hz3' := hb3.size
            have HS3 : Hid (SS X3.heap.size X3 a3 c3 (l.take K)) := hS3
            have HKw : Hid (K = if (m : Int) + 1 < l.length then m + 1 else l.length) := hKw
            have HKlen : Hid ((l.take K).length = K) := hKlen
            have HS23 : Hid (SS X2.heap.size X3 a2 c2 l) := HS2.out.below hb3
            have HA3 : Hid (SS W1.heap.size X3 none c l) := HA2.out.below (hb3.mono (by omega))
            have HB3 : Hid (Below W1.heap.size W1 X3) := HB2.out.trans (hb3.mono (by omega))
            clear hown3 hb3 hS3 HD2 HA2 HB2 HS2 hK hKw hKlen
            go_wp2_with fail
            refine (newDenySet_any 0 none 0 [] X3 ⟨Nat.le_refl _, Nat.zero_le _, fun s h => by simp at h, .inl rfl⟩ (Nat.zero_le _) (by simp)).mono ?_
            rintro e X4 ⟨rfl, ⟨v4, Ps4, hD4⟩, hb4⟩
            have hlt4 := hD4.lt
            have hby4 := hD4.by_
            have hz4' := hb4.size
            have Hb4 : Hid (Below X3.heap.size X3 X4) := hb4
            have Hby4 : Hid (X4.cell? ⟨X3.heap.size, 1, none⟩ = some (.map none)) := hby4
            clear hD4 hb4 hby4
            go_wp2_with fail
            refine (denyYield_none X3.heap.size m x y z X4 hlt4 Hby4.out).mono ?_
            rintro e X5 ⟨⟨a5, c5, rfl⟩, hb5⟩
            have hz5' := hb5.size
            have hb35 : Below X3.heap.size X3 X5 := Hb4.out.trans (hb5.mono (by omega))
            have HS3' : Hid (SS X3.heap.size X5 a3 c3 (l.take K)) := HS3.out.below hb35
            have HS2' : Hid (SS X2.heap.size X5 a2 c2 l) := HS23.out.below (hb35.mono (by omega))
            have HA' : Hid (SS W1.heap.size X5 none c l) := HA3.out.below (hb35.mono (by omega))
            have HB' : Hid (Below W1.heap.size W1 X5) := HB3.out.trans (hb35.mono (by omega))
            clear hb5 hb35 HS3 HS23 HA3 HB3 Hb4 Hby4
            by_cases hC : m + 1 < l.length
            · have hKv : K = m + 1 := by rw [HKw.out, if_pos (by omega)]
              subst hKv
              clear HKw
              go_wp2_with fail
              refine (sameStrings_same X2.heap.size W1.heap.size a2 none c2 c l X5 HS2'.out HA'.out).mono ?_
              rintro e X6 ⟨rfl, n6, rfl⟩
              have H7 := sameStrings_same X3.heap.size X2.heap.size a3 a2 c3 c2 (l.take (m + 1)) (X5.drewN n6) HS3'.out (HS2'.out.take (m + 1))
              rw [HKlen.out] at H7
              have HH7 : Hid (Calls Try.prog 16 #[.slice a3 (m + 1) c3, .slice a2 (m + 1) c2] (X5.drewN n6) fun e w' => e = .returned (.bool true) ∧ ∃ n, w' = (X5.drewN n6).drewN n) := H7
              clear H7
              go_wp2_with fail
              refine HH7.out.mono ?_
              rintro e X8 ⟨rfl, n8, rfl⟩
              go_wp2
              go_ret
              exact ⟨by simp, HB'.out.trans ⟨rfl, rfl, rfl, Nat.le_refl _, fun _ _ => rfl⟩⟩
            · have hKv : K = l.length := by rw [HKw.out, if_neg (by omega)]
              subst hKv
              have hT : l.take l.length = l := List.take_of_length_le (Nat.le_refl _)
              rw [hT] at HS3'
              clear HKw HKlen hT
              go_wp2_with fail
              refine (sameStrings_same X2.heap.size W1.heap.size a2 none c2 c l X5 HS2'.out HA'.out).mono ?_
              rintro e X6 ⟨rfl, n6, rfl⟩
              have H7 := sameStrings_same X3.heap.size X2.heap.size a3 a2 c3 c2 l (X5.drewN n6) HS3'.out HS2'.out
              have HH7 : Hid (Calls Try.prog 16 #[.slice a3 l.length c3, .slice a2 l.length c2] (X5.drewN n6) fun e w' => e = .returned (.bool true) ∧ ∃ n, w' = (X5.drewN n6).drewN n) := H7
              clear H7
              go_wp2_with fail
              refine HH7.out.mono ?_
              rintro e X8 ⟨rfl, n8, rfl⟩
              go_wp2
              go_ret
              exact ⟨by simp, HB'.out.trans ⟨rfl, rfl, rfl, Nat.le_refl _, fun _ _ => rfl⟩⟩
          | some ad =>
            go_wp2_with (at_make; refine wpList_make_full _ rfl _ _ 34 rfl W1.heap.size 9 i0 (.string ByteArray.empty) 1 Try.underlying34 hi hz0 hz1 _ _ _ _ l.length rfl rfl rfl rfl ?c1 ?c2 ?c3 ?_)
            case c1 => rw [hz2]; omega
            case c2 => unfold maxLen; omega
            case c3 => exact Nat.le_refl _
            intro w1 hown1 hg1
            have hb1 : Below W1.heap.size W1 w1 := (Below.refl _ _).grown hg1 (Nat.le_refl _) (fun k hk => by cases hk)
            obtain ⟨cur, hcl, hrow⟩ : ∃ cur : List Value, cur.length = l.length ∧ w1.heap[W1.heap.size]? = some (.cells cur.toArray 9 (0, 0)) := by
              rcases hown1.2 with ⟨h, _⟩ | ⟨g, cap, cur, hv, _, hg, _, _, hs, _⟩
              · cases h
              · cases hv
                exact ⟨cur.toList, by simpa using hs, by simpa using hg⟩
            clear hown1 hg1
            have Hrow : Hid (w1.heap[W1.heap.size]? = some (.cells cur.toArray 9 (0, 0))) := hrow
            have Hcl : Hid (cur.length = l.length) := hcl
            obtain ⟨cs, hcs⟩ : ∃ cs, cs = strs l := ⟨_, rfl⟩
            have Hcs : Hid (cs = strs l) := hcs
            clear hcl hrow hcs
            go_wp2_with (refine wpList_copy_splice rfl (.tmp 44) (.tmp 45) 34 34 rfl 9 Try.underlying34 hsz1 _ _ _ _ _ _ rfl rfl W1.heap.size 0 cur 9 Hrow.out cs ?d1 ?d2 ?d3 ?d4 W1.heap.size W1 hb1 (Nat.le_refl _) ?_)
            case d1 => rw [Hcs.out, strs_length]; exact (Nat.min_self _).symm
            case d2 =>
              intro h0 j v hj
              exact src_of HS.out hb1 j v (by rw [← Hcs.out]; exact hj)
            case d3 => rw [Hcs.out, strs_length, Hcl.out]; omega
            case d4 =>
              intro u hu
              rw [Hcs.out] at hu
              simp only [strs, List.mem_map] at hu
              obtain ⟨b, _, rfl⟩ := hu
              rfl
            intro w2 HG2 hB
            have hsp : splice cur 0 cs = strs l := by
              rw [Hcs.out]
              simp only [splice, List.take_zero, List.nil_append]
              rw [List.drop_eq_nil_of_le (by rw [strs_length, Hcl.out]; omega), List.append_nil]
            have hg2 := HG2.out
            rw [hsp] at hg2
            have hA : SS w2.heap.size w2 (some ⟨W1.heap.size, 0, none⟩) l.length l := by
              refine ⟨Nat.le_refl _, by unfold maxLen; omega, Hsz.out, .inr ⟨W1.heap.size, 0, rfl, (Array.getElem?_eq_some_iff.1 hg2).1, fun j hj => ?_⟩⟩
              rw [cell_of_row w2 W1.heap.size (0 + j) _ 9 (0, 0) hg2]
              simp [strs, List.getElem?_eq_getElem hj]
            clear hg2 hsp HG2 Hrow Hcl Hcs hb1
            go_wp2_with fail
            have HA : Hid (SS w2.heap.size w2 (some ⟨W1.heap.size, 0, none⟩) l.length l) := hA
            refine (newDenySet_any w2.heap.size (some ⟨W1.heap.size, 0, none⟩) l.length l w2 HA.out (Nat.le_refl _) hl).mono ?_
            rintro e X1 ⟨rfl, ⟨v1, Ps1, hD1⟩, hbX1⟩
            have HD1 : Hid (DSet w2.heap.size X1 v1 Ps1 l) := hD1
            have HB1 : Hid (Below W1.heap.size W1 X1) := hB.trans (hbX1.mono hB.size)
            have HA1 : Hid (SS w2.heap.size X1 (some ⟨W1.heap.size, 0, none⟩) l.length l) := HA.out.below hbX1
            have hlt1 := hD1.lt
            have hzB := hB.size
            clear hD1 hA hB HA hbX1
            go_wp2_with fail
            refine (denyYield_every w2.heap.size v1 Ps1 l 1073741824 x y z X1 HD1.out hl (by omega)).mono ?_
            rw [Ht30.out, Hd30.out]
            rintro e X2 ⟨f2, rfl, hown2, hb2⟩
            obtain ⟨a2, c2, rfl, hS2⟩ := SS_of_owns hown2 Hsz.out
            have hz2' := hb2.size
            have hc2 : l.length ≤ c2 := hS2.1
            have hc2m : c2 ≤ 9223372036854775807 := hS2.2.1
            have HS2 : Hid (SS X2.heap.size X2 a2 c2 l) := hS2
            have HD2 : Hid (DSet w2.heap.size X2 v1 Ps1 l) := HD1.out.below hb2
            have HA2 : Hid (SS w2.heap.size X2 (some ⟨W1.heap.size, 0, none⟩) l.length l) := HA1.out.below (hb2.mono (by omega))
            have HB2 : Hid (Below W1.heap.size W1 X2) := HB1.out.trans (hb2.mono (by omega))
            clear hown2 hb2 hS2 HD1 HA1 HB1
            go_wp2_with fail
            refine (denyYield_every w2.heap.size v1 Ps1 l m x y z X2 HD2.out hl (by omega)).mono ?_
            rintro e X3 ⟨f3, rfl, hown3, hb3⟩
            obtain ⟨a3, c3, rfl, hS3⟩ := SS_of_owns hown3 (fun s h => Hsz.out s (List.mem_of_mem_take h))
            obtain ⟨K, hK⟩ : ∃ K, K = passed l.length m := ⟨_, rfl⟩
            have hKl : K ≤ l.length := by rw [hK]; unfold passed; split <;> omega
            have hKw : K = if (m : Int) + 1 < l.length then m + 1 else l.length := by rw [hK]; unfold passed; split <;> split <;> omega
            rw [← hK] at hS3
            rw [← hK]
            have hKlen : (l.take K).length = K := by rw [List.length_take]; omega
            rw [hKlen]
            have hz3' := hb3.size
            have HS3 : Hid (SS X3.heap.size X3 a3 c3 (l.take K)) := hS3
            have HKw : Hid (K = if (m : Int) + 1 < l.length then m + 1 else l.length) := hKw
            have HKlen : Hid ((l.take K).length = K) := hKlen
            have HS23 : Hid (SS X2.heap.size X3 a2 c2 l) := HS2.out.below hb3
            have HA3 : Hid (SS w2.heap.size X3 (some ⟨W1.heap.size, 0, none⟩) l.length l) := HA2.out.below (hb3.mono (by omega))
            have HB3 : Hid (Below W1.heap.size W1 X3) := HB2.out.trans (hb3.mono (by omega))
            clear hown3 hb3 hS3 HD2 HA2 HB2 HS2 hK hKw hKlen
            go_wp2_with fail
            refine (newDenySet_any 0 none 0 [] X3 ⟨Nat.le_refl _, Nat.zero_le _, fun s h => by simp at h, .inl rfl⟩ (Nat.zero_le _) (by simp)).mono ?_
            rintro e X4 ⟨rfl, ⟨v4, Ps4, hD4⟩, hb4⟩
            have hlt4 := hD4.lt
            have hby4 := hD4.by_
            have hz4' := hb4.size
            have Hb4 : Hid (Below X3.heap.size X3 X4) := hb4
            have Hby4 : Hid (X4.cell? ⟨X3.heap.size, 1, none⟩ = some (.map none)) := hby4
            clear hD4 hb4 hby4
            go_wp2_with fail
            refine (denyYield_none X3.heap.size m x y z X4 hlt4 Hby4.out).mono ?_
            rintro e X5 ⟨⟨a5, c5, rfl⟩, hb5⟩
            have hz5' := hb5.size
            have hb35 : Below X3.heap.size X3 X5 := Hb4.out.trans (hb5.mono (by omega))
            have HS3' : Hid (SS X3.heap.size X5 a3 c3 (l.take K)) := HS3.out.below hb35
            have HS2' : Hid (SS X2.heap.size X5 a2 c2 l) := HS23.out.below (hb35.mono (by omega))
            have HA' : Hid (SS w2.heap.size X5 (some ⟨W1.heap.size, 0, none⟩) l.length l) := HA3.out.below (hb35.mono (by omega))
            have HB' : Hid (Below W1.heap.size W1 X5) := HB3.out.trans (hb35.mono (by omega))
            clear hb5 hb35 HS3 HS23 HA3 HB3 Hb4 Hby4
            by_cases hC : m + 1 < l.length
            · have hKv : K = m + 1 := by rw [HKw.out, if_pos (by omega)]
              subst hKv
              clear HKw
              go_wp2_with fail
              refine (sameStrings_same X2.heap.size w2.heap.size a2 (some ⟨W1.heap.size, 0, none⟩) c2 l.length l X5 HS2'.out HA'.out).mono ?_
              rintro e X6 ⟨rfl, n6, rfl⟩
              have H7 := sameStrings_same X3.heap.size X2.heap.size a3 a2 c3 c2 (l.take (m + 1)) (X5.drewN n6) HS3'.out (HS2'.out.take (m + 1))
              rw [HKlen.out] at H7
              have HH7 : Hid (Calls Try.prog 16 #[.slice a3 (m + 1) c3, .slice a2 (m + 1) c2] (X5.drewN n6) fun e w' => e = .returned (.bool true) ∧ ∃ n, w' = (X5.drewN n6).drewN n) := H7
              clear H7
              go_wp2_with fail
              refine HH7.out.mono ?_
              rintro e X8 ⟨rfl, n8, rfl⟩
              go_wp2
              go_ret
              exact ⟨by simp, HB'.out.trans ⟨rfl, rfl, rfl, Nat.le_refl _, fun _ _ => rfl⟩⟩
            · have hKv : K = l.length := by rw [HKw.out, if_neg (by omega)]
              subst hKv
              have hT : l.take l.length = l := List.take_of_length_le (Nat.le_refl _)
              rw [hT] at HS3'
              clear HKw HKlen hT
              go_wp2_with fail
              refine (sameStrings_same X2.heap.size w2.heap.size a2 (some ⟨W1.heap.size, 0, none⟩) c2 l.length l X5 HS2'.out HA'.out).mono ?_
              rintro e X6 ⟨rfl, n6, rfl⟩
              have H7 := sameStrings_same X3.heap.size X2.heap.size a3 a2 c3 c2 l (X5.drewN n6) HS3'.out HS2'.out
              have HH7 : Hid (Calls Try.prog 16 #[.slice a3 l.length c3, .slice a2 l.length c2] (X5.drewN n6) fun e w' => e = .returned (.bool true) ∧ ∃ n, w' = (X5.drewN n6).drewN n) := H7
              clear H7
              go_wp2_with fail
              refine HH7.out.mono ?_
              rintro e X8 ⟨rfl, n8, rfl⟩
              go_wp2
              go_ret
              exact ⟨by simp, HB'.out.trans ⟨rfl, rfl, rfl, Nat.le_refl _, fun _ _ => rfl⟩⟩
    · clear hfew
      go_wp2
      go_ret
      exact ⟨rfl, Below.refl _ _⟩
end Go.Proofs.Qxb6614642a
