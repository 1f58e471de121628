/-
  SEAT b6614810a: the walk of FnScratchSetsAreEmptySizedAndDisjoint (function 3).
-/
import Derived.Test.Qxb6614810aSets
namespace Go.Proofs.Qxb6614810a
open Go.RowKit
set_option linter.unusedVariables false

/-- The q words at g, us. -/
def Words (w : World) (g us q : Nat) (val : Nat → Int) : Prop := ∀ l, l < q → w.cell? ⟨g, us + l, none⟩ = some (.int .u64 (val l)) ∧ w.frozen? ⟨g, us + l, none⟩ = false

theorem words_put {w : World} {g us q l : Nat} {x : Int} (hl : l < q) (h : Words w g us q (upto (fun _ => x) l)) : Words (w.setCell ⟨g, us + l, none⟩ (.int .u64 x)) g us q (upto (fun _ => x) (l + 1)) :=
  mine_put hl h _ (by simp [upto]) (fun i hi => by
    have : (i < l + 1) ↔ (i < l) := by omega
    simp [upto, this])

theorem words_full {w : World} {g us q : Nat} {x : Int} (h : Words w g us q (upto (fun _ => x) q)) : ∀ l, l < q → w.cell? ⟨g, us + l, none⟩ = some (.int .u64 x) ∧ w.frozen? ⟨g, us + l, none⟩ = false := by
  intro l hl
  have := h l hl
  simpa [upto, hl] using this

set_option maxRecDepth 100000 in
set_option maxHeartbeats 4000000 in
theorem walk3 (a0 : Option Addr) (len0 cap0 : Nat) (z0 : Nat → Int) (a1 : Int) (a2 : Option Addr) (len2 cap2 : Nat) (z2 : Nat → Int) (w : World) (h0 : Row .u64 w a0 len0 z0) (h2 : Row .i64 w a2 len2 z2) (hm0 : len0 ≤ maxLen) (hm2 : len2 ≤ maxLen) (w1 : (Lit.int .i64 a1).wf = true) :
    Calls Try.prog 3 #[.slice a0 len0 cap0, .int .i64 a1, .slice a2 len2 cap2] w fun e w' => e = .returned (.bool true) ∧ Below w.heap.size w w' := by
  have H0 : Hid (Row .u64 w a0 len0 z0) := h0
  have H2 : Hid (Row .i64 w a2 len2 z2) := h2
  have Q := zzBytes8_any a0 a2 a1 len0 len2 cap0 cap2 w hm0 hm2
  clear h0 h2
  unfold maxLen at hm0 hm2
  by_cases hb : len0 + len2 ≤ 1048576
  · have hd : decide (len0 + len2 ≤ 1048576) = true := by simp [hb]
    rw [hd] at Q
    have HQ : Hid _ := Q
    clear Q hd
    by_cases h65 : len0 ≤ 65536
    · by_cases h40 : len2 ≤ 4096
      · by_cases hu : 0 ≤ a1
        · obtain ⟨u0, rfl⟩ : ∃ u : Nat, a1 = u := ⟨a1.toNat, by omega⟩
          by_cases hu1 : u0 ≤ len0
          · clear hb hm0 hm2 w1 hu
            go_enter Try.func3, Try.ntmps3
            go_wp2_with fail
            refine Calls.mono HQ.out ?_
            rintro e wx ⟨rfl, hwx⟩; obtain rfl : w = wx := hwx.symm
            clear HQ
            go_wp2
            go_loop [7, 8] (fun t i => ∃ (k : Nat), k ≤ len2 ∧ i = .int .i64 k ∧ t = .int .i64 (sumTo z2 k) ∧ 0 ≤ sumTo z2 k ∧ sumTo z2 k ≤ 67108864 ∧ Hid (InRange z2 k)) (fun _ i => len2 - (intOf i).toNat)
            case atStart => exact ⟨0, Nat.zero_le _, rfl, rfl, by simp [sumTo], by simp [sumTo], fun j hj => by omega⟩
            case round =>
              obtain ⟨k, hk, rfl, rfl, hs0, hs1, hr⟩ := hrel
              by_cases hlt : k < len2
              · rcases H2.out with ⟨_, h⟩ | ⟨x, rfl, hc⟩
                · omega
                have hck := hc k hlt
                clear hc
                generalize hz : z2 k = zk at *
                generalize hsu : sumTo z2 k = su at *
                have Hz : Hid (z2 k = zk) := hz
                have Hsu : Hid (sumTo z2 k = su) := hsu
                clear hz hsu
                by_cases hz0 : zk < 0
                · go_wp2
                  go_ret
                  exact ⟨rfl, Below.refl _ _⟩
                · by_cases hz1 : zk ≤ 65536
                  · by_cases hz2 : su + zk ≤ 67108864
                    · go_wp2
                      go_round
                      case rel =>
                        have e : sumTo z2 (k + 1) = su + zk := by show sumTo z2 k + z2 k = _; rw [Hsu.out, Hz.out]
                        refine ⟨k + 1, by omega, by go_num, by rw [e], by omega, by omega, fun j hj => ?_⟩
                        by_cases hjk : j = k
                        · rw [hjk, Hz.out]; omega
                        · exact hr.out j (by omega)
                      case measure => simp [intOf]; omega
                    · go_wp2
                      go_ret
                      exact ⟨rfl, Below.refl _ _⟩
                  · go_wp2
                    go_ret
                    exact ⟨rfl, Below.refl _ _⟩
              · have hkl : k = len2 := by omega
                subst hkl
                clear hlt hk
                have Hs1 : Hid (sumTo z2 k ≤ 67108864) := hs1
                clear hs0 hs1
                go_wp2_with fail
                refine (clone_any a0 len0 cap0 z0 w h65 H0.out).mono ?_
                rintro e W1 ⟨b2, rfl, hcl1⟩
                have Hcl1 : Hid (Cloned w W1 b2 len0 z0) := hcl1
                clear hcl1
                go_wp2_with fail
                refine (newScratch_any b2 len0 u0 W1 hu1 (newScratch_clone Hcl1.out)).mono ?_
                rintro e W2 ⟨rfl, hsl, hb2⟩
                have Hsl : Hid (Slab W1.heap.size W2 b2 len0 u0) := hsl
                have Hb2 : Hid (Below W1.heap.size W1 W2) := hb2
                clear hsl hb2
                obtain ⟨i0, hi, hi0, hi1, hi2⟩ := info_parts info22
                go_wp2_with (at_make; refine wpList_make_full _ rfl _ _ 28 rfl W2.heap.size 22 i0 (.slice none 0 0) 1 Try.underlying28 hi hi0 hi1 _ _ _ _ k rfl rfl rfl rfl ?c1 ?c2 ?c3 ?_)
                case c1 => rw [hi2]; omega
                case c2 => unfold maxLen; omega
                case c3 => exact Nat.le_refl _
                intro W3 hown hg
                obtain ⟨hb3, hlt3, hrow3⟩ := row_made hown hg
                have Hinv : Hid (Inv7 w.heap.size W1.heap.size W2.heap.size k z2 w W3 b2 len0 u0 u0 0) := inv7_start h65 Hcl1.out Hsl.out Hb2.out hb3 hlt3 hrow3
                clear hown hg hb3 hlt3 hrow3 hi hi0 hi1 hi2 Hsl Hb2
                generalize W1.heap.size = S at *
                generalize W2.heap.size = T at *
                go_wp2
                go_loopw [11] (fun i wr => ∃ (j : Nat) (a : Option Addr) (ml : Nat), j ≤ k ∧ i = .int .i64 j ∧ Hid (Inv7 w.heap.size S T k z2 w wr a ml (usedTo u0 z2 j) (usedTo u0 z2 j) j)) (fun i _ => k - (intOf i).toNat)
                case atStart => exact ⟨0, b2, len0, Nat.zero_le _, rfl, Hinv⟩
                case round =>
                  obtain ⟨j, a, ml, hj, rfl, hinv⟩ := hrel
                  clear Hinv
                  by_cases hlt : j < k
                  · have hr2 := H2.out.below (w' := wr) hinv.out.below
                    rcases hr2 with ⟨_, h⟩ | ⟨x, rfl, hc⟩
                    · omega
                    have hcj := hc j hlt
                    clear hc
                    obtain ⟨hz0, hz1⟩ := hr.out j hlt
                    have hbd := usedTo_bound u0 z2 k j (by omega) h40 hj hr.out Hs1.out
                    have hnx : usedTo u0 z2 (j + 1) = usedTo u0 z2 j + ((z2 j).toNat + 63) / 64 := rfl
                    have hko : kOf z2 j = ((z2 j).toNat + 63) / 64 := rfl
                    obtain ⟨m, hm⟩ : ∃ m : Nat, z2 j = m := ⟨(z2 j).toNat, by omega⟩
                    rw [hm] at hcj hnx hz1 hko
                    have Hnx : Hid (usedTo u0 z2 (j + 1) = usedTo u0 z2 j + (m + 63) / 64) := hnx
                    have Hko : Hid (kOf z2 j = (m + 63) / 64) := hko
                    clear hnx hz0 hm hko
                    generalize hq : (m + 63) / 64 = q at *
                    have hq1 : m ≤ 64 * q := by omega
                    have hq2 : 64 * q ≤ m + 63 := by omega
                    have Hq : Hid (q = (m + 63) / 64) := hq.symm
                    clear hq
                    generalize hus : usedTo u0 z2 j = us at *
                    go_wp2_with fail
                    refine (scratchSet_any w.heap.size S a ml us m q wr hinv.out.slab hinv.out.cap (by omega) Hq.out (by omega) hinv.out.le hinv.out.at').mono ?_
                    rintro e W4 ⟨va, a', ml', rfl, hset⟩
                    obtain ⟨hI, hM⟩ := hinv.out.take hset
                    have HI : Hid (Inv7 w.heap.size S T k z2 w W4 a' ml' (us + q) us j) := hI
                    clear hset hinv hI
                    clear hcj
                    rcases Nat.eq_zero_or_pos q with hq0 | hq0
                    · subst hq0
                      have Hn : ∀ X, X = W4.setCell ⟨T, j, none⟩ (.slice va 0 0) → Inv7 w.heap.size S T k z2 w X a' ml' (usedTo u0 z2 (j + 1)) (usedTo u0 z2 (j + 1)) (j + 1) := by
                        rintro X rfl
                        rw [Hnx.out]
                        exact HI.out.lay (.inl rfl) Hko.out hlt
                      have HN : Hid _ := Hn
                      obtain ⟨u, hu⟩ := Option.isSome_iff_exists.1 (HI.out.row j hlt).1
                      have hf := (HI.out.row j hlt).2
                      clear Hn hM
                      go_wp2
                      go_loop [15] (fun i => i = .int .i64 0) (fun _ => 0)
                      case atStart => rfl
                      case round =>
                        obtain rfl := hrel
                        go_wp2
                        go_loop [17] (fun i => i = .int .i64 0) (fun _ => 0)
                        case atStart => rfl
                        case round =>
                          obtain rfl := hrel
                          go_wp2
                          go_roundw
                          case rel => exact ⟨j + 1, a', ml', by omega, by go_num, HN.out _ rfl⟩
                          case measure => simp [intOf]; omega
                    · obtain ⟨g, rfl, rfl, hgB, hgS, hgT, hc⟩ : ∃ g, va = some ⟨g, us, none⟩ ∧ a' = some ⟨g, 0, none⟩ ∧ w.heap.size ≤ g ∧ g ≠ S ∧ g ≠ T ∧ Words W4 g us q (fun _ => 0) := by
                        rcases hM with h | h
                        · omega
                        · exact h
                      clear hM
                      have Hc : Hid (Words W4 g us q (fun _ => 0)) := hc
                      clear hc
                      go_wp2
                      go_loop [15] (fun i => ∃ l : Nat, l ≤ q ∧ i = .int .i64 l) (fun i => q - (intOf i).toNat)
                      case atStart => exact ⟨0, Nat.zero_le _, rfl⟩
                      case round =>
                        obtain ⟨l, hl, rfl⟩ := hrel
                        by_cases hlq : l < q
                        · have hcl := (Hc.out l hlq).1
                          go_wp2
                          go_round
                          case rel => exact ⟨l + 1, by omega, by go_num⟩
                          case measure => simp [intOf]; omega
                        · go_wp2
                          go_loopw [17] (fun i wx => ∃ l : Nat, l ≤ q ∧ i = .int .i64 l ∧ Hid (Inv7 w.heap.size S T k z2 w wx (some ⟨g, 0, none⟩) ml' (us + q) us j) ∧ Hid (Words wx g us q (upto (fun _ => (j : Int) + 1) l))) (fun i _ => q - (intOf i).toNat)
                          case atStart => exact ⟨0, Nat.zero_le _, rfl, HI, Hc⟩
                          case round =>
                            obtain ⟨l, hl, rfl, hI, hW⟩ := hrel
                            by_cases hlq : l < q
                            · have hcl := (hW.out l hlq).1
                              have hfl := (hW.out l hlq).2
                              go_wp2
                              go_roundw
                              case rel => exact ⟨l + 1, by omega, by go_num, hI.out.mark rfl hgB hgS hgT hlq, words_put hlq hW.out⟩
                              case measure => simp [intOf]; omega
                            · have hlq' : l = q := by omega
                              subst hlq'
                              have Hn : ∀ X, X = wr.setCell ⟨T, j, none⟩ (.slice (some ⟨g, us, none⟩) l l) → Inv7 w.heap.size S T k z2 w X (some ⟨g, 0, none⟩) ml' (usedTo u0 z2 (j + 1)) (usedTo u0 z2 (j + 1)) (j + 1) := by
                                rintro X rfl
                                rw [Hnx.out]
                                exact hI.out.lay (.inr ⟨g, rfl, rfl, hgB, hgS, hgT, words_full hW.out⟩) Hko.out hlt
                              have HN : Hid _ := Hn
                              obtain ⟨u, hu⟩ := Option.isSome_iff_exists.1 (hI.out.row j hlt).1
                              have hf := (hI.out.row j hlt).2
                              clear Hn
                              go_wp2
                              go_roundw
                              case rel => exact ⟨j + 1, _, ml', by omega, by go_num, HN.out _ rfl⟩
                              case measure => simp [intOf]; omega
                  · have hjk : j = k := by omega
                    subst hjk
                    go_wp2
                    go_loop [18] (fun i => ∃ l : Nat, l ≤ j ∧ i = .int .i64 l) (fun i => j - (intOf i).toNat)
                    case atStart => exact ⟨0, Nat.zero_le _, rfl⟩
                    case round =>
                      obtain ⟨l, hl, rfl⟩ := hrel
                      by_cases hlj : l < j
                      · obtain ⟨v, hv, va, rfl, hset⟩ := hinv.out.sets l hlj
                        have hkb : kOf z2 l ≤ 2000 := by
                          have := (hr.out l hlj).2
                          unfold kOf; omega
                        generalize kOf z2 l = q at *
                        have Hset : Hid _ := hset
                        clear hset
                        go_wp2
                        go_loop [20] (fun i => ∃ o : Nat, o ≤ q ∧ i = .int .i64 o) (fun i => q - (intOf i).toNat)
                        case atStart => exact ⟨0, Nat.zero_le _, rfl⟩
                        case round =>
                          obtain ⟨o, ho, rfl⟩ := hrel
                          by_cases hoq : o < q
                          · rcases Hset.out with h | ⟨b, f, rfl, _, _, _, hc⟩
                            · omega
                            have hcl := hc o hoq
                            clear hc
                            go_wp2
                            go_round
                            case rel => exact ⟨o + 1, by omega, by go_num⟩
                            case measure => simp [intOf]; omega
                          · go_wp2
                            go_round
                            case rel => exact ⟨l + 1, by omega, by go_num⟩
                            case measure => simp [intOf]; omega
                      · go_wp2
                        go_ret
                        exact ⟨rfl, hinv.out.below⟩
          · go_enter Try.func3, Try.ntmps3
            go_wp2_with fail
            refine Calls.mono HQ.out ?_
            rintro e wx ⟨rfl, hwx⟩; obtain rfl : w = wx := hwx.symm
            go_wp2
            go_ret
            exact ⟨rfl, Below.refl _ _⟩
        · go_enter Try.func3, Try.ntmps3
          go_wp2_with fail
          refine Calls.mono HQ.out ?_
          rintro e wx ⟨rfl, hwx⟩; obtain rfl : w = wx := hwx.symm
          go_wp2
          go_ret
          exact ⟨rfl, Below.refl _ _⟩
      · go_enter Try.func3, Try.ntmps3
        go_wp2_with fail
        refine Calls.mono HQ.out ?_
        rintro e wx ⟨rfl, hwx⟩; obtain rfl : w = wx := hwx.symm
        go_wp2
        go_ret
        exact ⟨rfl, Below.refl _ _⟩
    · go_enter Try.func3, Try.ntmps3
      go_wp2_with fail
      refine Calls.mono HQ.out ?_
      rintro e wx ⟨rfl, hwx⟩; obtain rfl : w = wx := hwx.symm
      go_wp2
      go_ret
      exact ⟨rfl, Below.refl _ _⟩
  · have hd : decide (len0 + len2 ≤ 1048576) = false := by simp; omega
    rw [hd] at Q
    have HQ : Hid _ := Q
    clear Q hd
    go_enter Try.func3, Try.ntmps3
    go_wp2_with fail
    refine Calls.mono HQ.out ?_
    rintro e wx ⟨rfl, hwx⟩; obtain rfl : w = wx := hwx.symm
    go_wp2
    go_ret
    exact ⟨rfl, Below.refl _ _⟩
end Go.Proofs.Qxb6614810a
