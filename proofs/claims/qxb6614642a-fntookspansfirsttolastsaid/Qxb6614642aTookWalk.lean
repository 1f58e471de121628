/-
  SEAT b6614642a: the walk of the law FnTookSpansFirstToLast.
-/
import Derived.Test.Qxb6614642aTook
namespace Go.Proofs.Qxb6614642a
open Go.RowKit
set_option linter.unusedVariables false

set_option maxRecDepth 100000 in
set_option maxHeartbeats 1000000 in
theorem tookWalk (s0 e0 : Int) (a : Option Addr) (len cap : Nat) (fs ts : Nat → Int) (w : World) (hS : Steps w.heap.size w a len fs ts) (hl : len ≤ maxLen) :
    Calls Try.prog 3 #[.int .i64 s0, .int .i64 e0, .slice a len cap] w fun r w' => r = .returned (.bool true) ∧ Below w.heap.size w w' := by
  by_cases hbig : len ≤ 65536
  · have hb2 : len ≤ 1048576 := by omega
    have HS : Hid (Steps w.heap.size w a len fs ts) := hS
    clear hS
    go_enter Try.func3, Try.ntmps3
    go_wp2_with fail
    refine (zzBytes_any s0 e0 a len cap w hl).mono ?_
    rw [decide_eq_true hb2]
    rintro e W0 ⟨rfl, rfl⟩
    go_wp2_with fail
    refine (newPending_any s0 e0 W0).mono ?_
    rintro e W1 ⟨rfl, hP1, hb1⟩
    have HP1 : Hid (Pend W0.heap.size W1 s0 e0) := hP1
    clear hP1
    go_wp2_with fail
    go_loopw [8] (fun i wr => ∃ k : Nat, k ≤ len ∧ i = .int .i64 k ∧ Pend W0.heap.size wr (startAt s0 fs k) (endAt e0 ts k) ∧ Below W0.heap.size W0 wr) (fun i _ => len - (intOf i).toNat)
    case atStart => exact ⟨0, Nat.zero_le _, rfl, HP1.out, hb1⟩
    case round =>
      obtain ⟨k, hk, rfl, hP, hb⟩ := hrel
      have HP : Hid (Pend W0.heap.size wr (startAt s0 fs k) (endAt e0 ts k)) := hP
      have HSr := HS.out.below hb
      clear hP
      by_cases hlt : k < len
      · rcases HSr with h0 | ⟨g, o, rfl, hg, hc⟩
        · omega
        obtain ⟨hcf, hct⟩ := hc k hlt
        clear hc
        go_wp2_with fail
        refine (newReader_any (ts k) wr).mono ?_
        rintro e W2 ⟨rfl, ob, rfl, hR⟩
        have hb2' := hb.alloc hb.size ob
        have hcf2 : (wr.alloc ob).cell? ⟨g, o + k * 2, none⟩ = some (.int .i64 (fs k)) := by
          rw [World.cell?_alloc_lt _ _ _ (by have := hb.size; show g < _; omega)]; exact hcf
        have HP2 := HP.out.alloc ob
        have HP2' : Hid (Pend W0.heap.size (wr.alloc ob) (startAt s0 fs k) (endAt e0 ts k)) := HP2
        have HR' : Hid ((wr.alloc ob).cell? ⟨wr.heap.size, 1, none⟩ = some (.int .i64 (ts k))) := hR
        generalize hW : wr.alloc ob = W2 at *
        clear hW HP2 hR hcf hct
        go_wp2_with fail
        refine (zzTook_any W0.heap.size wr.heap.size _ _ (ts k) (fs k) W2 HP2'.out HR'.out).mono ?_
        rintro e W3 ⟨rfl, hP3, hb3⟩
        have HP3 : Hid (Pend W0.heap.size W3 (stepStart (startAt s0 fs k) (fs k)) (ts k)) := hP3
        clear hP3
        go_wp2
        go_roundw
        case rel => exact ⟨k + 1, by omega, by go_num, HP3.out, hb2'.trans hb3⟩
        case measure => simp [intOf]; omega
      · have hkl : k = len := by omega
        subst hkl
        clear hlt hk hl
        have bel : ∀ n, Below W0.heap.size W0 (wr.drewN n) := fun n => hb.trans ⟨rfl, rfl, rfl, Nat.le_refl _, fun _ _ => rfl⟩
        have Hbel : Hid (∀ n, Below W0.heap.size W0 (wr.drewN n)) := bel
        clear bel
        cases k with
        | zero =>
          have HP0 : Hid (Pend W0.heap.size wr s0 e0) := HP
          clear HP HSr
          by_cases hs0 : s0 < 0
          · go_wp2_with fail
            refine (span_any W0.heap.size _ _ wr HP0.out).mono ?_
            rintro e W2 ⟨rfl, n2, rfl⟩
            go_wp2_with fail
            refine (first_any W0.heap.size a 0 cap fs ts (wr.drewN n2) (.inl rfl) (by omega)).mono ?_
            rintro e W3 ⟨j, rfl, hj, rfl⟩
            have hj1 : j = -1 := by
              rcases hj with ⟨h, _⟩ | ⟨_, _, h, _⟩
              · exact h
              · omega
            subst hj1
            clear hj
            go_wp2
            go_ret
            exact ⟨rfl, Hbel.out n2⟩
          · go_wp2_with fail
            refine (span_any W0.heap.size _ _ wr HP0.out).mono ?_
            rintro e W2 ⟨rfl, n2, rfl⟩
            go_wp2
            go_ret
            exact ⟨rfl, Hbel.out n2⟩
        | succ m =>
          rcases HSr with h0 | ⟨g, o, rfl, hg, hc⟩
          · omega
          have HP0 : Hid (Pend W0.heap.size wr (startAt s0 fs (m + 1)) (ts m)) := HP
          clear HP
          have Hc : Hid (∀ i, i < m + 1 → wr.cell? ⟨g, o + i * 2, none⟩ = some (.int .i64 (fs i)) ∧ wr.cell? ⟨g, o + i * 2 + 1, none⟩ = some (.int .i64 (ts i))) := hc
          obtain ⟨hcf, hct⟩ := hc m (by omega)
          clear hc
          by_cases hs0 : s0 < 0
          · generalize hS : startAt s0 fs (m + 1) = S at *
            have HSeq : Hid (startAt s0 fs (m + 1) = S) := hS
            clear hS
            go_wp2_with fail
            refine (span_any W0.heap.size _ _ wr HP0.out).mono ?_
            rintro e W2 ⟨rfl, n2, rfl⟩
            have HSd : Hid (Steps W0.heap.size (wr.drewN n2) (some ⟨g, o, none⟩) (m + 1) fs ts) := HS.out.below (Hbel.out n2)
            go_wp2_with fail
            refine (first_any W0.heap.size (some ⟨g, o, none⟩) (m + 1) cap fs ts (wr.drewN n2) HSd.out hb2).mono ?_
            rintro e W3 ⟨j, rfl, hj, rfl⟩
            rcases hj with ⟨rfl, hneg⟩ | ⟨j, rfl, hjk, hj0, hneg⟩
            · have hSv : S = fs m := by rw [← HSeq.out]; exact (startAt_neg s0 fs hs0 (m + 1) hneg).2 (by omega)
              clear HP0 HSeq hneg
              subst hSv
              go_wp2
              go_ret
              exact ⟨rfl, Hbel.out n2⟩
            · have hSv : S = fs j := by rw [← HSeq.out]; exact startAt_first s0 fs hs0 j hj0 hneg (m + 1) hjk
              clear HP0 HSeq hneg
              subst hSv
              have hcj := (Hc.out j hjk).1
              go_wp2
              go_ret
              exact ⟨rfl, Hbel.out n2⟩
          · have hSv : startAt s0 fs (m + 1) = s0 := startAt_nonneg s0 fs (by omega) (m + 1)
            rw [hSv] at HP0
            have hs1 : 0 ≤ s0 := by omega
            clear hSv hs0 Hc hcf
            go_wp2_with fail
            refine (span_any W0.heap.size _ _ wr HP0.out).mono ?_
            rintro e W2 ⟨rfl, n2, rfl⟩
            clear HP0 HS HP1 hb hb1
            have hs2 : decide (s0 < 0) = false := by simp; omega
            clear hs1
            have hm : m ≤ 65535 := by omega
            clear hbig hb2
            go_wp2
            go_ret
            exact ⟨rfl, Hbel.out n2⟩
  · by_cases hb2 : len ≤ 1048576
    · go_enter Try.func3, Try.ntmps3
      go_wp2_with fail
      refine (zzBytes_any s0 e0 a len cap w hl).mono ?_
      rw [decide_eq_true hb2]
      rintro e W0 ⟨rfl, rfl⟩
      go_wp2
      go_ret
      exact ⟨rfl, Below.refl _ _⟩
    · go_enter Try.func3, Try.ntmps3
      go_wp2_with fail
      refine (zzBytes_any s0 e0 a len cap w hl).mono ?_
      rw [decide_eq_false hb2]
      rintro e W0 ⟨rfl, rfl⟩
      go_wp2
      go_ret
      exact ⟨rfl, Below.refl _ _⟩
end Go.Proofs.Qxb6614642a
