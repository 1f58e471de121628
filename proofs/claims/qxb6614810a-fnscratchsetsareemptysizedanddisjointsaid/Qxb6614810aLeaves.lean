/-
  SEAT b6614810a: the walk of FnScratchSetLeavesCarvedWordsAndCoversN (function 4).
-/
import Derived.Test.Qxb6614810aClone
namespace Go.Proofs.Qxb6614810a
open Go.RowKit
set_option linter.unusedVariables false

/-- The numbers asked for so far, in all. -/
def sumTo (z : Nat → Int) : Nat → Int
  | 0 => 0
  | k + 1 => sumTo z k + z k
/-- The words carved by then. -/
def usedTo (u : Nat) (z : Nat → Int) : Nat → Nat
  | 0 => u
  | k + 1 => usedTo u z k + ((z k).toNat + 63) / 64

def InRange (z : Nat → Int) (k : Nat) : Prop := ∀ j, j < k → 0 ≤ z j ∧ z j ≤ 65536

theorem usedTo_le (u : Nat) (z : Nat → Int) : ∀ k, InRange z k → 64 * (usedTo u z k : Int) ≤ 64 * u + sumTo z k + 63 * k := by
  intro k
  induction k with
  | zero => intro _; simp [usedTo, sumTo]
  | succ k ih =>
    intro h
    have h1 := ih (fun j hj => h j (by omega))
    have h2 := h k (by omega)
    simp only [usedTo, sumTo]
    omega

theorem sumTo_mono (z : Nat → Int) : ∀ d k, InRange z (k + d) → sumTo z k ≤ sumTo z (k + d) := by
  intro d
  induction d with
  | zero => intro k _; exact Int.le_refl _
  | succ d ih =>
    intro k h
    have h1 := ih k (fun j hj => h j (by omega))
    have h2 := h (k + d) (by omega)
    show sumTo z k ≤ sumTo z (k + d) + z (k + d)
    omega

theorem usedTo_bound (u : Nat) (z : Nat → Int) (n k : Nat) (hu : u ≤ 65536) (hn : n ≤ 4096) (hk : k ≤ n) (h : InRange z n) (hs : sumTo z n ≤ 67108864) : usedTo u z k ≤ 2000000 := by
  have h1 := usedTo_le u z k (fun j hj => h j (by omega))
  have h2 := sumTo_mono z (n - k) k (by rw [show k + (n - k) = n by omega]; exact h)
  rw [show k + (n - k) = n by omega] at h2
  omega

theorem usedTo_ge (u : Nat) (z : Nat → Int) : ∀ k, u ≤ usedTo u z k := by
  intro k
  induction k with
  | zero => exact Nat.le_refl _
  | succ k ih => exact Nat.le_trans ih (Nat.le_add_right _ _)

/-- WHAT STANDS BETWEEN TWO SETS: the slab; the words carved at the start, as they were. -/
structure Inv (B S u0 : Nat) (z0 : Nat → Int) (w1 wr : World) (a : Option Addr) (ml used : Nat) : Prop where
  slab : Slab S wr a ml used
  cap : ml ≤ 8000000
  at' : ∀ x, a = some x → B ≤ x.block
  ge : u0 ≤ used
  le : B ≤ S
  below : Below B w1 wr
  ne : 0 < u0 → B ≠ S
  mem : ∀ i, i < u0 → wr.cell? ⟨B, i, none⟩ = some (.int .u64 (z0 i))

theorem Inv.step {B S u0 k used ml ml' : Nat} {z0 : Nat → Int} {w1 wr w' : World} {a va a' : Option Addr} (h : Inv B S u0 z0 w1 wr a ml used) (hs : SetAt B S a used k wr w' va a' ml') : Inv B S u0 z0 w1 w' a' ml' (used + k) := by
  refine ⟨hs.slab, hs.cap, ?_, Nat.le_trans h.ge (Nat.le_add_right _ _), h.le, h.below.trans hs.kept.below, h.ne, fun i hi => ?_⟩
  · rintro x rfl
    rcases hs.place with e | ⟨m, e, hm⟩
    · exact h.at' x e.symm
    · rw [Option.some.inj e]
      show B ≤ m
      have h1 := h.slab.lt
      have h2 := h.le
      omega
  · have hc := h.mem i hi
    have hlt := lt_of_cell hc
    have hge := h.ge
    rw [hs.kept.cell B i hlt (h.ne (by omega)) (fun _ => .inl (by omega))]
    exact hc

theorem inv_start {w1 w2 w3 : World} {b2 : Option Addr} {n u0 : Nat} {z0 : Nat → Int} (hu : u0 ≤ n) (hn : n ≤ 65536) (hc : Cloned w1 w2 b2 n z0) (hs : Slab w2.heap.size w3 b2 n u0) (hb : Below w2.heap.size w2 w3) : Inv w1.heap.size w2.heap.size u0 z0 w1 w3 b2 n u0 := by
  obtain ⟨h1, h2⟩ := hc
  have hle := h1.size
  refine ⟨hs, by omega, ?_, Nat.le_refl _, hle, h1.trans (hb.mono hle), ?_, ?_⟩
  · rintro x rfl
    rcases h2 with ⟨h, _⟩ | ⟨h, _⟩
    · cases h
    · rw [Option.some.inj h]; exact Nat.le_refl _
  · intro h0
    rcases h2 with ⟨_, h⟩ | ⟨_, h⟩
    · omega
    · have := h.lt; omega
  · intro i hi
    rcases h2 with ⟨_, h⟩ | ⟨_, h⟩
    · omega
    · rw [hb.cell (p := ⟨w1.heap.size, i, none⟩) h.lt]
      exact h.cell i (by omega)

theorem newScratch_clone {w1 w2 : World} {b2 : Option Addr} {n : Nat} {z0 : Nat → Int} (hc : Cloned w1 w2 b2 n z0) :
    (b2 = none ∧ n = 0) ∨ ∃ m, b2 = some ⟨m, 0, none⟩ ∧ m < w2.heap.size ∧ ∀ i, i < n → (w2.cell? ⟨m, i, none⟩).isSome = true ∧ w2.frozen? ⟨m, i, none⟩ = false := by
  rcases hc.2 with h | ⟨e, h⟩
  · exact .inl h
  · exact .inr ⟨_, e, h.lt, fun i hi => ⟨by rw [h.cell i hi]; rfl, h.free i hi⟩⟩

set_option maxRecDepth 100000 in
set_option maxHeartbeats 4000000 in
theorem walk4 (a0 : Option Addr) (len0 cap0 : Nat) (z0 : Nat → Int) (a1 : Int) (a2 : Option Addr) (len2 cap2 : Nat) (z2 : Nat → Int) (w : World) (h0 : Row .u64 w a0 len0 z0) (h2 : Row .i64 w a2 len2 z2) (hm0 : len0 ≤ maxLen) (hm2 : len2 ≤ maxLen) (w1 : (Lit.int .i64 a1).wf = true) :
    Calls Try.prog 4 #[.slice a0 len0 cap0, .int .i64 a1, .slice a2 len2 cap2] w fun e w' => e = .returned (.bool true) ∧ Below w.heap.size w w' := by
  have H0 : Hid (Row .u64 w a0 len0 z0) := h0
  have H2 : Hid (Row .i64 w a2 len2 z2) := h2
  have Q := zzBytes12_any a0 a2 a1 len0 len2 cap0 cap2 w hm0 hm2
  clear h0 h2
  unfold maxLen at hm0 hm2
  by_cases hb : len0 + len2 ≤ 1048576
  · have hd : decide (len0 + len2 ≤ 1048576) = true := by simp [hb]
    rw [hd] at Q
    have HQ : Hid _ := Q
    clear Q hd
    by_cases h65 : len0 ≤ 65536
    · by_cases h40 : len2 ≤ 4096
      · by_cases hu : 0 ≤ a1
        · obtain ⟨u0, rfl⟩ : ∃ u : Nat, a1 = u := ⟨a1.toNat, by omega⟩
          by_cases hu1 : u0 ≤ len0
          · clear hb hm0 hm2 w1 hu
            go_enter Try.func4, Try.ntmps4
            go_wp2_with fail
            refine Calls.mono HQ.out ?_
            rintro e wx ⟨rfl, hwx⟩; obtain rfl : w = wx := hwx.symm
            clear HQ
            go_wp2
            go_loop [7, 8] (fun t i => ∃ (k : Nat), k ≤ len2 ∧ i = .int .i64 k ∧ t = .int .i64 (sumTo z2 k) ∧ 0 ≤ sumTo z2 k ∧ sumTo z2 k ≤ 67108864 ∧ Hid (InRange z2 k)) (fun _ i => len2 - (intOf i).toNat)
            case atStart => exact ⟨0, Nat.zero_le _, rfl, rfl, by simp [sumTo], by simp [sumTo], fun j hj => by omega⟩
            case round =>
              obtain ⟨k, hk, rfl, rfl, hs0, hs1, hr⟩ := hrel
              by_cases hlt : k < len2
              · rcases H2.out with ⟨_, h⟩ | ⟨x, rfl, hc⟩
                · omega
                have hck := hc k hlt
                clear hc
                generalize hz : z2 k = zk at *
                generalize hsu : sumTo z2 k = su at *
                have Hz : Hid (z2 k = zk) := hz
                have Hsu : Hid (sumTo z2 k = su) := hsu
                clear hz hsu
                by_cases hz0 : zk < 0
                · go_wp2
                  go_ret
                  exact ⟨rfl, Below.refl _ _⟩
                · by_cases hz1 : zk ≤ 65536
                  · by_cases hz2 : su + zk ≤ 67108864
                    · go_wp2
                      go_round
                      case rel =>
                        have e : sumTo z2 (k + 1) = su + zk := by show sumTo z2 k + z2 k = _; rw [Hsu.out, Hz.out]
                        refine ⟨k + 1, by omega, by go_num, by rw [e], by omega, by omega, fun j hj => ?_⟩
                        by_cases hjk : j = k
                        · rw [hjk, Hz.out]; omega
                        · exact hr.out j (by omega)
                      case measure => simp [intOf]; omega
                    · go_wp2
                      go_ret
                      exact ⟨rfl, Below.refl _ _⟩
                  · go_wp2
                    go_ret
                    exact ⟨rfl, Below.refl _ _⟩
              · have hkl : k = len2 := by omega
                subst hkl
                clear hlt hk
                have Hs1 : Hid (sumTo z2 k ≤ 67108864) := hs1
                clear hs0 hs1
                go_wp2_with fail
                refine (clone_any a0 len0 cap0 z0 w h65 H0.out).mono ?_
                rintro e W1 ⟨b1, rfl, hcl1⟩
                have Hcl1 : Hid (Cloned w W1 b1 len0 z0) := hcl1
                clear hcl1
                go_wp2_with fail
                refine (clone_any a0 len0 cap0 z0 W1 h65 (H0.out.below Hcl1.out.1)).mono ?_
                rintro e W2 ⟨b2, rfl, hcl2⟩
                have Hcl2 : Hid (Cloned W1 W2 b2 len0 z0) := hcl2
                clear hcl2
                go_wp2_with fail
                refine (newScratch_any b2 len0 u0 W2 hu1 (newScratch_clone Hcl2.out)).mono ?_
                rintro e W3 ⟨rfl, hsl, hb3⟩
                have Hinv : Hid (Inv W1.heap.size W2.heap.size u0 z0 W1 W3 b2 len0 u0) := inv_start hu1 h65 Hcl2.out hsl hb3
                clear hsl hb3
                go_wp2
                go_loopw [11] (fun i wr => ∃ (j : Nat) (a : Option Addr) (ml : Nat), j ≤ k ∧ i = .int .i64 j ∧ Hid (Inv W1.heap.size W2.heap.size u0 z0 W1 wr a ml (usedTo u0 z2 j))) (fun i _ => k - (intOf i).toNat)
                case atStart => exact ⟨0, b2, len0, Nat.zero_le _, rfl, Hinv⟩
                case round =>
                  obtain ⟨j, a, ml, hj, rfl, hinv⟩ := hrel
                  by_cases hlt : j < k
                  · have hr2 := H2.out.below (w' := wr) (Hcl1.out.1.trans (hinv.out.below.mono Hcl1.out.1.size))
                    rcases hr2 with ⟨_, h⟩ | ⟨x, rfl, hc⟩
                    · omega
                    have hcj := hc j hlt
                    clear hc
                    obtain ⟨hz0, hz1⟩ := hr.out j hlt
                    have hbd := usedTo_bound u0 z2 k j (by omega) h40 hj hr.out Hs1.out
                    have hnx : usedTo u0 z2 (j + 1) = usedTo u0 z2 j + ((z2 j).toNat + 63) / 64 := rfl
                    obtain ⟨m, hm⟩ : ∃ m : Nat, z2 j = m := ⟨(z2 j).toNat, by omega⟩
                    rw [hm] at hcj hnx hz1
                    have Hnx : Hid (usedTo u0 z2 (j + 1) = usedTo u0 z2 j + (m + 63) / 64) := hnx
                    clear hnx hz0 hm
                    generalize hq : (m + 63) / 64 = q at *
                    have hq1 : m ≤ 64 * q := by omega
                    have hq2 : 64 * q ≤ m + 63 := by omega
                    have Hq : Hid (q = (m + 63) / 64) := hq.symm
                    clear hq
                    have Hbd : Hid (usedTo u0 z2 j ≤ 2000000) := hbd
                    clear hbd
                    go_wp2_with fail
                    refine (scratchSet_any W1.heap.size W2.heap.size a ml (usedTo u0 z2 j) m q wr hinv.out.slab hinv.out.cap (by omega) Hq.out (by have := Hbd.out; omega) hinv.out.le hinv.out.at').mono ?_
                    rintro e W4 ⟨va, a', ml', rfl, hset⟩
                    have Hinv' : Hid (Inv W1.heap.size W2.heap.size u0 z0 W1 W4 a' ml' (usedTo u0 z2 (j + 1))) := by rw [Hnx.out]; exact hinv.out.step hset
                    clear hset
                    by_cases hq0 : q = 0
                    · subst hq0
                      go_wp2
                      go_roundw
                      case rel => exact ⟨j + 1, a', ml', by omega, by go_num, Hinv'⟩
                      case measure => simp [intOf]; omega
                    · go_wp2
                      go_roundw
                      case rel => exact ⟨j + 1, a', ml', by omega, by go_num, Hinv'⟩
                      case measure => simp [intOf]; omega
                  · obtain ⟨wo, rfl⟩ : ∃ wo : World, wo = wr := ⟨_, rfl⟩
                    go_wp2
                    go_loopw [15] (fun i wx => ∃ (o n : Nat), o ≤ u0 ∧ i = .int .i64 o ∧ wx = wo.drewN n) (fun i _ => u0 - (intOf i).toNat)
                    case atStart => exact ⟨0, 0, Nat.zero_le _, rfl, rfl⟩
                    case round =>
                      obtain ⟨o, n, ho, rfl, rfl⟩ := hrel
                      by_cases hlt2 : o < u0
                      · have hmem := hinv.out.mem o hlt2
                        rcases Hcl1.out.2 with ⟨_, h⟩ | ⟨rfl, hbk⟩
                        · omega
                        rcases Hcl2.out.2 with ⟨_, h⟩ | ⟨rfl, hbk2⟩
                        · omega
                        have hbef := (hinv.out.below.cell (p := ⟨w.heap.size, o, none⟩) hbk.lt).trans (hbk.cell o (by omega))
                        clear hbk hbk2
                        go_wp2
                        go_quiet (fail)
                        go_wp2
                        go_roundw
                        case rel => exact ⟨o + 1, _, by omega, by go_num, rfl⟩
                        case measure => simp [intOf]; omega
                      · go_wp2
                        go_ret
                        exact ⟨rfl, (Hcl1.out.1.trans (hinv.out.below.mono Hcl1.out.1.size)).trans ⟨rfl, rfl, rfl, Nat.le_refl _, fun _ _ => rfl⟩⟩
          · go_enter Try.func4, Try.ntmps4
            go_wp2_with fail
            refine Calls.mono HQ.out ?_
            rintro e wx ⟨rfl, hwx⟩; obtain rfl : w = wx := hwx.symm
            go_wp2
            go_ret
            exact ⟨rfl, Below.refl _ _⟩
        · go_enter Try.func4, Try.ntmps4
          go_wp2_with fail
          refine Calls.mono HQ.out ?_
          rintro e wx ⟨rfl, hwx⟩; obtain rfl : w = wx := hwx.symm
          go_wp2
          go_ret
          exact ⟨rfl, Below.refl _ _⟩
      · go_enter Try.func4, Try.ntmps4
        go_wp2_with fail
        refine Calls.mono HQ.out ?_
        rintro e wx ⟨rfl, hwx⟩; obtain rfl : w = wx := hwx.symm
        go_wp2
        go_ret
        exact ⟨rfl, Below.refl _ _⟩
    · go_enter Try.func4, Try.ntmps4
      go_wp2_with fail
      refine Calls.mono HQ.out ?_
      rintro e wx ⟨rfl, hwx⟩; obtain rfl : w = wx := hwx.symm
      go_wp2
      go_ret
      exact ⟨rfl, Below.refl _ _⟩
  · have hd : decide (len0 + len2 ≤ 1048576) = false := by simp; omega
    rw [hd] at Q
    have HQ : Hid _ := Q
    clear Q hd
    go_enter Try.func4, Try.ntmps4
    go_wp2_with fail
    refine Calls.mono HQ.out ?_
    rintro e wx ⟨rfl, hwx⟩; obtain rfl : w = wx := hwx.symm
    go_wp2
    go_ret
    exact ⟨rfl, Below.refl _ _⟩
end Go.Proofs.Qxb6614810a
