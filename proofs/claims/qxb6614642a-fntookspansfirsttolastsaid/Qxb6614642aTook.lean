/-
  SEAT b6614642a: the walks of took and of the law FnTookSpansFirstToLast.
-/
import Derived.Test.Qxb6614642aRows
import Derived.WalkKit
import Derived.Deep.QuietTactic
import Derived.BigQuiet
namespace Go.Proofs.Qxb6614642a
open Go.RowKit
set_option linter.unusedVariables false

/-- THE PENDING COMMAND AT BLOCK C: its start and its end. -/
def Pend (C : Nat) (w : World) (s e : Int) : Prop :=
  C < w.heap.size ∧ w.cell? ⟨C, 5, none⟩ = some (.int .i64 s) ∧ w.cell? ⟨C, 6, none⟩ = some (.int .i64 e) ∧ w.frozen? ⟨C, 5, none⟩ = false ∧ w.frozen? ⟨C, 6, none⟩ = false

theorem Pend.alloc {C : Nat} {w : World} {s e : Int} (h : Pend C w s e) (o : Obj) : Pend C (w.alloc o) s e := by
  obtain ⟨h1, h2, h3, h4, h5⟩ := h
  have hb := (Below.refl w.heap.size w).alloc (Nat.le_refl _) o
  exact ⟨Nat.lt_of_lt_of_le h1 hb.size, (hb.cell (p := ⟨C, 5, none⟩) h1).trans h2, (hb.cell (p := ⟨C, 6, none⟩) h1).trans h3, (hb.frozen (p := ⟨C, 5, none⟩) h1).trans h4, (hb.frozen (p := ⟨C, 6, none⟩) h1).trans h5⟩

set_option maxHeartbeats 400000 in
theorem newPending_any (s e : Int) (w : World) :
    Calls Try.prog 7 #[.int .i64 s, .int .i64 e] w fun r w' => r = .returned (.pointer (some ⟨w.heap.size, 0, none⟩)) ∧ Pend w.heap.size w' s e ∧ Below w.heap.size w w' := by
  go_enter Try.func7, Try.ntmps7
  go_wp2
  go_ret
  refine ⟨rfl, ?_, (Below.refl _ _).alloc (Nat.le_refl _) _⟩
  refine ⟨by simp, by simp, by simp, by simp, by simp⟩

set_option maxHeartbeats 400000 in
theorem newReader_any (i : Int) (w : World) :
    Calls Try.prog 8 #[.int .i64 i] w fun r w' => r = .returned (.pointer (some ⟨w.heap.size, 0, none⟩)) ∧ ∃ o, w' = w.alloc o ∧ w'.cell? ⟨w.heap.size, 1, none⟩ = some (.int .i64 i) := by
  go_enter Try.func8, Try.ntmps8
  go_wp2
  go_ret
  exact ⟨rfl, _, rfl, by simp⟩

theorem Pend.setEnd {C : Nat} {w : World} {s e : Int} (h : Pend C w s e) (i : Int) : Pend C (w.setCell ⟨C, 6, none⟩ (.int .i64 i)) s i ∧ Below C w (w.setCell ⟨C, 6, none⟩ (.int .i64 i)) := by
  obtain ⟨h1, h2, h3, h4, h5⟩ := h
  have hb := Below.setCell (Below.refl C w) (p := ⟨C, 6, none⟩) (Nat.le_refl C) (.int .i64 i)
  refine ⟨⟨Nat.lt_of_lt_of_le h1 hb.size, ?_, World.cell?_setCell_same _ _ _ h3, by simp [h4], by simp [h5]⟩, hb⟩
  rw [World.cell?_setCell_other _ _ _ _ (by simp)]; exact h2

theorem Pend.setStart {C : Nat} {w : World} {s e : Int} (h : Pend C w s e) (i : Int) : Pend C (w.setCell ⟨C, 5, none⟩ (.int .i64 i)) i e ∧ Below C w (w.setCell ⟨C, 5, none⟩ (.int .i64 i)) := by
  obtain ⟨h1, h2, h3, h4, h5⟩ := h
  have hb := Below.setCell (Below.refl C w) (p := ⟨C, 5, none⟩) (Nat.le_refl C) (.int .i64 i)
  refine ⟨⟨Nat.lt_of_lt_of_le h1 hb.size, World.cell?_setCell_same _ _ _ h2, ?_, by simp [h4], by simp [h5]⟩, hb⟩
  rw [World.cell?_setCell_other _ _ _ _ (by simp)]; exact h3

/-- What took makes of the start. -/
def stepStart (s f : Int) : Int := if s < 0 then f else s

set_option maxHeartbeats 400000 in
theorem took_any (C R : Nat) (s e i f : Int) (w : World) (hP : Pend C w s e) (hR : w.cell? ⟨R, 1, none⟩ = some (.int .i64 i)) :
    Calls Try.prog 19 #[.pointer (some ⟨R, 0, none⟩), .pointer (some ⟨C, 0, none⟩), .int .i64 f] w fun r w' => r = .returned (.tuple #[]) ∧ Pend C w' (stepStart s f) i ∧ Below C w w' := by
  have HP : Hid (Pend C w s e) := hP
  obtain ⟨h1, h2, h3, h4, h5⟩ := hP
  by_cases hs : s < 0
  · rw [stepStart, if_pos hs]
    have hR5 : (w.setCell ⟨C, 5, none⟩ (.int .i64 f)).cell? ⟨R, 1, none⟩ = some (.int .i64 i) := by
      rw [World.cell?_setCell_other _ _ _ _ (by simp)]; exact hR
    go_enter Try.func19, Try.ntmps19
    go_wp2
    go_end0
    have q1 := HP.out.setStart f
    have q2 := q1.1.setEnd i
    exact ⟨rfl, q2.1, q1.2.trans q2.2⟩
  · rw [stepStart, if_neg hs]
    go_enter Try.func19, Try.ntmps19
    go_wp2
    go_end0
    exact ⟨rfl, HP.out.setEnd i⟩

set_option maxHeartbeats 400000 in
theorem zzTook_any (C R : Nat) (s e i f : Int) (w : World) (hP : Pend C w s e) (hR : w.cell? ⟨R, 1, none⟩ = some (.int .i64 i)) :
    Calls Try.prog 9 #[.pointer (some ⟨R, 0, none⟩), .pointer (some ⟨C, 0, none⟩), .int .i64 f] w fun r w' => r = .returned (.tuple #[]) ∧ Pend C w' (stepStart s f) i ∧ Below C w w' := by
  have HP : Hid (Pend C w s e) := hP
  have HR : Hid (w.cell? ⟨R, 1, none⟩ = some (.int .i64 i)) := hR
  clear hP hR
  go_enter Try.func9, Try.ntmps9
  go_wp2_with fail
  refine (took_any C R s e i f w HP.out HR.out).mono ?_
  rintro r w1 ⟨rfl, hP1, hb1⟩
  have HP1 : Hid (Pend C w1 (stepStart s f) i) := hP1
  clear hP1
  go_wp2
  go_end0
  exact ⟨rfl, HP1.out, hb1⟩

set_option maxHeartbeats 400000 in
theorem span_any (C : Nat) (s e : Int) (w : World) (hP : Pend C w s e) :
    Calls Try.prog 10 #[.pointer (some ⟨C, 0, none⟩)] w fun r w' => r = .returned (.tuple #[.int .i64 s, .int .i64 e]) ∧ ∃ n, w' = w.drewN n := by
  obtain ⟨h1, h2, h3, h4, h5⟩ := hP
  go_enter Try.func10, Try.ntmps10
  go_wp2
  go_quiet (fail)
  go_wp2
  go_ret2
  exact ⟨rfl, _, rfl⟩

/-- THE STEPS: element i's From is fs i, its At is ts i. -/
def Steps (G : Nat) (w : World) (a : Option Addr) (len : Nat) (fs ts : Nat → Int) : Prop :=
  len = 0 ∨ ∃ g o, a = some ⟨g, o, none⟩ ∧ g < G ∧ ∀ i, i < len → w.cell? ⟨g, o + i * 2, none⟩ = some (.int .i64 (fs i)) ∧ w.cell? ⟨g, o + i * 2 + 1, none⟩ = some (.int .i64 (ts i))

theorem Steps.below {G : Nat} {w w' : World} {a : Option Addr} {len : Nat} {fs ts : Nat → Int} (h : Steps G w a len fs ts) (hb : Below G w w') : Steps G w' a len fs ts := by
  rcases h with h | ⟨g, o, ha, hg, hc⟩
  · exact .inl h
  · exact .inr ⟨g, o, ha, hg, fun i hi => ⟨(hb.cell (p := ⟨g, _, none⟩) hg).trans (hc i hi).1, (hb.cell (p := ⟨g, _, none⟩) hg).trans (hc i hi).2⟩⟩

/-- What firstNonNegativeFrom answers. -/
def FirstAt (fs : Nat → Int) (len : Nat) (j : Int) : Prop :=
  (j = -1 ∧ ∀ i, i < len → fs i < 0) ∨ ∃ k : Nat, j = k ∧ k < len ∧ 0 ≤ fs k ∧ ∀ i, i < k → fs i < 0

set_option maxHeartbeats 400000 in
theorem first_any (G : Nat) (a : Option Addr) (len cap : Nat) (fs ts : Nat → Int) (w : World) (hS : Steps G w a len fs ts) (hl : len ≤ 1048576) :
    Calls Try.prog 11 #[.slice a len cap] w fun r w' => ∃ j, r = .returned (.int .i64 j) ∧ FirstAt fs len j ∧ w' = w := by
  have HS : Hid (Steps G w a len fs ts) := hS
  clear hS
  go_enter Try.func11, Try.ntmps11
  go_wp2
  go_loop [3] (fun i => ∃ k : Nat, k ≤ len ∧ i = .int .i64 k ∧ Hid (∀ i, i < k → fs i < 0)) (fun i => len - (intOf i).toNat)
  case atStart => exact ⟨0, Nat.zero_le _, rfl, fun i hi => absurd hi (Nat.not_lt_zero _)⟩
  case round =>
    obtain ⟨k, hk, rfl, hneg⟩ := hrel
    by_cases hlt : k < len
    · rcases HS.out with h0 | ⟨g, o, rfl, hg, hc⟩
      · omega
      have hck := (hc k hlt).1
      clear hc
      by_cases hf : 0 ≤ fs k
      · go_wp2
        go_ret
        exact ⟨_, rfl, .inr ⟨k, rfl, hlt, hf, hneg.out⟩, rfl⟩
      · go_wp2
        go_round
        case rel =>
          refine ⟨k + 1, by omega, by go_num, fun i hi => ?_⟩
          by_cases h : i = k
          · subst h; omega
          · exact hneg.out i (by omega)
        case measure => simp [intOf]; omega
    · go_wp2
      go_ret
      have : k = len := by omega
      subst this
      exact ⟨_, rfl, .inl ⟨rfl, hneg.out⟩, rfl⟩

set_option maxHeartbeats 400000 in
theorem zzBytes_any (s e : Int) (a : Option Addr) (n c : Nat) (w : World) (hn : n ≤ maxLen) :
    Calls Try.prog 6 #[.int .i64 s, .int .i64 e, .slice a n c] w fun e w' => e = .returned (.bool (decide (n ≤ 1048576))) ∧ w' = w := by
  unfold maxLen at hn
  by_cases h1 : n ≤ 1048576
  · go_enter Try.func6, Try.ntmps6
    go_wp2
    go_ret
    exact ⟨by simp [h1], rfl⟩
  · go_enter Try.func6, Try.ntmps6
    go_wp2
    go_ret
    exact ⟨by simp; omega, rfl⟩

/-- THE START AND THE END BEHIND k CALLS OF took. -/
def startAt (s0 : Int) (fs : Nat → Int) : Nat → Int
  | 0 => s0
  | k + 1 => stepStart (startAt s0 fs k) (fs k)
def endAt (e0 : Int) (ts : Nat → Int) : Nat → Int
  | 0 => e0
  | k + 1 => ts k

theorem startAt_nonneg (s0 : Int) (fs : Nat → Int) (h : 0 ≤ s0) : ∀ k, startAt s0 fs k = s0
  | 0 => rfl
  | k + 1 => by rw [startAt, startAt_nonneg s0 fs h k, stepStart, if_neg (by omega)]

theorem startAt_neg (s0 : Int) (fs : Nat → Int) (h : s0 < 0) : ∀ k, (∀ i, i < k → fs i < 0) → startAt s0 fs k < 0 ∧ (0 < k → startAt s0 fs k = fs (k - 1))
  | 0, _ => ⟨h, fun h => absurd h (Nat.lt_irrefl _)⟩
  | k + 1, hf => by
    have ih := startAt_neg s0 fs h k (fun i hi => hf i (by omega))
    have e : startAt s0 fs (k + 1) = fs k := by rw [startAt, stepStart, if_pos ih.1]
    rw [e]
    exact ⟨hf k (by omega), fun _ => rfl⟩

theorem startAt_first (s0 : Int) (fs : Nat → Int) (h : s0 < 0) (j : Nat) (hj : 0 ≤ fs j) (hf : ∀ i, i < j → fs i < 0) : ∀ k, j < k → startAt s0 fs k = fs j
  | 0, hk => absurd hk (Nat.not_lt_zero _)
  | k + 1, hk => by
    by_cases hjk : j = k
    · subst hjk
      rw [startAt, stepStart, if_pos (startAt_neg s0 fs h j hf).1]
    · rw [startAt, startAt_first s0 fs h j hj hf k (by omega), stepStart, if_neg (by omega)]
end Go.Proofs.Qxb6614642a
