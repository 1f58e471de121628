/-
  SEAT b6614810a: a row of words cloned.
-/
import Derived.Test.Qxb6614810aCarve
namespace Go.Proofs.Qxb6614810a
open Go.RowKit
set_option linter.unusedVariables false

theorem lt_of_cell {w : World} {x : Addr} {v : Value} (h : w.cell? x = some v) : x.block < w.heap.size := by
  by_cases hlt : x.block < w.heap.size
  · exact hlt
  · rw [World.cell?, Array.getElem?_eq_none (by omega)] at h
    cases h

/-- A row that is read: nil, or n cells of kind k from x on. -/
def Row (k : IntKind) (w : World) (a : Option Addr) (n : Nat) (z : Nat → Int) : Prop :=
  (a = none ∧ n = 0) ∨ ∃ x, a = some x ∧ ∀ i, i < n → w.cell? (x.add i) = some (.int k (z i))

theorem Row.below {k : IntKind} {w w' : World} {a : Option Addr} {n : Nat} {z : Nat → Int} (h : Row k w a n z) (hb : Below w.heap.size w w') : Row k w' a n z := by
  rcases h with h | ⟨x, ha, hc⟩
  · exact .inl h
  · exact .inr ⟨x, ha, fun i hi => (hb.cell (p := x.add i) (lt_of_cell (hc i hi))).trans (hc i hi)⟩

/-- A block of n words. -/
structure Block (w : World) (B n : Nat) (z : Nat → Int) : Prop where
  lt : B < w.heap.size
  cell : ∀ i, i < n → w.cell? ⟨B, i, none⟩ = some (.int .u64 (z i))
  free : ∀ i, i < n → w.frozen? ⟨B, i, none⟩ = false

/-- What a clone is. -/
def Cloned (w w' : World) (a' : Option Addr) (n : Nat) (z : Nat → Int) : Prop :=
  Below w.heap.size w w' ∧ ((a' = none ∧ n = 0) ∨ (a' = some ⟨w.heap.size, 0, none⟩ ∧ Block w' w.heap.size n z))

/-- The first k words are written. -/
def upto (z : Nat → Int) (k i : Nat) : Int := if i < k then z i else 0

theorem block_made {w w1 : World} {n m : Nat} (hown : w1.ownsRow w.heap.size 30 1 (.slice (some ⟨w.heap.size, 0, none⟩) n n) n (madeCells #[.int .u64 0] n).toList) (hg : (w.drewN m).grownBy w1 none) :
    Block w1 w.heap.size n (fun _ => 0) ∧ Below w.heap.size w w1 := by
  refine ⟨?_, hg.os, hg.tape, hg.output, hg.size, fun b hb => hg.block b hb (by simp)⟩
  have h1 : ∃ cur cap, w1.heap[w.heap.size]? = some (.cells cur 30 (0, 0)) ∧ n = cap ∧ cur.size = cap := by
    rcases hown.2 with ⟨h, _⟩ | ⟨g, cap, cur, hv, _, hgg, _, _, hcs, _⟩
    · cases h
    · have e : w.heap.size = g ∧ n = cap := by simp at hv; exact ⟨hv.1, hv.2⟩
      obtain ⟨e1, e2⟩ := e
      rw [← e1] at hgg
      exact ⟨cur, cap, hgg, e2, by omega⟩
  obtain ⟨cur, cap, hgg, e, hcs⟩ := h1
  refine ⟨(Array.getElem?_eq_some_iff.1 hgg).1, fun i hi => ?_, fun i hi => by simp [World.frozen?, hgg]⟩
  have hc := hown.cells (g := w.heap.size) rfl i (.int .u64 0) (by
    simp [madeCells, hi, Nat.mod_one])
  rw [Addr.add_lit, Nat.zero_add] at hc
  exact hc

theorem block_put {w : World} {B n k : Nat} {z : Nat → Int} (h : Block w B n (upto z k)) (hk : k < n) : Block (w.setCell ⟨B, k, none⟩ (.int .u64 (z k))) B n (upto z (k + 1)) := by
  obtain ⟨h1, h2, h3⟩ := h
  refine ⟨by simpa [World.setCell] using h1, fun i hi => ?_, fun i hi => (World.frozen?_setCell _ _ _ _).trans (h3 i hi)⟩
  by_cases e : i = k
  · subst e
    rw [World.cell?_setCell_same _ _ _ (h2 i hi)]
    simp [upto]
  · rw [World.cell?_setCell_other _ _ _ _ (ne_off (Ne.symm e)), h2 i hi]
    have : (i < k) ↔ (i < k + 1) := by omega
    simp [upto, this]

set_option maxRecDepth 100000 in
set_option maxHeartbeats 1000000 in
theorem clone_any (a : Option Addr) (n c : Nat) (z : Nat → Int) (w : World) (hn : n ≤ 65536) (h : Row .u64 w a n z) :
    Calls Try.prog 9 #[.slice a n c] w fun e w' => ∃ a', e = .returned (.slice a' n n) ∧ Cloned w w' a' n z := by
  obtain ⟨i0, hi, hz0, hz1, hz2⟩ := info_parts info30
  rcases h with ⟨rfl, rfl⟩ | ⟨x, rfl, hc⟩
  · have q := Lib.run_eql_slice_nil w 22 30 none 0 c 0 0 Try.underlying22
    go_enter Try.func9, Try.ntmps9
    go_wp2
    go_ret
    exact ⟨none, rfl, Below.refl _ _, .inl ⟨rfl, rfl⟩⟩
  · have q := Lib.run_eql_slice_nil w 22 30 (some x) n c 0 0 Try.underlying22
    have Hc : Hid (∀ i, i < n → w.cell? (x.add i) = some (.int .u64 (z i))) := hc
    clear hc
    go_enter Try.func9, Try.ntmps9
    go_wp2_with (at_make; refine wpList_make_full _ rfl _ _ 22 rfl w.heap.size 30 i0 (.int .u64 0) 1 Try.underlying22 hi hz0 hz1 _ _ _ _ n rfl rfl rfl rfl ?c1 ?c2 ?c3 ?_)
    case c1 => rw [hz2]; omega
    case c2 => unfold maxLen; omega
    case c3 => exact Nat.le_refl _
    intro w1 hown hg
    obtain ⟨hb1, hbl1⟩ := block_made (m := 0) hown hg
    clear hown hg q
    go_wp2
    go_loopw [4] (fun i wr => ∃ k : Nat, k ≤ n ∧ i = .int .i64 k ∧ Block wr w.heap.size n (upto z k) ∧ Below w.heap.size w wr) (fun i _ => n - (intOf i).toNat)
    case atStart => exact ⟨0, Nat.zero_le _, rfl, ⟨hb1.lt, fun i hi => by simpa [upto] using hb1.cell i hi, hb1.free⟩, hbl1⟩
    case round =>
      obtain ⟨k, hk, rfl, hbk, hbe⟩ := hrel
      have Hk : Hid (Block wr w.heap.size n (upto z k)) := hbk
      have Hbe : Hid (Below w.heap.size w wr) := hbe
      by_cases hlt : k < n
      · have e1 := Hc.out k hlt
        have e2 := (hbe.cell (p := x.add k) (lt_of_cell e1)).trans e1
        have e3 := hbk.cell k hlt
        have e4 := hbk.free k hlt
        clear hbk hbe e1
        go_wp2
        go_roundw
        case rel => exact ⟨k + 1, by omega, by go_num, block_put Hk.out hlt, Hbe.out.setCell (p := ⟨w.heap.size, k, none⟩) (Nat.le_refl _) _⟩
        case measure => simp [intOf]; omega
      · have hkn : k = n := by omega
        subst hkn
        clear hbk hbe
        go_wp2
        go_ret
        exact ⟨_, rfl, Hbe.out, .inr ⟨rfl, Hk.out.lt, fun i hi => by have := Hk.out.cell i hi; simpa [upto, hi] using this, Hk.out.free⟩⟩
end Go.Proofs.Qxb6614810a
