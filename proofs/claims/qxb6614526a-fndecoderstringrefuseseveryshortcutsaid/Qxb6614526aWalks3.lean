/-
  zzCopyBytes of seat b6614526a.
-/
import Derived.Test.Qxb6614526aWalks2
import Derived.Laws.CopyOwn
import Derived.WalkSpells
namespace Go.Proofs.Qxb6614526a
open Go.RowKit
set_option linter.unusedVariables false

set_option maxHeartbeats 400000 in
theorem copyBytes_any (G : Nat) (ad : Addr) (c : Nat) (l : List UInt8) (w : World) (hb : BB G w (some ad) c l) (hG : G ≤ w.heap.size) (hl : l.length ≤ 2000000) :
    Calls Try.prog 14 #[.slice (some ad) l.length c] w fun e w' => ∃ a' c', e = .returned (.slice a' l.length c') ∧ BB w'.heap.size w' a' c' l ∧ Below w.heap.size w w' := by
  obtain ⟨i0, hi, hz0, hz1, hz2⟩ := info_parts Try.info5
  have hsz : (Try.prog.info? 5).map (·.size) = some 1 := by rw [hi]; simp [hz1]
  have hlen : (Lib.byteCells l).length = l.length := Lib.byteCells_length l
  have one : ∀ u ∈ Lib.byteCells l, u.oneCell' = true := by
    intro u hu
    simp only [Lib.byteCells, List.mem_map] at hu
    obtain ⟨b, _, rfl⟩ := hu
    rfl
  have src : ∀ j u, (Lib.byteCells l)[j]? = some u → w.cell? (ad.add j) = some u := by
    intro j u hj
    obtain ⟨_, _, rfl | ⟨g, o', ha, _, hc⟩⟩ := hb
    · simp [Lib.byteCells] at hj
    · obtain rfl := Option.some.inj ha
      have hjl : j < l.length := by
        have := (List.getElem?_eq_some_iff.1 hj).1
        rwa [Lib.byteCells_length] at this
      rw [Addr.add_lit, hc j hjl]
      simp [Lib.byteCells, List.getElem?_eq_getElem hjl] at hj
      rw [← hj]
  have blk : ∀ (j : Nat) u, (Lib.byteCells l)[j]? = some u → ad.block < w.heap.size := by
    intro j u hj
    have := World.block_lt_of_cell? w _ (src j u hj)
    unfold Addr.add at this
    split at this <;> exact this
  generalize hL : Lib.byteCells l = cs at *
  have HL : Hid (Lib.byteCells l = cs) := hL
  have Hlen : Hid (cs.length = l.length) := hlen
  have Hsrc : Hid (∀ j u, cs[j]? = some u → w.cell? (ad.add j) = some u) := src
  have Hblk : Hid (∀ (j : Nat) u, cs[j]? = some u → ad.block < w.heap.size) := blk
  have Hone : Hid (∀ u ∈ cs, u.oneCell' = true) := one
  have Hb : Hid (BB G w (some ad) c l) := hb
  clear hL hlen src blk one hb
  have qnil : ∀ (w : World) a n c, (binOp .eql 22 (.slice a n c) (.slice none 0 0)).run Try.prog w = .ok (.bool a.isNone) w := fun w a n c => Lib.run_eql_slice_nil w 22 5 a n c 0 0 Try.underlying22
  go_enter Try.func14, Try.ntmps14
  go_wp2_with (at_make; refine wpList_make_full _ rfl _ _ 22 rfl w.heap.size 5 i0 (.int .u8 0) 1 Try.underlying22 hi hz0 hz1 _ _ _ _ l.length rfl rfl rfl rfl ?c1 ?c2 ?c3 ?_)
  case c1 => rw [hz2]; omega
  case c2 => unfold maxLen; omega
  case c3 => exact Nat.le_refl _
  intro w1 hown1 hg1
  have hb1 : Below w.heap.size w w1 := (Below.refl _ _).grown hg1 (Nat.le_refl _) (fun k hk => by cases hk)
  obtain ⟨cur, hcl, hrow⟩ : ∃ cur : List Value, cur.length = l.length ∧ w1.heap[w.heap.size]? = some (.cells cur.toArray 5 (0, 0)) := by
    rcases hown1.2 with ⟨h, _⟩ | ⟨g, cap, cur, hv, _, hg, _, _, hs, _⟩
    · cases h
    · cases hv
      exact ⟨cur.toList, by simpa using hs, by simpa using hg⟩
  clear hown1 hg1
  have Hrow : Hid (w1.heap[w.heap.size]? = some (.cells cur.toArray 5 (0, 0))) := hrow
  have Hcl : Hid (cur.length = l.length) := hcl
  clear hcl hrow
  go_wp2_with (refine wpList_copy_splice rfl (.tmp 9) (.tmp 10) 22 22 rfl 5 Try.underlying22 hsz _ _ _ _ _ _ rfl rfl w.heap.size 0 cur 5 Hrow.out cs ?d1 ?d2 ?d3 Hone.out w.heap.size w hb1 (Nat.le_refl _) ?_)
  case d1 => rw [Hlen.out]; exact (Nat.min_self _).symm
  case d2 =>
    intro h0 j v hj
    have hbk : (ad.add j).block = ad.block := by unfold Addr.add; split <;> rfl
    rw [hb1.cell (p := ad.add j) (by rw [hbk]; exact Hblk.out j v hj)]
    exact Hsrc.out j v hj
  case d3 => rw [Hlen.out, Hcl.out]; omega
  intro w2 HG2 hb2
  go_wp2
  go_ret
  refine ⟨_, _, rfl, ?_, hb2⟩
  have hsp : splice cur 0 cs = Lib.byteCells l := by
    rw [HL.out]
    simp only [splice, List.take_zero, List.nil_append]
    rw [List.drop_eq_nil_of_le (by rw [Hlen.out, Hcl.out]; omega), List.append_nil]
  have hg2 := HG2.out
  rw [hsp] at hg2
  refine ⟨Nat.le_refl _, by unfold maxLen; omega, .inr ⟨w.heap.size, 0, rfl, (Array.getElem?_eq_some_iff.1 hg2).1, fun j hj => ?_⟩⟩
  rw [cell_of_row w2 w.heap.size (0 + j) _ 5 (0, 0) hg2]
  simp [Lib.byteCells, List.getElem?_eq_getElem hj]
end Go.Proofs.Qxb6614526a
