/-
  SEAT b6614642a: ZZnewDenySet.
-/
import Derived.Test.Qxb6614642aDeny
namespace Go.Proofs.Qxb6614642a
open Go.RowKit
set_option linter.unusedVariables false

theorem info63 : (Try.prog.info? 63).map (fun i => (i.zero, i.size, i.bytes)) = some (some (.pointer none), 1, 8) := by kernel_rfl

/-- A deny at block p: its id. -/
def DenyAt (S : Nat) (w : World) (p : Nat) (id : ByteArray) : Prop := S < p ∧ ∃ cs : Array Value, w.heap[p]? = some (.cells cs 70 (0, 0)) ∧ cs[0]? = some (.string id)

theorem DenyAt.grown {S : Nat} {w w' : World} {row : Option Nat} {p : Nat} {id : ByteArray} (h : DenyAt S w p id) (hg : w.grownBy w' row) (hr : some p ≠ row) : DenyAt S w' p id := by
  obtain ⟨h0, cs, h1, h2⟩ := h
  exact ⟨h0, cs, (hg.block p (Array.getElem?_eq_some_iff.1 h1).1 hr).trans h1, h2⟩

theorem DenyAt.below {S G : Nat} {w w' : World} {p : Nat} {id : ByteArray} (h : DenyAt S w p id) (hb : Below G w w') (hp : p < G) : DenyAt S w' p id := by
  obtain ⟨h0, cs, h1, h2⟩ := h
  exact ⟨h0, cs, (hb.block p hp).trans h1, h2⟩

theorem DenyAt.set {S : Nat} {w : World} {p : Nat} {id : ByteArray} (h : DenyAt S w p id) (u : Value) : DenyAt S (w.setCell ⟨S, 0, none⟩ u) p id := by
  obtain ⟨h0, cs, h1, h2⟩ := h
  exact ⟨h0, cs, (Below.heap_setCell w _ u p (by show p ≠ S; omega)).trans h1, h2⟩

/-- A row of pointers is no deny. -/
theorem DenyAt.notRow {S B n : Nat} {w : World} {p : Nat} {id : ByteArray} {v : Value} {xs : List Value} (h : DenyAt S w p id) (ho : w.ownsRow B 63 1 v n xs) : some p ≠ v.ownBlock := by
  obtain ⟨h0, cs, h1, h2⟩ := h
  rcases ho.2 with ⟨rfl, _⟩ | ⟨g, cap, cur, rfl, _, hg, _⟩
  · simp [Value.ownBlock]
  · intro e
    simp [Value.ownBlock] at e
    subst e
    rw [hg] at h1
    simp at h1

def ptrs (Ps : List Nat) : List Value := Ps.map fun p => Value.pointer (some ⟨p, 0, none⟩)

/-- THE DENY SET AT BLOCK S. -/
structure DSet (S : Nat) (w : World) (v : Value) (Ps : List Nat) (ids : List ByteArray) : Prop where
  lt : S < w.heap.size
  all : w.cell? ⟨S, 0, none⟩ = some v
  by_ : w.cell? ⟨S, 1, none⟩ = some (.map none)
  fr : w.frozen? ⟨S, 0, none⟩ = false
  len : Ps.length = ids.length
  own : w.ownsRow (S + 1) 63 1 v ids.length (ptrs Ps)
  each : ∀ i (hi : i < ids.length), DenyAt S w (Ps.getD i 0) ids[i]

/-- ONE DENY MORE. -/
theorem DSet.push {S : Nat} {wr w1 : World} {v v' : Value} {Ps : List Nat} {ids : List ByteArray} {id : ByteArray} {cs : Array Value} {B : Obj} (h : DSet S wr v Ps ids) (hc : cs[0]? = some (.string id))
    (hg : ((wr.alloc (.cells cs 70)).alloc B).grownBy w1 v.ownBlock) (ho : w1.ownsRow (S + 1) 63 1 v' (ids.length + 1) (ptrs Ps ++ [.pointer (some ⟨wr.heap.size, 0, none⟩)])) :
    w1.cell? ⟨S, 0, none⟩ = some v ∧ w1.frozen? ⟨S, 0, none⟩ = false ∧ DSet S (w1.setCell ⟨S, 0, none⟩ v') v' (Ps ++ [wr.heap.size]) (ids ++ [id]) ∧ Below S wr (w1.setCell ⟨S, 0, none⟩ v') := by
  obtain ⟨h1, h2, h3, h4, h5, h6, h7⟩ := h
  have hb0 : Below wr.heap.size wr ((wr.alloc (.cells cs 70)).alloc B) := ((Below.refl _ _).alloc (Nat.le_refl _) _).alloc (by simp) _
  have hsz : ((wr.alloc (.cells cs 70)).alloc B).heap.size = wr.heap.size + 2 := by simp
  have hS : some S ≠ v.ownBlock := fun e => by have := (h6.lt S e.symm).1; omega
  have blk : ∀ k, k < wr.heap.size → some k ≠ v.ownBlock → w1.heap[k]? = wr.heap[k]? := fun k hk hr => (hg.block k (by omega) hr).trans (hb0.block k hk)
  have hSb := blk S h1 hS
  have c0 : w1.cell? ⟨S, 0, none⟩ = some v := (World.cell?_of_block (a := ⟨S, 0, none⟩) hSb).trans h2
  have c1 : w1.cell? ⟨S, 1, none⟩ = some (.map none) := (World.cell?_of_block (a := ⟨S, 1, none⟩) hSb).trans h3
  have f0 : w1.frozen? ⟨S, 0, none⟩ = false := (World.frozen?_of_block (a := ⟨S, 0, none⟩) hSb).trans h4
  have hw1 : wr.heap.size + 2 ≤ w1.heap.size := by have := hg.size; omega
  have hbS : Below S wr w1 := ⟨hg.os, hg.tape, hg.output, by omega, fun k hk => blk k (by omega) (fun e => by have := (h6.lt k e.symm).1; omega)⟩
  have hbset := Below.setCell hbS (p := ⟨S, 0, none⟩) (Nat.le_refl S) v'
  refine ⟨c0, f0, ⟨?_, World.cell?_setCell_same _ _ _ c0, ?_, by simp [f0], by simp [h5], ?_, ?_⟩, hbset⟩
  · have := hbset.size; omega
  · rw [World.cell?_setCell_other _ _ _ _ (by simp)]; exact c1
  · have := ownsRow_setCell_below ho (a := ⟨S, 0, none⟩) (by show S < S + 1; omega) v'
    simpa [ptrs] using this
  · intro i hi
    rw [List.length_append, List.length_singleton] at hi
    refine DenyAt.set ?_ v'
    by_cases hil : i < ids.length
    · have e1 : (Ps ++ [wr.heap.size]).getD i 0 = Ps.getD i 0 := by simp [List.getD, List.getElem?_append_left (show i < Ps.length by omega)]
      rw [e1, List.getElem_append_left hil]
      have hd := h7 i hil
      have hp : Ps.getD i 0 < wr.heap.size := by obtain ⟨_, _, hh, _⟩ := hd; exact (Array.getElem?_eq_some_iff.1 hh).1
      exact (hd.below hb0 hp).grown hg (hd.notRow h6)
    · have hie : i = ids.length := by omega
      subst hie
      have e1 : (Ps ++ [wr.heap.size]).getD ids.length 0 = wr.heap.size := by rw [← h5]; simp [List.getD]
      have e2 : (ids ++ [id])[ids.length]'(by simp) = id := by simp
      rw [e1, e2]
      refine ⟨h1, cs, ?_, hc⟩
      have hn : some wr.heap.size ≠ v.ownBlock := fun e => by have := (h6.lt _ e.symm).2; omega
      rw [hg.block wr.heap.size (by omega) hn, Below.heap_alloc _ _ _ (by simp)]
      exact heap_alloc_new wr _

set_option maxRecDepth 100000 in
set_option maxHeartbeats 400000 in
theorem newDenySet_any (G : Nat) (a : Option Addr) (c : Nat) (l : List ByteArray) (w : World) (hS : SS G w a c l) (hG : G ≤ w.heap.size) (hl : l.length ≤ 65536) :
    Calls Try.prog 15 #[.slice a l.length c] w fun e w' => e = .returned (.pointer (some ⟨w.heap.size, 0, none⟩)) ∧ (∃ v Ps, DSet w.heap.size w' v Ps l) ∧ Below w.heap.size w w' := by
  have HS : Hid (SS G w a c l) := hS
  clear hS
  obtain ⟨i0, hi, hz0, hz1, hz2⟩ := info_parts info63
  go_enter Try.func15, Try.ntmps15
  go_wp2
  go_loopw [10] (fun i wr => ∃ (k : Nat) (v : Value) (Ps : List Nat), k ≤ l.length ∧ i = .int .i64 k ∧ DSet w.heap.size wr v Ps (l.take k) ∧ Below w.heap.size w wr) (fun i _ => l.length - (intOf i).toNat)
  case atStart =>
    refine ⟨0, .slice none 0 0, [], Nat.zero_le _, rfl, ?_, (Below.refl _ _).alloc (Nat.le_refl _) _⟩
    exact ⟨by simp, by simp, by simp, by simp, by simp, World.ownsRow_nil _ _ _ _, fun i hi => by simp at hi⟩
  case round =>
    obtain ⟨k, v, Ps, hk, rfl, hD, hb⟩ := hrel
    have HD : Hid (DSet w.heap.size wr v Ps (l.take k)) := hD
    by_cases hlt : k < l.length
    · have hSr := HS.out.below (hb.mono hG)
      obtain ⟨_, _, hsz, h3⟩ := hSr
      rcases h3 with rfl | ⟨g, o, rfl, hg, hc⟩
      · simp at hlt
      have hck := hc k hlt
      clear hc hsz
      obtain ⟨d1, d2, d3, d4, d5, d6, d7⟩ := hD
      have hlk : (l.take k).length = k := by rw [List.length_take]; omega
      rw [hlk] at d6
      clear d7 d5 hlk
      have hgw : g < wr.heap.size := by have := hb.size; omega
      have hS1 : ∀ k', v.ownBlock = some k' → w.heap.size + 1 ≤ k' := fun k' hk' => (d6.lt k' hk').1
      have HS1 : Hid (∀ k', v.ownBlock = some k' → w.heap.size + 1 ≤ k') := hS1
      clear hS1
      obtain ⟨va, vn, vc, rfl⟩ : ∃ va vn vc, v = .slice va vn vc := by
        rcases d6.2 with ⟨rfl, _⟩ | ⟨g, cap, cur, rfl, _⟩
        · exact ⟨_, _, _, rfl⟩
        · exact ⟨_, _, _, rfl⟩
      go_wp2_with (at_builtin; refine wpList_append_own _ rfl _ _ 72 rfl (w.heap.size + 1) 63 i0 (.pointer none) 1 8 Try.underlying72 hi hz0 hz1 hz2 rfl (by decide) _ _ _ rfl ((d6.alloc _).alloc _) ⟨wr.heap.size + 1, 0, none⟩ 1 1 [.pointer (some ⟨wr.heap.size, 0, none⟩)] rfl rfl ?c1 ?c2 ?c3 ?c4 ?c5 ?_)
      case c1 =>
        intro j u hj
        match j, hj with
        | 0, hj => simp at hj; subst hj; simp [Addr.add]
      case c2 => intro u hu; simp at hu; subst hu; rfl
      case c3 => unfold maxLen; omega
      case c4 => omega
      case c5 => simp; omega
      intro v' w1 hown' hg' _
      obtain ⟨g', cap', rfl⟩ : ∃ g' cap', v' = .slice (some ⟨g', 0, none⟩) (k + 1) cap' := by
        rcases hown'.2 with ⟨_, h0⟩ | ⟨g', cap', cur, rfl, _⟩
        · omega
        · exact ⟨g', cap', rfl⟩
      have hlk : (l.take k).length = k := by rw [List.length_take]; omega
      obtain ⟨c0, f0, hD', hb'⟩ := HD.out.push (id := l[k]) rfl hg' (by rw [hlk]; exact hown')
      have hts : l.take k ++ [l[k]] = l.take (k + 1) := (List.take_succ_eq_append_getElem hlt).symm
      rw [hts] at hD'
      have HD' : Hid (DSet w.heap.size (w1.setCell ⟨w.heap.size, 0, none⟩ (.slice (some ⟨g', 0, none⟩) (k + 1) cap')) (.slice (some ⟨g', 0, none⟩) (k + 1) cap') (Ps ++ [wr.heap.size]) (l.take (k + 1))) := hD'
      clear hD' hown' hg' hlk hts HD d6 d2
      go_wp2
      go_roundw
      case rel => exact ⟨k + 1, _, _, by omega, by go_num, HD'.out, hb.trans hb'⟩
      case measure => simp [intOf]; omega
    · have hkl : k = l.length := by omega
      subst hkl
      clear hD
      go_wp2
      go_ret
      have h := HD.out
      rw [List.take_of_length_le (Nat.le_refl _)] at h
      exact ⟨rfl, ⟨v, Ps, h⟩, hb⟩
end Go.Proofs.Qxb6614642a
