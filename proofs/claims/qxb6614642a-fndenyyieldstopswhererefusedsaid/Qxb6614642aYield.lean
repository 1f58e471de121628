/-
  SEAT b6614642a: the closure, yieldDenies, denySet.yield, ZZdenyYield.
-/
import Derived.Test.Qxb6614642aDenySet
namespace Go.Proofs.Qxb6614642a
open Go.RowKit
set_option linter.unusedVariables false

theorem info9 : (Try.prog.info? 9).map (fun i => (i.zero, i.size, i.bytes)) = some (some (.string ByteArray.empty), 1, 16) := by kernel_rfl

/-- The strings as cells. -/
def strs (l : List ByteArray) : List Value := l.map Value.string

/-- WHAT THE CLOSURE KEEPS: at V the slice seen, whose strings are l; at T the number st. -/
structure Seen (G V T : Nat) (w : World) (st : Int) (sv : Value) (l : List ByteArray) : Prop where
  v : w.heap[V]? = some (.cells #[sv] 34 (0, 0))
  t : w.heap[T]? = some (.cells #[.int .i64 st] 3 (0, 0))
  gv : G ≤ V
  gt : G ≤ T
  own : w.ownsRow G 9 1 sv l.length (strs l)

theorem Seen.vNotRow {G V T : Nat} {w : World} {st : Int} {sv : Value} {l : List ByteArray} (h : Seen G V T w st sv l) : some V ≠ sv.ownBlock ∧ some T ≠ sv.ownBlock := by
  rcases h.own.2 with ⟨rfl, _⟩ | ⟨g, cap, cur, rfl, _, hg, _⟩
  · simp [Value.ownBlock]
  · refine ⟨fun e => ?_, fun e => ?_⟩
    · simp [Value.ownBlock] at e
      subst e
      have := h.v
      rw [hg] at this
      simp at this
    · simp [Value.ownBlock] at e
      subst e
      have := h.t
      rw [hg] at this
      simp at this

theorem heap_setCell_one {w : World} {V : Nat} {sv u : Value} {ty : TypeId} (h : w.heap[V]? = some (.cells #[sv] ty (0, 0))) : (w.setCell ⟨V, 0, none⟩ u).heap[V]? = some (.cells #[u] ty (0, 0)) := by
  simp [World.setCell, Array.getElem?_modify, h]

theorem ownsRow_setCell_ne {w : World} {base : Nat} {e : TypeId} {size : Nat} {v : Value} {n : Nat} {xs : List Value} (h : w.ownsRow base e size v n xs) {a : Addr} (ha : some a.block ≠ v.ownBlock) (u : Value) : (w.setCell a u).ownsRow base e size v n xs := by
  obtain ⟨h1, h2⟩ := h
  refine ⟨h1, ?_⟩
  rcases h2 with h2 | ⟨g, cap, cur, rfl, hg, hh, r⟩
  · exact Or.inl h2
  · have hne : g ≠ a.block := fun e => ha (by rw [← e]; rfl)
    exact Or.inr ⟨g, cap, cur, rfl, hg, by rw [Below.heap_setCell _ _ _ _ hne]; exact hh, r⟩

/-- ONE STRING MORE: behind the append and the store. -/
theorem Seen.push {G V T : Nat} {w w1 : World} {st : Int} {sv sv' : Value} {l : List ByteArray} {id : ByteArray} {B : Obj} (h : Seen G V T w st sv l)
    (hg : (w.alloc B).grownBy w1 sv.ownBlock) (ho : w1.ownsRow G 9 1 sv' (l.length + 1) (strs l ++ [.string id])) :
    w1.heap[V]? = some (.cells #[sv] 34 (0, 0)) ∧ w1.heap[T]? = some (.cells #[.int .i64 st] 3 (0, 0)) ∧ Seen G V T (w1.setCell ⟨V, 0, none⟩ sv') st sv' (l ++ [id]) ∧ Below G w (w1.setCell ⟨V, 0, none⟩ sv') := by
  have hn := h.vNotRow
  have hVlt : V < w.heap.size := (Array.getElem?_eq_some_iff.1 h.v).1
  have hTlt : T < w.heap.size := (Array.getElem?_eq_some_iff.1 h.t).1
  have blk : ∀ k, k < w.heap.size → some k ≠ sv.ownBlock → w1.heap[k]? = w.heap[k]? := fun k hk hr => (hg.block k (by simp; omega) hr).trans (Below.heap_alloc _ _ _ hk)
  have hV := (blk V hVlt hn.1).trans h.v
  have hT := (blk T hTlt hn.2).trans h.t
  have hTV : T ≠ V := fun e => by subst e; rw [hV] at hT; simp at hT
  have hbG : Below G w w1 := ⟨hg.os, hg.tape, hg.output, by have := hg.size; simp at this; omega, fun k hk => blk k (by have := h.gv; omega) (fun e => by have := (h.own.lt k e.symm).1; omega)⟩
  have hrow : some V ≠ sv'.ownBlock := by
    rcases ho.2 with ⟨rfl, _⟩ | ⟨g, cap, cur, rfl, _, hgg, _⟩
    · simp [Value.ownBlock]
    · intro e
      simp [Value.ownBlock] at e
      subst e
      rw [hgg] at hV
      simp at hV
  refine ⟨hV, hT, ⟨heap_setCell_one hV, (Below.heap_setCell _ _ _ _ hTV).trans hT, h.gv, h.gt, ?_⟩, Below.setCell hbG (p := ⟨V, 0, none⟩) h.gv sv'⟩
  have := ownsRow_setCell_ne ho (a := ⟨V, 0, none⟩) hrow sv'
  simpa [strs] using this

theorem cell_of_one {w : World} {V : Nat} {x : Value} {ty : TypeId} (h : w.heap[V]? = some (.cells #[x] ty (0, 0))) : w.cell? ⟨V, 0, none⟩ = some x ∧ w.frozen? ⟨V, 0, none⟩ = false := by
  refine ⟨?_, ?_⟩
  · rw [cell_of_row w V 0 _ ty (0, 0) h]; rfl
  · simp [World.frozen?, h]

theorem assert63 (W : World) (v : Value) : (Instr.typeAssert (.iface 63 v) 62 63 true).run Try.prog W = .ok (.tuple #[v, .bool true]) W := by kernel_rfl

set_option maxRecDepth 100000 in
set_option maxHeartbeats 400000 in
theorem closure_any (G V T : Nat) (st : Int) (sv : Value) (l : List ByteArray) (p : Nat) (id : ByteArray) (S : Nat) (w : World) (hs : Seen G V T w st sv l) (hp : DenyAt S w p id) (hpG : p < G) (hl : l.length ≤ 65536) :
    Calls Try.prog 23 #[.iface 63 (.pointer (some ⟨p, 0, none⟩)), .pointer (some ⟨V, 0, none⟩), .pointer (some ⟨T, 0, none⟩)] w
      fun e w' => e = .returned (.bool (decide ((l.length : Int) + 1 ≤ st))) ∧ (∃ sv', Seen G V T w' st sv' (l ++ [id])) ∧ Below G w w' := by
  obtain ⟨i0, hi, hz0, hz1, hz2⟩ := info_parts info9
  have Hs : Hid (Seen G V T w st sv l) := hs
  obtain ⟨cv, fv⟩ := cell_of_one hs.v
  obtain ⟨ct, _⟩ := cell_of_one hs.t
  have cp : w.cell? ⟨p, 0, none⟩ = some (.string id) := by
    obtain ⟨_, cs, h1, h2⟩ := hp
    rw [cell_of_row w p 0 _ 70 (0, 0) h1]; exact h2
  have hVlt : V < w.heap.size := (Array.getElem?_eq_some_iff.1 hs.v).1
  have hTlt : T < w.heap.size := (Array.getElem?_eq_some_iff.1 hs.t).1
  have hGV := hs.gv
  have own := hs.own
  clear hs hp
  obtain ⟨va, vn, vc, rfl⟩ : ∃ va vn vc, sv = .slice va vn vc := by
    rcases own.2 with ⟨rfl, _⟩ | ⟨g, cap, cur, rfl, _⟩
    · exact ⟨_, _, _, rfl⟩
    · exact ⟨_, _, _, rfl⟩
  go_enter Try.func23, Try.ntmps23
  have qas := assert63
  go_wp2_with (at_builtin; refine wpList_append_own _ rfl _ _ 34 rfl G 9 i0 (.string ByteArray.empty) 1 16 Try.underlying34 hi hz0 hz1 hz2 rfl (by decide) _ _ _ rfl (own.alloc _) ⟨w.heap.size, 0, none⟩ 1 1 [.string id] rfl rfl ?c1 ?c2 ?c3 ?c4 ?c5 ?_)
  case c1 =>
    intro j u hj
    match j, hj with
    | 0, hj => simp at hj; subst hj; simp [Addr.add]
  case c2 => intro u hu; simp at hu; subst hu; rfl
  case c3 => unfold maxLen; omega
  case c4 => omega
  case c5 => simp; omega
  intro v' w1 hown' hg' _
  obtain ⟨g', cap', rfl⟩ : ∃ g' cap', v' = .slice (some ⟨g', 0, none⟩) (l.length + 1) cap' := by
    rcases hown'.2 with ⟨_, h0⟩ | ⟨g', cap', cur, rfl, _⟩
    · omega
    · exact ⟨g', cap', rfl⟩
  obtain ⟨hV1, hT1, hs', hb'⟩ := Hs.out.push hg' hown'
  obtain ⟨cv1, fv1⟩ := cell_of_one hV1
  have ct2 := (cell_of_one hs'.t).1
  have HS' : Hid (Seen G V T (w1.setCell ⟨V, 0, none⟩ (.slice (some ⟨g', 0, none⟩) (l.length + 1) cap')) st (.slice (some ⟨g', 0, none⟩) (l.length + 1) cap') (l ++ [id])) := hs'
  clear hs' hV1 hT1 hown' hg' cv ct cp own Hs qas
  go_wp2
  go_ret
  exact ⟨by simp, ⟨_, HS'.out⟩, hb'⟩

theorem DSet.below {S : Nat} {w w' : World} {v : Value} {Ps : List Nat} {ids : List ByteArray} (h : DSet S w v Ps ids) (hb : Below w.heap.size w w') : DSet S w' v Ps ids := by
  obtain ⟨h1, h2, h3, h4, h5, h6, h7⟩ := h
  refine ⟨Nat.lt_of_lt_of_le h1 hb.size, (hb.cell (p := ⟨S, 0, none⟩) h1).trans h2, (hb.cell (p := ⟨S, 1, none⟩) h1).trans h3, (hb.frozen (p := ⟨S, 0, none⟩) h1).trans h4, h5, ?_, fun i hi => ?_⟩
  · exact h6.kept (row := none) ⟨hb.os, hb.tape, hb.output, hb.size, fun k hk _ => hb.block k hk⟩ (by cases hv : v.ownBlock <;> simp)
  · have hd := h7 i hi
    have hp : Ps.getD i 0 < w.heap.size := by obtain ⟨_, _, hh, _⟩ := hd; exact (Array.getElem?_eq_some_iff.1 hh).1
    exact hd.below hb hp

/-- HOW MANY DENIES ARE PASSED: all n, or stopAt + 1 of them. -/
def passed (n : Nat) (st : Int) : Nat := if (n : Int) ≤ st then n else (st + 1).toNat

set_option maxRecDepth 100000 in
set_option maxHeartbeats 400000 in
theorem yieldDenies_any (S V T : Nat) (v sv : Value) (Ps : List Nat) (ids : List ByteArray) (st : Int) (w0 w : World) (hD : DSet S w0 v Ps ids) (hb0 : Below w0.heap.size w0 w) (hs : Seen w0.heap.size V T w st sv []) (hl : ids.length ≤ 65536) (hst : 0 ≤ st) :
    Calls Try.prog 24 #[v, .func (.func 23) #[] #[.pointer (some ⟨V, 0, none⟩), .pointer (some ⟨T, 0, none⟩)]] w
      fun e w' => e = .returned (.bool (decide ((ids.length : Int) ≤ st))) ∧ (∃ sv', Seen w0.heap.size V T w' st sv' (ids.take (passed ids.length st))) ∧ Below w0.heap.size w0 w' := by
  have HD : Hid (DSet S w0 v Ps ids) := hD
  have HS0 : Hid (Seen w0.heap.size V T w st sv []) := hs
  have hvf : ∃ va vc, v = .slice va ids.length vc := by
    rcases hD.own.2 with ⟨rfl, h0⟩ | ⟨g, cap, cur, rfl, _⟩
    · exact ⟨none, 0, by rw [h0]⟩
    · exact ⟨_, _, rfl⟩
  obtain ⟨va, vc, rfl⟩ := hvf
  clear hD hs
  go_enter Try.func24, Try.ntmps24
  go_wp2_with fail
  go_loopw [9] (fun i wr => ∃ (k : Nat) (sv : Value), k ≤ ids.length ∧ i = .int .i64 k ∧ (k : Int) ≤ st ∧ Seen w0.heap.size V T wr st sv (ids.take k) ∧ Below w0.heap.size w0 wr) (fun i _ => ids.length - (intOf i).toNat)
  case atStart => exact ⟨0, sv, Nat.zero_le _, rfl, hst, HS0.out, hb0⟩
  case round =>
    obtain ⟨k, sv1, hk, rfl, hks, hs1, hb1⟩ := hrel
    have Hs1 : Hid (Seen w0.heap.size V T wr st sv1 (ids.take k)) := hs1
    clear hs1 HS0 hb0
    by_cases hlt : k < ids.length
    · have hDr := HD.out.below hb1
      have hd := hDr.each k hlt
      have hpl : Ps.getD k 0 < w0.heap.size := by obtain ⟨_, _, hh, _⟩ := HD.out.each k hlt; exact (Array.getElem?_eq_some_iff.1 hh).1
      obtain ⟨g, rfl⟩ : ∃ g, va = some ⟨g, 0, none⟩ := by
        rcases hDr.own.2 with ⟨_, h0⟩ | ⟨g, cap, cur, h, _⟩
        · omega
        · simp at h; exact ⟨g, h.1⟩
      have hck : wr.cell? ⟨g, k, none⟩ = some (.pointer (some ⟨Ps.getD k 0, 0, none⟩)) := by
        have := hDr.own.cells (g := g) rfl k (.pointer (some ⟨Ps.getD k 0, 0, none⟩)) (by
          have hkP : k < Ps.length := by rw [hDr.len]; exact hlt
          simp [ptrs, List.getD, List.getElem?_eq_getElem hkP])
        rw [Addr.add_lit, Nat.zero_add] at this
        exact this
      generalize Ps.getD k 0 = p at *
      clear hDr
      have Hd : Hid (DenyAt S wr p ids[k]) := hd
      clear hd
      have hlk : (ids.take k).length = k := by rw [List.length_take]; omega
      have Hcl := closure_any w0.heap.size V T st sv1 (ids.take k) p ids[k] S wr Hs1.out Hd.out hpl (by omega)
      rw [hlk, (List.take_succ_eq_append_getElem hlt).symm] at Hcl
      have HC : Hid (Calls Try.prog 23 #[.iface 63 (.pointer (some ⟨p, 0, none⟩)), .pointer (some ⟨V, 0, none⟩), .pointer (some ⟨T, 0, none⟩)] wr
        fun e w' => e = .returned (.bool (decide ((k : Int) + 1 ≤ st))) ∧ (∃ sv', Seen w0.heap.size V T w' st sv' (ids.take (k + 1))) ∧ Below w0.heap.size wr w') := Hcl
      clear Hcl hlk
      go_wp2_with fail
      refine HC.out.mono ?_
      rintro e w2 ⟨rfl, ⟨sv2, hs2⟩, hb2⟩
      have Hs2 : Hid (Seen w0.heap.size V T w2 st sv2 (ids.take (k + 1))) := hs2
      clear hs2
      by_cases hgo : (k : Int) + 1 ≤ st
      · rw [decide_eq_true hgo]
        go_wp2
        go_roundw
        case rel => exact ⟨k + 1, sv2, by omega, by go_num, by omega, Hs2.out, hb1.trans hb2⟩
        case measure => simp [intOf]; omega
      · rw [decide_eq_false hgo]
        have hpass : passed ids.length st = k + 1 := by unfold passed; rw [if_neg (by omega)]; omega
        have hret : decide ((ids.length : Int) ≤ st) = false := by simp; omega
        have Hp : Hid (passed ids.length st = k + 1) := hpass
        have Hr : Hid (decide ((ids.length : Int) ≤ st) = false) := hret
        clear hpass hret
        go_wp2
        go_ret
        rw [Hp.out, Hr.out]
        exact ⟨rfl, ⟨sv2, Hs2.out⟩, hb1.trans hb2⟩
    · have hkl : k = ids.length := by omega
      subst hkl
      have hpass : passed ids.length st = ids.length := by unfold passed; rw [if_pos hks]
      have Hp : Hid (passed ids.length st = ids.length) := hpass
      have Hks : Hid ((ids.length : Int) ≤ st) := hks
      clear hpass hks
      go_wp2
      go_ret
      rw [Hp.out, decide_eq_true Hks.out]
      exact ⟨rfl, ⟨sv1, Hs1.out⟩, hb1⟩
end Go.Proofs.Qxb6614642a
