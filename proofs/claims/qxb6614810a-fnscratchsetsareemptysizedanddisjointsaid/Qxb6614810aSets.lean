/-
  SEAT b6614810a: what stands while sets are taken, marked and laid in a row: no Go in sight but the world.
-/
import Derived.Test.Qxb6614810aLeaves
namespace Go.Proofs.Qxb6614810a
open Go.RowKit
set_option linter.unusedVariables false

/-- The words of the i-th set. -/
def kOf (z : Nat → Int) (i : Nat) : Nat := ((z i).toNat + 63) / 64

/-- A SET TAKEN EARLIER: its words all bear its mark, and lie outside what may be carved yet. -/
def SetOf (w : World) (a : Option Addr) (lim S T i q : Nat) (v : Value) : Prop :=
  ∃ va, v = .slice va q q ∧ (q = 0 ∨ ∃ b o, va = some ⟨b, o, none⟩ ∧ b ≠ S ∧ b ≠ T ∧ (a = some ⟨b, 0, none⟩ → o + q ≤ lim) ∧ ∀ l, l < q → w.cell? ⟨b, o + l, none⟩ = some (.int .u64 ((i : Int) + 1)))

/-- THE SET IN HAND: at 'used' of the memory. -/
def Mine (B S T : Nat) (w : World) (va a : Option Addr) (used k : Nat) (val : Nat → Int) : Prop :=
  k = 0 ∨ ∃ m, va = some ⟨m, used, none⟩ ∧ a = some ⟨m, 0, none⟩ ∧ B ≤ m ∧ m ≠ S ∧ m ≠ T ∧ ∀ l, l < k → w.cell? ⟨m, used + l, none⟩ = some (.int .u64 (val l)) ∧ w.frozen? ⟨m, used + l, none⟩ = false

structure Inv7 (B S T n : Nat) (z : Nat → Int) (w wr : World) (a : Option Addr) (ml used lim j : Nat) : Prop where
  slab : Slab S wr a ml used
  cap : ml ≤ 8000000
  at' : ∀ x, a = some x → B ≤ x.block
  le : B ≤ S
  below : Below B w wr
  tne : T ≠ S
  tge : B ≤ T
  tlt : T < wr.heap.size
  ta : a ≠ some ⟨T, 0, none⟩
  row : ∀ i, i < n → (wr.cell? ⟨T, i, none⟩).isSome = true ∧ wr.frozen? ⟨T, i, none⟩ = false
  sets : ∀ i, i < j → ∃ v, wr.cell? ⟨T, i, none⟩ = some v ∧ SetOf wr a lim S T i (kOf z i) v

theorem some_setCell (w : World) (p x : Addr) (v : Value) (h : (w.cell? x).isSome = true) : ((w.setCell p v).cell? x).isSome = true := by
  by_cases e : p = x
  · subst e
    obtain ⟨u, hu⟩ := Option.isSome_iff_exists.1 h
    rw [World.cell?_setCell_same _ _ _ hu]; rfl
  · rw [World.cell?_setCell_other _ _ _ _ e]; exact h

theorem Slab.set {S : Nat} {w : World} {a : Option Addr} {ml used : Nat} (h : Slab S w a ml used) (p : Addr) (v : Value) (hp : p.block ≠ S) : Slab S (w.setCell p v) a ml used := by
  obtain ⟨h1, h2, h3, h4, h5, h6, h7⟩ := h
  have fz : ∀ x, (w.setCell p v).frozen? x = w.frozen? x := fun x => World.frozen?_setCell _ _ _ _
  have sz : (w.setCell p v).heap.size = w.heap.size := by simp only [World.setCell, Array.size_modify]
  have ne : ∀ o, p ≠ ⟨S, o, none⟩ := fun o e => hp (congrArg Addr.block e)
  refine ⟨by rw [sz]; exact h1, ?_, ?_, (fz _).trans h4, (fz _).trans h5, h6, ?_⟩
  · rw [World.cell?_setCell_other _ _ _ _ (ne _)]; exact h2
  · rw [World.cell?_setCell_other _ _ _ _ (ne _)]; exact h3
  · rcases h7 with h | ⟨m, e, hm1, hm2, hm3⟩
    · exact .inl h
    · exact .inr ⟨m, e, hm1, by rw [sz]; exact hm2, fun i hi => ⟨some_setCell _ _ _ _ (hm3 i hi).1, (fz _).trans (hm3 i hi).2⟩⟩

/-- A SET IS TAKEN. -/
theorem Inv7.take {B S T n k used ml ml' j : Nat} {z : Nat → Int} {w wr w' : World} {a va a' : Option Addr} (h : Inv7 B S T n z w wr a ml used used j) (hs : SetAt B S a used k wr w' va a' ml') :
    Inv7 B S T n z w w' a' ml' (used + k) used j ∧ Mine B S T w' va a' used k (fun _ => 0) := by
  have hSlt := h.slab.lt
  have hle := h.le
  have hat : ∀ x, a' = some x → B ≤ x.block := by
    rintro x rfl
    rcases hs.place with e | ⟨m, e, hm⟩
    · exact h.at' x e.symm
    · rw [Option.some.inj e]; show B ≤ m; omega
  have hta : a' ≠ some ⟨T, 0, none⟩ := by
    rcases hs.place with e | ⟨m, e, hm⟩
    · rw [e]; exact h.ta
    · rw [e]; intro e2
      have : m = T := congrArg Addr.block (Option.some.inj e2)
      have := h.tlt; omega
  have tc : ∀ i, w'.cell? ⟨T, i, none⟩ = wr.cell? ⟨T, i, none⟩ := fun i => hs.kept.cell T i h.tlt h.tne (fun e => absurd e h.ta)
  refine ⟨⟨hs.slab, hs.cap, hat, h.le, h.below.trans hs.kept.below, h.tne, h.tge, Nat.lt_of_lt_of_le h.tlt ?_, hta, fun i hi => ?_, fun i hi => ?_⟩, ?_⟩
  · rcases Nat.lt_or_ge w'.heap.size wr.heap.size with hlt | hge
    · exact absurd hs.kept.below.size (by omega)
    · exact hge
  · rw [tc, hs.kept.frozen T i h.tlt]; exact h.row i hi
  · obtain ⟨v, hv, va, e, hset⟩ := h.sets i hi
    refine ⟨v, (tc i).trans hv, va, e, ?_⟩
    rcases hset with h0 | ⟨b, o, e1, hb1, hb2, hlim, hc⟩
    · exact .inl h0
    · by_cases hq : kOf z i = 0
      · exact .inl hq
      have hblt : b < wr.heap.size := lt_of_cell (hc 0 (by omega))
      refine .inr ⟨b, o, e1, hb1, hb2, ?_, fun l hl => ?_⟩
      · intro ea
        rcases hs.place with e2 | ⟨m, e2, hm⟩
        · exact hlim (e2.symm.trans ea)
        · rw [e2] at ea
          have : m = b := congrArg Addr.block (Option.some.inj ea)
          omega
      · rw [hs.kept.cell b (o + l) hblt hb1 (fun ea => .inl (by have := hlim ea; omega))]
        exact hc l hl
  · rcases hs.words with h0 | ⟨m, ea, ev, hm, hc⟩
    · exact .inl h0
    · rcases hs.slab.mem with ⟨e, _⟩ | ⟨m', e, hm1, hm2, hm3⟩
      · rw [ea] at e; cases e
      · have em : m = m' := congrArg Addr.block (Option.some.inj (ea.symm.trans e))
        subst em
        refine .inr ⟨m, ev, ea, hm, hm1, ?_, fun l hl => ⟨hc l hl, (hm3 _ (by have := hs.slab.le; omega)).2⟩⟩
        rintro rfl
        exact hta ea

/-- A WORD OF THE SET IN HAND IS MARKED. -/
theorem Inv7.mark {B S T n k used ml j m l : Nat} {z : Nat → Int} {w wr : World} {a : Option Addr} {x : Int} (h : Inv7 B S T n z w wr a ml (used + k) used j)
    (ea : a = some ⟨m, 0, none⟩) (hB : B ≤ m) (hS : m ≠ S) (hT : m ≠ T) (hl : l < k) :
    Inv7 B S T n z w (wr.setCell ⟨m, used + l, none⟩ (.int .u64 x)) a ml (used + k) used j := by
  have fz : ∀ y, (wr.setCell ⟨m, used + l, none⟩ (.int .u64 x)).frozen? y = wr.frozen? y := fun y => World.frozen?_setCell _ _ _ _
  have sz : (wr.setCell ⟨m, used + l, none⟩ (.int .u64 x)).heap.size = wr.heap.size := by simp only [World.setCell, Array.size_modify]
  have tc : ∀ i, (wr.setCell ⟨m, used + l, none⟩ (.int .u64 x)).cell? ⟨T, i, none⟩ = wr.cell? ⟨T, i, none⟩ := fun i => World.cell?_setCell_other _ _ _ _ (ne_block hT)
  refine ⟨h.slab.set _ _ hS, h.cap, h.at', h.le, h.below.setCell (p := ⟨m, used + l, none⟩) hB _, h.tne, h.tge, by rw [sz]; exact h.tlt, h.ta, fun i hi => ?_, fun i hi => ?_⟩
  · rw [tc, fz]; exact h.row i hi
  · obtain ⟨v, hv, va, e, hset⟩ := h.sets i hi
    refine ⟨v, (tc i).trans hv, va, e, ?_⟩
    rcases hset with h0 | ⟨b, o, e1, hb1, hb2, hlim, hc⟩
    · exact .inl h0
    · refine .inr ⟨b, o, e1, hb1, hb2, hlim, fun l' hl' => ?_⟩
      rw [World.cell?_setCell_other _ _ _ _ ?_]
      · exact hc l' hl'
      · intro e2
        have e3 : m = b := congrArg Addr.block e2
        have e4 : used + l = o + l' := congrArg Addr.off e2
        have := hlim (by rw [← e3]; exact ea)
        omega

/-- THE SET IN HAND IS LAID INTO THE ROW. -/
theorem Inv7.lay {B S T n k used ml j : Nat} {z : Nat → Int} {w wr : World} {a va : Option Addr} (h : Inv7 B S T n z w wr a ml (used + k) used j)
    (hm : Mine B S T wr va a used k (fun _ => (j : Int) + 1)) (hk : kOf z j = k) (hj : j < n) :
    Inv7 B S T n z w (wr.setCell ⟨T, j, none⟩ (.slice va k k)) a ml (used + k) (used + k) (j + 1) := by
  have fz : ∀ y, (wr.setCell ⟨T, j, none⟩ (.slice va k k)).frozen? y = wr.frozen? y := fun y => World.frozen?_setCell _ _ _ _
  have sz : (wr.setCell ⟨T, j, none⟩ (.slice va k k)).heap.size = wr.heap.size := by simp only [World.setCell, Array.size_modify]
  refine ⟨h.slab.set _ _ h.tne, h.cap, h.at', h.le, h.below.setCell (p := ⟨T, j, none⟩) h.tge _, h.tne, h.tge, by rw [sz]; exact h.tlt, h.ta, fun i hi => ?_, fun i hi => ?_⟩
  · exact ⟨some_setCell _ _ _ _ (h.row i hi).1, (fz _).trans (h.row i hi).2⟩
  · by_cases e : i = j
    · subst e
      obtain ⟨u, hu⟩ := Option.isSome_iff_exists.1 (h.row i hj).1
      refine ⟨_, World.cell?_setCell_same _ _ _ hu, va, by rw [hk], ?_⟩
      rw [hk]
      rcases hm with h0 | ⟨m, ev, ea, _, hS, hT, hc⟩
      · exact .inl h0
      · refine .inr ⟨m, used, ev, hS, hT, fun _ => Nat.le_refl _, fun l hl => ?_⟩
        rw [World.cell?_setCell_other _ _ _ _ (ne_block (Ne.symm hT))]
        exact (hc l hl).1
    · obtain ⟨v, hv, va', e', hset⟩ := h.sets i (by omega)
      refine ⟨v, ?_, va', e', ?_⟩
      · rw [World.cell?_setCell_other _ _ _ _ (ne_off (Ne.symm e))]; exact hv
      · rcases hset with h0 | ⟨b, o, e1, hb1, hb2, hlim, hc⟩
        · exact .inl h0
        · refine .inr ⟨b, o, e1, hb1, hb2, fun ea => Nat.le_trans (hlim ea) (Nat.le_add_right _ _), fun l hl => ?_⟩
          rw [World.cell?_setCell_other _ _ _ _ (ne_block (Ne.symm hb2))]
          exact hc l hl

theorem mine_put {used k m l : Nat} {val : Nat → Int} {wr : World} {x : Int} (hl : l < k)
    (hc : ∀ i, i < k → wr.cell? ⟨m, used + i, none⟩ = some (.int .u64 (val i)) ∧ wr.frozen? ⟨m, used + i, none⟩ = false) (val' : Nat → Int) (h1 : val' l = x) (h2 : ∀ i, i ≠ l → val' i = val i) :
    ∀ i, i < k → (wr.setCell ⟨m, used + l, none⟩ (.int .u64 x)).cell? ⟨m, used + i, none⟩ = some (.int .u64 (val' i)) ∧ (wr.setCell ⟨m, used + l, none⟩ (.int .u64 x)).frozen? ⟨m, used + i, none⟩ = false := by
  intro i hi
  refine ⟨?_, (World.frozen?_setCell _ _ _ _).trans (hc i hi).2⟩
  by_cases e : i = l
  · subst e
    rw [World.cell?_setCell_same _ _ _ (hc i hi).1, h1]
  · rw [World.cell?_setCell_other _ _ _ _ (ne_off (by omega)), h2 i e]
    exact (hc i hi).1

theorem Slab.below {S G : Nat} {w w' : World} {a : Option Addr} {ml used : Nat} (h : Slab S w a ml used) (hb : Below G w w') (hG : w.heap.size ≤ G) : Slab S w' a ml used := by
  obtain ⟨h1, h2, h3, h4, h5, h6, h7⟩ := h
  have c : ∀ b o, b < w.heap.size → w'.cell? ⟨b, o, none⟩ = w.cell? ⟨b, o, none⟩ := fun b o hlt => hb.cell (p := ⟨b, o, none⟩) (by show b < G; omega)
  have f : ∀ b o, b < w.heap.size → w'.frozen? ⟨b, o, none⟩ = w.frozen? ⟨b, o, none⟩ := fun b o hlt => hb.frozen (p := ⟨b, o, none⟩) (by show b < G; omega)
  refine ⟨Nat.lt_of_lt_of_le h1 hb.size, (c _ _ h1).trans h2, (c _ _ h1).trans h3, (f _ _ h1).trans h4, (f _ _ h1).trans h5, h6, ?_⟩
  rcases h7 with h | ⟨m, e, hm1, hm2, hm3⟩
  · exact .inl h
  · exact .inr ⟨m, e, hm1, Nat.lt_of_lt_of_le hm2 hb.size, fun i hi => by rw [c _ _ hm2, f _ _ hm2]; exact hm3 i hi⟩

theorem info22 : (Try.prog.info? 22).map (fun i => (i.zero, i.size, i.bytes)) = some (some (.slice none 0 0), 1, 24) := by kernel_rfl

theorem row_made {w w1 : World} {n : Nat} (hown : w1.ownsRow w.heap.size 22 1 (.slice (some ⟨w.heap.size, 0, none⟩) n n) n (madeCells #[.slice none 0 0] n).toList) (hg : w.grownBy w1 none) :
    Below w.heap.size w w1 ∧ w.heap.size < w1.heap.size ∧ ∀ i, i < n → (w1.cell? ⟨w.heap.size, i, none⟩).isSome = true ∧ w1.frozen? ⟨w.heap.size, i, none⟩ = false := by
  refine ⟨⟨hg.os, hg.tape, hg.output, hg.size, fun b hb => hg.block b hb (by simp)⟩, ?_⟩
  have h1 : ∃ cur cap, w1.heap[w.heap.size]? = some (.cells cur 22 (0, 0)) ∧ n = cap ∧ cur.size = cap := by
    rcases hown.2 with ⟨h, _⟩ | ⟨g, cap, cur, hv, _, hgg, _, _, hcs, _⟩
    · cases h
    · have e : w.heap.size = g ∧ n = cap := by simp at hv; exact ⟨hv.1, hv.2⟩
      obtain ⟨e1, e2⟩ := e
      rw [← e1] at hgg
      exact ⟨cur, cap, hgg, e2, by omega⟩
  obtain ⟨cur, cap, hgg, e, hcs⟩ := h1
  refine ⟨(Array.getElem?_eq_some_iff.1 hgg).1, fun i hi => ⟨?_, by simp [World.frozen?, hgg]⟩⟩
  rw [cell_of_row w1 w.heap.size i cur 22 (0, 0) hgg, Array.getElem?_eq_getElem (by omega)]
  rfl

theorem inv7_start {w w1 w2 w3 : World} {b2 : Option Addr} {n0 u0 n : Nat} {z0 z : Nat → Int} (hn : n0 ≤ 65536) (hc : Cloned w w1 b2 n0 z0) (hs : Slab w1.heap.size w2 b2 n0 u0) (hb : Below w1.heap.size w1 w2)
    (hb3 : Below w2.heap.size w2 w3) (hlt3 : w2.heap.size < w3.heap.size) (hrow : ∀ i, i < n → (w3.cell? ⟨w2.heap.size, i, none⟩).isSome = true ∧ w3.frozen? ⟨w2.heap.size, i, none⟩ = false) :
    Inv7 w.heap.size w1.heap.size w2.heap.size n z w w3 b2 n0 u0 u0 0 := by
  obtain ⟨h1, h2⟩ := hc
  have hle := h1.size
  have hle2 := hb.size
  have hSlt := hs.lt
  refine ⟨hs.below hb3 (Nat.le_refl _), by omega, ?_, hle, (h1.trans (hb.mono hle)).trans (hb3.mono (by omega)), by omega, by omega, hlt3, ?_, hrow, fun i hi => by omega⟩
  · rintro x rfl
    rcases h2 with ⟨h, _⟩ | ⟨h, _⟩
    · cases h
    · rw [Option.some.inj h]; exact Nat.le_refl _
  · rcases h2 with ⟨h, _⟩ | ⟨h, hbl⟩
    · rw [h]; intro e; cases e
    · rw [h]; intro e
      have : w.heap.size = w2.heap.size := congrArg Addr.block (Option.some.inj e)
      have := hbl.lt
      omega
end Go.Proofs.Qxb6614810a
