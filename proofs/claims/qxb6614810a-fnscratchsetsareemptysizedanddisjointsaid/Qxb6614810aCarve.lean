/-
  SEAT b6614810a: carve and what is above it.
-/
import Derived.Test.Qxb6614810aRows
import Derived.WalkKit
import Derived.WalkSpells
import Derived.Deep.QuietTactic
import Derived.BigQuiet
import Derived.Lib.SliceRun
namespace Go.Proofs.Qxb6614810a
open Go.RowKit
set_option linter.unusedVariables false

theorem info30 : (Try.prog.info? 30).map (fun i => (i.zero, i.size, i.bytes)) = some (some (.int .u64 0), 1, 8) := by kernel_rfl

/-- THE WORDS' SLAB AT BLOCK S: its memory at a, of ml words, the first 'used' of them carved. -/
structure Slab (S : Nat) (w : World) (a : Option Addr) (ml used : Nat) : Prop where
  lt : S < w.heap.size
  c0 : w.cell? ⟨S, 0, none⟩ = some (.slice a ml ml)
  c1 : w.cell? ⟨S, 1, none⟩ = some (.int .i64 used)
  f0 : w.frozen? ⟨S, 0, none⟩ = false
  f1 : w.frozen? ⟨S, 1, none⟩ = false
  le : used ≤ ml
  mem : (a = none ∧ ml = 0) ∨ ∃ m, a = some ⟨m, 0, none⟩ ∧ m ≠ S ∧ m < w.heap.size ∧ ∀ i, i < ml → (w.cell? ⟨m, i, none⟩).isSome = true ∧ w.frozen? ⟨m, i, none⟩ = false

/-- WHAT A CARVING LEAVES ALONE. -/
structure Carved (B S : Nat) (a : Option Addr) (used k : Nat) (w w' : World) : Prop where
  below : Below B w w'
  cell : ∀ b o, b < w.heap.size → b ≠ S → (a = some ⟨b, 0, none⟩ → o < used ∨ used + k ≤ o) → w'.cell? ⟨b, o, none⟩ = w.cell? ⟨b, o, none⟩
  frozen : ∀ b o, b < w.heap.size → w'.frozen? ⟨b, o, none⟩ = w.frozen? ⟨b, o, none⟩

theorem qclear (w : World) (ty b o n c : Nat) (hn : 0 < n) (hc : ∀ j, j < n → (w.cell? ⟨b, o + j, none⟩).isSome = true) (hf : ∀ j, j < n → w.frozen? ⟨b, o + j, none⟩ = false) :
    (Builtin.clear_ #[22] ty #[.slice (some ⟨b, o, none⟩) n c]).run Try.prog w = .ok (.tuple #[]) (w.setCells b o (List.replicate n (.int .u64 0))) :=
  Lib.run_clear_slice w 22 30 ty (.int .u64 0) Try.underlying22 (fun w => Try.zeroValue30 w) rfl rfl b o n c hn hc hf
theorem qclear0 (w : World) (ty : Nat) (a : Option Addr) (c : Nat) : (Builtin.clear_ #[22] ty #[.slice a 0 c]).run Try.prog w = .ok (.tuple #[]) w := by
  cases a <;> simp [Builtin.clear_, run_underlying Try.underlying22]

theorem ne_block {b b' o o' : Nat} (h : b ≠ b') : (⟨b, o, none⟩ : Addr) ≠ ⟨b', o', none⟩ := fun e => h (congrArg Addr.block e)
theorem ne_off {b o o' : Nat} (h : o ≠ o') : (⟨b, o, none⟩ : Addr) ≠ ⟨b, o', none⟩ := fun e => h (congrArg Addr.off e)

/-- A world in which at most the words from 'used' on of the memory, and the slab's own two cells, have turned: the slab anew. -/
theorem slab_next {B S m : Nat} {a : Option Addr} {ml used k : Nat} {w X : World} (hs : Slab S w a ml used) (ha : a = some ⟨m, 0, none⟩) (hk : used + k ≤ ml) (hB : B ≤ S) (hBm : B ≤ m) (n : Nat)
    (hX : X = ((w.drewN n).setCells m used (List.replicate k (.int .u64 0))).setCell ⟨S, 1, none⟩ (.int .i64 ((used + k : Nat) : Int))) :
    Slab S X a ml (used + k) ∧ Carved B S a used k w X ∧ ∀ j, j < k → X.cell? ⟨m, used + j, none⟩ = some (.int .u64 0) := by
  obtain ⟨h1, h2, h3, h4, h5, h6, h7⟩ := hs
  rcases h7 with ⟨h, _⟩ | ⟨m', e, hm1, hm2, hm3⟩
  · rw [ha] at h; cases h
  rw [ha] at e
  have e' : m = m' := by simpa using e
  subst e'
  subst hX
  have hmS : m ≠ S := hm1
  have sz : ∀ (vs : List Value) (o : Nat) (x : World), (x.setCells m o vs).heap.size = x.heap.size := by
    intro vs
    induction vs with
    | nil => intro o x; rfl
    | cons v vs ih => intro o x; rw [World.setCells, ih]; simp [World.setCell]
  have blk : ∀ (vs : List Value) (o : Nat) (x : World) (b : Nat), b ≠ m → (x.setCells m o vs).heap[b]? = x.heap[b]? := by
    intro vs
    induction vs with
    | nil => intro o x b hb; rfl
    | cons v vs ih => intro o x b hb; rw [World.setCells, ih _ _ _ hb, Below.heap_setCell _ _ _ _ (by show b ≠ m; exact hb)]
  have os : ∀ (vs : List Value) (o : Nat) (x : World), (x.setCells m o vs).os = x.os ∧ (x.setCells m o vs).tape = x.tape ∧ (x.setCells m o vs).output = x.output := by
    intro vs
    induction vs with
    | nil => intro o x; exact ⟨rfl, rfl, rfl⟩
    | cons v vs ih => intro o x; rw [World.setCells]; exact ih _ _
  have cS : ∀ o, ((w.drewN n).setCells m used (List.replicate k (.int .u64 0))).cell? ⟨S, o, none⟩ = w.cell? ⟨S, o, none⟩ := fun o =>
    World.cell?_setCells_out m _ _ _ ⟨S, o, none⟩ (fun h => absurd h (Ne.symm hmS))
  have c1' : ((w.drewN n).setCells m used (List.replicate k (.int .u64 0))).cell? ⟨S, 1, none⟩ = some (.int .i64 used) := (cS 1).trans h3
  have fz : ∀ x, (((w.drewN n).setCells m used (List.replicate k (.int .u64 0))).setCell ⟨S, 1, none⟩ (.int .i64 ((used + k : Nat) : Int))).frozen? x = w.frozen? x := by
    intro x
    rw [World.frozen?_setCell, World.frozen?_setCells]
    rfl
  have cm : ∀ o, (((w.drewN n).setCells m used (List.replicate k (.int .u64 0))).setCell ⟨S, 1, none⟩ (.int .i64 ((used + k : Nat) : Int))).cell? ⟨m, o, none⟩ = ((w.drewN n).setCells m used (List.replicate k (.int .u64 0))).cell? ⟨m, o, none⟩ := fun o =>
    World.cell?_setCell_other _ _ _ _ (ne_block (Ne.symm hmS))
  have hin : ∀ j, j < k → ((w.drewN n).setCells m used (List.replicate k (.int .u64 0))).cell? ⟨m, used + j, none⟩ = some (.int .u64 0) := by
    intro j hj
    have := World.cell?_setCells_in m (List.replicate k (.int .u64 0)) used (w.drewN n) (fun i hi => by
      rw [List.length_replicate] at hi
      exact (hm3 (used + i) (by omega)).1) j (by rw [List.length_replicate]; exact hj)
    rw [this]
    simp
  refine ⟨⟨?_, ?_, World.cell?_setCell_same _ _ _ c1', (fz _).trans h4, (fz _).trans h5, hk, .inr ⟨m, ha, hm1, ?_, ?_⟩⟩, ⟨?_, ?_, ?_⟩, ?_⟩
  · simp only [World.setCell, Array.size_modify]; rw [sz]; exact h1
  · rw [World.cell?_setCell_other _ _ _ _ (by simp), cS 0]; exact h2
  · simp only [World.setCell, Array.size_modify]; rw [sz]; exact hm2
  · intro i hi
    rw [cm, fz]
    refine ⟨?_, (hm3 i hi).2⟩
    by_cases hc : used ≤ i ∧ i < used + k
    · have := hin (i - used) (by omega)
      rw [show used + (i - used) = i by omega] at this
      rw [this]; rfl
    · rw [World.cell?_setCells_out m _ _ _ ⟨m, i, none⟩ (fun _ _ => by rw [List.length_replicate]; show i < used ∨ used + k ≤ i; omega)]
      exact (hm3 i hi).1
  · have hb0 : Below B w ((w.drewN n).setCells m used (List.replicate k (.int .u64 0))) := by
      have h := os (List.replicate k (.int .u64 0)) used (w.drewN n)
      refine ⟨h.1, h.2.1, h.2.2, ?_, fun b hb => ?_⟩
      · rw [sz]; exact Nat.le_refl _
      · exact blk _ _ _ b (by omega)
    exact Below.setCell hb0 (p := ⟨S, 1, none⟩) hB _
  · intro b o hb hbS hcond
    rw [World.cell?_setCell_other _ _ _ _ (ne_block (Ne.symm hbS))]
    refine World.cell?_setCells_out m _ _ _ ⟨b, o, none⟩ (fun hbm _ => ?_)
    have hbm' : b = m := hbm
    subst hbm'
    rw [List.length_replicate]
    exact hcond ha
  · intro b o hb
    exact fz _
  · intro j hj
    rw [cm]; exact hin j hj

theorem Carved.refl (B S : Nat) (a : Option Addr) (used k : Nat) (w : World) (n : Nat) : Carved B S a used k w (w.drewN n) :=
  ⟨⟨rfl, rfl, rfl, Nat.le_refl _, fun _ _ => rfl⟩, fun _ _ _ _ _ => rfl, fun _ _ _ => rfl⟩

theorem slab_zero {B S : Nat} {a : Option Addr} {ml used : Nat} {w X : World} (hs : Slab S w a ml used) (hB : B ≤ S) (n : Nat) (hX : X = (w.drewN n).setCell ⟨S, 1, none⟩ (.int .i64 used)) :
    Slab S X a ml used ∧ Carved B S a used 0 w X := by
  obtain ⟨h1, h2, h3, h4, h5, h6, h7⟩ := hs
  subst hX
  have hb0 : Below B w (w.drewN n) := ⟨rfl, rfl, rfl, Nat.le_refl _, fun _ _ => rfl⟩
  have hb : Below B w ((w.drewN n).setCell ⟨S, 1, none⟩ (.int .i64 used)) := Below.setCell hb0 (p := ⟨S, 1, none⟩) hB _
  have fz : ∀ x, ((w.drewN n).setCell ⟨S, 1, none⟩ (.int .i64 used)).frozen? x = w.frozen? x := fun x => World.frozen?_setCell _ _ _ _
  have sz : ((w.drewN n).setCell ⟨S, 1, none⟩ (.int .i64 used)).heap.size = w.heap.size := by simp only [World.setCell, Array.size_modify]; rfl
  refine ⟨⟨by rw [sz]; exact h1, ?_, World.cell?_setCell_same _ _ _ h3, (fz _).trans h4, (fz _).trans h5, h6, ?_⟩, hb, ?_, fun b o hb => fz _⟩
  · rw [World.cell?_setCell_other _ _ _ _ (ne_off (by decide))]; exact h2
  · rcases h7 with h | ⟨m, e, hm1, hm2, hm3⟩
    · exact .inl h
    · refine .inr ⟨m, e, hm1, by rw [sz]; exact hm2, fun i hi => ?_⟩
      rw [World.cell?_setCell_other _ _ _ _ (ne_block (Ne.symm hm1)), fz]
      exact hm3 i hi
  · intro b o hb hbS _
    exact World.cell?_setCell_other _ _ _ _ (ne_block (Ne.symm hbS))

set_option maxRecDepth 100000 in
set_option maxHeartbeats 1000000 in
/-- NOTHING IS ASKED FOR. -/
theorem carve_zero (B S : Nat) (a : Option Addr) (ml used : Nat) (w : World) (hs : Slab S w a ml used) (hu : ml ≤ 8000000) (hB : B ≤ S) :
    Calls Try.prog 36 #[.pointer (some ⟨S, 0, none⟩), .int .i64 0] w fun e w' => e = .returned (.slice a 0 0) ∧ Slab S w' a ml used ∧ Carved B S a used 0 w w' := by
  have Hs : Hid (Slab S w a ml used) := hs
  obtain ⟨h1, h2, h3, h4, h5, h6, h7⟩ := hs
  clear h7
  have qc := qclear0
  go_enter Try.func36, Try.ntmps36
  go_wp2
  go_quiet (fail)
  go_wp2
  go_quiet (fail)
  go_wp2
  go_ret
  exact ⟨rfl, slab_zero Hs.out hB _ rfl⟩

set_option maxRecDepth 100000 in
set_option maxHeartbeats 1000000 in
/-- THERE IS ROOM. -/
theorem carve_fits (B S m : Nat) (ml used k : Nat) (w : World) (hs : Slab S w (some ⟨m, 0, none⟩) ml used) (hu : ml ≤ 8000000) (hB : B ≤ S) (hBm : B ≤ m) (hk0 : 0 < k) (hk : used + k ≤ ml) :
    Calls Try.prog 36 #[.pointer (some ⟨S, 0, none⟩), .int .i64 k] w fun e w' => e = .returned (.slice (some ⟨m, used, none⟩) k k) ∧ Slab S w' (some ⟨m, 0, none⟩) ml (used + k) ∧ Carved B S (some ⟨m, 0, none⟩) used k w w' ∧ ∀ j, j < k → w'.cell? ⟨m, used + j, none⟩ = some (.int .u64 0) := by
  have Hs : Hid (Slab S w (some ⟨m, 0, none⟩) ml used) := hs
  obtain ⟨h1, h2, h3, h4, h5, h6, h7⟩ := hs
  have h8 : m ≠ S ∧ ∀ i, i < ml → (w.cell? ⟨m, i, none⟩).isSome = true ∧ w.frozen? ⟨m, i, none⟩ = false := by
    rcases h7 with ⟨h, _⟩ | ⟨m', e, hm1, hm2, hm3⟩
    · cases h
    · have e' : m = m' := by simpa using e
      subst e'
      exact ⟨hm1, hm3⟩
  have qc : ∀ (n : Nat) (ty : Nat), (Builtin.clear_ #[22] ty #[.slice (some ⟨m, used, none⟩) k k]).run Try.prog (w.drewN n) = .ok (.tuple #[]) ((w.drewN n).setCells m used (List.replicate k (.int .u64 0))) := fun n ty =>
    qclear (w.drewN n) ty m used k k hk0 (fun j hj => (h8.2 (used + j) (by omega)).1) (fun j hj => (h8.2 (used + j) (by omega)).2)
  have cS : ∀ n o, ((w.drewN n).setCells m used (List.replicate k (.int .u64 0))).cell? ⟨S, o, none⟩ = w.cell? ⟨S, o, none⟩ := fun n o =>
    World.cell?_setCells_out m _ _ _ ⟨S, o, none⟩ (fun h => absurd h (Ne.symm h8.1))
  have fS : ∀ n x, ((w.drewN n).setCells m used (List.replicate k (.int .u64 0))).frozen? x = w.frozen? x := fun n x => World.frozen?_setCells m _ _ _ _
  have hne : ¬ used + k = used := by omega
  clear h7 h8
  go_enter Try.func36, Try.ntmps36
  go_wp2
  go_quiet (fail)
  go_wp2
  go_quiet (fail)
  go_wp2
  go_ret
  refine ⟨?_, slab_next Hs.out rfl hk hB hBm _ (by rw [Int.natCast_add])⟩
  show Ending.returned (.slice (some ⟨m, used, none⟩) (used + k - used) (used + k - used)) = _
  rw [show used + k - used = k by omega]

/-- THE SLAB OVER NEW MEMORY. -/
theorem slab_grown {B S : Nat} {a : Option Addr} {ml used N n : Nat} {w w1 : World} (hs : Slab S w a ml used) (hB : B ≤ S) (hN : used ≤ N)
    (hown : w1.ownsRow w.heap.size 30 1 (.slice (some ⟨w.heap.size, 0, none⟩) N N) N (madeCells #[.int .u64 0] N).toList) (hg : (w.drewN n).grownBy w1 none) :
    w1.cell? ⟨S, 0, none⟩ = some (.slice a ml ml) ∧ w1.frozen? ⟨S, 0, none⟩ = false ∧
    ∀ w2, w2 = w1.setCell ⟨S, 0, none⟩ (.slice (some ⟨w.heap.size, 0, none⟩) N N) → Slab S w2 (some ⟨w.heap.size, 0, none⟩) N used ∧ Below B w w2 ∧ w.heap.size ≤ w2.heap.size ∧
      (∀ b o, b < w.heap.size → b ≠ S → w2.cell? ⟨b, o, none⟩ = w.cell? ⟨b, o, none⟩) ∧ (∀ b o, b < w.heap.size → w2.frozen? ⟨b, o, none⟩ = w.frozen? ⟨b, o, none⟩) := by
  obtain ⟨h1, h2, h3, h4, h5, h6, h7⟩ := hs
  have blk : ∀ b, b < w.heap.size → w1.heap[b]? = w.heap[b]? := fun b hb => hg.block b hb (by simp)
  have cw : ∀ b o, b < w.heap.size → w1.cell? ⟨b, o, none⟩ = w.cell? ⟨b, o, none⟩ := fun b o hb => World.cell?_of_block (a := ⟨b, o, none⟩) (blk b hb)
  have fw : ∀ b o, b < w.heap.size → w1.frozen? ⟨b, o, none⟩ = w.frozen? ⟨b, o, none⟩ := fun b o hb => World.frozen?_of_block (a := ⟨b, o, none⟩) (blk b hb)
  have c0 := (cw S 0 h1).trans h2
  have f0 := (fw S 0 h1).trans h4
  refine ⟨c0, f0, ?_⟩
  rintro w2 rfl
  have hsz : w.heap.size ≤ w1.heap.size := hg.size
  have hmem : w.heap.size < w1.heap.size ∧ ∀ i, i < N → (w1.cell? ⟨w.heap.size, i, none⟩).isSome = true ∧ w1.frozen? ⟨w.heap.size, i, none⟩ = false := by
    rcases hown.2 with ⟨h, _⟩ | ⟨g, cap, cur, hv, _, hgg, _, _, hcs, _⟩
    · cases h
    · have e : w.heap.size = g ∧ N = cap := by simp at hv; exact ⟨hv.1, hv.2⟩
      obtain ⟨e1, e2⟩ := e
      rw [← e1] at hgg
      refine ⟨(Array.getElem?_eq_some_iff.1 hgg).1, fun i hi => ⟨?_, ?_⟩⟩
      · rw [cell_of_row w1 w.heap.size i cur 30 (0, 0) hgg]
        rw [Array.getElem?_eq_getElem (by rw [hcs]; omega)]
        rfl
      · simp [World.frozen?, hgg]
  have sz : (w1.setCell ⟨S, 0, none⟩ (.slice (some ⟨w.heap.size, 0, none⟩) N N)).heap.size = w1.heap.size := by simp only [World.setCell, Array.size_modify]
  have fz : ∀ x, (w1.setCell ⟨S, 0, none⟩ (.slice (some ⟨w.heap.size, 0, none⟩) N N)).frozen? x = w1.frozen? x := fun x => World.frozen?_setCell _ _ _ _
  have hbw : Below B w w1 := ⟨hg.os, hg.tape, hg.output, hsz, fun b hb => blk b (by omega)⟩
  refine ⟨⟨by rw [sz]; omega, World.cell?_setCell_same _ _ _ c0, ?_, (fz _).trans f0, (fz _).trans ((fw S 1 h1).trans h5), hN, .inr ⟨w.heap.size, rfl, by omega, by rw [sz]; exact hmem.1, fun i hi => ?_⟩⟩, Below.setCell hbw (p := ⟨S, 0, none⟩) hB _, by rw [sz]; exact hsz, ?_, ?_⟩
  · rw [World.cell?_setCell_other _ _ _ _ (ne_off (by decide))]; exact (cw S 1 h1).trans h3
  · rw [World.cell?_setCell_other _ _ _ _ (ne_block (by omega)), fz]; exact hmem.2 i hi
  · intro b o hb hbS
    rw [World.cell?_setCell_other _ _ _ _ (ne_block (Ne.symm hbS))]; exact cw b o hb
  · intro b o hb
    rw [fz]; exact fw b o hb

set_option maxRecDepth 100000 in
set_option maxHeartbeats 2000000 in
/-- THE MEMORY GROWS. -/
theorem carve_grows (B S : Nat) (a : Option Addr) (ml used k : Nat) (w : World) (hs : Slab S w a ml used) (hu : used + k ≤ 4000000) (hB : B ≤ S) (hk : ml < used + k) :
    Calls Try.prog 36 #[.pointer (some ⟨S, 0, none⟩), .int .i64 k] w fun e w' => ∃ m, w.heap.size ≤ m ∧ e = .returned (.slice (some ⟨m, used, none⟩) k k) ∧ Slab S w' (some ⟨m, 0, none⟩) (2 * (used + k)) (used + k) ∧ Carved B S a used k w w' ∧ ∀ j, j < k → w'.cell? ⟨m, used + j, none⟩ = some (.int .u64 0) := by
  obtain ⟨i0, hi, hz0, hz1, hz2⟩ := info_parts info30
  have Hs : Hid (Slab S w a ml used) := hs
  obtain ⟨h1, h2, h3, h4, h5, h6, h7⟩ := hs
  have hk0 : 0 < k := by omega
  have hml : ml ≤ 4000000 := by omega
  have hne : ¬ used + k = used := by omega
  clear h7
  go_enter Try.func36, Try.ntmps36
  go_wp2
  go_quiet (fail)
  go_wp2_with (at_make; refine wpList_make_full _ rfl _ _ 22 rfl w.heap.size 30 i0 (.int .u64 0) 1 Try.underlying22 hi hz0 hz1 _ _ _ _ (2 * (used + k)) rfl rfl (by omega) (by omega) (by rw [hz2]; omega) (by unfold maxLen; omega) (Nat.le_refl _) ?_)
  intro w1 hown1 hg1
  obtain ⟨hc1, hf1, hrest⟩ := slab_grown Hs.out hB (by omega) hown1 hg1
  have Hrest : Hid (∀ w2, w2 = w1.setCell ⟨S, 0, none⟩ (.slice (some ⟨w.heap.size, 0, none⟩) (2 * (used + k)) (2 * (used + k))) → Slab S w2 (some ⟨w.heap.size, 0, none⟩) (2 * (used + k)) used ∧ Below B w w2 ∧ w.heap.size ≤ w2.heap.size ∧
      (∀ b o, b < w.heap.size → b ≠ S → w2.cell? ⟨b, o, none⟩ = w.cell? ⟨b, o, none⟩) ∧ (∀ b o, b < w.heap.size → w2.frozen? ⟨b, o, none⟩ = w.frozen? ⟨b, o, none⟩)) := hrest
  clear hrest hown1 hg1
  go_wp2
  generalize hw2 : w1.setCell ⟨S, 0, none⟩ (.slice (some ⟨w.heap.size, 0, none⟩) (2 * (used + k)) (2 * (used + k))) = w2 at *
  obtain ⟨hs2, hb2, hz2', hcell2, hfz2⟩ := Hrest.out w2 rfl
  generalize hN : 2 * (used + k) = N at *
  have hNk : used + k ≤ N := by omega
  have hNb : N ≤ 8000000 := by omega
  have Hs2 : Hid (Slab S w2 (some ⟨w.heap.size, 0, none⟩) N used) := hs2
  have HN : Hid (2 * (used + k) = N) := hN
  have Hc2 : Hid (∀ b o, b < w.heap.size → b ≠ S → w2.cell? ⟨b, o, none⟩ = w.cell? ⟨b, o, none⟩) := hcell2
  have Hf2 : Hid (∀ b o, b < w.heap.size → w2.frozen? ⟨b, o, none⟩ = w.frozen? ⟨b, o, none⟩) := hfz2
  obtain ⟨g1, g2, g3, g4, g5, g6, g7⟩ := hs2
  have h8 : w.heap.size ≠ S ∧ ∀ i, i < N → (w2.cell? ⟨w.heap.size, i, none⟩).isSome = true ∧ w2.frozen? ⟨w.heap.size, i, none⟩ = false := by
    rcases g7 with ⟨h, _⟩ | ⟨m', e, hm1, hm2, hm3⟩
    · cases h
    · have e' : w.heap.size = m' := by simpa using e
      rw [e']
      exact ⟨hm1, hm3⟩
  have qc : ∀ (n : Nat) (ty : Nat), (Builtin.clear_ #[22] ty #[.slice (some ⟨w.heap.size, used, none⟩) k k]).run Try.prog (w2.drewN n) = .ok (.tuple #[]) ((w2.drewN n).setCells w.heap.size used (List.replicate k (.int .u64 0))) := fun n ty =>
    qclear (w2.drewN n) ty w.heap.size used k k hk0 (fun j hj => (h8.2 (used + j) (by omega)).1) (fun j hj => (h8.2 (used + j) (by omega)).2)
  have cS : ∀ n o, ((w2.drewN n).setCells w.heap.size used (List.replicate k (.int .u64 0))).cell? ⟨S, o, none⟩ = w2.cell? ⟨S, o, none⟩ := fun n o =>
    World.cell?_setCells_out w.heap.size _ _ _ ⟨S, o, none⟩ (fun h => absurd h (Ne.symm h8.1))
  have fS : ∀ n x, ((w2.drewN n).setCells w.heap.size used (List.replicate k (.int .u64 0))).frozen? x = w2.frozen? x := fun n x => World.frozen?_setCells w.heap.size _ _ _ _
  clear g7 h8 hcell2 hfz2 hN hw2 Hrest hc1 hf1 h2 h3 h4 h5
  go_quiet (fail)
  go_wp2
  go_ret
  have hfin := slab_next (B := B) (X := ((w2.drewN nq).setCells w.heap.size used (List.replicate k (.int .u64 0))).setCell ⟨S, 1, none⟩ (.int .i64 ((used : Int) + k))) Hs2.out rfl hNk hB (by omega) nq (by rw [Int.natCast_add])
  obtain ⟨r1, r2, r3⟩ := hfin
  refine ⟨w.heap.size, Nat.le_refl _, ?_, by rw [HN.out]; exact r1, ⟨hb2.trans r2.below, ?_, ?_⟩, r3⟩
  · show Ending.returned (.slice (some ⟨w.heap.size, used, none⟩) (used + k - used) (used + k - used)) = _
    rw [show used + k - used = k by omega]
  · intro b o hb hbS _
    exact (r2.cell b o (by omega) hbS (fun e => by have h : w.heap.size = b := congrArg Addr.block (Option.some.inj e); omega)).trans (Hc2.out b o hb hbS)
  · intro b o hb
    exact (r2.frozen b o (by omega)).trans (Hf2.out b o hb)

/-- WHAT A SET'S CARVING LEAVES: its words, all 0, at 'used' of the memory that is now a'. -/
structure SetAt (B S : Nat) (a : Option Addr) (used k : Nat) (w w' : World) (va a' : Option Addr) (ml' : Nat) : Prop where
  slab : Slab S w' a' ml' (used + k)
  kept : Carved B S a used k w w'
  cap : ml' ≤ 8000000
  words : k = 0 ∨ ∃ m, a' = some ⟨m, 0, none⟩ ∧ va = some ⟨m, used, none⟩ ∧ B ≤ m ∧ ∀ j, j < k → w'.cell? ⟨m, used + j, none⟩ = some (.int .u64 0)
  place : a' = a ∨ ∃ m, a' = some ⟨m, 0, none⟩ ∧ w.heap.size ≤ m

theorem carve_any (B S : Nat) (a : Option Addr) (ml used k : Nat) (w : World) (hs : Slab S w a ml used) (hml : ml ≤ 8000000) (hu : used + k ≤ 4000000) (hB : B ≤ S) (hBa : ∀ x, a = some x → B ≤ x.block) :
    Calls Try.prog 36 #[.pointer (some ⟨S, 0, none⟩), .int .i64 k] w fun e w' => ∃ va a' ml', e = .returned (.slice va k k) ∧ SetAt B S a used k w w' va a' ml' := by
  by_cases hk0 : k = 0
  · subst hk0
    refine (carve_zero B S a ml used w hs hml hB).mono ?_
    rintro e w' ⟨rfl, h1, h2⟩
    exact ⟨a, a, ml, rfl, h1, h2, hml, .inl rfl, .inl rfl⟩
  · by_cases hf : used + k ≤ ml
    · rcases hs.mem with ⟨_, h0⟩ | ⟨m, ha, _⟩
      · omega
      · subst ha
        refine (carve_fits B S m ml used k w hs hml hB (hBa _ rfl) (by omega) hf).mono ?_
        rintro e w' ⟨rfl, h1, h2, h3⟩
        exact ⟨_, _, ml, rfl, h1, h2, hml, .inr ⟨m, rfl, rfl, hBa _ rfl, h3⟩, .inl rfl⟩
    · refine (carve_grows B S a ml used k w hs hu hB (by omega)).mono ?_
      rintro e w' ⟨m, hm, rfl, h1, h2, h3⟩
      have hlt := hs.lt
      exact ⟨_, _, _, rfl, h1, h2, by omega, .inr ⟨m, rfl, rfl, by omega, h3⟩, .inr ⟨m, rfl, hm⟩⟩

set_option maxRecDepth 100000 in
set_option maxHeartbeats 400000 in
theorem uint64s_of (S : Nat) (k : Nat) (w : World) (R : Ending → World → Prop) (h : Calls Try.prog 36 #[.pointer (some ⟨S, 0, none⟩), .int .i64 k] w fun e w' => (∃ va, e = .returned (.slice va k k)) ∧ R e w') :
    Calls Try.prog 31 #[.pointer (some ⟨S, 0, none⟩), .int .i64 k] w fun e w' => (∃ va, e = .returned (.slice va k k)) ∧ R e w' := by
  have H : Hid (Calls Try.prog 36 #[.pointer (some ⟨S, 0, none⟩), .int .i64 k] w fun e w' => (∃ va, e = .returned (.slice va k k)) ∧ R e w') := h
  clear h
  go_enter Try.func31, Try.ntmps31
  go_wp2_with fail
  refine H.out.mono ?_
  rintro e w1 ⟨⟨va, rfl⟩, hR⟩
  go_wp2
  go_ret
  exact ⟨⟨va, rfl⟩, hR⟩

set_option maxRecDepth 100000 in
set_option maxHeartbeats 400000 in
theorem set_of (S : Nat) (n k : Nat) (w : World) (R : Ending → World → Prop) (hn : n ≤ 65536) (hk : k = (n + 63) / 64) (h : Calls Try.prog 36 #[.pointer (some ⟨S, 0, none⟩), .int .i64 k] w fun e w' => (∃ va, e = .returned (.slice va k k)) ∧ R e w') :
    Calls Try.prog 28 #[.pointer (some ⟨S, 0, none⟩), .int .i64 n] w fun e w' => (∃ va, e = .returned (.slice va k k)) ∧ R e w' := by
  have H : Hid (Calls Try.prog 31 #[.pointer (some ⟨S, 0, none⟩), .int .i64 k] w fun e w' => (∃ va, e = .returned (.slice va k k)) ∧ R e w') := uint64s_of S k w R h
  clear h
  have hkI : ((n : Int) + 63) / 64 = (k : Int) := by omega
  have Hk : Hid (k = (n + 63) / 64) := hk
  clear hk
  go_enter Try.func28, Try.ntmps28
  go_wp2_with fail
  refine H.out.mono ?_
  rintro e w1 ⟨⟨va, rfl⟩, hR⟩
  go_wp2
  go_ret
  exact ⟨⟨va, rfl⟩, hR⟩

set_option maxRecDepth 100000 in
set_option maxHeartbeats 400000 in
theorem scratchSet_of (S : Nat) (n k : Nat) (w : World) (R : Ending → World → Prop) (hn : n ≤ 65536) (hk : k = (n + 63) / 64) (h : Calls Try.prog 36 #[.pointer (some ⟨S, 0, none⟩), .int .i64 k] w fun e w' => (∃ va, e = .returned (.slice va k k)) ∧ R e w') :
    Calls Try.prog 11 #[.pointer (some ⟨S, 0, none⟩), .int .i64 n] w fun e w' => (∃ va, e = .returned (.slice va k k)) ∧ R e w' := by
  have H : Hid (Calls Try.prog 28 #[.pointer (some ⟨S, 0, none⟩), .int .i64 n] w fun e w' => (∃ va, e = .returned (.slice va k k)) ∧ R e w') := set_of S n k w R hn hk h
  clear h hk
  go_enter Try.func11, Try.ntmps11
  go_wp2_with fail
  refine H.out.mono ?_
  rintro e w1 ⟨⟨va, rfl⟩, hR⟩
  go_wp2
  go_ret
  exact ⟨⟨va, rfl⟩, hR⟩

theorem scratchSet_any (B S : Nat) (a : Option Addr) (ml used n k : Nat) (w : World) (hs : Slab S w a ml used) (hml : ml ≤ 8000000) (hn : n ≤ 65536) (hk : k = (n + 63) / 64) (hu : used + k ≤ 4000000) (hB : B ≤ S) (hBa : ∀ x, a = some x → B ≤ x.block) :
    Calls Try.prog 11 #[.pointer (some ⟨S, 0, none⟩), .int .i64 n] w fun e w' => ∃ va a' ml', e = .returned (.slice va k k) ∧ SetAt B S a used k w w' va a' ml' := by
  have h := scratchSet_of S n k w (fun e w' => ∃ va a' ml', e = .returned (.slice va k k) ∧ SetAt B S a used k w w' va a' ml') hn hk ((carve_any B S a ml used k w hs hml hu hB hBa).mono (fun e w' ⟨va, a', ml', h1, h2⟩ => ⟨⟨va, h1⟩, va, a', ml', h1, h2⟩))
  exact h.mono (fun e w' h => h.2)

set_option maxRecDepth 100000 in
set_option maxHeartbeats 400000 in
theorem newScratch_any (a : Option Addr) (ml used : Nat) (w : World) (hle : used ≤ ml) (hmem : (a = none ∧ ml = 0) ∨ ∃ m, a = some ⟨m, 0, none⟩ ∧ m < w.heap.size ∧ ∀ i, i < ml → (w.cell? ⟨m, i, none⟩).isSome = true ∧ w.frozen? ⟨m, i, none⟩ = false) :
    Calls Try.prog 10 #[.slice a ml ml, .int .i64 used] w fun e w' => e = .returned (.pointer (some ⟨w.heap.size, 0, none⟩)) ∧ Slab w.heap.size w' a ml used ∧ Below w.heap.size w w' := by
  have H : Hid ((a = none ∧ ml = 0) ∨ ∃ m, a = some ⟨m, 0, none⟩ ∧ m < w.heap.size ∧ ∀ i, i < ml → (w.cell? ⟨m, i, none⟩).isSome = true ∧ w.frozen? ⟨m, i, none⟩ = false) := hmem
  clear hmem
  go_enter Try.func10, Try.ntmps10
  go_wp2
  go_ret
  have hb : Below w.heap.size w (w.alloc (.cells #[.slice a ml ml, .int .i64 used, .slice none 0 0, .int .i64 0] 57)) := (Below.refl _ _).alloc (Nat.le_refl _) _
  refine ⟨rfl, ⟨by simp, by simp, by simp, by simp, by simp, hle, ?_⟩, hb⟩
  rcases H.out with h | ⟨m, ha, hm, hc⟩
  · exact .inl h
  · refine .inr ⟨m, ha, by omega, by simp; omega, fun i hi => ?_⟩
    rw [hb.cell (p := ⟨m, i, none⟩) hm, hb.frozen (p := ⟨m, i, none⟩) hm]
    exact hc i hi

set_option maxRecDepth 100000 in
set_option maxHeartbeats 400000 in
theorem zzBytes8_any (a b : Option Addr) (u : Int) (n m c d : Nat) (w : World) (hn : n ≤ maxLen) (hm : m ≤ maxLen) :
    Calls Try.prog 8 #[.slice a n c, .int .i64 u, .slice b m d] w fun e w' => e = .returned (.bool (decide (n + m ≤ 1048576))) ∧ w' = w := by
  unfold maxLen at hn hm
  by_cases h1 : n ≤ 1048576
  · by_cases h2 : m ≤ 1048576
    · by_cases h3 : n + m ≤ 1048576
      all_goals
        go_enter Try.func8, Try.ntmps8
        go_wp2
        go_ret
        exact ⟨by simp; omega, rfl⟩
    · go_enter Try.func8, Try.ntmps8
      go_wp2
      go_ret
      exact ⟨by simp; omega, rfl⟩
  · go_enter Try.func8, Try.ntmps8
    go_wp2
    go_ret
    exact ⟨by simp; omega, rfl⟩

set_option maxRecDepth 100000 in
set_option maxHeartbeats 400000 in
theorem zzBytes12_any (a b : Option Addr) (u : Int) (n m c d : Nat) (w : World) (hn : n ≤ maxLen) (hm : m ≤ maxLen) :
    Calls Try.prog 12 #[.slice a n c, .int .i64 u, .slice b m d] w fun e w' => e = .returned (.bool (decide (n + m ≤ 1048576))) ∧ w' = w := by
  unfold maxLen at hn hm
  by_cases h1 : n ≤ 1048576
  · by_cases h2 : m ≤ 1048576
    · by_cases h3 : n + m ≤ 1048576
      all_goals
        go_enter Try.func12, Try.ntmps12
        go_wp2
        go_ret
        exact ⟨by simp; omega, rfl⟩
    · go_enter Try.func12, Try.ntmps12
      go_wp2
      go_ret
      exact ⟨by simp; omega, rfl⟩
  · go_enter Try.func12, Try.ntmps12
    go_wp2
    go_ret
    exact ⟨by simp; omega, rfl⟩
end Go.Proofs.Qxb6614810a
