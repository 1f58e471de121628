/-
  SEAT b6614702aD: NewScale.
-/
import Derived.Test.Qxb6614702aDoorScale
import Derived.Test.Qxb6614702aDoorPlain
namespace Go.Proofs.Qxb6614702aDoor
open Go.RowKit
set_option linter.unusedVariables false

/-- THE SLICE '.slice a l.length c' READS AS THE STRINGS l, which lie below block G. -/
def SS (G : Nat) (w : World) (a : Option Addr) (c : Nat) (l : List ByteArray) : Prop :=
  l.length ≤ c ∧ c ≤ maxLen ∧ (∀ s ∈ l, s.size ≤ maxLen) ∧ (l = [] ∨ ∃ g o, a = some ⟨g, o, none⟩ ∧ g < G ∧ ∀ j (hj : j < l.length), w.cell? ⟨g, o + j, none⟩ = some (.string l[j]))

theorem SS.below {G : Nat} {w w' : World} {a : Option Addr} {c : Nat} {l : List ByteArray} (h : SS G w a c l) (hb : Below G w w') : SS G w' a c l := by
  obtain ⟨h1, h2, hs, h3⟩ := h
  refine ⟨h1, h2, hs, ?_⟩
  rcases h3 with h3 | ⟨g, o, ha, hg, hc⟩
  · exact .inl h3
  · exact .inr ⟨g, o, ha, hg, fun j hj => (hb.cell (p := ⟨g, o + j, none⟩) hg).trans (hc j hj)⟩

theorem SS.up {G G' : Nat} {w : World} {a : Option Addr} {c : Nat} {l : List ByteArray} (h : SS G w a c l) (hG : G ≤ G') : SS G' w a c l := by
  obtain ⟨h1, h2, hs, h3⟩ := h
  refine ⟨h1, h2, hs, ?_⟩
  rcases h3 with h3 | ⟨g, o, ha, hg, hc⟩
  · exact .inl h3
  · exact .inr ⟨g, o, ha, by omega, hc⟩

theorem make49 (n : Int) (w : World) : (Instr.makeMap 49 (some (.int .i64 n))).run Tryd.prog w = .ok (.map (some w.heap.size)) (w.alloc (.map #[] 0)) := by
  have h := run_makeMap (P := Tryd.prog) 49 w
  unfold Instr.makeMap at h ⊢
  simp only [Sem.run_bind, run_underlying Tryd.underlying49, asInt, Result.andThen_ok, Sem.run_pure] at h ⊢
  exact h
theorem make26 (n : Int) (w : World) : (Instr.makeMap 26 (some (.int .i64 n))).run Tryd.prog w = .ok (.map (some w.heap.size)) (w.alloc (.map #[] 0)) := by
  have h := run_makeMap (P := Tryd.prog) 26 w
  unfold Instr.makeMap at h ⊢
  simp only [Sem.run_bind, run_underlying Tryd.underlying26, asInt, Result.andThen_ok, Sem.run_pure] at h ⊢
  exact h

theorem below_drew {G : Nat} {w : World} : Below G w w.drew := (Below.refl G w).drew

set_option maxRecDepth 100000 in
set_option maxHeartbeats 1000000 in
theorem newScale_any (G : Nat) (a : Option Addr) (c : Nat) (l : List ByteArray) (w : World) (hS : SS G w a c l) (hG : G ≤ w.heap.size) (hl : l.length ≤ 131073) :
    Calls Tryd.prog 8 #[.slice a l.length c] w fun e w' => e = .returned (.pointer (some ⟨w.heap.size + 1, 0, none⟩)) ∧ Scale (w.heap.size + 1) w.heap.size w' l.length (rankI l) (dist l) ∧ Below w.heap.size w w' := by
  have HS : Hid (SS G w a c l) := hS
  clear hS
  have q49 := make49
  go_enter Tryd.func8, Tryd.ntmps8
  go_wp2
  go_loopw [13] (fun i wr => ∃ (k : Nat), k ≤ l.length ∧ i = .int .i64 k ∧ Scale (w.heap.size + 1) w.heap.size wr k (rankTo l k) (dist (l.take k)) ∧ Below w.heap.size w wr) (fun i _ => l.length - (intOf i).toNat)
  case atStart =>
    refine ⟨0, Nat.zero_le _, rfl, ⟨by simp, by simp, ?_⟩, ((Below.refl _ _).alloc (Nat.le_refl _) _).alloc (by simp) _⟩
    rw [rankTo_zero]
    exact (ranks_made w).kept (World.grownBy_alloc _ _ none) (by simp)
  case round =>
    obtain ⟨k, hk, rfl, hSc, hb⟩ := hrel
    have HSc : Hid (Scale (w.heap.size + 1) w.heap.size wr k (rankTo l k) (dist (l.take k))) := hSc
    by_cases hlt : k < l.length
    · have hSr := HS.out.below (hb.mono hG)
      obtain ⟨_, _, hsz, h3⟩ := hSr
      rcases h3 with rfl | ⟨g, o, rfl, hg, hc⟩
      · simp at hlt
      have hck := hc k hlt
      have hsk := hsz l[k] (List.getElem_mem hlt)
      clear hc hsz
      obtain ⟨d1, d2, d3⟩ := hSc
      have d3' := (d3.kept (World.grownBy_alloc wr (ratB ((l.length : Int) - k)) none) (by simp))
      have d3'' := (d3'.kept (World.grownBy_alloc _ (ratB ((l.length : Int) - k)) none) (by simp))
      have d4 : Ranks ((wr.alloc (ratB ((l.length : Int) - k))).alloc (ratB ((l.length : Int) - k))).drew w.heap.size k (rankTo l k) (dist (l.take k)) := d3''
      obtain ⟨w', hrun, hR', hg'⟩ := d4.put (by unfold maxLen; omega) hsk ((l.length : Int) - k)
      have Hrun : Hid (Ranks w' w.heap.size (k + 1) (putF (rankTo l k) l[k] ((l.length : Int) - k)) (if (rankTo l k l[k]).isSome then dist (l.take k) else dist (l.take k) + 1)) := hR'
      clear hR' d4 d3'' d3' d3
      have hgw : g < wr.heap.size := by have := hb.size; omega
      generalize hv : ((l.length : Int) - k) = v at *
      have Hv : Hid (((l.length : Int) - k) = v) := hv
      have hv0 : 0 ≤ v := by omega
      have hv1 : v ≤ 1048576 := by omega
      have hbA : Below wr.heap.size wr ((wr.alloc (ratB v)).alloc (ratB v)) := ((Below.refl _ _).alloc (Nat.le_refl _) _).alloc (by simp) _
      have hcA : ((wr.alloc (ratB v)).alloc (ratB v)).cell? ⟨w.heap.size + 1, 0, none⟩ = some (.map (some w.heap.size)) := (hbA.cell (p := ⟨w.heap.size + 1, 0, none⟩) d1).trans d2
      have Hnext : Hid (Scale (w.heap.size + 1) w.heap.size w' (k + 1) (rankTo l (k + 1)) (dist (l.take (k + 1))) ∧ Below w.heap.size w w') := by
        have hsz2 : wr.heap.size + 2 ≤ w'.heap.size := by have := hg'.size; simp at this; omega
        have hcB : w'.cell? ⟨w.heap.size + 1, 0, none⟩ = some (.map (some w.heap.size)) :=
          hg'.cell (a := ⟨w.heap.size + 1, 0, none⟩) hcA (by simp)
        have e1 : putF (rankTo l k) l[k] v = rankTo l (k + 1) := by rw [rankTo_succ l k hlt, ← Hv.out]; rfl
        have e2 : (if (rankTo l k l[k]).isSome = true then dist (l.take k) else dist (l.take k) + 1) = dist (l.take (k + 1)) := by
          rw [List.take_succ_eq_append_getElem hlt, dist_snoc]
          have e3 : (rankTo l k l[k]).isSome = isIn (l.take k) l[k] := by
            unfold rankTo isIn; cases rank (l.take k) l[k] <;> simp
          rw [e3]
        have hR := Hrun.out
        rw [e1, e2] at hR
        refine ⟨⟨by omega, hcB, hR⟩, hb.trans ⟨hg'.os, hg'.tape, hg'.output, by omega, fun i hi => ?_⟩⟩
        exact (hg'.block i (by simp; omega) (by simp; omega)).trans (hbA.block i (by omega))
      clear hbA Hrun hg' HSc
      unfold rat ratB at *
      have hwv : IntKind.i64.wrap v = v := by rw [IntKind.wrap_i64]; omega
      go_wp2_with fail
      go_region_with (go_at_call 13; refine (int_any v _ hv0 hv1).mono ?_; rintro e w' ⟨rfl, rfl⟩; unfold rat ratB)
      all_goals
        go_wp2
        go_roundw
        case rel => exact ⟨k + 1, by omega, by go_num, Hnext.out⟩
        case measure => simp [intOf]; omega
    · have hkl : k = l.length := by omega
      subst hkl
      go_wp2
      go_ret
      have h := HSc.out
      rw [rankTo_all, List.take_of_length_le (Nat.le_refl _)] at h
      exact ⟨rfl, h, hb⟩
end Go.Proofs.Qxb6614702aDoor
