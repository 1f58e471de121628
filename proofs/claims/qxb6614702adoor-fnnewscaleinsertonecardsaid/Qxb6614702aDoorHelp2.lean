/-
  SEAT b6614702aD: the bound of the law FnNewScaleInsertOne.
-/
import Derived.Test.Qxb6614702aDoorHelp
namespace Go.Proofs.Qxb6614702aDoor
open Go.RowKit
set_option linter.unusedVariables false

set_option maxRecDepth 100000 in
set_option maxHeartbeats 1000000 in
theorem zzBytes11_any (G : Nat) (a : Option Addr) (c : Nat) (l : List ByteArray) (g : ByteArray) (p : Int) (w : World) (hA : SS G w a c l) (hg : g.size ≤ maxLen) :
    Calls Tryd.prog 11 #[.slice a l.length c, .string g, .int .i64 p] w fun e w' => BoolThen e (Short l) ∧ w' = w := by
  have hla : l.length ≤ 9223372036854775807 := Nat.le_trans hA.1 hA.2.1
  unfold maxLen at hg
  have HA : Hid (SS G w a c l) := hA
  clear hA
  go_enter Tryd.func11, Tryd.ntmps11
  go_wp2
  · go_ret
    exact ⟨⟨_, rfl, fun h => by cases h⟩, rfl⟩
  · go_loop [7, 8] (fun t i => ∃ (k : Nat) (r : Int), k ≤ l.length ∧ i = .int .i64 k ∧ t = .int .i64 r ∧ 0 ≤ r ∧ r ≤ 1048576 ∧ Hid (Short (l.take k))) (fun _ i => l.length - (intOf i).toNat)
    case atStart => exact ⟨0, l.length, Nat.zero_le _, rfl, by go_num, by omega, by omega, fun s h => by simp at h⟩
    case round =>
      obtain ⟨k, r, hk, rfl, rfl, hr0, hr1, hsh⟩ := hrel
      by_cases hlt : k < l.length
      · obtain ⟨_, _, hsz, h3⟩ := HA.out
        rcases h3 with rfl | ⟨g, o, rfl, hg, hc⟩
        · simp at hlt
        have hck := hc k hlt
        have hsk := hsz l[k] (List.getElem_mem hlt)
        unfold maxLen at hsk
        clear hc hsz
        go_wp2
        · go_ret
          exact ⟨⟨_, rfl, fun h => by cases h⟩, rfl⟩
        · go_ret
          exact ⟨⟨_, rfl, fun h => by cases h⟩, rfl⟩
        · go_round
          case rel =>
            refine ⟨k + 1, _, by omega, by go_num, rfl, by omega, by omega, fun s hs => ?_⟩
            rw [List.take_succ_eq_append_getElem hlt] at hs
            rcases List.mem_append.1 hs with h | h
            · exact hsh.out s h
            · simp at h; subst h; omega
          case measure => simp [intOf]; omega
      · have hkl : k = l.length := by omega
        subst hkl
        have hshA : Hid (Short l) := by have := hsh.out; rw [List.take_of_length_le (Nat.le_refl _)] at this; exact this
        clear hsh hlt hk
        go_wp2
        all_goals
          go_ret
          exact ⟨⟨_, rfl, fun _ => hshA.out⟩, rfl⟩
theorem zzRank_at (S M n : Nat) (f : ByteArray → Option Int) (sz : Nat) (g : ByteArray) (v : Int) (w : World) (h : Scale S M w n f sz) (hg : g.size ≤ maxLen) (hf : f g = some v) :
    Calls Tryd.prog 12 #[.pointer (some ⟨S, 0, none⟩), .string g] w fun e w' => e = .returned (.tuple #[rat v, .bool true]) ∧ Below w.heap.size w w' := by
  refine (zzRank_any S M n f sz g w h hg).mono ?_
  rintro e w1 ⟨r, rfl, hr, hb⟩
  obtain rfl := hr v hf
  rw [hf]
  exact ⟨rfl, hb⟩

theorem zzRank_none (S M n : Nat) (f : ByteArray → Option Int) (sz : Nat) (g : ByteArray) (w : World) (h : Scale S M w n f sz) (hg : g.size ≤ maxLen) (hf : f g = none) :
    Calls Tryd.prog 12 #[.pointer (some ⟨S, 0, none⟩), .string g] w fun e w' => ∃ r, e = .returned (.tuple #[rat r, .bool false]) ∧ Below w.heap.size w w' := by
  refine (zzRank_any S M n f sz g w h hg).mono ?_
  rintro e w1 ⟨r, rfl, hr, hb⟩
  rw [hf]
  exact ⟨r, rfl, hb⟩

/-- A Rat's block, behind what has not turned it. -/
theorem rat_cells {v : Int} {w w' : World} (hb : Below (w.heap.size + 1) (w.alloc (ratB v)) w') :
    w'.cell? ⟨w.heap.size, 0, none⟩ = some (.int .i64 v) ∧ w'.cell? ⟨w.heap.size, 1, none⟩ = some (.int .i64 0) ∧ w'.cell? ⟨w.heap.size, 2, none⟩ = some (.pointer none) := by
  unfold ratB at hb
  refine ⟨(hb.cell (p := ⟨w.heap.size, 0, none⟩) (by show w.heap.size < _; omega)).trans ?_, (hb.cell (p := ⟨w.heap.size, 1, none⟩) (by show w.heap.size < _; omega)).trans ?_, (hb.cell (p := ⟨w.heap.size, 2, none⟩) (by show w.heap.size < _; omega)).trans ?_⟩ <;> simp

end Go.Proofs.Qxb6614702aDoor
