/-
  SEAT b6614642a: denySet.yield, ZZdenyYield.
-/
import Derived.Test.Qxb6614642aYield
namespace Go.Proofs.Qxb6614642a
open Go.RowKit
set_option linter.unusedVariables false

set_option maxRecDepth 100000 in
set_option maxHeartbeats 400000 in
theorem yield_every (S V T : Nat) (v sv : Value) (Ps : List Nat) (ids : List ByteArray) (st : Int) (act : ByteArray) (res : Option Addr) (w0 w : World) (hD : DSet S w0 v Ps ids) (hb0 : Below w0.heap.size w0 w) (hs : Seen w0.heap.size V T w st sv []) (hl : ids.length ≤ 65536) (hst : 0 ≤ st) :
    Calls Try.prog 22 #[.pointer (some ⟨S, 0, none⟩), .string act, .pointer res, .bool true, .func (.func 23) #[] #[.pointer (some ⟨V, 0, none⟩), .pointer (some ⟨T, 0, none⟩)]] w
      fun e w' => e = .returned (.bool (decide ((ids.length : Int) ≤ st))) ∧ (∃ sv', Seen w0.heap.size V T w' st sv' (ids.take (passed ids.length st))) ∧ Below w0.heap.size w0 w' := by
  have HC : Hid (Calls Try.prog 24 #[v, .func (.func 23) #[] #[.pointer (some ⟨V, 0, none⟩), .pointer (some ⟨T, 0, none⟩)]] w
      fun e w' => e = .returned (.bool (decide ((ids.length : Int) ≤ st))) ∧ (∃ sv', Seen w0.heap.size V T w' st sv' (ids.take (passed ids.length st))) ∧ Below w0.heap.size w0 w') := yieldDenies_any S V T v sv Ps ids st w0 w hD hb0 hs hl hst
  have hDr := hD.below hb0
  have ha := hDr.all
  have hvf : ∃ va vn vc, v = .slice va vn vc := by
    rcases hD.own.2 with ⟨rfl, h0⟩ | ⟨g, cap, cur, rfl, _⟩
    · exact ⟨_, _, _, rfl⟩
    · exact ⟨_, _, _, rfl⟩
  obtain ⟨va, vn, vc, rfl⟩ := hvf
  clear hD hs hDr hb0
  go_enter Try.func22, Try.ntmps22
  go_wp2_with fail
  refine HC.out.mono ?_
  rintro e w2 ⟨rfl, hs2, hb2⟩
  have H2 : Hid (∃ sv', Seen w0.heap.size V T w2 st sv' (ids.take (passed ids.length st))) := hs2
  clear hs2 HC
  go_wp2
  go_ret
  exact ⟨rfl, H2.out, hb2⟩

set_option maxRecDepth 100000 in
set_option maxHeartbeats 400000 in
theorem yield_none (S : Nat) (act : ByteArray) (res : Option Addr) (f : Value) (w : World) (h3 : w.cell? ⟨S, 1, none⟩ = some (.map none)) :
    Calls Try.prog 22 #[.pointer (some ⟨S, 0, none⟩), .string act, .pointer res, .bool false, f] w fun e w' => e = .returned (.bool true) ∧ w' = w := by
  have qm : ∀ (w : World) (r : Option Nat), (binOp .eql 73 (.map r) (.map none)).run Try.prog w = .ok (.bool r.isNone) w := fun w r => run_eql_map_nil w _ _ _ r Try.underlying73
  go_enter Try.func22, Try.ntmps22
  go_wp2
  go_ret
  exact ⟨rfl, rfl⟩

/-- WHAT ZZdenyYield LAYS AHEAD OF THE CALL. -/
theorem seen_start (w : World) (st : Int) (R : Obj) (w4 : World) (h : w4 = ((((w.alloc (.cells #[.int .i64 st] 3)).alloc R).alloc (.cells #[] 9)).alloc (.cells #[.slice (some ⟨w.heap.size + 1 + 1, 0, none⟩) 0 0] 34))) :
    Seen w.heap.size (w.heap.size + 1 + 1 + 1) w.heap.size w4 st (.slice (some ⟨w.heap.size + 1 + 1, 0, none⟩) 0 0) [] ∧ Below w.heap.size w w4 := by
  subst h
  refine ⟨⟨?_, ?_, by omega, Nat.le_refl _, ?_⟩, ((((Below.refl _ _).alloc (Nat.le_refl _) _).alloc (by simp) _).alloc (by simp; omega) _).alloc (by simp; omega) _⟩
  · have h := heap_alloc_new (((w.alloc (.cells #[.int .i64 st] 3)).alloc R).alloc (.cells #[] 9)) (.cells #[.slice (some ⟨w.heap.size + 1 + 1, 0, none⟩) 0 0] 34)
    simpa using h
  · rw [Below.heap_alloc _ _ _ (by simp; omega), Below.heap_alloc _ _ _ (by simp; omega), Below.heap_alloc _ _ _ (by simp)]
    exact heap_alloc_new w _
  · refine ⟨by simp [strs], .inr ⟨w.heap.size + 1 + 1, 0, #[], rfl, by omega, ?_, Nat.le_refl _, Nat.zero_le _, rfl, rfl⟩⟩
    rw [Below.heap_alloc _ _ _ (by simp)]
    have h := heap_alloc_new ((w.alloc (.cells #[.int .i64 st] 3)).alloc R) (.cells #[] 9)
    simpa using h

set_option maxRecDepth 100000 in
set_option maxHeartbeats 400000 in
theorem denyYield_every (S : Nat) (v : Value) (Ps : List Nat) (ids : List ByteArray) (st : Int) (act x y : ByteArray) (w : World) (hD : DSet S w v Ps ids) (hl : ids.length ≤ 65536) (hst : 0 ≤ st) :
    Calls Try.prog 14 #[.pointer (some ⟨S, 0, none⟩), .string act, .string x, .string y, .bool true, .int .i64 st] w
      fun e w' => ∃ sv, e = .returned (.tuple #[sv, .bool (decide ((ids.length : Int) ≤ st))]) ∧ w'.ownsRow w.heap.size 9 1 sv (ids.take (passed ids.length st)).length (strs (ids.take (passed ids.length st))) ∧ Below w.heap.size w w' := by
  have HD : Hid (DSet S w v Ps ids) := hD
  clear hD
  go_enter Try.func14, Try.ntmps14
  go_wp2_with fail
  obtain ⟨hs, hb⟩ := seen_start w st _ _ rfl
  refine (yield_every S (w.heap.size + 1 + 1 + 1) w.heap.size v _ Ps ids st act _ w _ HD.out hb hs hl hst).mono ?_
  rintro e w2 ⟨rfl, ⟨sv, hs2⟩, hb2⟩
  obtain ⟨cv, fv⟩ := cell_of_one hs2.v
  have Hs2 : Hid (Seen w.heap.size (w.heap.size + 1 + 1 + 1) w.heap.size w2 st sv (ids.take (passed ids.length st))) := hs2
  clear hs hb hs2
  generalize w.heap.size + 1 + 1 + 1 = V at *
  go_wp2
  go_ret2
  exact ⟨sv, rfl, Hs2.out.own, hb2⟩

set_option maxRecDepth 100000 in
set_option maxHeartbeats 400000 in
theorem denyYield_none (S : Nat) (st : Int) (act x y : ByteArray) (w : World) (hS : S < w.heap.size) (h3 : w.cell? ⟨S, 1, none⟩ = some (.map none)) :
    Calls Try.prog 14 #[.pointer (some ⟨S, 0, none⟩), .string act, .string x, .string y, .bool false, .int .i64 st] w
      fun e w' => (∃ a c, e = .returned (.tuple #[.slice a 0 c, .bool true])) ∧ Below w.heap.size w w' := by
  go_enter Try.func14, Try.ntmps14
  go_wp2_with fail
  obtain ⟨hs, hb⟩ := seen_start w st _ _ rfl
  refine (yield_none S act _ _ _ ?_).mono ?_
  · exact (hb.cell (p := ⟨S, 1, none⟩) hS).trans h3
  rintro e w2 ⟨rfl, rfl⟩
  obtain ⟨cv, fv⟩ := cell_of_one hs.v
  have Hb := hb
  go_wp2
  go_ret2
  exact ⟨⟨_, _, rfl⟩, by assumption⟩
end Go.Proofs.Qxb6614642a
