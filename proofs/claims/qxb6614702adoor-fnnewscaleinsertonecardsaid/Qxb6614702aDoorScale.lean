/-
  SEAT b6614702aD: ZZrank, hasRank, ZZsize, NewScale.
-/
import Derived.Test.Qxb6614702aDoorInt
import Derived.Deep.RegionWith
import Derived.Deep.RegionLaw
namespace Go.Proofs.Qxb6614702aDoor
open Go.RowKit
set_option linter.unusedVariables false

/-- THE SCALE AT BLOCK S: its map lies at block M. -/
structure Scale (S M : Nat) (w : World) (n : Nat) (f : ByteArray → Option Int) (sz : Nat) : Prop where
  lt : S < w.heap.size
  cell : w.cell? ⟨S, 0, none⟩ = some (.map (some M))
  map : Ranks w M n f sz

set_option maxRecDepth 100000 in
set_option maxHeartbeats 400000 in
theorem zzSize_any (S M n : Nat) (f : ByteArray → Option Int) (sz : Nat) (w : World) (h : Scale S M w n f sz) :
    Calls Tryd.prog 10 #[.pointer (some ⟨S, 0, none⟩)] w fun e w' => e = .returned (.int .i64 sz) ∧ w' = w := by
  obtain ⟨h1, h2, h3⟩ := h
  have hl := h3.len
  clear h3
  go_enter Tryd.func10, Tryd.ntmps10
  go_wp2
  go_ret
  exact ⟨rfl, rfl⟩

set_option maxRecDepth 100000 in
set_option maxHeartbeats 400000 in
theorem zzRank_any (S M n : Nat) (f : ByteArray → Option Int) (sz : Nat) (g : ByteArray) (w : World) (h : Scale S M w n f sz) (hg : g.size ≤ maxLen) :
    Calls Tryd.prog 12 #[.pointer (some ⟨S, 0, none⟩), .string g] w fun e w' => ∃ r, e = .returned (.tuple #[rat r, .bool (f g).isSome]) ∧ (∀ v, f g = some v → r = v) ∧ Below w.heap.size w w' := by
  obtain ⟨h1, h2, h3⟩ := h
  have hzz : ∃ b, Hid (b = f g) := ⟨_, rfl⟩
  have h3' : Ranks (w.alloc (.cells #[.int .i64 0, .int .i64 0, .pointer none] 32)) M n f sz := h3.kept (World.grownBy_alloc w _ none) (by simp)
  obtain ⟨r, hl, hr⟩ := h3'.look hg
  have HR : Hid (∀ v, f g = some v → r = v) := hr
  clear h3 h3' hr hzz
  generalize (f g).isSome = ok at *
  unfold rat at *
  go_enter Tryd.func12, Tryd.ntmps12
  go_wp2
  refine bodyPost_ret (v := .tuple #[rat r, .bool ok]) (by simp [results, Tryd.results12, go_sem, rat]) rfl ⟨r, rfl, HR.out, ?_⟩
  exact ((Below.refl _ _).alloc (Nat.le_refl _) _).alloc (by simp) _

theorem eq30d (d : Nat) (W : World) : Sem.run Tryd.prog (Op.equalIn (d + 1) 30 (.pointer none) (.pointer none)) W = .ok true W := by
  simp [Op.equalIn, run_underlying Tryd.underlying30]
theorem eq30 (W : World) : Sem.run Tryd.prog (Op.equalIn 9999 30 (.pointer none) (.pointer none)) W = .ok true W := eq30d 9998 W

set_option maxRecDepth 100000 in
set_option maxHeartbeats 400000 in
theorem hasRank_yes (S M n : Nat) (f : ByteArray → Option Int) (sz : Nat) (g : ByteArray) (v : Int) (w : World) (h : Scale S M w n f sz) (hg : g.size ≤ maxLen) (hf : f g = some v) (h0 : 0 ≤ v) (h1 : v ≤ 1048576) :
    Calls Tryd.prog 9 #[.pointer (some ⟨S, 0, none⟩), .string g, .int .i64 v] w fun e w' => e = .returned (.bool true) ∧ Below w.heap.size w w' := by
  have H : Hid (Scale S M w n f sz) := h
  have Hf : Hid (f g = some v) := hf
  clear h hf
  go_enter Tryd.func9, Tryd.ntmps9
  go_wp2_with fail
  refine (zzRank_any S M n f sz g w H.out hg).mono ?_
  rintro e w1 ⟨r, rfl, hr, hb1⟩
  obtain rfl := hr v Hf.out
  rw [Hf.out]
  have hz1 := hb1.size
  clear hr
  unfold rat
  have q30 := eq30
  go_wp2_with fail
  go_region_with (go_at_call 13; refine (int_any r _ h0 h1).mono ?_; rintro e w' ⟨rfl, rfl⟩; unfold rat ratB)
  all_goals
    go_wp2
    go_ret
    exact ⟨rfl, (((hb1.alloc hz1 _).alloc (by simp; omega) _).alloc (by simp; omega) _).drew⟩
end Go.Proofs.Qxb6614702aDoor
