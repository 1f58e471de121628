/-
  SEAT b6614702aD: exact.Frac and exact.Int at a whole number.
-/
import Derived.Test.Qxb6614702aDoorRows
import Derived.WalkKit
import Derived.WalkSpells
import Derived.Deep.QuietTactic
import Derived.BigQuiet
import Derived.Maps.OwnSet
import Derived.StringKeys
namespace Go.Proofs.Qxb6614702aDoor
open Go.RowKit
set_option linter.unusedVariables false

/-- The whole number n as a Rat. -/
def rat (n : Int) : Value := .agg #[.int .i64 n, .int .i64 0, .pointer none]
/-- Its block. -/
def ratB (n : Int) : Obj := .cells #[.int .i64 n, .int .i64 0, .pointer none] 32

set_option maxRecDepth 100000 in
set_option maxHeartbeats 400000 in
theorem frac_any (n : Int) (w : World) (h0 : 0 ≤ n) (h1 : n ≤ 1048576) :
    Calls Tryd.prog 22 #[.int .i64 n, .int .i64 1] w fun e w' => e = .returned (rat n) ∧ w' = w.alloc (ratB n) := by
  have hne : (n != -9223372036854775808) = true := by rw [bne_iff_ne]; omega
  go_enter Tryd.func22, Tryd.ntmps22
  go_wp2
  exact bodyPost_ret (v := rat n) (by simp [results, Tryd.results22, go_sem, rat]) rfl ⟨rfl, rfl⟩

set_option maxRecDepth 100000 in
set_option maxHeartbeats 400000 in
theorem int_any (n : Int) (w : World) (h0 : 0 ≤ n) (h1 : n ≤ 1048576) :
    Calls Tryd.prog 13 #[.int .i64 n] w fun e w' => e = .returned (rat n) ∧ w' = (w.alloc (ratB n)).alloc (ratB n) := by
  go_enter Tryd.func13, Tryd.ntmps13
  go_wp2_with fail
  refine (frac_any n _ h0 h1).mono ?_
  rintro e w1 ⟨rfl, rfl⟩
  unfold rat ratB
  go_wp2
  exact bodyPost_ret (v := rat n) (by simp [results, Tryd.results13, go_sem, rat]) rfl ⟨rfl, rfl⟩

/-! ### the maps -/
def keyL (s : ByteArray) : Lit := .string s.data.toList
theorem keyL_ne {s t : ByteArray} (h : s ≠ t) : keyL s ≠ keyL t := by
  intro e
  apply h
  unfold keyL at e
  injection e with e
  have e2 : s.data = t.data := Array.toList_inj.1 e
  cases s; cases t
  simp_all
theorem keyL_key (s : ByteArray) : WideAt.IsKeyLit (keyL s) := by simp [keyL, WideAt.IsKeyLit]
theorem key_of {s : ByteArray} (h : s.size ≤ maxLen) : keyOf Tryd.prog 9 (.string s) = some (keyL s) := WideMaps.keyOf_string_mk Tryd.underlying9 h

/-- HOW A RANK READS. -/
def ratRow (l : List Value) : Option Int :=
  match l with
  | [.int .i64 n, .int .i64 d, .pointer none] => if d = 0 then some n else none
  | _ => none
theorem ratRow_inv {l : List Value} {n : Int} (h : ratRow l = some n) : l = [.int .i64 n, .int .i64 0, .pointer none] := by
  unfold ratRow at h
  split at h
  · split at h
    · rename_i hd; cases h; rw [hd]
    · cases h
  · cases h
def ratElem (v : Value) : Option (DataW Unit × List MemPlace) :=
  match v with
  | .agg cs => (ratRow cs.toList).map fun n => (.lit (.int .i64 n), [])
  | _ => none
theorem ratElem_mk (n : Int) : ratElem (rat n) = some (.lit (.int .i64 n), []) := rfl
theorem ratElem_inv {v : Value} {z : DataW Unit × List MemPlace} (h : ratElem v = some z) : ∃ n, v = rat n ∧ z = (.lit (.int .i64 n), []) := by
  unfold ratElem at h
  split at h
  · rename_i cs
    obtain ⟨n, hn, rfl⟩ := Option.map_eq_some_iff.1 h
    refine ⟨n, ?_, rfl⟩
    have := ratRow_inv hn
    unfold rat
    rw [← this]
  · cases h

/-- BLOCK b IS A MAP OF RANKS: f says each grade's rank; it has sz entries (at most n). -/
def Ranks (w : World) (b n : Nat) (f : ByteArray → Option Int) (sz : Nat) : Prop :=
  ∃ D : DataW Unit, w.ownsMap Tryd.prog 9 ratElem b n D ∧ (∀ s, Maps.has D (keyL s) = (f s).isSome) ∧ (∀ s v, f s = some v → ∀ z, D.atKey (keyL s) z = .lit (.int .i64 v)) ∧ Maps.size D = sz

/-- BLOCK b IS A SET: f says who is in. -/
def Set' (w : World) (b n : Nat) (f : ByteArray → Bool) : Prop :=
  ∃ D : DataW Unit, w.ownsMap Tryd.prog 9 (plainElem Tryd.prog 4) b n D ∧ ∀ s, D.atKey (keyL s) (.lit (.bool false)) = .lit (.bool (f s))

theorem keyed9 : Maps.Keyed Tryd.prog 9 := Maps.string_keyed Tryd.underlying9

theorem Ranks.kept {w w' : World} {b n : Nat} {f : ByteArray → Option Int} {sz : Nat} (h : Ranks w b n f sz) {row : Option Nat} (hg : w.grownBy w' row) (hne : some b ≠ row) : Ranks w' b n f sz := by
  obtain ⟨D, h1, h2⟩ := h
  exact ⟨D, h1.kept hg hne, h2⟩
theorem Set'.kept {w w' : World} {b n : Nat} {f : ByteArray → Bool} (h : Set' w b n f) {row : Option Nat} (hg : w.grownBy w' row) (hne : some b ≠ row) : Set' w' b n f := by
  obtain ⟨D, h1, h2⟩ := h
  exact ⟨D, h1.kept hg hne, h2⟩
theorem grown_of_below {w w' : World} (hb : Below w.heap.size w w') : w.grownBy w' none := ⟨hb.os, hb.tape, hb.output, hb.size, fun k hk _ => hb.block k hk⟩
theorem Ranks.lt {w : World} {b n : Nat} {f : ByteArray → Option Int} {sz : Nat} (h : Ranks w b n f sz) : b < w.heap.size := by
  obtain ⟨D, h1, h2⟩ := h
  exact h1.lt
theorem Set'.lt {w : World} {b n : Nat} {f : ByteArray → Bool} (h : Set' w b n f) : b < w.heap.size := by
  obtain ⟨D, h1, h2⟩ := h
  exact h1.lt
/-- What lies below the blocks that turned stays. -/
theorem Ranks.below {w w' : World} {b n G : Nat} {f : ByteArray → Option Int} {sz : Nat} (h : Ranks w b n f sz) (hb : Below G w w') (hG : b < G) : Ranks w' b n f sz := by
  obtain ⟨D, ⟨es, clock, h1, h2⟩, h3⟩ := h
  exact ⟨D, ⟨es, clock, (hb.block b hG).trans h1, h2⟩, h3⟩
theorem Set'.below {w w' : World} {b n G : Nat} {f : ByteArray → Bool} (h : Set' w b n f) (hb : Below G w w') (hG : b < G) : Set' w' b n f := by
  obtain ⟨D, ⟨es, clock, h1, h2⟩, h3⟩ := h
  exact ⟨D, ⟨es, clock, (hb.block b hG).trans h1, h2⟩, h3⟩

theorem ranks_made (w : World) : Ranks (w.alloc (.map #[] 0)) w.heap.size 0 (fun _ => none) 0 :=
  ⟨.map [], World.ownsMap_made w _ _ _, fun s => rfl, fun s v h => by simp at h, rfl⟩
theorem set_made (w : World) : Set' (w.alloc (.map #[] 0)) w.heap.size 0 (fun _ => false) :=
  ⟨.map [], World.ownsMap_made w _ _ _, fun s => rfl⟩

def putF (f : ByteArray → Option Int) (k : ByteArray) (v : Int) : ByteArray → Option Int := fun s => if s = k then some v else f s
def putS (f : ByteArray → Bool) (k : ByteArray) : ByteArray → Bool := fun s => if s = k then true else f s

/-- 'm[k] = v'. -/
theorem Ranks.put {w : World} {b n : Nat} {f : ByteArray → Option Int} {sz : Nat} (h : Ranks w b n f sz) (hn : n < maxLen) {k : ByteArray} (hk : k.size ≤ maxLen) (v : Int) :
    ∃ w', (Instr.mapUpdate 49 (.map (some b)) (.string k) (rat v)).run Tryd.prog w = .ok () w' ∧ Ranks w' b (n + 1) (putF f k v) (if (f k).isSome then sz else sz + 1) ∧ w.grownBy w' (some b) := by
  obtain ⟨D, h1, h2, h3, h4⟩ := h
  obtain ⟨w', hr, h1', hg⟩ := h1.update keyed9 Tryd.underlying49 hn (key_of hk) (ratElem_mk v)
  refine ⟨w', hr, ⟨_, h1', fun s => ?_, fun s u hu z => ?_, ?_⟩, hg⟩
  · unfold putF
    by_cases hs : s = k
    · subst hs; rw [Maps.has_put_same h1.isMap (keyL_key _)]; simp
    · rw [Maps.has_put_other (keyL_ne hs), if_neg hs]; exact h2 s
  · unfold putF at hu
    by_cases hs : s = k
    · subst hs; rw [if_pos rfl] at hu; cases hu; exact Maps.atKey_put_same h1.isMap (keyL_key _) _ _
    · rw [if_neg hs] at hu; rw [Maps.atKey_put_other (keyL_ne hs)]; exact h3 s u hu z
  · rw [Maps.size_put (h1.tidy keyed9), h2 k, h4]

/-- 'v, ok := m[k]'. -/
theorem Ranks.look {w : World} {b n : Nat} {f : ByteArray → Option Int} {sz : Nat} (h : Ranks w b n f sz) {k : ByteArray} (hk : k.size ≤ maxLen) :
    ∃ r, (Instr.lookup 49 (.map (some b)) (.string k) true).run Tryd.prog w = .ok (.tuple #[rat r, .bool (f k).isSome]) w ∧ ∀ v, f k = some v → r = v := by
  obtain ⟨D, h1, h2, h3, h4⟩ := h
  have hz : (zeroValue 32).run Tryd.prog w = .ok (rat 0) w := Tryd.zeroValue32 w
  obtain ⟨v, ps, hr, hv⟩ := h1.look_ok keyed9 Tryd.underlying49 hz (ratElem_mk 0) (key_of hk)
  obtain ⟨r, rfl, hz⟩ := ratElem_inv hv
  refine ⟨r, by rw [← h2 k]; exact hr, fun u hu => ?_⟩
  have e1 := congrArg Prod.fst hz
  rw [h3 k u hu] at e1
  simp at e1
  exact e1.symm

theorem Ranks.len {w : World} {b n : Nat} {f : ByteArray → Option Int} {sz : Nat} (h : Ranks w b n f sz) (ty : TypeId) : (Builtin.len_ #[49] ty #[.map (some b)]).run Tryd.prog w = .ok (.int .i64 sz) w := by
  obtain ⟨D, h1, h2, h3, h4⟩ := h
  rw [← h4]
  exact h1.len Tryd.underlying49 ty

theorem Set'.put {w : World} {b n : Nat} {f : ByteArray → Bool} (h : Set' w b n f) (hn : n < maxLen) {k : ByteArray} (hk : k.size ≤ maxLen) :
    ∃ w', (Instr.mapUpdate 26 (.map (some b)) (.string k) (.bool true)).run Tryd.prog w = .ok () w' ∧ Set' w' b (n + 1) (putS f k) ∧ w.grownBy w' (some b) := by
  obtain ⟨D, h1, h2⟩ := h
  obtain ⟨w', hr, h1', hg⟩ := h1.update keyed9 Tryd.underlying26 hn (key_of hk) (plainElem_bool Tryd.underlying4 true)
  refine ⟨w', hr, ⟨_, h1', fun s => ?_⟩, hg⟩
  unfold putS
  by_cases hs : s = k
  · subst hs; rw [Maps.atKey_put_same h1.isMap (keyL_key _)]; simp
  · rw [Maps.atKey_put_other (keyL_ne hs), if_neg hs]; exact h2 s

theorem plainElem_bool_inv {v : Value} {z : DataW Unit × List MemPlace} (h : plainElem Tryd.prog 4 v = some z) : ∃ x, v = .bool x ∧ z = (.lit (.bool x), []) := by
  unfold plainElem at h
  rw [Tryd.underlying4] at h
  cases v <;> simp at h
  exact ⟨_, rfl, h.symm⟩

theorem Set'.look {w : World} {b n : Nat} {f : ByteArray → Bool} (h : Set' w b n f) {k : ByteArray} (hk : k.size ≤ maxLen) :
    (Instr.lookup 26 (.map (some b)) (.string k) false).run Tryd.prog w = .ok (.bool (f k)) w := by
  obtain ⟨D, h1, h2⟩ := h
  have hz : (zeroValue 4).run Tryd.prog w = .ok (.bool false) w := Tryd.zeroValue4 w
  obtain ⟨v, ps, hr, hv⟩ := h1.lookup keyed9 Tryd.underlying26 hz (plainElem_bool Tryd.underlying4 false) (key_of hk)
  obtain ⟨x, rfl, hz⟩ := plainElem_bool_inv hv
  have e1 := congrArg Prod.fst hz
  rw [h2 k] at e1
  simp at e1
  rw [hr, e1]

end Go.Proofs.Qxb6614702aDoor
