/-
  SEAT b6614702aD: the laws' own helpers: the bounds, strings as cells.
-/
import Derived.Test.Qxb6614702aDoorNew
import Derived.Laws.CopyOwn
namespace Go.Proofs.Qxb6614702aDoor
open Go.RowKit
set_option linter.unusedVariables false

theorem info9 : (Tryd.prog.info? 9).map (fun i => (i.zero, i.size, i.bytes)) = some (some (.string ByteArray.empty), 1, 16) := by kernel_rfl

def strs (l : List ByteArray) : List Value := l.map Value.string
theorem strs_length (l : List ByteArray) : (strs l).length = l.length := by simp [strs]
theorem strs_one (l : List ByteArray) : ∀ u ∈ strs l, u.oneCell' = true := by
  intro u hu
  simp only [strs, List.mem_map] at hu
  obtain ⟨b, _, rfl⟩ := hu
  rfl
theorem strs_snoc (l : List ByteArray) (g : ByteArray) : strs (l ++ [g]) = strs l ++ [.string g] := by simp [strs]

theorem src_of {G : Nat} {w w1 : World} {ad : Addr} {c : Nat} {l : List ByteArray} (h : SS G w (some ad) c l) (hb : Below G w w1) : ∀ j v, (strs l)[j]? = some v → w1.cell? (ad.add j) = some v := by
  intro j v hj
  obtain ⟨_, _, _, rfl | ⟨g, o', ha, hg, hc⟩⟩ := h
  · simp [strs] at hj
  · obtain rfl := Option.some.inj ha
    have hjl : j < l.length := by
      have := (List.getElem?_eq_some_iff.1 hj).1
      rwa [strs_length] at this
    rw [Addr.add_lit, hb.cell (p := ⟨g, o' + j, none⟩) hg, hc j hjl]
    simp [strs, List.getElem?_eq_getElem hjl] at hj
    rw [← hj]

/-- An owned row of strings reads as those strings. -/
theorem SS_of_owns {B n : Nat} {v : Value} {w : World} {L : List ByteArray} (h : w.ownsRow B 9 1 v n (strs L)) (hs : ∀ s ∈ L, s.size ≤ maxLen) :
    ∃ a c, v = .slice a L.length c ∧ SS w.heap.size w a c L := by
  have hn : n = L.length := by have := h.1; rw [strs_length] at this; omega
  subst hn
  rcases h.2 with ⟨rfl, h0⟩ | ⟨g, cap, cur, rfl, _, hg, hcap, hm, _⟩
  · exact ⟨none, 0, by rw [h0], by omega, Nat.zero_le _, hs, .inl (List.eq_nil_of_length_eq_zero h0)⟩
  · refine ⟨some ⟨g, 0, none⟩, cap, rfl, hcap, hm, hs, .inr ⟨g, 0, rfl, (Array.getElem?_eq_some_iff.1 hg).1, fun j hj => ?_⟩⟩
    have hc := h.cells (g := g) rfl j (.string L[j]) (by simp [strs, List.getElem?_eq_getElem hj])
    rw [Addr.add_lit] at hc
    exact hc

/-- A row written whole reads as the strings. -/
theorem SS_of_row {g : Nat} {w : World} {l : List ByteArray} (hg : w.heap[g]? = some (.cells (strs l).toArray 9 (0, 0))) (hm : l.length ≤ maxLen) (hs : ∀ s ∈ l, s.size ≤ maxLen) : SS w.heap.size w (some ⟨g, 0, none⟩) l.length l := by
  refine ⟨Nat.le_refl _, hm, hs, .inr ⟨g, 0, rfl, (Array.getElem?_eq_some_iff.1 hg).1, fun j hj => ?_⟩⟩
  rw [cell_of_row w g (0 + j) _ 9 (0, 0) hg]
  simp [strs, List.getElem?_eq_getElem hj]

/-- Each is short. -/
def Short (l : List ByteArray) : Prop := ∀ s ∈ l, s.size ≤ 1048576
/-- A bool comes back; where it is true, p. -/
def BoolThen (e : Ending) (p : Prop) : Prop := ∃ b : Bool, e = .returned (.bool b) ∧ (b = true → p)

set_option maxRecDepth 100000 in
set_option maxHeartbeats 1000000 in
theorem zzBytes7_any (G : Nat) (a b : Option Addr) (c d : Nat) (l m : List ByteArray) (w : World) (hA : SS G w a c l) (hB : SS G w b d m) :
    Calls Tryd.prog 7 #[.slice a l.length c, .slice b m.length d] w fun e w' => BoolThen e (Short l ∧ Short m) ∧ w' = w := by
  have hla : l.length ≤ 9223372036854775807 := Nat.le_trans hA.1 hA.2.1
  have hlb : m.length ≤ 9223372036854775807 := Nat.le_trans hB.1 hB.2.1
  have HA : Hid (SS G w a c l) := hA
  have HB : Hid (SS G w b d m) := hB
  clear hA hB
  go_enter Tryd.func7, Tryd.ntmps7
  go_wp2
  · go_ret
    exact ⟨⟨_, rfl, fun h => by cases h⟩, rfl⟩
  · go_loop [5, 6] (fun t i => ∃ (k : Nat) (r : Int), k ≤ l.length ∧ i = .int .i64 k ∧ t = .int .i64 r ∧ 0 ≤ r ∧ r ≤ 1048576 ∧ Hid (Short (l.take k))) (fun _ i => l.length - (intOf i).toNat)
    case atStart => exact ⟨0, l.length, Nat.zero_le _, rfl, by go_num, by omega, by omega, fun s h => by simp at h⟩
    case round =>
      obtain ⟨k, r, hk, rfl, rfl, hr0, hr1, hsh⟩ := hrel
      by_cases hlt : k < l.length
      · obtain ⟨_, _, hsz, h3⟩ := HA.out
        rcases h3 with rfl | ⟨g, o, rfl, hg, hc⟩
        · simp at hlt
        have hck := hc k hlt
        have hsk := hsz l[k] (List.getElem_mem hlt)
        unfold maxLen at hsk
        clear hc hsz
        go_wp2
        · go_ret
          exact ⟨⟨_, rfl, fun h => by cases h⟩, rfl⟩
        · go_ret
          exact ⟨⟨_, rfl, fun h => by cases h⟩, rfl⟩
        · go_round
          case rel =>
            refine ⟨k + 1, _, by omega, by go_num, rfl, by omega, by omega, fun s hs => ?_⟩
            rw [List.take_succ_eq_append_getElem hlt] at hs
            rcases List.mem_append.1 hs with h | h
            · exact hsh.out s h
            · simp at h; subst h; omega
          case measure => simp [intOf]; omega
      · have hkl : k = l.length := by omega
        subst hkl
        have hshA : Hid (Short l) := by have := hsh.out; rw [List.take_of_length_le (Nat.le_refl _)] at this; exact this
        clear hsh hlt hk
        go_wp2
        · go_ret
          exact ⟨⟨_, rfl, fun h => by cases h⟩, rfl⟩
        · go_ret
          exact ⟨⟨_, rfl, fun h => by cases h⟩, rfl⟩
        · go_loop [5, 7] (fun t i => ∃ (k : Nat) (r : Int), k ≤ m.length ∧ i = .int .i64 k ∧ t = .int .i64 r ∧ 0 ≤ r ∧ r ≤ 1048576 ∧ Hid (Short (m.take k))) (fun _ i => m.length - (intOf i).toNat)
          case atStart => exact ⟨0, _, Nat.zero_le _, rfl, rfl, by omega, by omega, fun s h => by simp at h⟩
          case round =>
            obtain ⟨k, r, hk, rfl, rfl, hr0, hr1, hsh⟩ := hrel
            by_cases hlt : k < m.length
            · obtain ⟨_, _, hsz, h3⟩ := HB.out
              rcases h3 with rfl | ⟨g, o, rfl, hg, hc⟩
              · simp at hlt
              have hck := hc k hlt
              have hsk := hsz m[k] (List.getElem_mem hlt)
              unfold maxLen at hsk
              clear hc hsz
              go_wp2
              · go_ret
                exact ⟨⟨_, rfl, fun h => by cases h⟩, rfl⟩
              · go_ret
                exact ⟨⟨_, rfl, fun h => by cases h⟩, rfl⟩
              · go_round
                case rel =>
                  refine ⟨k + 1, _, by omega, by go_num, rfl, by omega, by omega, fun s hs => ?_⟩
                  rw [List.take_succ_eq_append_getElem hlt] at hs
                  rcases List.mem_append.1 hs with h | h
                  · exact hsh.out s h
                  · simp at h; subst h; omega
                case measure => simp [intOf]; omega
            · have hkl : k = m.length := by omega
              subst hkl
              go_wp2
              go_ret
              have := hsh.out
              rw [List.take_of_length_le (Nat.le_refl _)] at this
              exact ⟨⟨_, rfl, fun _ => ⟨hshA.out, this⟩⟩, rfl⟩
theorem Scale.below {S M n G : Nat} {w w' : World} {f : ByteArray → Option Int} {sz : Nat} (h : Scale S M w n f sz) (hb : Below G w w') (hS : S < G) (hM : M < G) : Scale S M w' n f sz := by
  obtain ⟨h1, h2, h3⟩ := h
  exact ⟨Nat.lt_of_lt_of_le h1 hb.size, (hb.cell (p := ⟨S, 0, none⟩) hS).trans h2, h3.below hb hM⟩

theorem below_of_grown {w w' : World} {M : Nat} (hg : w.grownBy w' (some M)) (hM : M ≤ w.heap.size) : Below M w w' :=
  ⟨hg.os, hg.tape, hg.output, hg.size, fun k hk => hg.block k (by omega) (by simp; omega)⟩

theorem isIn_drop_same (l : List ByteArray) (j : Nat) (hj : j < l.length) (h : isIn (l.drop (j + 1)) l[j] = true) : isIn (l.drop j) = isIn (l.drop (j + 1)) := by
  funext s
  rw [List.drop_eq_getElem_cons hj, isIn_cons]
  by_cases hs : l[j] = s
  · rw [← hs, h]; simp
  · simp [hs]

theorem isIn_drop_put (l : List ByteArray) (j : Nat) (hj : j < l.length) : putS (isIn (l.drop (j + 1))) l[j] = isIn (l.drop j) := by
  funext s
  rw [List.drop_eq_getElem_cons hj, isIn_cons, putS]
  by_cases hs : s = l[j]
  · rw [if_pos hs]; simp [hs]
  · have : ¬ l[j] = s := fun e => hs e.symm
    rw [if_neg hs]; simp [this]

theorem dist_drop_same (l : List ByteArray) (j : Nat) (hj : j < l.length) (h : isIn (l.drop (j + 1)) l[j] = true) : dist (l.drop j) = dist (l.drop (j + 1)) := by
  rw [dist_drop l j hj, if_pos h]
theorem dist_drop_new (l : List ByteArray) (j : Nat) (hj : j < l.length) (h : isIn (l.drop (j + 1)) l[j] = false) : dist (l.drop j) = dist (l.drop (j + 1)) + 1 := by
  rw [dist_drop l j hj, if_neg (by rw [h]; simp)]
theorem only_drop_same (b l : List ByteArray) (j : Nat) (hj : j < l.length) (h : isIn (l.drop (j + 1)) l[j] = true ∨ isIn b l[j] = true) : only b (l.drop j) = only b (l.drop (j + 1)) := by
  rw [only_drop b l j hj, if_pos h]
theorem only_drop_new (b l : List ByteArray) (j : Nat) (hj : j < l.length) (h : isIn (l.drop (j + 1)) l[j] = false) (h' : isIn b l[j] = false) : only b (l.drop j) = only b (l.drop (j + 1)) + 1 := by
  rw [only_drop b l j hj, if_neg (by rw [h, h']; simp)]

end Go.Proofs.Qxb6614702aDoor
