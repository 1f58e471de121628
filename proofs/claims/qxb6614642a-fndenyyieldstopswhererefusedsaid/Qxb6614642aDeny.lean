/-
  SEAT b6614642a: the walks under the law FnDenyYieldStopsWhereRefused: the helpers.
-/
import Derived.Test.Qxb6614642aRows
import Derived.WalkKit
import Derived.Deep.QuietTactic
import Derived.BigQuiet
import Derived.Laws.CopyOwn
import Derived.WalkSpells
namespace Go.Proofs.Qxb6614642a
open Go.RowKit
set_option linter.unusedVariables false

/-- THE SLICE '.slice a l.length c' READS AS THE STRINGS l, which lie below block G. -/
def SS (G : Nat) (w : World) (a : Option Addr) (c : Nat) (l : List ByteArray) : Prop :=
  l.length ≤ c ∧ c ≤ maxLen ∧ (∀ s ∈ l, s.size ≤ maxLen) ∧ (l = [] ∨ ∃ g o, a = some ⟨g, o, none⟩ ∧ g < G ∧ ∀ j (hj : j < l.length), w.cell? ⟨g, o + j, none⟩ = some (.string l[j]))

theorem SS.below {G : Nat} {w w' : World} {a : Option Addr} {c : Nat} {l : List ByteArray} (h : SS G w a c l) (hb : Below G w w') : SS G w' a c l := by
  obtain ⟨h1, h2, hs, h3⟩ := h
  refine ⟨h1, h2, hs, ?_⟩
  rcases h3 with h3 | ⟨g, o, ha, hg, hc⟩
  · exact .inl h3
  · exact .inr ⟨g, o, ha, hg, fun j hj => (hb.cell (p := ⟨g, o + j, none⟩) hg).trans (hc j hj)⟩

theorem SS.up {G G' : Nat} {w : World} {a : Option Addr} {c : Nat} {l : List ByteArray} (h : SS G w a c l) (hG : G ≤ G') : SS G' w a c l := by
  obtain ⟨h1, h2, hs, h3⟩ := h
  refine ⟨h1, h2, hs, ?_⟩
  rcases h3 with h3 | ⟨g, o, ha, hg, hc⟩
  · exact .inl h3
  · exact .inr ⟨g, o, ha, by omega, hc⟩

/-- What addString answers. -/
def addS (t : Int) (n : Nat) : Int := if 1048576 < t ∨ 1048576 - t < n then 1048577 else t + n
theorem addS_lo (t : Int) (n : Nat) (h : 0 ≤ t) : 0 ≤ addS t n := by unfold addS; split <;> omega
theorem addS_le (t : Int) (n : Nat) (h : 0 ≤ t) (h1 : addS t n ≤ 1048576) : t ≤ 1048576 := by unfold addS at h1; split at h1 <;> omega
theorem addS_hi (t : Int) (n : Nat) (h : 0 ≤ t) (h1 : t ≤ 1048577) : addS t n ≤ 1048577 := by unfold addS; split <;> omega

set_option maxHeartbeats 400000 in
theorem addString_any (t : Int) (s : ByteArray) (w : World) (h0 : 0 ≤ t) (h1 : t ≤ 1048577) (hs : s.size ≤ maxLen) :
    Calls Try.prog 21 #[.int .i64 t, .string s] w fun e w' => e = .returned (.int .i64 (addS t s.size)) ∧ w' = w := by
  unfold maxLen at hs
  unfold addS
  by_cases hc : 1048576 < t
  · rw [if_pos (.inl hc)]
    go_enter Try.func21, Try.ntmps21
    go_wp2
    go_ret
    exact ⟨rfl, rfl⟩
  · by_cases hd : 1048576 - t < s.size
    · rw [if_pos (.inr hd)]
      go_enter Try.func21, Try.ntmps21
      go_wp2
      go_ret
      exact ⟨rfl, rfl⟩
    · rw [if_neg (by omega)]
      go_enter Try.func21, Try.ntmps21
      go_wp2
      go_ret
      exact ⟨rfl, rfl⟩

/-- What the bytes' bound says of the number of strings. -/
def Few (r : Int) (n : Nat) : Prop := r ≤ 1048576 → n ≤ 65536

set_option maxHeartbeats 400000 in
theorem addStrings_any (G : Nat) (a : Option Addr) (c : Nat) (l : List ByteArray) (w : World) (hS : SS G w a c l) :
    Calls Try.prog 20 #[.int .i64 0, .slice a l.length c] w fun e w' => ∃ r : Int, e = .returned (.int .i64 r) ∧ 0 ≤ r ∧ r ≤ 1048577 ∧ Few r l.length ∧ w' = w := by
  have hm : l.length ≤ 9223372036854775807 := Nat.le_trans hS.1 hS.2.1
  have HS : Hid (SS G w a c l) := hS
  clear hS
  by_cases hbig : l.length ≤ 65536
  · go_enter Try.func20, Try.ntmps20
    go_wp2
    go_loop [0, 5] (fun t i => ∃ (k : Nat) (r : Int), k ≤ l.length ∧ i = .int .i64 k ∧ t = .int .i64 r ∧ 0 ≤ r ∧ r ≤ 1048576) (fun _ i => l.length - (intOf i).toNat)
    case atStart => exact ⟨0, 16 * l.length, Nat.zero_le _, rfl, by go_num, by omega, by omega⟩
    case round =>
      obtain ⟨k, r, hk, rfl, rfl, hr0, hr1⟩ := hrel
      by_cases hlt : k < l.length
      · obtain ⟨_, _, hsz, h3⟩ := HS.out
        rcases h3 with rfl | ⟨g, o, rfl, hg, hc⟩
        · simp at hlt
        have hck := hc k hlt
        have hsk := hsz l[k] (List.getElem_mem hlt)
        clear hc hsz
        have b0 := addS_lo r l[k].size hr0
        have b1 := addS_hi r l[k].size hr0 (by omega)
        go_wp2_with (go_at_call 21; refine (addString_any r l[k] _ hr0 (by omega) hsk).mono ?_; rintro e w' ⟨rfl, rfl⟩)
        · go_ret
          exact ⟨_, rfl, b0, b1, fun _ => hbig, rfl⟩
        · go_round
          case rel => exact ⟨k + 1, _, by omega, by go_num, rfl, b0, by omega⟩
          case measure => simp [intOf]; omega
      · go_wp2
        go_ret
        exact ⟨r, rfl, hr0, by omega, fun _ => hbig, rfl⟩
  · go_enter Try.func20, Try.ntmps20
    go_wp2
    go_ret
    exact ⟨_, rfl, by omega, by omega, fun h => by omega, rfl⟩

set_option maxHeartbeats 400000 in
theorem denyInputBytes_any (G : Nat) (a : Option Addr) (c : Nat) (l : List ByteArray) (x y z : ByteArray) (w : World) (hS : SS G w a c l) (hx : x.size ≤ maxLen) (hy : y.size ≤ maxLen) (hz : z.size ≤ maxLen) :
    Calls Try.prog 13 #[.slice a l.length c, .string x, .string y, .string z] w fun e w' => ∃ r : Int, e = .returned (.int .i64 r) ∧ 0 ≤ r ∧ Few r l.length ∧ w' = w := by
  go_enter Try.func13, Try.ntmps13
  go_wp2_with fail
  refine (addStrings_any G a c l w hS).mono ?_
  rintro e w1 ⟨r, rfl, h0, h1, hf, rfl⟩
  have a0 := addS_lo r x.size h0
  have a1 := addS_hi r x.size h0 h1
  have b0 := addS_lo _ y.size a0
  have b1 := addS_hi _ y.size a0 a1
  have c0 := addS_lo _ z.size b0
  go_wp2_with fail
  refine (addString_any r x w1 h0 h1 hx).mono ?_
  rintro e w2 ⟨rfl, rfl⟩
  go_wp2_with fail
  refine (addString_any _ y w2 a0 a1 hy).mono ?_
  rintro e w3 ⟨rfl, rfl⟩
  go_wp2_with fail
  refine (addString_any _ z w3 b0 b1 hz).mono ?_
  rintro e w4 ⟨rfl, rfl⟩
  go_wp2
  go_ret
  exact ⟨_, rfl, c0, fun h => hf (addS_le _ _ h0 (addS_le _ _ a0 (addS_le _ _ b0 h))), rfl⟩

/-- A bool comes back. -/
def IsBool (e : Ending) : Prop := ∃ b : Bool, e = .returned (.bool b)

set_option maxHeartbeats 1000000 in
theorem zzBytes18_any (G : Nat) (a : Option Addr) (c : Nat) (l : List ByteArray) (st : Int) (x y z : ByteArray) (w : World) (hS : SS G w a c l) (hx : x.size ≤ maxLen) (hy : y.size ≤ maxLen) (hz : z.size ≤ maxLen) :
    Calls Try.prog 18 #[.slice a l.length c, .int .i64 st, .string x, .string y, .string z] w fun e w' => IsBool e ∧ w' = w := by
  have hm : l.length ≤ 9223372036854775807 := Nat.le_trans hS.1 hS.2.1
  unfold maxLen at hx hy hz
  have HS : Hid (SS G w a c l) := hS
  clear hS
  go_enter Try.func18, Try.ntmps18
  go_wp2
  · go_ret
    exact ⟨⟨_, rfl⟩, rfl⟩
  · go_loop [11, 12] (fun t i => ∃ (k : Nat) (r : Int), k ≤ l.length ∧ i = .int .i64 k ∧ t = .int .i64 r ∧ 0 ≤ r ∧ r ≤ 1048576) (fun _ i => l.length - (intOf i).toNat)
    case atStart => exact ⟨0, l.length, Nat.zero_le _, rfl, by go_num, by omega, by omega⟩
    case round =>
      obtain ⟨k, r, hk, rfl, rfl, hr0, hr1⟩ := hrel
      by_cases hlt : k < l.length
      · obtain ⟨_, _, hsz, h3⟩ := HS.out
        rcases h3 with rfl | ⟨g, o, rfl, hg, hc⟩
        · simp at hlt
        have hck := hc k hlt
        have hsk := hsz l[k] (List.getElem_mem hlt)
        unfold maxLen at hsk
        clear hc hsz
        go_wp2
        · go_ret
          exact ⟨⟨_, rfl⟩, rfl⟩
        · go_ret
          exact ⟨⟨_, rfl⟩, rfl⟩
        · go_round
          case rel => exact ⟨k + 1, _, by omega, by go_num, rfl, by omega, by omega⟩
          case measure => simp [intOf]; omega
      · go_wp2
        all_goals (go_ret; exact ⟨⟨_, rfl⟩, rfl⟩)

set_option maxHeartbeats 400000 in
theorem sameStrings_same (G G' : Nat) (a a' : Option Addr) (c c' : Nat) (l : List ByteArray) (w : World) (hb : SS G w a c l) (hb' : SS G' w a' c' l) :
    Calls Try.prog 16 #[.slice a l.length c, .slice a' l.length c'] w fun e w' => e = .returned (.bool true) ∧ ∃ n, w' = w.drewN n := by
  have hm : c ≤ 9223372036854775807 := hb.2.1
  have hlc := hb.1
  have hlm : l.length ≤ 9223372036854775807 := by omega
  have H : Hid (SS G w a c l) := hb
  have H' : Hid (SS G' w a' c' l) := hb'
  clear hb hb' hlc hm
  go_enter Try.func16, Try.ntmps16
  go_wp2
  go_loopw [5] (fun i wr => ∃ k n : Nat, k ≤ l.length ∧ i = .int .i64 k ∧ wr = w.drewN n) (fun i _ => l.length - (intOf i).toNat)
  case atStart => exact ⟨0, 0, Nat.zero_le _, rfl, rfl⟩
  case round =>
    obtain ⟨k, n, hk, rfl, rfl⟩ := hrel
    by_cases hlt : k < l.length
    · obtain ⟨_, _, _, h3⟩ := H.out
      obtain ⟨_, _, _, h3'⟩ := H'.out
      rcases h3 with rfl | ⟨g, o, rfl, _, hc⟩
      · simp at hlt
      rcases h3' with rfl | ⟨g', o', rfl, _, hc'⟩
      · simp at hlt
      have hck := hc k hlt
      have hck' := hc' k hlt
      clear hc hc'
      go_wp2
      go_quiet (fail)
      go_wp2
      go_roundw
      case rel => exact ⟨k + 1, n + nq, by omega, by go_num, rfl⟩
      case measure => simp [intOf]; omega
    · go_wp2
      go_ret
      exact ⟨rfl, n, rfl⟩
end Go.Proofs.Qxb6614642a
