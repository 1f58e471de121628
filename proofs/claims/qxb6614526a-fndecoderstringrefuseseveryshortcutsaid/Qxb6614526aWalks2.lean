/-
  MORE WALKS OF SEAT b6614526a: the laws' own helpers.
-/
import Derived.Test.Qxb6614526aWalks
import Derived.Deep.QuietTactic
import Derived.BigQuiet
namespace Go.Proofs.Qxb6614526a
open Go.RowKit
set_option linter.unusedVariables false

set_option maxHeartbeats 400000 in
theorem bytesEqual_same (G G' : Nat) (a a' : Option Addr) (c c' : Nat) (l : List UInt8) (w : World) (hb : BB G w a c l) (hb' : BB G' w a' c' l) :
    Calls Try.prog 10 #[.slice a l.length c, .slice a' l.length c'] w fun e w' => e = .returned (.bool true) ∧ ∃ n, w' = w.drewN n := by
  have hm : c ≤ 9223372036854775807 := hb.2.1
  have hlc := hb.1
  have hlm : l.length ≤ 9223372036854775807 := by omega
  have H : Hid (BB G w a c l) := hb
  have H' : Hid (BB G' w a' c' l) := hb'
  clear hb hb' hlc hm
  go_enter Try.func10, Try.ntmps10
  go_wp2
  go_loopw [5] (fun i wr => ∃ k n : Nat, k ≤ l.length ∧ i = .int .i64 k ∧ wr = w.drewN n) (fun i _ => l.length - (intOf i).toNat)
  case atStart => exact ⟨0, 0, Nat.zero_le _, rfl, rfl⟩
  case round =>
    obtain ⟨k, n, hk, rfl, rfl⟩ := hrel
    by_cases hlt : k < l.length
    · obtain ⟨_, _, h3⟩ := H.out
      obtain ⟨_, _, h3'⟩ := H'.out
      rcases h3 with rfl | ⟨g, o, rfl, _, hc⟩
      · simp at hlt
      rcases h3' with rfl | ⟨g', o', rfl, _, hc'⟩
      · simp at hlt
      have hck := hc k hlt
      have hck' := hc' k hlt
      clear hc hc'
      go_wp2
      go_quiet (fail)
      go_wp2
      go_roundw
      case rel => exact ⟨k + 1, n + nq, by omega, by go_num, rfl⟩
      case measure => simp [intOf]; omega
    · go_wp2
      go_ret
      exact ⟨rfl, n, rfl⟩

set_option maxHeartbeats 400000 in
theorem zzBytes1 (s u : ByteArray) (a : Option Addr) (n c : Nat) (w : World) (hs : s.size ≤ maxLen) (hu : u.size ≤ maxLen) (hn : n ≤ maxLen) :
    Calls Try.prog 5 #[.string s, .string u, .slice a n c] w fun e w' => e = .returned (.bool (decide (s.size + u.size + n ≤ 1048576))) ∧ w' = w := by
  unfold maxLen at hs hu hn
  by_cases h1 : s.size ≤ 1048576
  · by_cases h2 : u.size ≤ 1048576
    · by_cases h3 : n ≤ 1048576
      · by_cases h4 : s.size + u.size ≤ 1048576
        · by_cases h5 : s.size + u.size + n ≤ 1048576
          · go_enter Try.func5, Try.ntmps5
            go_wp2
            go_ret
            exact ⟨by simp [h5], rfl⟩
          · go_enter Try.func5, Try.ntmps5
            go_wp2
            go_ret
            exact ⟨by simp; omega, rfl⟩
        · go_enter Try.func5, Try.ntmps5
          go_wp2
          go_ret
          exact ⟨by simp; omega, rfl⟩
      · go_enter Try.func5, Try.ntmps5
        go_wp2
        all_goals
          go_ret
          exact ⟨by simp; omega, rfl⟩
    · go_enter Try.func5, Try.ntmps5
      go_wp2
      go_ret
      exact ⟨by simp; omega, rfl⟩
  · go_enter Try.func5, Try.ntmps5
    go_wp2
    go_ret
    exact ⟨by simp; omega, rfl⟩

set_option maxHeartbeats 400000 in
theorem zzBytes2 (s : ByteArray) (cut : Int) (w : World) (hs : s.size ≤ maxLen) :
    Calls Try.prog 12 #[.string s, .int .i64 cut] w fun e w' => e = .returned (.bool (decide (s.size ≤ 1048576))) ∧ w' = w := by
  unfold maxLen at hs
  by_cases h1 : s.size ≤ 1048576
  · go_enter Try.func12, Try.ntmps12
    go_wp2
    go_ret
    exact ⟨by simp [h1], rfl⟩
  · go_enter Try.func12, Try.ntmps12
    go_wp2
    go_ret
    exact ⟨by simp; omega, rfl⟩

/-- How long a varint is. -/
def vlen (n : Nat) : Nat := (Lib.uvarint n).length
theorem vlen_big {y : Nat} (h : 128 ≤ y) : vlen y = vlen (y / 128) + 1 := by unfold vlen; rw [Lib.uvarint_big h]; simp
theorem vlen_small {y : Nat} (h : y < 128) : vlen y = 1 := by unfold vlen; rw [Lib.uvarint_small h]; rfl
theorem vlen_pos (y : Nat) : 1 ≤ vlen y := Lib.uvarint_pos y
theorem vlen_le {y : Nat} (h : y ≤ 1048576) : vlen y ≤ 10 := Lib.uvarint_length64 (by omega)
def EncRel (n m : Nat) (k x : Value) : Prop := ∃ i y : Nat, k = .int .i64 i ∧ x = .int .u64 y ∧ y ≤ n ∧ 1 ≤ i ∧ i + vlen y = m + 1

set_option maxHeartbeats 400000 in
set_option maxRecDepth 100000 in
theorem encLen_any (n : Nat) (w : World) (hn : n ≤ 1048576) :
    Calls Try.prog 13 #[.int .i64 n] w fun e w' => e = .returned (.int .i64 (((vlen n + n : Nat)) : Int)) ∧ w' = w := by
  have hl := vlen_le hn
  generalize hm : vlen n = m at *
  have Hm : Hid (vlen n = m) := hm
  clear hm
  go_enter Try.func13, Try.ntmps13
  go_wp2
  go_loop [3, 4] (fun k x => EncRel n m k x) (fun _ x => (intOf x).toNat)
  case atStart => exact ⟨1, n, rfl, rfl, Nat.le_refl _, Nat.le_refl _, by rw [Hm.out]; omega⟩
  case round =>
    obtain ⟨i, y, rfl, rfl, hy, hi, he⟩ := hrel
    by_cases h : 128 ≤ y
    · have hlen := vlen_big h
      have hp := vlen_pos (y / 128)
      have he2 : Hid (i + 1 + vlen (y / 128) = m + 1) := by unfold Hid; omega
      have hi2 : i ≤ 20 := by omega
      clear he hlen hp
      go_wp2
      go_round
      case rel => exact ⟨i + 1, y / 128, by go_num, by go_num, by omega, by omega, he2.out⟩
      case measure => simp [intOf]; omega
    · have hlen : vlen y = 1 := vlen_small (by omega)
      have he2 : Hid (i = m) := by unfold Hid; omega
      have hi2 : i ≤ 20 := by omega
      clear he hlen
      go_wp2
      go_ret
      exact ⟨by rw [← he2.out]; simp, rfl⟩

/-- WHAT appendString WROTE IS READ BACK; what follows is left. -/
theorem read_enc (D : Nat) (s : ByteArray) (r : List UInt8) (er : Value) (w : World) (hD : Dec D w (encS s ++ r) er) (hs : s.size ≤ 1048576) :
    Calls Try.prog 8 #[.pointer (some ⟨D, 0, none⟩)] w fun e w' => e = .returned (.string s) ∧ Dec D w' r er ∧ Below D w w' := by
  refine decString_of D s w (fun w' => Dec D w' r er ∧ Below D w w') ?_
  have hd : Lib.uvarintDec (encS s ++ r) = (s.size, ((Lib.uvarint s.size).length : Int)) := by
    rw [encS, List.append_assoc]
    exact dec_enc s.size _ (by omega)
  have h := string_ok D (encS s ++ r) er s.size (Lib.uvarint s.size).length w hD hd (Lib.uvarint_pos _) (by rw [List.length_append, encS_length]; omega) (by omega)
  have e1 : ((encS s ++ r).drop (Lib.uvarint s.size).length).take s.size = s.data.toList := by
    rw [encS, List.append_assoc, List.drop_left]
    exact List.take_left' (by simp)
  have e2 : (encS s ++ r).drop ((Lib.uvarint s.size).length + s.size) = r := by
    rw [← encS_length]
    exact List.drop_left
  rw [e1, e2] at h
  exact h

/-- A PROPER BEGINNING OF WHAT appendString WROTE IS REFUSED. -/
theorem read_short (D : Nat) (s : ByteArray) (k : Nat) (w : World) (hD : Dec D w ((encS s).take k) .nilIface) (hs : s.size ≤ 1048576) (hk : k < (encS s).length) :
    Calls Try.prog 8 #[.pointer (some ⟨D, 0, none⟩)] w fun e w' => e = .returned (.string ⟨#[]⟩) ∧ Failed D w' ∧ Below D w w' := by
  refine decString_of D ⟨#[]⟩ w (fun w' => Failed D w' ∧ Below D w w') ?_
  rw [encS_length] at hk
  by_cases h1 : k < (Lib.uvarint s.size).length
  · have e : (encS s).take k = (Lib.uvarint s.size).take k := by rw [encS, List.take_append_of_le_length (by omega)]
    rw [e] at hD
    exact string_bad D _ .nilIface 0 0 w hD (.inl rfl) (dec_short s.size k (by omega) h1) (Int.le_refl 0)
  · have e : (encS s).take k = Lib.uvarint s.size ++ s.data.toList.take (k - (Lib.uvarint s.size).length) := by
      rw [encS, List.take_append, List.take_of_length_le (by omega)]
    rw [e] at hD
    have hl : (s.data.toList.take (k - (Lib.uvarint s.size).length)).length = k - (Lib.uvarint s.size).length := by
      rw [List.length_take]
      have : s.data.toList.length = s.size := by simp
      omega
    exact string_past D _ .nilIface s.size (Lib.uvarint s.size).length w hD (.inl rfl) (dec_enc s.size _ (by omega)) (Lib.uvarint_pos _) (by rw [List.length_append]; omega) (by rw [List.length_append, hl]; omega) (by omega)

/-- THE REFUSAL STICKS. -/
theorem read_failed (D : Nat) (w : World) (hF : Failed D w) :
    Calls Try.prog 8 #[.pointer (some ⟨D, 0, none⟩)] w fun e w' => e = .returned (.string ⟨#[]⟩) ∧ Failed D w' ∧ Below D w w' := by
  obtain ⟨_, t, y, hD⟩ := hF
  exact decString_of D ⟨#[]⟩ w (fun w' => Failed D w' ∧ Below D w w') (string_bad D [] (.iface t y) 0 0 w hD (.inr ⟨t, y, rfl⟩) rfl (Int.le_refl 0))

/-- An owned row of bytes reads as those bytes. -/
theorem BB_of_owns {B n : Nat} {v : Value} {w : World} {L : List UInt8} (h : w.ownsRow B 5 1 v n (Lib.byteCells L)) :
    ∃ a c, v = .slice a L.length c ∧ BB w.heap.size w a c L ∧ (a = none → c = 0) := by
  have hn : n = L.length := by have := h.1; rw [Lib.byteCells_length] at this; omega
  subst hn
  rcases h.2 with ⟨rfl, h0⟩ | ⟨g, cap, cur, rfl, _, hg, hcap, hm, _⟩
  · exact ⟨none, 0, by rw [h0], ⟨by omega, Nat.zero_le _, .inl (List.eq_nil_of_length_eq_zero h0)⟩, fun _ => rfl⟩
  · refine ⟨some ⟨g, 0, none⟩, cap, rfl, ⟨hcap, hm, .inr ⟨g, 0, rfl, (Array.getElem?_eq_some_iff.1 hg).1, fun j hj => ?_⟩⟩, fun h => by cases h⟩
    have hc := h.cells (g := g) rfl j (.int .u8 (L[j]).toNat) (by simp [Lib.byteCells, List.getElem?_eq_getElem hj])
    rw [Addr.add_lit] at hc
    exact hc

/-- 'append(b, x...)', b A ROW THAT THE CALL OWNS, x BYTES THAT LIE ANYWHERE. -/
theorem wpList_append_BB {P : Program} (w : World) {ops : Array Oper} {rest : List Oper} {o : Oper} {a : Act} {Q : Exit → Act → World → Prop} (hgd : o.guard = none) (s x : Operand)
    (ho : o.op = .call { callee := .builtin .append, args := #[s, x], argTypes := #[22, 22] })
    (base : Nat) (i : TypeInfo) (ht : P.underlying 22 = some (.slice 5)) (hi : P.info? 5 = some i) (hz : i.zero = some (.int .u8 0)) (hsize : i.size = 1) (hby : i.bytes = 1)
    (v : Value) (n : Nat) (xs : List Value) (hs : a.eval s = v) (hown : w.ownsRow base 5 1 v n xs)
    (G : Nat) (ao : Option Addr) (c : Nat) (l : List UInt8) (hx : a.eval x = .slice ao l.length c) (hb : BB G w ao c l) (hao : ao = none → c = 0)
    (h63 : n + l.length ≤ maxLen) (hbytes : n + l.length ≤ 140737488355328) (hbase : base ≤ w.heap.size)
    (h : ∀ v' w', w'.ownsRow base 5 1 v' (n + l.length) (xs ++ Lib.byteCells l) → w.grownBy w' v.ownBlock → wpList P ops Q rest (a.put o.dst v') w') : wpList P ops Q (o :: rest) a w := by
  have one : ∀ u ∈ Lib.byteCells l, u.oneCell' = true := by
    intro u hu
    simp only [Lib.byteCells, List.mem_map] at hu
    obtain ⟨b, _, rfl⟩ := hu
    rfl
  cases ao with
  | some ad =>
    refine wpList_append_own w hgd s x 22 ho base 5 i (.int .u8 0) 1 1 ht hi hz hsize hby rfl (by decide) v n xs hs hown ad l.length c (Lib.byteCells l) hx (by rw [Lib.byteCells_length]; omega) ?_ one h63 (by omega) hbase (fun v' w' h2 h3 _ => h v' w' h2 h3)
    intro j u hj
    obtain ⟨_, _, rfl | ⟨g, o', ha, _, hc⟩⟩ := hb
    · simp [Lib.byteCells] at hj
    · obtain rfl := Option.some.inj ha
      have hjl : j < l.length := by
        have := (List.getElem?_eq_some_iff.1 hj).1
        rwa [Lib.byteCells_length] at this
      rw [Addr.add_lit, hc j hjl]
      simp [Lib.byteCells, List.getElem?_eq_getElem hjl] at hj
      rw [← hj]
  | none =>
    obtain rfl := hao rfl
    have hl : l = [] := List.eq_nil_of_length_eq_zero (by have := hb.1; omega)
    subst hl
    refine wpList_plain hgd fun K hK' => ?_
    have hrun := run_append_owned_none (P := P) w base 22 o.type 5 i 1 ht hi v n xs hown
    unfold Oper.wp
    simp [execOp, ho, resolve, invoke, builtin, hs, hx, hrun, Result.andThen]
    exact hK' _ _ (by simpa [Lib.byteCells] using h v w (by simpa [Lib.byteCells] using hown) (World.grownBy.refl _ _))
end Go.Proofs.Qxb6614526a
