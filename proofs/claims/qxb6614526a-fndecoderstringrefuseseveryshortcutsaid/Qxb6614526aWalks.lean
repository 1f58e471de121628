/-
  THE WALKS OF SEAT b6614526a: appendString, the decoder, the small helpers.
-/
import Derived.Test.Qxb6614526aShelf
import Derived.Test.Qxb6614526aPlain
import Derived.Test.Qxb6614526aRows
import Derived.WalkKit
import Derived.Lib.AppendStr
namespace Go.Proofs.Qxb6614526a
open Go.RowKit
set_option linter.unusedVariables false

theorem Try.info5 : (Try.prog.info? 5).map (fun i => (i.zero, i.size, i.bytes)) = some (some (.int .u8 0), 1, 1) := by kernel_rfl

/-- WHAT appendString WRITES OF A STRING: its length as a varint, then its bytes. -/
def encS (s : ByteArray) : List UInt8 := Lib.uvarint s.size ++ s.data.toList
theorem encS_length (s : ByteArray) : (encS s).length = (Lib.uvarint s.size).length + s.size := by
  simp [encS]
theorem encS_cells (s : ByteArray) : Lib.byteCells (encS s) = Lib.byteCells (Lib.uvarint s.size) ++ Lib.strCells s := by
  rw [encS, Lib.byteCells_append]; rfl

set_option maxHeartbeats 400000 in
theorem appendString_any (B n : Nat) (sv : Value) (xs : List Value) (s : ByteArray) (w : World) (hown : w.ownsRow B 5 1 sv n xs) (hBw : B ≤ w.heap.size) (hn : n ≤ 2000000000) (hs : s.size ≤ 2000000000) :
    Calls Try.prog 15 #[sv, .string s] w fun e w' => ∃ v', e = .returned v' ∧ w'.ownsRow B 5 1 v' (n + (encS s).length) (xs ++ Lib.byteCells (encS s)) ∧ Below B w w' := by
  obtain ⟨i0, hi, hz0, hz1, hz2⟩ := info_parts Try.info5
  have hl := Lib.uvarint_length64 (x := s.size) (by omega)
  rw [encS_length, encS_cells]
  go_enter Try.func15, Try.ntmps15
  go_wp2_with fail
  refine (Try.binary_AppendUvarint B n s.size (by omega) sv xs w hown hBw (by omega)).mono ?_
  rintro e w1 ⟨v1, rfl, hown1, hb1⟩
  have hsz1 := hb1.size
  go_wp2_with (at_builtin; refine Lib.wpList_append_own_string _ rfl _ _ 22 9 rfl B 5 i0 Try.underlying22 Try.underlying9 hi hz0 hz1 hz2 _ _ _ rfl hown1 s rfl ?c1 ?c2 ?c3 ?_)
  case c1 => unfold maxLen; omega
  case c2 => omega
  case c3 => omega
  intro v2 w2 hown2 hg2 _
  go_wp2
  go_ret
  refine ⟨v2, rfl, ?_, hb1.grown hg2 (by omega) (fun k hk => (hown1.lt k hk).1)⟩
  rw [← Nat.add_assoc, ← List.append_assoc]
  rw [← List.append_assoc] at hown2
  exact hown2

set_option maxHeartbeats 400000 in
theorem zzAppendString_any (B n : Nat) (sv : Value) (xs : List Value) (s : ByteArray) (w : World) (hown : w.ownsRow B 5 1 sv n xs) (hBw : B ≤ w.heap.size) (hn : n ≤ 2000000000) (hs : s.size ≤ 2000000000) :
    Calls Try.prog 6 #[sv, .string s] w fun e w' => ∃ v', e = .returned v' ∧ w'.ownsRow B 5 1 v' (n + (encS s).length) (xs ++ Lib.byteCells (encS s)) ∧ Below B w w' := by
  go_enter Try.func6, Try.ntmps6
  go_wp2_with fail
  refine (appendString_any B n sv xs s w hown hBw hn hs).mono ?_
  rintro e w1 ⟨v1, rfl, hown1, hb1⟩
  go_wp2
  go_ret
  exact ⟨v1, rfl, hown1, hb1⟩

/-- THE SLICE '.slice a l.length c' READS AS THE BYTES l, which lie below block G. -/
def BB (G : Nat) (w : World) (a : Option Addr) (c : Nat) (l : List UInt8) : Prop :=
  l.length ≤ c ∧ c ≤ maxLen ∧ (l = [] ∨ ∃ g o, a = some ⟨g, o, none⟩ ∧ g < G ∧ ∀ j (hj : j < l.length), w.cell? ⟨g, o + j, none⟩ = some (.int .u8 (l[j]).toNat))

theorem BB.below {G : Nat} {w w' : World} {a : Option Addr} {c : Nat} {l : List UInt8} (h : BB G w a c l) (hb : Below G w w') : BB G w' a c l := by
  obtain ⟨h1, h2, h3⟩ := h
  refine ⟨h1, h2, ?_⟩
  rcases h3 with h3 | ⟨g, o, ha, hg, hc⟩
  · exact .inl h3
  · exact .inr ⟨g, o, ha, hg, fun j hj => (hb.cell (p := ⟨g, o + j, none⟩) hg).trans (hc j hj)⟩

theorem uvarint_any (G : Nat) (a : Option Addr) (c : Nat) (l : List UInt8) (w : World) (hb : BB G w a c l) :
    Calls Try.prog 20 #[.slice a l.length c] w fun e w' => e = .returned (.tuple #[.int .u64 (Lib.uvarintDec l).1, .int .i64 (Lib.uvarintDec l).2]) ∧ w' = w := by
  obtain ⟨_, _, rfl | ⟨g, o, rfl, _, hc⟩⟩ := hb
  · exact Try.binary_Uvarint_empty a c w
  · exact Try.binary_Uvarint g o l.length c l w rfl hc

theorem BB.drop0 {G : Nat} {w : World} {a : Option Addr} {c : Nat} {l : List UInt8} (h : BB G w a c l) (k : Nat) (hk : k ≤ l.length) (hc : c = k) :
    BB G w a 0 (l.drop k) := by
  have := h.1
  exact ⟨by rw [List.length_drop]; omega, by unfold maxLen; omega, .inl (List.drop_eq_nil_of_le (by omega))⟩

theorem BB.drop {G : Nat} {w : World} {a : Option Addr} {c : Nat} {l : List UInt8} (h : BB G w a c l) (k : Nat) (hk : k ≤ l.length) :
    BB G w (a.map (·.add k)) (c - k) (l.drop k) := by
  obtain ⟨h1, h2, h3⟩ := h
  refine ⟨by rw [List.length_drop]; omega, by omega, ?_⟩
  by_cases hkl : k = l.length
  · exact .inl (by subst hkl; simp)
  · rcases h3 with rfl | ⟨g, o, rfl, hg, hc⟩
    · exact .inl (by simp)
    · refine .inr ⟨g, o + k, ?_, hg, ?_⟩
      · simp [Addr.add]
      · intro j hj
        rw [List.length_drop] at hj
        rw [List.getElem_drop, Nat.add_assoc]
        exact hc (k + j) (by omega)

/-- THE DECODER AT BLOCK D: it has the bytes l before it, its err field holds er. -/
def Dec (D : Nat) (w : World) (l : List UInt8) (er : Value) : Prop :=
  D < w.heap.size ∧ w.cell? ⟨D, 1, none⟩ = some er ∧ w.frozen? ⟨D, 0, none⟩ = false ∧ w.frozen? ⟨D, 1, none⟩ = false ∧ ∃ a c, w.cell? ⟨D, 0, none⟩ = some (.slice a l.length c) ∧ BB D w a c l

theorem Dec.set {D : Nat} {w : World} {l l' : List UInt8} {er : Value} {a : Option Addr} {c n : Nat} (h : Dec D w l er) (hl : l'.length = n) (hb : BB D w a c l') :
    Dec D (w.setCell ⟨D, 0, none⟩ (.slice a n c)) l' er ∧ Below D w (w.setCell ⟨D, 0, none⟩ (.slice a n c)) := by
  obtain ⟨h1, h2, h3, h4, a0, c0, h5, h6⟩ := h
  have hbel : Below D w (w.setCell ⟨D, 0, none⟩ (.slice a n c)) := Below.setCell (Below.refl D w) (p := ⟨D, 0, none⟩) (Nat.le_refl D) _
  subst hl
  refine ⟨⟨Nat.lt_of_lt_of_le h1 hbel.size, ?_, by simp [h3], by simp [h4], a, c, World.cell?_setCell_same _ _ _ h5, hb.below hbel⟩, hbel⟩
  rw [World.cell?_setCell_other _ _ _ _ (by simp)]
  exact h2

set_option maxHeartbeats 400000 in
theorem int_ok (D : Nat) (l : List UInt8) (er : Value) (v k : Nat) (w : World) (hD : Dec D w l er) (hd : Lib.uvarintDec l = (v, (k : Int))) (hk0 : 0 < k) (hk : k ≤ l.length) (hv : v ≤ 1073741824) :
    Calls Try.prog 18 #[.pointer (some ⟨D, 0, none⟩)] w fun e w' => e = .returned (.int .i64 v) ∧ Dec D w' (l.drop k) er ∧ Below D w w' := by
  have hDD := hD
  obtain ⟨h1, h2, h3, h4, a, c, h5, hb⟩ := hDD
  have hm : c ≤ 9223372036854775807 := hb.2.1
  have hlc := hb.1
  have HD : Hid (Dec D w l er) := hD
  clear hD
  go_enter Try.func18, Try.ntmps18
  go_wp2_with fail
  refine (uvarint_any D a c l w hb).mono ?_
  rw [hd]
  rintro e w1 ⟨rfl, rfl⟩
  go_wp2
  · go_ret
    exact ⟨rfl, HD.out.set (by simp) (hb.drop0 k hk (by assumption))⟩
  · go_ret
    exact ⟨rfl, HD.out.set (by simp) (hb.drop k hk)⟩

/-- THE DECODER HAS REFUSED: no bytes are left, err is set. -/
def Failed (D : Nat) (w : World) : Prop := w.cell? ⟨D, 0, none⟩ = some (.slice none 0 0) ∧ ∃ t y, Dec D w [] (.iface t y)

theorem dec_none {D : Nat} {w : World} {er : Value} (h1 : D < w.heap.size) (h2 : w.cell? ⟨D, 1, none⟩ = some er) (h3 : w.frozen? ⟨D, 0, none⟩ = false) (h4 : w.frozen? ⟨D, 1, none⟩ = false) (h5 : w.cell? ⟨D, 0, none⟩ = some (.slice none 0 0)) :
    Dec D w [] er := ⟨h1, h2, h3, h4, none, 0, h5, Nat.le_refl _, Nat.zero_le _, .inl rfl⟩

set_option maxHeartbeats 400000 in
theorem fail_any (D : Nat) (s : ByteArray) (l : List UInt8) (er : Value) (w : World) (hD : Dec D w l er) (her : er = .nilIface ∨ ∃ t y, er = .iface t y) :
    Calls Try.prog 19 #[.pointer (some ⟨D, 0, none⟩), .string s] w fun e w' => e = .returned (.tuple #[]) ∧ Failed D w' ∧ Below D w w' := by
  obtain ⟨h1, h2, h3, h4, a, c, h5, _⟩ := hD
  rcases her with rfl | ⟨t, y, rfl⟩
  · go_enter Try.func19, Try.ntmps19
    go_wp2
    go_end0
    have hb1 := Below.setCell (Below.refl D w) (p := ⟨D, 1, none⟩) (Nat.le_refl D) (.iface 47 (.pointer (some ⟨w.heap.size, 0, none⟩)))
    have hb2 := Below.setCell hb1 (p := ⟨D, 0, none⟩) (Nat.le_refl D) (.slice none 0 0)
    have hsz := hb2.size
    have hb3 := hb2.alloc (by omega) (.cells #[.string s] 49)
    have c1 : ((w.setCell ⟨D, 1, none⟩ (.iface 47 (.pointer (some ⟨w.heap.size, 0, none⟩)))).setCell ⟨D, 0, none⟩ (.slice none 0 0)).cell? ⟨D, 1, none⟩ = some (.iface 47 (.pointer (some ⟨w.heap.size, 0, none⟩))) := by
      rw [World.cell?_setCell_other _ _ _ _ (by simp)]
      exact World.cell?_setCell_same _ _ _ h2
    have c0 : ((w.setCell ⟨D, 1, none⟩ (.iface 47 (.pointer (some ⟨w.heap.size, 0, none⟩)))).setCell ⟨D, 0, none⟩ (.slice none 0 0)).cell? ⟨D, 0, none⟩ = some (.slice none 0 0) := by
      refine World.cell?_setCell_same _ _ _ (u := .slice a l.length c) ?_
      rw [World.cell?_setCell_other _ _ _ _ (by simp)]
      exact h5
    have e0 := (World.cell?_alloc_lt _ (.cells #[.string s] 49) ⟨D, 0, none⟩ (by show D < _; omega)).trans c0
    have e1 := (World.cell?_alloc_lt _ (.cells #[.string s] 49) ⟨D, 1, none⟩ (by show D < _; omega)).trans c1
    exact ⟨rfl, ⟨e0, _, _, dec_none (Nat.lt_of_lt_of_le h1 hb3.size) e1 (by rw [World.frozen?_alloc_old _ _ _ (by show D ≠ _; omega)]; simp [h3]) (by rw [World.frozen?_alloc_old _ _ _ (by show D ≠ _; omega)]; simp [h4]) e0⟩, hb3⟩
  · go_enter Try.func19, Try.ntmps19
    go_wp2
    go_end0
    have hb1 := Below.setCell (Below.refl D w) (p := ⟨D, 0, none⟩) (Nat.le_refl D) (.slice none 0 0)
    have c0 := World.cell?_setCell_same w ⟨D, 0, none⟩ (.slice none 0 0) h5
    have c1 : (w.setCell ⟨D, 0, none⟩ (.slice none 0 0)).cell? ⟨D, 1, none⟩ = some (.iface t y) := by
      rw [World.cell?_setCell_other _ _ _ _ (by simp)]
      exact h2
    exact ⟨rfl, ⟨c0, _, _, dec_none (Nat.lt_of_lt_of_le h1 hb1.size) c1 (by simp [h3]) (by simp [h4]) c0⟩, hb1⟩

set_option maxHeartbeats 400000 in
theorem int_bad (D : Nat) (l : List UInt8) (er : Value) (v : Nat) (k : Int) (w : World) (hD : Dec D w l er) (her : er = .nilIface ∨ ∃ t y, er = .iface t y) (hd : Lib.uvarintDec l = (v, k)) (hk0 : k ≤ 0) :
    Calls Try.prog 18 #[.pointer (some ⟨D, 0, none⟩)] w fun e w' => e = .returned (.int .i64 0) ∧ Failed D w' ∧ Below D w w' := by
  have hDD := hD
  obtain ⟨h1, h2, h3, h4, a, c, h5, hb⟩ := hDD
  have hm : c ≤ 9223372036854775807 := hb.2.1
  have hlc := hb.1
  have HD : Hid (Dec D w l er) := hD
  have HE : Hid (er = .nilIface ∨ ∃ t y, er = .iface t y) := her
  clear hD her
  go_enter Try.func18, Try.ntmps18
  go_wp2_with fail
  refine (uvarint_any D a c l w hb).mono ?_
  rw [hd]
  rintro e w1 ⟨rfl, rfl⟩
  go_wp2_with fail
  refine (fail_any D _ l er _ HD.out HE.out).mono ?_
  rintro e w2 ⟨rfl, hF, hb2⟩
  go_wp2
  go_ret
  exact ⟨rfl, hF, hb2⟩

theorem conv_BB {G : Nat} {w : World} {a : Option Addr} {c : Nat} {l : List UInt8} (h : BB G w a c l) (n : Nat) (hn : n ≤ l.length) :
    (convert 22 9 (.slice a n c)).run Try.prog w = .ok (.string ⟨(l.take n).toArray⟩) w := by
  obtain ⟨h1, h2, h3⟩ := h
  by_cases h0 : n = 0
  · subst h0
    rw [run_convert_bytes_string w 22 9 5 _ 0 c Try.underlying22 Try.underlying5 Try.underlying9]
    cases a <;> simp [Conv.bytesToString, loadCells]
    all_goals rfl
  · rcases h3 with rfl | ⟨g, o, rfl, hg, hc⟩
    · simp at hn; omega
    · have e := run_convert_bytes_back (P := Try.prog) w 22 9 5 ⟨g, o, none⟩ c (l.take n) Try.underlying22 Try.underlying5 Try.underlying9 (by
        intro j hj
        rw [List.length_take] at hj
        rw [Addr.add_lit, List.getElem_take]
        exact hc j (by omega))
      rw [show (l.take n).length = n by rw [List.length_take]; omega] at e
      exact e

set_option maxHeartbeats 400000 in
theorem string_ok (D : Nat) (l : List UInt8) (er : Value) (v k : Nat) (w : World) (hD : Dec D w l er) (hd : Lib.uvarintDec l = (v, (k : Int))) (hk0 : 0 < k) (hk : k + v ≤ l.length) (hv : v ≤ 1073741824) :
    Calls Try.prog 16 #[.pointer (some ⟨D, 0, none⟩)] w fun e w' => e = .returned (.string ⟨((l.drop k).take v).toArray⟩) ∧ Dec D w' (l.drop (k + v)) er ∧ Below D w w' := by
  go_enter Try.func16, Try.ntmps16
  go_wp2_with fail
  refine (int_ok D l er v k w hD hd hk0 (by omega) hv).mono ?_
  rintro e w1 ⟨rfl, hD1, hb1⟩
  have hll : (l.drop k).length = l.length - k := List.length_drop
  generalize hL : l.drop k = L at *
  have hvL : v ≤ L.length := by omega
  have hDD := hD1
  obtain ⟨h1, h2, h3, h4, a, c, h5, hb⟩ := hDD
  have hm : c ≤ 9223372036854775807 := hb.2.1
  have hlc := hb.1
  have hcv := conv_BB hb v hvL
  have HD : Hid (Dec D w1 L er) := hD1
  have HL : Hid (List.drop k l = L) := hL
  clear hL hD1 hd hll hD
  go_wp2
  · go_ret
    have hq := HD.out.set (l' := L.drop v) (n := L.length - v) (by simp) (hb.drop0 v hvL (by assumption))
    rw [← List.drop_drop, HL.out]
    exact ⟨rfl, hq.1, hb1.trans hq.2⟩
  · go_ret
    have hq := HD.out.set (l' := L.drop v) (n := L.length - v) (by simp) (hb.drop v hvL)
    rw [← List.drop_drop, HL.out]
    exact ⟨rfl, hq.1, hb1.trans hq.2⟩

set_option maxHeartbeats 400000 in
/-- A NUMBER THAT CANNOT BE READ: the empty string, and the decoder refuses. -/
theorem string_bad (D : Nat) (l : List UInt8) (er : Value) (v : Nat) (k : Int) (w : World) (hD : Dec D w l er) (her : er = .nilIface ∨ ∃ t y, er = .iface t y) (hd : Lib.uvarintDec l = (v, k)) (hk0 : k ≤ 0) :
    Calls Try.prog 16 #[.pointer (some ⟨D, 0, none⟩)] w fun e w' => e = .returned (.string ⟨#[]⟩) ∧ Failed D w' ∧ Below D w w' := by
  go_enter Try.func16, Try.ntmps16
  go_wp2_with fail
  refine (int_bad D l er v k w hD her hd hk0).mono ?_
  rintro e w1 ⟨rfl, ⟨h5, t, y, hD1⟩, hb1⟩
  obtain ⟨h1, h2, h3, h4, _⟩ := hD1
  clear hD her hd
  have hcv : (convert 22 9 (.slice none 0 0)).run Try.prog w1 = .ok (.string ⟨#[]⟩) w1 := conv_BB (G := 0) (a := none) (c := 0) (l := []) ⟨Nat.le_refl _, Nat.zero_le _, .inl rfl⟩ 0 (Nat.le_refl _)
  go_wp2
  go_ret
  have hb2 := Below.setCell (Below.refl D w1) (p := ⟨D, 0, none⟩) (Nat.le_refl D) (.slice none 0 0)
  have c0 := World.cell?_setCell_same w1 ⟨D, 0, none⟩ (.slice none 0 0) h5
  have c1 : (w1.setCell ⟨D, 0, none⟩ (.slice none 0 0)).cell? ⟨D, 1, none⟩ = some (.iface t y) := by
    rw [World.cell?_setCell_other _ _ _ _ (by simp)]
    exact h2
  exact ⟨rfl, ⟨c0, _, _, dec_none (Nat.lt_of_lt_of_le h1 hb2.size) c1 (by simp [h3]) (by simp [h4]) c0⟩, hb1.trans hb2⟩

set_option maxHeartbeats 400000 in
/-- A STRING THAT RUNS PAST THE BYTES: the empty string, and the decoder refuses. -/
theorem string_past (D : Nat) (l : List UInt8) (er : Value) (v k : Nat) (w : World) (hD : Dec D w l er) (her : er = .nilIface ∨ ∃ t y, er = .iface t y) (hd : Lib.uvarintDec l = (v, (k : Int))) (hk0 : 0 < k) (hk : k ≤ l.length) (hkv : l.length < k + v) (hv : v ≤ 1073741824) :
    Calls Try.prog 16 #[.pointer (some ⟨D, 0, none⟩)] w fun e w' => e = .returned (.string ⟨#[]⟩) ∧ Failed D w' ∧ Below D w w' := by
  go_enter Try.func16, Try.ntmps16
  go_wp2_with fail
  refine (int_ok D l er v k w hD hd hk0 hk hv).mono ?_
  rintro e w1 ⟨rfl, hD1, hb1⟩
  have hll : (l.drop k).length = l.length - k := List.length_drop
  generalize hL : l.drop k = L at *
  have hvL : L.length < v := by omega
  have hDD := hD1
  obtain ⟨h1, h2, h3, h4, a, c, h5, hb⟩ := hDD
  have hm : c ≤ 9223372036854775807 := hb.2.1
  have hlc := hb.1
  have HD : Hid (Dec D w1 L er) := hD1
  have HE : Hid (er = .nilIface ∨ ∃ t y, er = .iface t y) := her
  clear hL hD1 hd hll hD her
  go_wp2_with fail
  refine (fail_any D _ L er _ HD.out HE.out).mono ?_
  rintro e w2 ⟨rfl, hF, hb2⟩
  go_wp2
  go_ret
  exact ⟨rfl, hF, hb1.trans hb2⟩

set_option maxHeartbeats 400000 in
theorem decString_of (D : Nat) (s : ByteArray) (w : World) (R : World → Prop) (h : Calls Try.prog 16 #[.pointer (some ⟨D, 0, none⟩)] w fun e w' => e = .returned (.string s) ∧ R w') :
    Calls Try.prog 8 #[.pointer (some ⟨D, 0, none⟩)] w fun e w' => e = .returned (.string s) ∧ R w' := by
  have H : Hid (Calls Try.prog 16 #[.pointer (some ⟨D, 0, none⟩)] w fun e w' => e = .returned (.string s) ∧ R w') := h
  clear h
  go_enter Try.func8, Try.ntmps8
  go_wp2_with fail
  refine H.out.mono ?_
  rintro e w1 ⟨rfl, hR⟩
  go_wp2
  go_ret
  exact ⟨rfl, hR⟩

set_option maxHeartbeats 400000 in
theorem decFailed_no (D : Nat) (l : List UInt8) (w : World) (hD : Dec D w l .nilIface) :
    Calls Try.prog 9 #[.pointer (some ⟨D, 0, none⟩)] w fun e w' => e = .returned (.bool false) ∧ w' = w := by
  obtain ⟨h1, h2, h3, h4, _⟩ := hD
  go_enter Try.func9, Try.ntmps9
  go_wp2
  go_ret
  exact ⟨rfl, rfl⟩

set_option maxHeartbeats 400000 in
theorem decFailed_yes (D : Nat) (l : List UInt8) (t : TypeId) (y : Value) (w : World) (hD : Dec D w l (.iface t y)) :
    Calls Try.prog 9 #[.pointer (some ⟨D, 0, none⟩)] w fun e w' => e = .returned (.bool true) ∧ w' = w := by
  obtain ⟨h1, h2, h3, h4, _⟩ := hD
  go_enter Try.func9, Try.ntmps9
  go_wp2
  go_ret
  exact ⟨rfl, rfl⟩

set_option maxHeartbeats 400000 in
theorem decRest_any (D : Nat) (v : Value) (w : World) (h5 : w.cell? ⟨D, 0, none⟩ = some v) (hv : ∃ a n c, v = .slice a n c) :
    Calls Try.prog 11 #[.pointer (some ⟨D, 0, none⟩)] w fun e w' => e = .returned v ∧ w' = w := by
  obtain ⟨a, n, c, rfl⟩ := hv
  go_enter Try.func11, Try.ntmps11
  go_wp2
  go_ret
  exact ⟨rfl, rfl⟩

set_option maxHeartbeats 400000 in
theorem newDecoder_any (a : Option Addr) (n c : Nat) (w : World) :
    Calls Try.prog 7 #[.slice a n c] w fun e w' => e = .returned (.pointer (some ⟨w.heap.size, 0, none⟩)) ∧ w' = w.alloc (.cells #[.slice a n c, .nilIface] 37) := by
  go_enter Try.func7, Try.ntmps7
  go_wp2
  go_ret
  exact ⟨rfl, rfl⟩

/-- The decoder as ZZnewDecoder lays it. -/
theorem dec_new (w : World) (a : Option Addr) (c : Nat) (l : List UInt8) (hb : BB w.heap.size w a c l) :
    Dec w.heap.size (w.alloc (.cells #[.slice a l.length c, .nilIface] 37)) l .nilIface := by
  refine ⟨by simp, by simp, by simp, by simp, a, c, by simp, hb.below ((Below.refl _ _).alloc (Nat.le_refl _) _)⟩
end Go.Proofs.Qxb6614526a
