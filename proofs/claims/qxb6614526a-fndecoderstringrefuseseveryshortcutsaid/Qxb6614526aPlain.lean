/-
  PLAIN LAWS OF THE VARINTS (no Go in sight): what is encoded is what is decoded; a proper beginning of an encoding is refused.
-/
import Derived.Lib.VarintMem
import Derived.Lib.VarintDec
namespace Go.Proofs.Qxb6614526a
open Go.Lib

theorem dec_from (r : List UInt8) : ∀ (n x i acc : Nat), x ≤ n → i ≤ 8 → x * 2 ^ (7 * i) < 2 ^ 63 →
    uvarintFrom i acc (uvarint x ++ r) = (acc + x * 2 ^ (7 * i), (i : Int) + ((uvarint x).length : Int))
  | n, x, i, acc, hn, hi, hx => by
    by_cases hs : x < 128
    · rw [uvarint_small hs]
      have hb : (x.toUInt8).toNat = x := toUInt8_toNat (by omega)
      show uvarintFrom i acc (x.toUInt8 :: r) = _
      rw [uvarintFrom, if_neg (by omega), hb, if_pos hs, if_neg (by omega)]
      rfl
    · have hb : ((x % 128 + 128).toUInt8).toNat = x % 128 + 128 := toUInt8_toNat (by omega)
      have hdm : x / 128 * 128 + x % 128 = x := by omega
      have hp : (2 : Nat) ^ (7 * (i + 1)) = 128 * 2 ^ (7 * i) := by
        rw [show 7 * (i + 1) = 7 * i + 7 by omega, Nat.pow_add]; omega
      have hge : 128 * 2 ^ (7 * i) ≤ x * 2 ^ (7 * i) := Nat.mul_le_mul_right _ (by omega)
      have hi7 : i + 1 ≤ 8 := by
        by_cases h8 : i = 8
        · subst h8
          have e : (2 : Nat) ^ (7 * 8) = 72057594037927936 := by decide
          rw [e] at hge hx
          have e2 : (2 : Nat) ^ 63 = 9223372036854775808 := by decide
          omega
        · omega
      have hsp : x * 2 ^ (7 * i) = x / 128 * (128 * 2 ^ (7 * i)) + x % 128 * 2 ^ (7 * i) := by
        rw [← Nat.mul_assoc, ← Nat.add_mul, hdm]
      match n, hn with
      | 0, hn => omega
      | n + 1, hn =>
        have ih := dec_from r n (x / 128) (i + 1) (acc + x % 128 * 2 ^ (7 * i)) (by omega) hi7 (by rw [hp]; omega)
        rw [uvarint_big (by omega), List.cons_append, uvarintFrom, if_neg (by omega), hb, if_neg (by omega), show (x % 128 + 128) % 128 = x % 128 by omega, ih, hp, hsp, List.length_cons]
        refine Prod.ext ?_ ?_
        · show acc + x % 128 * 2 ^ (7 * i) + x / 128 * (128 * 2 ^ (7 * i)) = acc + (x / 128 * (128 * 2 ^ (7 * i)) + x % 128 * 2 ^ (7 * i))
          omega
        · show ((i + 1 : Nat) : Int) + _ = _
          omega

/-- WHAT IS ENCODED IS WHAT IS DECODED, whatever follows. -/
theorem dec_enc (x : Nat) (r : List UInt8) (hx : x < 2 ^ 63) : uvarintDec (uvarint x ++ r) = (x, ((uvarint x).length : Int)) := by
  have h := dec_from r x x 0 0 (Nat.le_refl _) (by omega) (by simpa using hx)
  rw [uvarintDec, h]
  simp

theorem dec_short_from : ∀ (n x i acc k : Nat), x ≤ n → i + (uvarint x).length ≤ 10 → k < (uvarint x).length →
    uvarintFrom i acc ((uvarint x).take k) = (0, 0)
  | n, x, i, acc, k, hn, hi, hk => by
    by_cases hs : x < 128
    · rw [uvarint_small hs] at hk ⊢
      have : k = 0 := by simp at hk; omega
      subst this
      rfl
    · rw [uvarint_big (by omega)] at hk hi ⊢
      have hb : ((x % 128 + 128).toUInt8).toNat = x % 128 + 128 := toUInt8_toNat (by omega)
      match n, hn, k, hk with
      | 0, hn, _, _ => omega
      | n + 1, _, 0, _ => rfl
      | n + 1, hn, k + 1, hk =>
        rw [List.length_cons] at hk hi
        rw [List.take_succ_cons, uvarintFrom, if_neg (by omega), hb, if_neg (by omega)]
        exact dec_short_from n (x / 128) (i + 1) _ k (by omega) (by omega) (by omega)

/-- A PROPER BEGINNING OF AN ENCODING IS REFUSED. -/
theorem dec_short (x k : Nat) (hx : x < 2 ^ 63) (hk : k < (uvarint x).length) : uvarintDec ((uvarint x).take k) = (0, 0) := by
  have hl := uvarint_length64 (x := x) (by omega)
  exact dec_short_from x x 0 0 k (Nat.le_refl _) (by omega) hk

end Go.Proofs.Qxb6614526a
