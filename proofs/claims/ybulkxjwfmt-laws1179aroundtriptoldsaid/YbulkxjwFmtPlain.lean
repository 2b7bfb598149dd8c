/-
  THE PLAIN LAWS: no Go in sight. 'Lib.uvarintDec', 'Lib.uvarint': the library's decoder and encoder of varints.
-/
import Derived.Lib.VarintDec
import Derived.Lib.Varint
namespace Go.Proofs.YbulkxjwFmt
open Go.Lib (uvarintFrom uvarintDec uvarint uvarint_small uvarint_big uvarint_pos)

/-- The law's own decoder: i bytes are read, acc is what they spell. -/
def modelFrom (i acc : Nat) : List UInt8 → Nat × Nat × Bool
  | [] => (0, 0, false)
  | b :: r =>
    if i = 10 then (0, 0, false)
    else if b.toNat < 128 then
      if i = 9 ∧ 1 < b.toNat then (0, 0, false)
      else if 0 < i ∧ b.toNat = 0 then (0, 0, false)
      else (acc + b.toNat * 2 ^ (7 * i), i + 1, true)
    else modelFrom (i + 1) (acc + b.toNat % 128 * 2 ^ (7 * i)) r

/-- What the decoder's own reader makes of what the library decodes: cut, long or padded are refused. -/
def reader (i : Nat) (l : List UInt8) (d : Nat × Int) : Nat × Nat × Bool :=
  if d.2 ≤ 0 then (0, 0, false) else if 1 < d.2 ∧ (l.getD (d.2.toNat - 1 - i) 0).toNat = 0 then (0, 0, false) else (d.1, d.2.toNat, true)

theorem from_bounds : ∀ (l : List UInt8) (i acc : Nat), 0 < (uvarintFrom i acc l).2 → (i : Int) < (uvarintFrom i acc l).2 ∧ (uvarintFrom i acc l).2 ≤ i + l.length
  | [], i, acc, h => by simp [uvarintFrom] at h
  | b :: r, i, acc, h => by
    rw [uvarintFrom] at h ⊢
    split at h
    · simp at h; omega
    · rename_i h10
      rw [if_neg h10]
      split at h
      · rename_i h128
        rw [if_pos h128]
        split at h
        · simp at h; omega
        · rename_i h9
          rw [if_neg h9]
          simp
          omega
      · rename_i h128
        rw [if_neg h128]
        have := from_bounds r (i + 1) _ h
        simp
        omega

theorem model_from : ∀ (l : List UInt8) (i acc : Nat), modelFrom i acc l = reader i l (uvarintFrom i acc l)
  | [], i, acc => by simp [modelFrom, reader, uvarintFrom]
  | b :: r, i, acc => by
    have hb := from_bounds (b :: r) i acc
    rw [modelFrom, uvarintFrom]
    rw [uvarintFrom] at hb
    by_cases h10 : i = 10
    · rw [if_pos h10, if_pos h10]
      simp [reader]; omega
    · rw [if_neg h10, if_neg h10]
      rw [if_neg h10] at hb
      by_cases h128 : b.toNat < 128
      · rw [if_pos h128, if_pos h128]
        by_cases h9 : i = 9 ∧ 1 < b.toNat
        · rw [if_pos h9, if_pos h9]
          simp [reader]; omega
        · rw [if_neg h9, if_neg h9]
          have e0 : ((i : Int) + 1).toNat = i + 1 := by omega
          have e1 : ((b :: r).getD (i + 1 - 1 - i) 0) = b := by
            have : i + 1 - 1 - i = 0 := by omega
            rw [this]; rfl
          unfold reader
          simp only [e0, e1]
          have hn0 : ¬ ((i : Int) + 1 ≤ 0) := by omega
          by_cases hz : 0 < i ∧ b.toNat = 0
          · rw [if_pos hz, if_neg hn0, if_pos (by omega)]
          · rw [if_neg hz, if_neg hn0, if_neg (by omega)]
      · rw [if_neg h128, if_neg h128]
        rw [if_neg h128] at hb
        rw [model_from r (i + 1)]
        unfold reader
        by_cases hp : (uvarintFrom (i + 1) (acc + b.toNat % 128 * 2 ^ (7 * i)) r).2 ≤ 0
        · rw [if_pos hp, if_pos hp]
        · rw [if_neg hp, if_neg hp]
          have hb2 := from_bounds r (i + 1) (acc + b.toNat % 128 * 2 ^ (7 * i)) (by omega)
          have e1 : (b :: r).getD ((uvarintFrom (i + 1) (acc + b.toNat % 128 * 2 ^ (7 * i)) r).2.toNat - 1 - i) 0 = r.getD ((uvarintFrom (i + 1) (acc + b.toNat % 128 * 2 ^ (7 * i)) r).2.toNat - 1 - (i + 1)) 0 := by
            have : (uvarintFrom (i + 1) (acc + b.toNat % 128 * 2 ^ (7 * i)) r).2.toNat - 1 - i = ((uvarintFrom (i + 1) (acc + b.toNat % 128 * 2 ^ (7 * i)) r).2.toNat - 1 - (i + 1)) + 1 := by omega
            rw [this]; rfl
          rw [e1]

/-- What is written is what is read. -/
theorem from_uvarint (t : List UInt8) : ∀ (n x : Nat), x ≤ n → ∀ i acc, i ≤ 9 → x * 2 ^ (7 * i) < 18446744073709551616 → uvarintFrom i acc (uvarint x ++ t) = (acc + x * 2 ^ (7 * i), (i : Int) + (uvarint x).length) := by
  intro n
  induction n with
  | zero =>
    intro x hx i acc hi _
    obtain rfl : x = 0 := by omega
    have h0 : ((0 : Nat).toUInt8).toNat = 0 := rfl
    rw [uvarint_small (by omega)]
    simp only [List.singleton_append, uvarintFrom, h0]
    rw [if_neg (by omega), if_pos (by omega), if_neg (by omega)]
    simp
  | succ n ih =>
    intro x hx i acc hi hlt
    by_cases h128 : x < 128
    · have hb : (x.toUInt8).toNat = x := by
        show x % 256 = x
        omega
      rw [uvarint_small h128]
      simp only [List.singleton_append, uvarintFrom, hb]
      have h9 : ¬ (i = 9 ∧ 1 < x) := by
        rintro ⟨rfl, h1⟩
        have e : (2 : Nat) ^ (7 * 9) = 9223372036854775808 := by decide
        rw [e] at hlt
        omega
      rw [if_neg (by omega), if_pos h128, if_neg h9]
      simp
    · have hb : ((x % 128 + 128).toUInt8).toNat = x % 128 + 128 := by
        show (x % 128 + 128) % 256 = _
        omega
      have hp : 2 ^ (7 * (i + 1)) = 2 ^ (7 * i) * 128 := by
        rw [show 7 * (i + 1) = 7 * i + 7 by omega, Nat.pow_add]
      have hi8 : i ≤ 8 := by
        rcases Nat.lt_or_ge i 9 with h | h
        · omega
        · obtain rfl : i = 9 := by omega
          have e : (2 : Nat) ^ (7 * 9) = 9223372036854775808 := by decide
          rw [e] at hlt
          omega
      have hle : x / 128 * 2 ^ (7 * (i + 1)) ≤ x * 2 ^ (7 * i) := by
        rw [hp, show x / 128 * (2 ^ (7 * i) * 128) = x / 128 * 128 * 2 ^ (7 * i) by rw [Nat.mul_comm (2 ^ (7 * i)) 128, Nat.mul_assoc]]
        exact Nat.mul_le_mul_right _ (Nat.div_mul_le_self x 128)
      rw [uvarint_big (by omega)]
      simp only [List.cons_append, uvarintFrom, hb]
      rw [if_neg (by omega), if_neg (by omega), ih (x / 128) (by omega) (i + 1) _ (by omega) (Nat.lt_of_le_of_lt hle hlt)]
      refine Prod.ext ?_ ?_
      · show acc + (x % 128 + 128) % 128 * 2 ^ (7 * i) + x / 128 * 2 ^ (7 * (i + 1)) = acc + x * 2 ^ (7 * i)
        have e1 : (x % 128 + 128) % 128 = x % 128 := by omega
        have e2 : x / 128 * 2 ^ (7 * (i + 1)) = 128 * (x / 128) * 2 ^ (7 * i) := by rw [hp, Nat.mul_comm (2 ^ (7 * i)) 128, ← Nat.mul_assoc, Nat.mul_comm (x / 128) 128]
        rw [e1, e2, Nat.add_assoc, ← Nat.add_mul, Nat.mod_add_div]
      · simp
        omega

theorem dec_uvarint (x : Nat) (t : List UInt8) (hx : x < 18446744073709551616) : uvarintDec (uvarint x ++ t) = (x, ((uvarint x).length : Int)) := by
  unfold uvarintDec
  rw [from_uvarint t x x (Nat.le_refl _) 0 0 (by omega) (by simpa using hx)]
  simp

/-- The last byte is not nought, where there is more than one. -/
theorem last_uvarint : ∀ (n x : Nat), x ≤ n → 1 ≤ x → ((uvarint x).getD ((uvarint x).length - 1) 0).toNat ≠ 0 := by
  intro n
  induction n with
  | zero => intro x h1 h2; omega
  | succ n ih =>
    intro x hx h1
    by_cases h128 : x < 128
    · rw [uvarint_small h128]
      show x % 256 ≠ 0
      omega
    · rw [uvarint_big (by omega)]
      have hp := uvarint_pos (x / 128)
      have e : ((x % 128 + 128).toUInt8 :: uvarint (x / 128)).length - 1 = ((uvarint (x / 128)).length - 1) + 1 := by simp; omega
      rw [e]
      exact ih (x / 128) (by omega) (by omega)

theorem reader_uvarint (x : Nat) (t : List UInt8) (hx : x < 18446744073709551616) : reader 0 (uvarint x ++ t) (uvarintDec (uvarint x ++ t)) = (x, (uvarint x).length, true) := by
  rw [dec_uvarint x t hx]
  have hp := uvarint_pos x
  unfold reader
  rw [if_neg (by show ¬ ((uvarint x).length : Int) ≤ 0; omega)]
  have e : ((uvarint x).length : Int).toNat = (uvarint x).length := by omega
  simp only [e]
  rw [if_neg]
  rintro ⟨h1, h2⟩
  have hx1 : 1 ≤ x := by
    rcases Nat.eq_zero_or_pos x with rfl | h
    · rw [uvarint_small (by omega)] at h1; simp at h1
    · exact h
  rw [Nat.sub_zero, List.getD_eq_getElem?_getD, List.getElem?_append_left (by omega), ← List.getD_eq_getElem?_getD] at h2
  exact last_uvarint x x (Nat.le_refl _) hx1 h2

end Go.Proofs.YbulkxjwFmt
