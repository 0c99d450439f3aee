/- The plain law: what Uvarint reads off a varint that AppendUvarint wrote. -/
import Derived.Lib.Varint
import Derived.Lib.VarintDec
import Derived.Lib.VarintMem
namespace Go.Proofs.YbulkggoDoor
open Go

theorem u8_nat {a : Nat} (h : a < 256) : (a.toUInt8).toNat = a := Lib.toUInt8_toNat h

theorem from_uvarint : ∀ (i x acc : Nat) (t : List UInt8), i ≤ 9 → x * 2 ^ (7 * i) < 18446744073709551616 →
    Lib.uvarintFrom i acc (Lib.uvarint x ++ t) = (acc + x * 2 ^ (7 * i), ((i + (Lib.uvarint x).length : Nat) : Int)) := by
  intro i x
  induction x using Nat.strongRecOn generalizing i with
  | _ x ih =>
    intro acc t hi hx
    have h9 : i = 9 → x ≤ 1 := by
      rintro rfl
      simp only [Nat.reduceMul, Nat.reducePow] at hx
      omega
    by_cases hs : x < 128
    · rw [Lib.uvarint_small hs]
      simp only [List.singleton_append, Lib.uvarintFrom, u8_nat (show x < 256 by omega)]
      rw [if_neg (by omega), if_pos hs, if_neg (by rintro ⟨h, h1⟩; have := h9 h; omega)]
      simp
    · rw [Lib.uvarint_big (by omega)]
      have hi8 : i ≠ 9 := fun h => by have := h9 h; omega
      simp only [List.cons_append, Lib.uvarintFrom, u8_nat (show x % 128 + 128 < 256 by omega)]
      rw [if_neg (by omega), if_neg (by omega)]
      have e : 2 ^ (7 * (i + 1)) = 2 ^ (7 * i) * 128 := by rw [show 7 * (i + 1) = 7 * i + 7 from by omega, Nat.pow_add]
      have hdm : x = 128 * (x / 128) + x % 128 := (Nat.div_add_mod x 128).symm
      have hmul : x * 2 ^ (7 * i) = x / 128 * 2 ^ (7 * (i + 1)) + x % 128 * 2 ^ (7 * i) := by
        rw [e]
        generalize 2 ^ (7 * i) = P
        conv => lhs; rw [hdm]
        rw [Nat.add_mul]
        congr 1
        rw [Nat.mul_comm P 128, ← Nat.mul_assoc, Nat.mul_comm (x / 128) 128]
      rw [ih (x / 128) (by omega) (i + 1) _ t (by omega) (by omega)]
      rw [show (x % 128 + 128) % 128 = x % 128 from by omega]
      refine Prod.ext ?_ ?_
      · show acc + x % 128 * 2 ^ (7 * i) + x / 128 * 2 ^ (7 * (i + 1)) = acc + x * 2 ^ (7 * i)
        omega
      · show ((i + 1 + (Lib.uvarint (x / 128)).length : Nat) : Int) = _
        simp only [List.length_cons]
        omega

theorem dec_uvarint (x : Nat) (hx : x < 18446744073709551616) (t : List UInt8) : Lib.uvarintDec (Lib.uvarint x ++ t) = (x, (((Lib.uvarint x).length : Nat) : Int)) := by
  unfold Lib.uvarintDec
  rw [from_uvarint 0 x 0 t (by omega) (by simpa using hx)]
  simp

theorem last_uvarint : ∀ (x k : Nat), 1 ≤ x → (Lib.uvarint x).length = k + 1 → (Lib.uvarint x)[k]? ≠ some 0 := by
  intro x
  induction x using Nat.strongRecOn with
  | _ x ih =>
    intro k h1 hk
    by_cases hs : x < 128
    · rw [Lib.uvarint_small hs] at hk ⊢
      obtain rfl : k = 0 := by simpa using hk.symm
      intro h
      have h' : x.toUInt8 = 0 := by simpa using h
      have := congrArg UInt8.toNat h'
      rw [u8_nat (by omega)] at this
      simp at this
      omega
    · rw [Lib.uvarint_big (by omega)] at hk ⊢
      have hp := Lib.uvarint_pos (x / 128)
      obtain ⟨j, rfl⟩ : ∃ j, k = j + 1 := ⟨k - 1, by simp at hk; omega⟩
      simp only [List.length_cons] at hk
      rw [List.getElem?_cons_succ]
      exact ih (x / 128) (by omega) j (by omega) (by omega)
theorem last_app (x k : Nat) (t : List UInt8) (hk : (Lib.uvarint x).length = k + 1) (h0 : 0 < k) : (Lib.uvarint x ++ t)[k]? ≠ some 0 := by
  rw [List.getElem?_append_left (by omega)]
  refine last_uvarint x k ?_ hk
  rcases Nat.eq_zero_or_pos x with rfl | h
  · rw [Lib.uvarint_small (by omega)] at hk
    simp at hk
    omega
  · exact h
end Go.Proofs.YbulkggoDoor
