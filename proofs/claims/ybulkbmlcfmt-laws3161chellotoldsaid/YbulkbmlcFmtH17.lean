/-
  LawS3161CHello: the plain law of the numbers.
-/
import Derived.Test.YbulkbmlcFmtH15
namespace Go.Proofs.YbulkbmlcFmt
open Go.Lib
set_option linter.unusedVariables false

theorem ofNat_lt {n : Nat} (h : n < 256) : (n.toUInt8).toNat = n := toUInt8_toNat h
theorem dec_uvarint_from : ∀ (f x j acc : Nat) (t : Bytes), x < 128 ^ (f + 1) → dec j acc (uvarint x ++ t) = some (acc + x * 128 ^ j, t)
  | 0, x, j, acc, t, h => by
    have hx : x < 128 := by simpa using h
    rw [uvarint_small hx]
    simp only [List.cons_append, List.nil_append, dec, ofNat_lt (show x < 256 by omega)]
    rw [if_pos hx]
  | f + 1, x, j, acc, t, h => by
    by_cases hx : x < 128
    · rw [uvarint_small hx]
      simp only [List.cons_append, List.nil_append, dec, ofNat_lt (show x < 256 by omega)]
      rw [if_pos hx]
    · rw [uvarint_big (by omega)]
      simp only [List.cons_append, dec, ofNat_lt (show x % 128 + 128 < 256 by omega)]
      rw [if_neg (by omega), dec_uvarint_from f (x / 128) (j + 1) _ t (by rw [Nat.pow_succ] at h; exact Nat.div_lt_of_lt_mul (by rw [Nat.mul_comm]; exact h))]
      congr 2
      have e1 : (x % 128 + 128) % 128 = x % 128 := by omega
      rw [e1, Nat.pow_succ, Nat.add_assoc, ← Nat.mul_assoc, Nat.mul_right_comm, ← Nat.add_mul]
      congr 2
      omega
theorem dec_uvarint {x : Nat} (hx : x < 2097152) (t : Bytes) : dec 0 0 (uvarint x ++ t) = some (x, t) := by
  rw [dec_uvarint_from 2 x 0 0 t (by simpa using hx)]; simp
theorem dec_prefix_from : ∀ (f x j acc m : Nat), x < 128 ^ (f + 1) → m < (uvarint x).length → dec j acc ((uvarint x).take m) = none
  | 0, x, j, acc, m, h, hm => by
    have hx : x < 128 := by simpa using h
    rw [uvarint_small hx] at hm ⊢
    have : m = 0 := by simpa using hm
    subst this; rfl
  | f + 1, x, j, acc, m, h, hm => by
    by_cases hx : x < 128
    · rw [uvarint_small hx] at hm ⊢
      have : m = 0 := by simpa using hm
      subst this; rfl
    · rw [uvarint_big (by omega)] at hm ⊢
      cases m with
      | zero => rfl
      | succ m =>
        simp only [List.take_succ_cons, dec, ofNat_lt (show x % 128 + 128 < 256 by omega)]
        rw [if_neg (by omega)]
        exact dec_prefix_from f (x / 128) (j + 1) _ m (by rw [Nat.pow_succ] at h; exact Nat.div_lt_of_lt_mul (by rw [Nat.mul_comm]; exact h)) (by simpa using hm)
theorem dec_prefix {x m : Nat} (hx : x < 2097152) (hm : m < (uvarint x).length) : dec 0 0 ((uvarint x).take m) = none := dec_prefix_from 2 x 0 0 m (by simpa using hx) hm
theorem good_from : ∀ (f x j : Nat) (t : Bytes), x < 128 ^ (f + 1) → j + f ≤ 2 → Good j (uvarint x ++ t)
  | 0, x, j, t, h, _ => by
    have hx : x < 128 := by simpa using h
    rw [uvarint_small hx]
    exact Or.inl (by rw [ofNat_lt (show x < 256 by omega)]; exact hx)
  | f + 1, x, j, t, h, hj => by
    by_cases hx : x < 128
    · rw [uvarint_small hx]
      exact Or.inl (by rw [ofNat_lt (show x < 256 by omega)]; exact hx)
    · rw [uvarint_big (by omega)]
      exact Or.inr ⟨by omega, good_from f (x / 128) (j + 1) t (by rw [Nat.pow_succ] at h; exact Nat.div_lt_of_lt_mul (by rw [Nat.mul_comm]; exact h)) (by omega)⟩
theorem good_uvarint {x : Nat} (hx : x < 2097152) (t : Bytes) : Good 0 (uvarint x ++ t) := good_from 2 x 0 t (by simpa using hx) (by omega)
theorem good_take : ∀ (l : Bytes) (j m : Nat), Good j l → Good j (l.take m)
  | [], j, m, _ => by simp [Good]
  | b :: t, j, 0, _ => trivial
  | b :: t, j, m + 1, h => by
    rw [List.take_succ_cons]
    rcases h with h | ⟨h1, h2⟩
    · exact Or.inl h
    · exact Or.inr ⟨h1, good_take t (j + 1) m h2⟩
end Go.Proofs.YbulkbmlcFmt
