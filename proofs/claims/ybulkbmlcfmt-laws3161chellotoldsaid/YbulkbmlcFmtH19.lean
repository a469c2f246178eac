/-
  LawS3161CHello: the plain law of the message.
-/
import Derived.Test.YbulkbmlcFmtH18
namespace Go.Proofs.YbulkbmlcFmt
open Go.Lib
set_option linter.unusedVariables false
set_option linter.unusedSectionVars false

theorem dec_take {x m : Nat} (hx : x < 2097152) (t : Bytes) : dec 0 0 ((uvarint x ++ t).take m) = if m < (uvarint x).length then none else some (x, t.take (m - (uvarint x).length)) := by
  by_cases h : m < (uvarint x).length
  · rw [if_pos h, List.take_append_of_le_length (by omega), dec_prefix hx h]
  · rw [if_neg h, List.take_append, List.take_of_length_le (by omega), dec_uvarint hx]
/-- The second text and what is behind it. -/
def R2 (D tl : Bytes) : Bytes := uvarint D.length ++ (D ++ tl)
/-- What is behind the version. -/
def R1 (T D tl : Bytes) : Bytes := uvarint T.length ++ (T ++ R2 D tl)
def msg (T D tl : Bytes) : Bytes := magic ++ (5 :: R1 T D tl)
theorem drop_take_text (T V : Bytes) (j : Nat) : ((T ++ V).take j).drop T.length = V.take (j - T.length) := by
  rw [List.drop_take, List.drop_left]
section
variable {T D tl : Bytes}
theorem good1 (hT : T.length ≤ 65536) (hD : D.length ≤ 65536) (k : Nat) : Good 0 ((R1 T D tl).take k) := good_take _ _ _ (good_uvarint (by omega) _)
theorem dec1 (hT : T.length ≤ 65536) (hD : D.length ≤ 65536) {k x : Nat} {t : Bytes} (h : dec 0 0 ((R1 T D tl).take k) = some (x, t)) : x = T.length ∧ (uvarint T.length).length ≤ k ∧ t = (T ++ R2 D tl).take (k - (uvarint T.length).length) := by
  unfold R1 at h
  rw [dec_take (by omega)] at h
  split at h
  · cases h
  · rename_i hk
    injection h with h; injection h with h1 h2
    exact ⟨h1.symm, by omega, h2.symm⟩
theorem bounds1 (hT : T.length ≤ 65536) (hD : D.length ≤ 65536) (k : Nat) : ∀ x t, dec 0 0 ((R1 T D tl).take k) = some (x, t) → x ≤ 65536 ∧ Good 0 (t.drop x) ∧ ∀ y s, dec 0 0 (t.drop x) = some (y, s) → y ≤ 65536 := by
  intro x t h
  obtain ⟨rfl, hk, rfl⟩ := dec1 hT hD h
  rw [drop_take_text]
  refine ⟨hT, good_take _ _ _ (good_uvarint (by omega) _), fun y s h => ?_⟩
  unfold R2 at h
  rw [dec_take (by omega)] at h
  split at h
  · cases h
  · injection h with h; injection h with h1 h2
    omega
/-- Cut ahead of its end the message lacks a part of its second text. -/
theorem short1 (hT : T.length ≤ 65536) (hD : D.length ≤ 65536) {k : Nat} (hk : k < (uvarint T.length).length + T.length + (uvarint D.length).length + D.length) : ∀ x t, dec 0 0 ((R1 T D tl).take k) = some (x, t) → x ≤ t.length → ∀ y s, dec 0 0 (t.drop x) = some (y, s) → s.length < y := by
  intro x t h hx y s hy
  obtain ⟨rfl, hk1, rfl⟩ := dec1 hT hD h
  rw [drop_take_text] at hy
  rw [List.length_take] at hx
  unfold R2 at hy
  rw [dec_take (by omega)] at hy
  split at hy
  · cases hy
  · injection hy with hy; injection hy with h1 h2
    subst h1 h2
    rw [List.length_take, List.length_append]
    omega
/-- The whole message. -/
theorem whole1 (hT : T.length ≤ 65536) (hD : D.length ≤ 65536) {x y : Nat} {t s : Bytes} (h : dec 0 0 (R1 T D tl) = some (x, t)) (hy : dec 0 0 (t.drop x) = some (y, s)) : t.take x = T ∧ s.take y = D ∧ s.drop y = tl ∧ x ≤ t.length ∧ y ≤ s.length := by
  unfold R1 at h
  rw [dec_uvarint (by omega)] at h
  injection h with h; injection h with h1 h2
  subst h1 h2
  rw [List.drop_left] at hy
  unfold R2 at hy
  rw [dec_uvarint (by omega)] at hy
  injection hy with hy; injection hy with h1 h2
  subst h1 h2
  exact ⟨List.take_left, List.take_left, List.drop_left, by simp, by simp⟩
theorem whole2 (hT : T.length ≤ 65536) (hD : D.length ≤ 65536) : ∃ x t y s, dec 0 0 (R1 T D tl) = some (x, t) ∧ dec 0 0 (t.drop x) = some (y, s) :=
  ⟨T.length, T ++ R2 D tl, D.length, D ++ tl, dec_uvarint (by omega) _, by rw [List.drop_left]; exact dec_uvarint (by omega) _⟩
end
theorem magic_len : magic.length = 8 := rfl
theorem msg_head (T D tl : Bytes) : (msg T D tl).take 8 = magic ∧ (msg T D tl)[8]? = some 5 ∧ (msg T D tl).drop 9 = R1 T D tl ∧ 9 ≤ (msg T D tl).length := by
  refine ⟨rfl, rfl, rfl, ?_⟩
  simp [msg, magic]
theorem len_R1 (T D tl : Bytes) : (R1 T D tl).length = (uvarint T.length).length + T.length + (uvarint D.length).length + D.length + tl.length := by
  simp [R1, R2]; omega
theorem len_msg (T D tl : Bytes) : (msg T D tl).length = 9 + (R1 T D tl).length := by simp [msg, magic]; omega
/-- What the law does to the message, by its mode. -/
def Turned (T D tl S : Bytes) (m : Nat) : Prop :=
  (m = 0 ∧ S = msg T D tl) ∨
  (m = 1 ∧ S.length = (msg T D tl).length ∧ S.take 8 ≠ magic ∧ S.drop 9 = R1 T D tl) ∨
  (m = 2 ∧ S.length = (msg T D tl).length ∧ S[8]? ≠ some 5 ∧ S.drop 9 = R1 T D tl) ∨
  (m = 3 ∧ ∃ c, c < 9 + ((uvarint T.length).length + T.length + (uvarint D.length).length + D.length) ∧ S = (msg T D tl).take c)
theorem Turned.drop {T D tl S : Bytes} {m : Nat} (h : Turned T D tl S m) : ∃ k, S.drop 9 = (R1 T D tl).take k ∧ S.length ≤ (msg T D tl).length := by
  rcases h with ⟨_, rfl⟩ | ⟨_, h1, _, h2⟩ | ⟨_, h1, _, h2⟩ | ⟨_, c, hc, rfl⟩
  · exact ⟨(R1 T D tl).length, by rw [List.take_length]; rfl, Nat.le_refl _⟩
  · exact ⟨(R1 T D tl).length, by rw [List.take_length]; exact h2, by omega⟩
  · exact ⟨(R1 T D tl).length, by rw [List.take_length]; exact h2, by omega⟩
  · refine ⟨c - 9, ?_, by simp; omega⟩
    rw [List.drop_take, (msg_head T D tl).2.2.1]
theorem flip_magic {S : Bytes} (h : S.take 8 = magic) (hl : 9 ≤ S.length) {i : Nat} (hi : i < 8) {v u : UInt8} (hv : S[i]? = some v) (hne : u ≠ v) : (S.set i u).take 8 ≠ magic := by
  intro h2
  have e1 : ((S.set i u).take 8)[i]? = some u := by
    rw [List.getElem?_take_of_lt hi, List.getElem?_set_self (by omega)]
  have e2 : (S.take 8)[i]? = some v := by rw [List.getElem?_take_of_lt hi]; exact hv
  rw [h2, ← h, e2] at e1
  injection e1 with e1
  exact hne e1.symm
end Go.Proofs.YbulkbmlcFmt
