/-
  LawS3160BModel: the plain law: compaction of a sorted list.
-/
import Derived.Test.YbulkbmkoB3
namespace Go.Proofs.Ybulkbmko
set_option linter.unusedVariables false
set_option linter.unusedSimpArgs false

def comp (L : List B) : List B := L.foldl (fun acc x => if acc.getLast? = some x then acc else acc ++ [x]) []
theorem comp_nil : comp [] = [] := rfl
theorem comp_snoc (L : List B) (x : B) : comp (L ++ [x]) = if (comp L).getLast? = some x then comp L else comp L ++ [x] := by
  unfold comp; rw [List.foldl_append]; rfl
theorem list_snoc_cases {α : Type} (L : List α) : L = [] ∨ ∃ A x, L = A ++ [x] := by
  rcases L.eq_nil_or_concat with h | ⟨A, x, h⟩
  · exact Or.inl h
  · exact Or.inr ⟨A, x, by simpa using h⟩
theorem comp_last (L : List B) : (comp L).getLast? = L.getLast? := by
  rcases list_snoc_cases L with rfl | ⟨A, x, rfl⟩
  · rfl
  · rw [comp_snoc]; split
    · rename_i h; rw [h]; simp
    · simp
theorem comp_mem : ∀ (n : Nat) (L : List B), L.length = n → ∀ z, z ∈ comp L ↔ z ∈ L
  | 0, L, h, z => by rw [List.length_eq_zero_iff.1 h]; simp [comp]
  | n + 1, L, h, z => by
    rcases list_snoc_cases L with rfl | ⟨A, x, rfl⟩
    · simp at h
    · have ih := comp_mem n A (by simpa using h) z
      rw [comp_snoc]; split
      · rename_i hl
        rw [comp_last] at hl
        have hx : x ∈ A := List.mem_of_getLast? hl
        rw [ih]; simp
        intro e; rw [e]; exact hx
      · simp [ih]
theorem comp_len (L : List B) (x : B) : (comp (L ++ [x])).length = if L.getLast? = some x then (comp L).length else (comp L).length + 1 := by
  rw [comp_snoc, comp_last]; split <;> simp
theorem comp_sorted : ∀ (n : Nat) (L : List B), L.length = n → L.Pairwise (fun a b => a.val ≤ b.val) → (comp L).Pairwise (fun a b => a.val < b.val)
  | 0, L, h, _ => by rw [List.length_eq_zero_iff.1 h]; simp [comp]
  | n + 1, L, h, hp => by
    rcases list_snoc_cases L with rfl | ⟨A, x, rfl⟩
    · simp at h
    · rw [List.pairwise_append] at hp
      have ih := comp_sorted n A (by simpa using h) hp.1
      rw [comp_snoc]; split
      · exact ih
      · rename_i hl
        rw [List.pairwise_append]
        refine ⟨ih, by simp, fun a ha b hb => ?_⟩
        simp at hb; subst hb
        have hA : a ∈ A := (comp_mem _ A rfl a).1 ha
        have hle := hp.2.2 a hA b (by simp)
        rcases Nat.lt_or_ge a.val b.val with h' | h'
        · exact h'
        · exfalso
          have hab : a = b := Fin.ext (by omega)
          subst hab
          rw [comp_last] at hl
          -- the last of A is at least a, and at most a
          rcases list_snoc_cases A with rfl | ⟨A', y, rfl⟩
          · simp at hA
          · have hy := hp.2.2 y (by simp) a (by simp)
            have hay : a.val ≤ y.val := by
              rcases List.mem_append.1 hA with h1 | h1
              · exact (List.pairwise_append.1 hp.1).2.2 a h1 y (by simp)
              · simp at h1; rw [h1]; exact Nat.le_refl _
            apply hl
            simp
            exact Fin.ext (by omega)
theorem asc_ext : ∀ (A C : List B), A.Pairwise (fun a b => a.val < b.val) → C.Pairwise (fun a b => a.val < b.val) → (∀ z, z ∈ A ↔ z ∈ C) → A = C
  | [], C, _, _, h => by
    cases C with
    | nil => rfl
    | cons c C => exact absurd ((h c).2 (by simp)) (by simp)
  | a :: A, [], _, _, h => absurd ((h a).1 (by simp)) (by simp)
  | a :: A, c :: C, hA, hC, h => by
    rw [List.pairwise_cons] at hA hC
    have hac : a = c := by
      have h1 := (h a).1 (by simp)
      have h2 := (h c).2 (by simp)
      rcases List.mem_cons.1 h1 with e | h1
      · exact e
      · rcases List.mem_cons.1 h2 with e | h2
        · exact e.symm
        · have := hA.1 c h2; have := hC.1 a h1; omega
    subst hac
    rw [asc_ext A C hA.2 hC.2 (fun z => ?_)]
    constructor
    · intro hz
      rcases List.mem_cons.1 ((h z).1 (by simp [hz])) with e | e
      · subst e; have := hA.1 z hz; omega
      · exact e
    · intro hz
      rcases List.mem_cons.1 ((h z).2 (by simp [hz])) with e | e
      · subst e; have := hC.1 z hz; omega
      · exact e
end Go.Proofs.Ybulkbmko
