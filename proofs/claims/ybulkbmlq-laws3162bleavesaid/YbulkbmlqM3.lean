/-
  LawS3162BLeave: leaving, on the list's side.
-/
import Derived.Test.YbulkbmlqM2
namespace Go.Proofs.Ybulkbmlq
open Go.RowKit Go.Maps Go.WideMaps
set_option linter.unusedVariables false

def leaveL (τ : Tr) (L : List Tr) : List Tr := L.filter fun t => !eqT t τ
theorem eqT_comm (x y : Tr) : eqT x y = eqT y x := by
  cases h : eqT x y
  · cases h' : eqT y x
    · rfl
    · have := (eqT_iff _ _).1 h'; subst this; rw [(eqT_iff _ _).2 rfl] at h; cases h
  · have := (eqT_iff _ _).1 h; subst this; exact h.symm
theorem has_leave (τ : Tr) (L : List Tr) (x : Tr) : hasT (leaveL τ L) x = (hasT L x && !eqT x τ) := by
  cases h : eqT x τ
  · simp only [Bool.not_false, Bool.and_true]
    rw [Bool.eq_iff_iff, hasT_iff, hasT_iff, leaveL, List.mem_filter, h]
    simp
  · simp only [Bool.not_true, Bool.and_false]
    cases h' : hasT (leaveL τ L) x
    · rfl
    · have := (hasT_iff _ _).1 h'
      rw [leaveL, List.mem_filter, h] at this
      simp at this
theorem leave_absent {τ : Tr} {L : List Tr} (h : hasT L τ = false) : leaveL τ L = L := by
  rw [leaveL, List.filter_eq_self]
  intro x hx
  cases hq : eqT x τ
  · rfl
  · have := (eqT_iff _ _).1 hq; subst this
    rw [(hasT_iff _ _).2 hx] at h; cases h
theorem any_leave {τ : Tr} {L : List Tr} {c g : Int} (h : ¬ (c = τ.c ∧ g = τ.g)) : anyG (leaveL τ L) c g = anyG L c g := by
  rw [Bool.eq_iff_iff]
  simp only [anyG, List.any_eq_true, leaveL, List.mem_filter]
  constructor
  · rintro ⟨x, ⟨hx, _⟩, hq⟩; exact ⟨x, hx, hq⟩
  · rintro ⟨x, hx, hq⟩
    refine ⟨x, ⟨hx, ?_⟩, hq⟩
    cases hq' : eqT x τ
    · rfl
    · have := (eqT_iff _ _).1 hq'; subst this
      exact absurd (by have := (ofG_iff c g x).1 hq; exact ⟨this.1.symm, this.2.symm⟩) h
theorem cnt_leave {τ : Tr} : ∀ {L : List Tr}, L.Nodup → ∀ c g, cntG (leaveL τ L) c g + b2n (hasT L τ && ofG c g τ) = cntG L c g
  | [], _, c, g => by simp [leaveL, cntG, hasT, b2n]
  | x :: L, hnd, c, g => by
    obtain ⟨hx, hL⟩ := List.nodup_cons.1 hnd
    have ih := cnt_leave (τ := τ) hL c g
    cases hq : eqT x τ
    · have e1 : leaveL τ (x :: L) = x :: leaveL τ L := by simp [leaveL, hq]
      have e2 : hasT (x :: L) τ = hasT L τ := by
        show (eqT τ x || hasT L τ) = hasT L τ
        rw [eqT_comm, hq, Bool.false_or]
      rw [e1, e2]
      simp only [cntG, List.countP_cons] at ih ⊢
      omega
    · have := (eqT_iff _ _).1 hq; subst this
      have e0 : hasT L x = false := by
        cases h : hasT L x
        · rfl
        · exact absurd ((hasT_iff _ _).1 h) hx
      have e1 : leaveL x (x :: L) = leaveL x L := by simp [leaveL, hq]
      have e2 : hasT (x :: L) x = true := (hasT_iff _ _).2 (List.mem_cons_self ..)
      rw [e0] at ih
      rw [e1, e2]
      simp only [cntG, List.countP_cons, Bool.true_and, Bool.false_and, b2n] at ih ⊢
      cases ofG c g x <;> simp at ih ⊢ <;> omega
theorem cnt_leave_other {τ : Tr} {L : List Tr} (hn : L.Nodup) {c g : Int} (h : ¬ (c = τ.c ∧ g = τ.g)) : cntG (leaveL τ L) c g = cntG L c g := by
  have := cnt_leave (τ := τ) hn c g
  rw [ofG_other h, Bool.and_false] at this
  simpa [b2n] using this

section
variable {kl : Int → Int → Lit} {w w1 w' : World} {G base N : Nat} {L : List Tr} {f : Int → Int → Nat} {n : Nat} {D : DataW Nat} {m : Int → Int → Nat} {S : Int → Int → DataW Unit}

/-- No such group. -/
theorem Inv.leave_none (h : Inv kl w G base N L f n D m S) (τ : Tr) (ht : InR τ) (ha : anyG L τ.c τ.g = false)
    (hD : w'.ownsMap Yba.prog 58 Rg G n (D.del (kl τ.c τ.g))) (hg : w.grownBy w' (some G)) : Inv kl w' G base N (leaveL τ L) f n D m S := by
  obtain ⟨r0, r1, r2, r3, r4, r5⟩ := ht
  have hno : hasT L τ = false := by
    cases hq : hasT L τ
    · rfl
    · have : anyG L τ.c τ.g = true := List.any_eq_true.2 ⟨τ, (hasT_iff _ _).1 hq, ofG_self τ⟩
      rw [ha] at this; cases this
  rw [leave_absent hno]
  have e : D.del (kl τ.c τ.g) = D := del_of_not_has (by rw [h.has τ.c τ.g r0 r1 r2 r3]; exact ha)
  rw [e] at hD
  refine ⟨hD, h.le, h.gb, h.size, h.has, h.key, ?_, h.inj⟩
  intro c g a b c' d e
  obtain ⟨y1, y2, y3, y4⟩ := h.ids c g a b c' d e
  exact ⟨y1, y2, y3.kept hg (fun e' => y1 (Option.some.inj e')), y4⟩

/-- Some are left in the group. -/
theorem Inv.leave_some (h : Inv kl w G base N L f n D m S) (τ : Tr) (ht : InR τ) (hnd : L.Nodup) (ha : anyG L τ.c τ.g = true)
    (hS : w'.ownsMap (H := Unit) Yba.prog 9 unitElem (f τ.c τ.g) (m τ.c τ.g) ((S τ.c τ.g).del (ik τ.i))) (hpos : 0 < Maps.size ((S τ.c τ.g).del (ik τ.i))) (hg : w.grownBy w' (some (f τ.c τ.g))) :
    Inv kl w' G base N (leaveL τ L) f n D m (upd S τ.c τ.g ((S τ.c τ.g).del (ik τ.i))) := by
  obtain ⟨r0, r1, r2, r3, r4, r5⟩ := ht
  obtain ⟨x1, x2, x3, x4, x5, x6⟩ := h.ids τ.c τ.g r0 r1 r2 r3 ha
  have hsd := size_del (k := ik τ.i) (x3.tidy law9)
  have hx6 : Maps.has (S τ.c τ.g) (ik τ.i) = hasT L τ := x6 τ.i r4 r5
  have hcnt : Maps.size ((S τ.c τ.g).del (ik τ.i)) = cntG (leaveL τ L) τ.c τ.g := by
    have := cnt_leave (τ := τ) hnd τ.c τ.g
    rw [ofG_self, Bool.and_true] at this
    rw [hx6, x5] at hsd
    unfold b2n at this
    omega
  have hany : ∀ c g, anyG (leaveL τ L) c g = anyG L c g := fun c g => by
    by_cases q : c = τ.c ∧ g = τ.g
    · obtain ⟨rfl, rfl⟩ := q
      rw [ha]; exact (cnt_any _ _ _).1 (by rw [← hcnt]; exact hpos)
    · exact any_leave q
  refine ⟨h.own.kept hg (fun e => x1 (Option.some.inj e).symm), h.le, h.gb, by rw [numG_same hany]; exact h.size, fun c g a b c' d => by rw [hany]; exact h.has c g a b c' d, fun c g a b c' d => by rw [hany]; exact h.key c g a b c' d, ?_, ?_⟩
  · intro c g a b c' d e
    rw [hany] at e
    by_cases q : c = τ.c ∧ g = τ.g
    · obtain ⟨rfl, rfl⟩ := q
      rw [upd_same]
      refine ⟨x1, x2, hS, x4, hcnt, fun i i0 i1 => ?_⟩
      rw [has_leave]
      by_cases qi : i = τ.i
      · subst qi
        rw [has_del_same]
        have : eqT ⟨τ.c, τ.g, τ.i⟩ τ = true := (eqT_iff _ _).2 rfl
        rw [this]; simp
      · rw [has_del_other (fun e => qi (ik_inj i0 i1 r4 r5 e)), x6 i i0 i1]
        have : eqT ⟨τ.c, τ.g, i⟩ τ = false := by
          cases hq : eqT ⟨τ.c, τ.g, i⟩ τ
          · rfl
          · have := (eqT_iff _ _).1 hq; rw [← this] at qi; exact absurd rfl qi
        rw [this]; simp
    · rw [upd_other _ _ q]
      obtain ⟨y1, y2, y3, y4, y5, y6⟩ := h.ids c g a b c' d e
      refine ⟨y1, y2, y3.kept hg (fun e' => q (h.inj c g τ.c τ.g a b c' d r0 r1 r2 r3 e ha (Option.some.inj e'))), y4, by rw [cnt_leave_other hnd q]; exact y5, fun i i0 i1 => ?_⟩
      rw [has_leave, eqT_other q]; simp; exact y6 i i0 i1
  · intro c g c' g' a0 a1 a2 a3 b0 b1 b2 b3 e e'
    rw [hany] at e e'
    exact h.inj c g c' g' a0 a1 a2 a3 b0 b1 b2 b3 e e'

/-- The group is left empty and goes. -/
theorem Inv.leave_last (hkl : ∀ c g, keyOf Yba.prog 58 (keyV c g) = some (kl c g)) (h : Inv kl w G base N L f n D m S) (τ : Tr) (ht : InR τ) (hnd : L.Nodup) (ha : anyG L τ.c τ.g = true)
    (hz : Maps.size ((S τ.c τ.g).del (ik τ.i)) = 0) (hg : w.grownBy w1 (some (f τ.c τ.g)))
    (hD : w'.ownsMap Yba.prog 58 Rg G n (D.del (kl τ.c τ.g))) (hg' : w1.grownBy w' (some G)) :
    Inv kl w' G base N (leaveL τ L) f n (D.del (kl τ.c τ.g)) m S := by
  obtain ⟨r0, r1, r2, r3, r4, r5⟩ := ht
  obtain ⟨x1, x2, x3, x4, x5, x6⟩ := h.ids τ.c τ.g r0 r1 r2 r3 ha
  have hsd := size_del (k := ik τ.i) (x3.tidy law9)
  have hx6 : Maps.has (S τ.c τ.g) (ik τ.i) = hasT L τ := x6 τ.i r4 r5
  have hcnt : cntG (leaveL τ L) τ.c τ.g = 0 := by
    have := cnt_leave (τ := τ) hnd τ.c τ.g
    rw [ofG_self, Bool.and_true] at this
    rw [hx6, x5, hz] at hsd
    unfold b2n at this
    omega
  have hoff : anyG (leaveL τ L) τ.c τ.g = false := by
    cases hq : anyG (leaveL τ L) τ.c τ.g
    · rfl
    · have := (cnt_any _ _ _).2 hq; omega
  have hkne : ∀ c g, 0 ≤ c → c < 3 → 0 ≤ g → g < 3 → ¬ (c = τ.c ∧ g = τ.g) → kl c g ≠ kl τ.c τ.g := fun c g a b' c' d q e => q (kl_inj hkl a b' c' d r0 r1 r2 r3 e)
  have hany : ∀ c g, ¬ (c = τ.c ∧ g = τ.g) → anyG L c g = anyG (leaveL τ L) c g := fun c g q => (any_leave q).symm
  refine ⟨hD, h.le, h.gb, ?_, ?_, ?_, ?_, ?_⟩
  · have hs := size_del (k := kl τ.c τ.g) (h.own.tidy law58)
    rw [h.has τ.c τ.g r0 r1 r2 r3, ha, h.size, numG_set r0 r1 r2 r3 hoff ha hany] at hs
    simpa using hs
  · intro c g a b' c' d
    by_cases q : c = τ.c ∧ g = τ.g
    · obtain ⟨rfl, rfl⟩ := q
      rw [has_del_same, hoff]
    · rw [has_del_other (hkne c g a b' c' d q), ← hany c g q]; exact h.has c g a b' c' d
  · intro c g a b' c' d
    by_cases q : c = τ.c ∧ g = τ.g
    · obtain ⟨rfl, rfl⟩ := q
      rw [atKey_del_same, hoff]; rfl
    · rw [atKey_del_other (hkne c g a b' c' d q), ← hany c g q]; exact h.key c g a b' c' d
  · intro c g a b' c' d e
    by_cases q : c = τ.c ∧ g = τ.g
    · obtain ⟨rfl, rfl⟩ := q
      rw [hoff] at e; cases e
    · rw [← hany c g q] at e
      obtain ⟨y1, y2, y3, y4, y5, y6⟩ := h.ids c g a b' c' d e
      have z3 := y3.kept hg (fun e' => q (h.inj c g τ.c τ.g a b' c' d r0 r1 r2 r3 e ha (Option.some.inj e')))
      refine ⟨y1, y2, z3.kept hg' (fun e' => y1 (Option.some.inj e')), y4, by rw [cnt_leave_other hnd q]; exact y5, fun i i0 i1 => ?_⟩
      rw [has_leave, eqT_other q]; simp; exact y6 i i0 i1
  · intro c g c' g' a0 a1 a2 a3 b0 b1 b2 b3 e e' hf
    by_cases q : c = τ.c ∧ g = τ.g
    · obtain ⟨rfl, rfl⟩ := q
      rw [hoff] at e; cases e
    · by_cases q' : c' = τ.c ∧ g' = τ.g
      · obtain ⟨rfl, rfl⟩ := q'
        rw [hoff] at e'; cases e'
      · rw [← hany c g q] at e
        rw [← hany c' g' q'] at e'
        exact h.inj c g c' g' a0 a1 a2 a3 b0 b1 b2 b3 e e' hf
end
end Go.Proofs.Ybulkbmlq
