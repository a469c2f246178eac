/-
  LawS3162BLeave: the group index as a list of triples: no walk here.
-/
import Derived.Test.YbulkbmlqM1
import Derived.Maps.OwnSet
import Derived.DeepKeys4
namespace Go.Proofs.Ybulkbmlq
open Go.RowKit Go.Maps Go.WideMaps
set_option linter.unusedVariables false

theorem laidOut : laidOutB Yba.prog = true := by kernel_rfl
theorem row58 : 58 < Yba.prog.types.size := of_decide_eq_true (by kernel_rfl)
set_option maxRecDepth 100000 in
theorem wide58 : (match Yba.prog.underlying 58 with | some (.array _ _) | some (.struct _) => true | _ => false) = true := by rw [Yba.underlying58]
set_option maxRecDepth 100000 in
theorem law58 : Keyed Yba.prog 58 := Keyed.of_law (deep_law_laid laidOut (m := 2) (by omega) row58 (by kernel_rfl) wide58)
theorem law9 : Keyed Yba.prog 9 := string_keyed Yba.underlying9

def keyV (c g : Int) : Value := .agg #[.string (clS c), .string (grS g)]
theorem clS_cases (c : Int) : clS c = ⟨#[]⟩ ∨ clS c = ⟨#[101, 97, 115, 116]⟩ ∨ clS c = ⟨#[119, 101, 115, 116]⟩ := by
  unfold clS; split
  · exact Or.inl rfl
  · split
    · exact Or.inr (Or.inl rfl)
    · exact Or.inr (Or.inr rfl)
theorem grS_cases (c : Int) : grS c = ⟨#[]⟩ ∨ grS c = ⟨#[103, 49]⟩ ∨ grS c = ⟨#[103, 50]⟩ := by
  unfold grS; split
  · exact Or.inl rfl
  · split
    · exact Or.inr (Or.inl rfl)
    · exact Or.inr (Or.inr rfl)
theorem key_ex (c g : Int) : ∃ l, keyOf Yba.prog 58 (keyV c g) = some l := by
  unfold keyV
  rcases clS_cases c with e | e | e <;> rcases grS_cases g with e' | e' | e' <;> rw [e, e'] <;> exact Option.isSome_iff_exists.1 (by kernel_rfl)
theorem keys_ex : ∃ kl : Int → Int → Lit, ∀ c g, keyOf Yba.prog 58 (keyV c g) = some (kl c g) :=
  ⟨fun c g => Classical.choose (key_ex c g), fun c g => Classical.choose_spec (key_ex c g)⟩

theorem clS_inj {c c' : Int} (h0 : 0 ≤ c) (h1 : c < 3) (h0' : 0 ≤ c') (h1' : c' < 3) (h : clS c = clS c') : c = c' := by
  rcases (show c = 0 ∨ c = 1 ∨ c = 2 by omega) with rfl | rfl | rfl <;> rcases (show c' = 0 ∨ c' = 1 ∨ c' = 2 by omega) with rfl | rfl | rfl <;> first | rfl | (exfalso; revert h; decide)
theorem grS_inj {c c' : Int} (h0 : 0 ≤ c) (h1 : c < 3) (h0' : 0 ≤ c') (h1' : c' < 3) (h : grS c = grS c') : c = c' := by
  rcases (show c = 0 ∨ c = 1 ∨ c = 2 by omega) with rfl | rfl | rfl <;> rcases (show c' = 0 ∨ c' = 1 ∨ c' = 2 by omega) with rfl | rfl | rfl <;> first | rfl | (exfalso; revert h; decide)
def ik (i : Int) : Lit := .string (idS i).data.toList
theorem ik_inj {c c' : Int} (h0 : 0 ≤ c) (h1 : c < 4) (h0' : 0 ≤ c') (h1' : c' < 4) (h : ik c = ik c') : c = c' := by
  rcases (show c = 0 ∨ c = 1 ∨ c = 2 ∨ c = 3 by omega) with rfl | rfl | rfl | rfl <;> rcases (show c' = 0 ∨ c' = 1 ∨ c' = 2 ∨ c' = 3 by omega) with rfl | rfl | rfl | rfl <;> first | rfl | (exfalso; have h' := Lit.string.inj h; revert h'; decide)
theorem keyOf_id (i : Int) : keyOf Yba.prog 9 (.string (idS i)) = some (ik i) := keyOf_string_mk Yba.underlying9 (by
  unfold idS maxLen
  repeat' split
  all_goals decide)
theorem kl_inj {kl : Int → Int → Lit} (hkl : ∀ c g, keyOf Yba.prog 58 (keyV c g) = some (kl c g)) {c g c' g' : Int} (h0 : 0 ≤ c) (h1 : c < 3) (h2 : 0 ≤ g) (h3 : g < 3) (h0' : 0 ≤ c') (h1' : c' < 3) (h2' : 0 ≤ g') (h3' : g' < 3)
    (h : kl c g = kl c' g') : c = c' ∧ g = g' := by
  have e := law58.inj (hkl c g) (by rw [h]; exact hkl c' g')
  unfold keyV at e
  simp only [Value.agg.injEq, Array.mk.injEq, List.cons.injEq, Value.string.injEq, and_true] at e
  exact ⟨clS_inj h0 h1 h0' h1' e.1, grS_inj h2 h3 h2' h3' e.2⟩

/-! ### the list's side -/
def InR (t : Tr) : Prop := 0 ≤ t.c ∧ t.c < 3 ∧ 0 ≤ t.g ∧ t.g < 3 ∧ 0 ≤ t.i ∧ t.i < 4
def ofG (c g : Int) (t : Tr) : Bool := t.c == c && t.g == g
def anyG (L : List Tr) (c g : Int) : Bool := L.any (ofG c g)
def cntG (L : List Tr) (c g : Int) : Nat := L.countP (ofG c g)
def b2n (b : Bool) : Nat := if b = true then 1 else 0
def numG (p : Int → Int → Bool) : Nat := b2n (p 0 0) + b2n (p 0 1) + b2n (p 0 2) + b2n (p 1 0) + b2n (p 1 1) + b2n (p 1 2) + b2n (p 2 0) + b2n (p 2 1) + b2n (p 2 2)
theorem ofG_iff (c g : Int) (t : Tr) : ofG c g t = true ↔ t.c = c ∧ t.g = g := by simp [ofG]
theorem anyG_snoc (L : List Tr) (t : Tr) (c g : Int) : anyG (L ++ [t]) c g = (anyG L c g || ofG c g t) := by simp [anyG]
theorem cntG_snoc (L : List Tr) (t : Tr) (c g : Int) : cntG (L ++ [t]) c g = cntG L c g + b2n (ofG c g t) := by
  simp only [cntG, List.countP_append, List.countP_singleton, b2n]
theorem hasT_snoc (L : List Tr) (t x : Tr) : hasT (L ++ [t]) x = (hasT L x || eqT x t) := by simp [hasT]
theorem cnt_any (L : List Tr) (c g : Int) : (0 < cntG L c g) ↔ anyG L c g = true := by
  simp only [cntG, anyG, List.countP_pos_iff, List.any_eq_true]
theorem numG_set {p q : Int → Int → Bool} {c g : Int} (h0 : 0 ≤ c) (h1 : c < 3) (h2 : 0 ≤ g) (h3 : g < 3) (hp : p c g = false) (hq : q c g = true)
    (h : ∀ c' g', ¬ (c' = c ∧ g' = g) → q c' g' = p c' g') : numG q = numG p + 1 := by
  have a := h 0 0; have b := h 0 1; have c_ := h 0 2; have d := h 1 0; have e := h 1 1; have f := h 1 2; have g_ := h 2 0; have h_ := h 2 1; have i_ := h 2 2
  rcases (show c = 0 ∨ c = 1 ∨ c = 2 by omega) with rfl | rfl | rfl <;> rcases (show g = 0 ∨ g = 1 ∨ g = 2 by omega) with rfl | rfl | rfl <;>
    simp at a b c_ d e f g_ h_ i_ <;> simp [numG, b2n, *] <;> omega
theorem numG_same {p q : Int → Int → Bool} (h : ∀ c g, q c g = p c g) : numG q = numG p := by
  have : q = p := funext fun c => funext fun g => h c g
  rw [this]

/-! ### the index -/
def Rg : Value → Option (DataW Nat × List MemPlace)
  | .map (some b) => some (.held b, [])
  | .map none => some (.nil, [])
  | _ => none
theorem Rg_held {v : Value} {b : Nat} {ps : List MemPlace} (h : Rg v = some (.held b, ps)) : v = .map (some b) := by
  unfold Rg at h
  split at h <;> simp at h
  obtain ⟨rfl, _⟩ := h; rfl
theorem Rg_nil {v : Value} {ps : List MemPlace} (h : Rg v = some (.nil, ps)) : v = .map none := by
  unfold Rg at h
  split at h <;> simp at h
  rfl
theorem zero60 (w : World) : (zeroValue 60).run Yba.prog w = .ok (.map none) w := by kernel_rfl
theorem zero35 (w : World) : (zeroValue 35).run Yba.prog w = .ok (.agg #[]) w := by kernel_rfl

structure Inv (kl : Int → Int → Lit) (w : World) (G base N : Nat) (L : List Tr) (f : Int → Int → Nat) (n : Nat) (D : DataW Nat) (m : Int → Int → Nat) (S : Int → Int → DataW Unit) : Prop where
  own : w.ownsMap Yba.prog 58 Rg G n D
  le : n ≤ N
  gb : base ≤ G
  size : Maps.size D = numG (anyG L)
  has : ∀ c g, 0 ≤ c → c < 3 → 0 ≤ g → g < 3 → Maps.has D (kl c g) = anyG L c g
  key : ∀ c g, 0 ≤ c → c < 3 → 0 ≤ g → g < 3 → D.atKey (kl c g) .nil = if anyG L c g = true then .held (f c g) else .nil
  ids : ∀ c g, 0 ≤ c → c < 3 → 0 ≤ g → g < 3 → anyG L c g = true → f c g ≠ G ∧ base ≤ f c g ∧ w.ownsMap (H := Unit) Yba.prog 9 unitElem (f c g) (m c g) (S c g) ∧ m c g ≤ N ∧ Maps.size (S c g) = cntG L c g ∧
    ∀ i, 0 ≤ i → i < 4 → Maps.has (S c g) (ik i) = hasT L ⟨c, g, i⟩
  inj : ∀ c g c' g', 0 ≤ c → c < 3 → 0 ≤ g → g < 3 → 0 ≤ c' → c' < 3 → 0 ≤ g' → g' < 3 → anyG L c g = true → anyG L c' g' = true → f c g = f c' g' → c = c' ∧ g = g'

def InvE (kl : Int → Int → Lit) (w : World) (G base N : Nat) (L : List Tr) : Prop := ∃ f n D m S, Inv kl w G base N L f n D m S

theorem Inv.start (kl : Int → Int → Lit) (w : World) (base : Nat) (hb : base ≤ w.heap.size) : InvE kl (w.alloc (.map #[] 0)) w.heap.size base 0 [] :=
  ⟨fun _ _ => 0, 0, .map [], fun _ _ => 0, fun _ _ => .nil, World.ownsMap_made _ _ _ _, Nat.le_refl _, hb, rfl, fun _ _ _ _ _ _ => rfl, fun _ _ _ _ _ _ => rfl, fun _ _ _ _ _ _ h => (by cases h), fun _ _ _ _ _ _ _ _ _ _ _ _ h => (by cases h)⟩

theorem Inv.kept {kl : Int → Int → Lit} {w w' : World} {G base N : Nat} {L : List Tr} {f : Int → Int → Nat} {n : Nat} {D : DataW Nat} {m : Int → Int → Nat} {S : Int → Int → DataW Unit} (h : Inv kl w G base N L f n D m S) (hg : w.grownBy w' none) : Inv kl w' G base N L f n D m S where
  own := h.own.kept hg (by simp)
  le := h.le
  gb := h.gb
  size := h.size
  has := h.has
  key := h.key
  ids := fun c g a b c' d e => by
    obtain ⟨x1, x2, x3, x4⟩ := h.ids c g a b c' d e
    exact ⟨x1, x2, x3.kept hg (by simp), x4⟩
  inj := h.inj

def upd {α : Type} (F : Int → Int → α) (c g : Int) (x : α) : Int → Int → α := fun c' g' => if c' = c ∧ g' = g then x else F c' g'
theorem upd_same {α : Type} (F : Int → Int → α) (c g : Int) (x : α) : upd F c g x c g = x := by simp [upd]
theorem upd_other {α : Type} (F : Int → Int → α) {c g c' g' : Int} (x : α) (h : ¬ (c' = c ∧ g' = g)) : upd F c g x c' g' = F c' g' := by simp [upd, h]
theorem keyLit (i : Int) : WideAt.IsKeyLit (ik i) := by simp [ik, WideAt.IsKeyLit]
theorem ofG_self (t : Tr) : ofG t.c t.g t = true := by simp [ofG]
theorem ofG_other {c g : Int} {t : Tr} (h : ¬ (c = t.c ∧ g = t.g)) : ofG c g t = false := by
  cases hq : ofG c g t
  · rfl
  · exact absurd (by have := (ofG_iff c g t).1 hq; exact ⟨this.1.symm, this.2.symm⟩) h
theorem eqT_other {c g i : Int} {t : Tr} (h : ¬ (c = t.c ∧ g = t.g)) : eqT ⟨c, g, i⟩ t = false := by
  cases hq : eqT ⟨c, g, i⟩ t
  · rfl
  · have := (eqT_iff _ _).1 hq; subst this; exact absurd ⟨rfl, rfl⟩ h

section
variable {kl : Int → Int → Lit} {w w' : World} {G base N : Nat} {L : List Tr} {f : Int → Int → Nat} {n : Nat} {D : DataW Nat} {m : Int → Int → Nat} {S : Int → Int → DataW Unit}

/-- One more of a group that is there. -/
theorem Inv.add_old (h : Inv kl w G base N L f n D m S) (t : Tr) (ht : InR t) (hno : hasT L t = false) (ha : anyG L t.c t.g = true)
    (hS : w'.ownsMap (H := Unit) Yba.prog 9 unitElem (f t.c t.g) (m t.c t.g + 1) ((S t.c t.g).put (ik t.i) (.agg []))) (hg : w.grownBy w' (some (f t.c t.g))) :
    Inv kl w' G base (N + 1) (L ++ [t]) f n D (upd m t.c t.g (m t.c t.g + 1)) (upd S t.c t.g ((S t.c t.g).put (ik t.i) (.agg []))) := by
  obtain ⟨r0, r1, r2, r3, r4, r5⟩ := ht
  obtain ⟨x1, x2, x3, x4, x5, x6⟩ := h.ids t.c t.g r0 r1 r2 r3 ha
  have hany : ∀ c g, anyG (L ++ [t]) c g = anyG L c g := fun c g => by
    rw [anyG_snoc]
    by_cases e : c = t.c ∧ g = t.g
    · obtain ⟨rfl, rfl⟩ := e; rw [ha]; rfl
    · rw [ofG_other e, Bool.or_false]
  refine ⟨h.own.kept hg (fun e => x1 (Option.some.inj e).symm), by have := h.le; omega, h.gb, by rw [numG_same hany]; exact h.size, fun c g a b c' d => by rw [hany]; exact h.has c g a b c' d, fun c g a b c' d => by rw [hany]; exact h.key c g a b c' d, ?_, ?_⟩
  · intro c g a b c' d e
    rw [hany] at e
    by_cases q : c = t.c ∧ g = t.g
    · obtain ⟨rfl, rfl⟩ := q
      rw [upd_same, upd_same]
      have hsz := size_put (k := ik t.i) (x3.tidy law9) (.agg [])
      rw [x6 t.i r4 r5] at hsz
      refine ⟨x1, x2, hS, by omega, ?_, fun i i0 i1 => ?_⟩
      · have hno' : hasT L ⟨t.c, t.g, t.i⟩ = false := hno
        rw [hno'] at hsz
        rw [cntG_snoc, ofG_self, hsz, x5]; rfl
      · rw [hasT_snoc]
        by_cases qi : i = t.i
        · subst qi
          rw [has_put_same x3.isMap (keyLit _)]
          have : eqT ⟨t.c, t.g, t.i⟩ t = true := (eqT_iff _ _).2 rfl
          rw [this, Bool.or_true]
        · rw [has_put_other (fun e => qi (ik_inj i0 i1 r4 r5 e)), x6 i i0 i1]
          have : eqT ⟨t.c, t.g, i⟩ t = false := by
            cases hq : eqT ⟨t.c, t.g, i⟩ t
            · rfl
            · have := (eqT_iff _ _).1 hq; rw [← this] at qi; exact absurd rfl qi
          rw [this, Bool.or_false]
    · rw [upd_other _ _ q, upd_other _ _ q]
      obtain ⟨y1, y2, y3, y4, y5, y6⟩ := h.ids c g a b c' d e
      refine ⟨y1, y2, y3.kept hg (fun e' => q (h.inj c g t.c t.g a b c' d r0 r1 r2 r3 e ha (Option.some.inj e'))), by omega, by rw [cntG_snoc, ofG_other q]; exact y5, fun i i0 i1 => ?_⟩
      rw [hasT_snoc, eqT_other q, Bool.or_false]; exact y6 i i0 i1
  · intro c g c' g' a0 a1 a2 a3 b0 b1 b2 b3 e e'
    rw [hany] at e e'
    exact h.inj c g c' g' a0 a1 a2 a3 b0 b1 b2 b3 e e'

/-- The first of a group. -/
theorem Inv.add_new (hkl : ∀ c g, keyOf Yba.prog 58 (keyV c g) = some (kl c g)) (h : Inv kl w G base N L f n D m S) (t : Tr) (ht : InR t) (ha : anyG L t.c t.g = false) (b : Nat) (hb : w.heap.size ≤ b) (hbase : base ≤ b)
    (hD : w'.ownsMap Yba.prog 58 Rg G (n + 1) (D.put (kl t.c t.g) (.held b))) (hS : w'.ownsMap (H := Unit) Yba.prog 9 unitElem b 1 ((DataW.map []).put (ik t.i) (.agg []))) (hg : w.grownBy w' (some G)) :
    Inv kl w' G base (N + 1) (L ++ [t]) (upd f t.c t.g b) (n + 1) (D.put (kl t.c t.g) (.held b)) (upd m t.c t.g 1) (upd S t.c t.g ((DataW.map []).put (ik t.i) (.agg []))) := by
  obtain ⟨r0, r1, r2, r3, r4, r5⟩ := ht
  have hGlt : G < w.heap.size := h.own.lt
  have hany : ∀ c g, ¬ (c = t.c ∧ g = t.g) → anyG (L ++ [t]) c g = anyG L c g := fun c g q => by
    rw [anyG_snoc, ofG_other q, Bool.or_false]
  have hat : anyG (L ++ [t]) t.c t.g = true := by rw [anyG_snoc, ofG_self, Bool.or_true]
  have hnone : ∀ x ∈ L, ofG t.c t.g x = false := by
    intro x hx
    cases hq : ofG t.c t.g x
    · rfl
    · have : anyG L t.c t.g = true := List.any_eq_true.2 ⟨x, hx, hq⟩
      rw [ha] at this; cases this
  have hcnt : cntG L t.c t.g = 0 := by
    unfold cntG
    rw [List.countP_eq_zero]
    intro x hx
    rw [hnone x hx]; simp
  have hnot : ∀ i, hasT L ⟨t.c, t.g, i⟩ = false := by
    intro i
    cases hq : hasT L ⟨t.c, t.g, i⟩
    · rfl
    · have := hnone _ ((hasT_iff _ _).1 hq)
      simp [ofG] at this
  have hKL : WideAt.IsKeyLit (kl t.c t.g) := law58.key (hkl t.c t.g)
  have hkne : ∀ c g, 0 ≤ c → c < 3 → 0 ≤ g → g < 3 → ¬ (c = t.c ∧ g = t.g) → kl c g ≠ kl t.c t.g := fun c g a b' c' d q e => q (kl_inj hkl a b' c' d r0 r1 r2 r3 e)
  refine ⟨hD, by have := h.le; omega, h.gb, ?_, ?_, ?_, ?_, ?_⟩
  · rw [size_put (h.own.tidy law58), h.has t.c t.g r0 r1 r2 r3, ha]
    rw [numG_set r0 r1 r2 r3 ha hat hany, ← h.size]; rfl
  · intro c g a b' c' d
    by_cases q : c = t.c ∧ g = t.g
    · obtain ⟨rfl, rfl⟩ := q
      rw [has_put_same h.own.isMap hKL, hat]
    · rw [has_put_other (hkne c g a b' c' d q), hany c g q]; exact h.has c g a b' c' d
  · intro c g a b' c' d
    by_cases q : c = t.c ∧ g = t.g
    · obtain ⟨rfl, rfl⟩ := q
      rw [atKey_put_same h.own.isMap hKL, hat, upd_same]; rfl
    · rw [atKey_put_other (hkne c g a b' c' d q), hany c g q, upd_other _ _ q]; exact h.key c g a b' c' d
  · intro c g a b' c' d e
    by_cases q : c = t.c ∧ g = t.g
    · obtain ⟨rfl, rfl⟩ := q
      rw [upd_same, upd_same, upd_same]
      refine ⟨by omega, hbase, hS, by omega, ?_, fun i i0 i1 => ?_⟩
      · rw [size_put tidy_empty, cntG_snoc, ofG_self, hcnt]; rfl
      · rw [hasT_snoc, hnot, Bool.false_or]
        by_cases qi : i = t.i
        · subst qi
          rw [has_put_same isMap_empty (keyLit _)]
          exact ((eqT_iff _ _).2 rfl).symm
        · rw [has_put_other (fun e => qi (ik_inj i0 i1 r4 r5 e))]
          have : eqT ⟨t.c, t.g, i⟩ t = false := by
            cases hq : eqT ⟨t.c, t.g, i⟩ t
            · rfl
            · have := (eqT_iff _ _).1 hq; rw [← this] at qi; exact absurd rfl qi
          rw [this]; rfl
    · rw [upd_other _ _ q, upd_other _ _ q, upd_other _ _ q]
      rw [hany c g q] at e
      obtain ⟨y1, y2, y3, y4, y5, y6⟩ := h.ids c g a b' c' d e
      refine ⟨y1, y2, y3.kept hg (fun e' => y1 (Option.some.inj e')), by omega, by rw [cntG_snoc, ofG_other q]; exact y5, fun i i0 i1 => ?_⟩
      rw [hasT_snoc, eqT_other q, Bool.or_false]; exact y6 i i0 i1
  · intro c g c' g' a0 a1 a2 a3 b0 b1 b2 b3 e e' hf
    by_cases q : c = t.c ∧ g = t.g
    · by_cases q' : c' = t.c ∧ g' = t.g
      · exact ⟨q.1.trans q'.1.symm, q.2.trans q'.2.symm⟩
      · obtain ⟨rfl, rfl⟩ := q
        rw [upd_same, upd_other _ _ q'] at hf
        rw [hany c' g' q'] at e'
        have := (h.ids c' g' b0 b1 b2 b3 e').2.2.1.lt
        omega
    · by_cases q' : c' = t.c ∧ g' = t.g
      · obtain ⟨rfl, rfl⟩ := q'
        rw [upd_same, upd_other _ _ q] at hf
        rw [hany c g q] at e
        have := (h.ids c g a0 a1 a2 a3 e).2.2.1.lt
        omega
      · rw [upd_other _ _ q, upd_other _ _ q'] at hf
        rw [hany c g q] at e
        rw [hany c' g' q'] at e'
        exact h.inj c g c' g' a0 a1 a2 a3 b0 b1 b2 b3 e e' hf
end
end Go.Proofs.Ybulkbmlq
