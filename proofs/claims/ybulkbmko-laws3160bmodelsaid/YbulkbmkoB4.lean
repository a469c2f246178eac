/-
  LawS3160BModel: slices.CompactFunc at nodes.
-/
import Derived.Test.YbulkbmkoP
import Derived.Deep.MidRow
import Derived.Deep.RegionHeld3
import Derived.Shelf.SlSortCmp.QuietGrown
namespace Go.Proofs.Ybulkbmko
open Go.RowKit Go.Lib Go.Sort
set_option linter.unusedVariables false
set_option linter.unusedSimpArgs false

def RowL (w : World) (g : Nat) (L : List B) : Prop := ∀ j (h : j < L.length), w.rangeAt g (j * 21) (encB L[j])
theorem below_grown {B' : Nat} (w : World) (n : Nat) (os : Array Obj) (h : B' ≤ w.heap.size) : Below B' w (grow (w.drewN n) os) :=
  ⟨rfl, rfl, rfl, by simp [grow, World.drewN], fun k hk => by
    have : k < w.heap.size := Nat.lt_of_lt_of_le hk h
    show (w.heap ++ os)[k]? = w.heap[k]?
    rw [Array.getElem?_append_left this]⟩
theorem take_last {α : Type} (L : List α) (m : Nat) (h : m < L.length) : (L.take (m + 1)).getLast? = some L[m] := by
  rw [List.take_succ_eq_append_getElem h, List.getLast?_append]; rfl
theorem comp_step (L : List B) (m : Nat) (h : m + 1 < L.length) (hc : comp (L.take (m + 1)) = L.take (m + 1)) : comp (L.take (m + 2)) = if L[m] = L[m + 1] then L.take (m + 1) else L.take (m + 2) := by
  have e : L.take (m + 2) = L.take (m + 1) ++ [L[m + 1]] := List.take_succ_eq_append_getElem h
  rw [e, comp_snoc, comp_last, take_last L m (by omega), hc]
  by_cases hq : L[m] = L[m + 1]
  · rw [if_pos hq, if_pos (by rw [hq])]
  · rw [if_neg hq, if_neg (by intro x; exact hq (Option.some.inj x))]
/-- The first part of the row is C, the rest is still L's. -/
def Mid (w : World) (g : Nat) (L C : List B) : Prop :=
  (∀ j (h : j < C.length), w.rangeAt g (j * 21) (encB C[j])) ∧ (∀ j (h : j < L.length), C.length ≤ j → w.rangeAt g (j * 21) (encB L[j])) ∧ w.there g 0 (L.length * 21)
theorem len_encB (x : B) : (encB x).length = 21 := rfl
theorem comp_step2 (L : List B) (i : Nat) (h : i + 1 < L.length) : comp (L.take (i + 2)) = if L[i] = L[i + 1] then comp (L.take (i + 1)) else comp (L.take (i + 1)) ++ [L[i + 1]] := by
  have e : L.take (i + 2) = L.take (i + 1) ++ [L[i + 1]] := List.take_succ_eq_append_getElem h
  rw [e, comp_snoc, comp_last, take_last L i (by omega)]
  by_cases hq : L[i] = L[i + 1]
  · rw [if_pos hq, if_pos (by rw [hq])]
  · rw [if_neg hq, if_neg (by intro x; exact hq (Option.some.inj x))]
theorem heap_setCells_other (b : Nat) : ∀ (vs : List Value) (o : Nat) (w : World) (k : Nat), k ≠ b → (w.setCells b o vs).heap[k]? = w.heap[k]?
  | [], _, _, _, _ => rfl
  | v :: r, o, w, k, h => by rw [World.setCells, heap_setCells_other b r _ _ k h, heap_setCell_other _ _ _ _ h]
theorem size_setCells (b : Nat) : ∀ (vs : List Value) (o : Nat) (w : World), (w.setCells b o vs).heap.size = w.heap.size
  | [], _, _ => rfl
  | v :: r, o, w => by rw [World.setCells, size_setCells b r]; simp
theorem grownBy_setCells (b : Nat) : ∀ (vs : List Value) (o : Nat) (w : World), w.grownBy (w.setCells b o vs) (some b)
  | [], _, w => ⟨rfl, rfl, rfl, Nat.le_refl _, fun _ _ _ => rfl⟩
  | v :: r, o, w => by
    have h := grownBy_setCells b r (o + 1) (w.setCell ⟨b, o, none⟩ v)
    exact ⟨h.os, h.tape, h.output, by rw [size_setCells]; exact Nat.le_refl _, fun k hk hne => (h.block k (by simpa using hk) hne).trans (heap_setCell_other _ _ _ _ (fun e => hne (by rw [e])))⟩
theorem grownBy_grown (w : World) (n : Nat) (os : Array Obj) (r : Option Nat) : w.grownBy (grow (w.drewN n) os) r :=
  have h := below_grown w n os (Nat.le_refl _)
  ⟨h.os, h.tape, h.output, h.size, fun k hk _ => h.block k hk⟩
theorem gb_trans {a b c : World} {row : Option Nat} (h : a.grownBy b row) (k : b.grownBy c row) : a.grownBy c row :=
  ⟨k.os.trans h.os, k.tape.trans h.tape, k.output.trans h.output, Nat.le_trans h.size k.size, fun i hi hne => (k.block i (Nat.lt_of_lt_of_le hi h.size) hne).trans (h.block i hi hne)⟩
theorem mem_zeroCells {z : Array Value} {n : Nat} {v : Value} (hz : 0 < z.size) (h : v ∈ (Builtin.zeroCells z n).toList) : v ∈ z.toList := by
  simp only [Builtin.zeroCells, Array.toList_map, List.mem_map] at h
  obtain ⟨i, _, rfl⟩ := h
  have hi : i % z.size < z.size := Nat.mod_lt _ hz
  rw [getElem!_pos z (i % z.size) hi]
  exact Array.mem_toList_iff.2 (Array.getElem_mem hi)
theorem run_clear_rows {P : Program} (w : World) (t e ty : TypeId) (z : Value) (ht : P.underlying t = some (.slice e)) (hv : ∀ w, (zeroValue e).run P w = .ok z w) (k : Nat) (hk : z.cells.size = k) (hk0 : 0 < k) (h1 : ∀ v ∈ z.cells.toList, v.oneCell' = true) (b o n c : Nat)
    (hn : 0 < n) (hth : w.there b o (n * k)) :
    (Builtin.clear_ #[t] ty #[.slice (some ⟨b, o, none⟩) n c]).run P w = .ok (.tuple #[]) (w.setCells b o (Builtin.zeroCells z.cells n).toList) := by
  have hl : (Builtin.zeroCells z.cells n).toList.length = n * k := by rw [Array.length_toList, size_zeroCells, hk]
  have hst := run_storeCells_cells (P := P) b o (Builtin.zeroCells z.cells n).toList 0 w (fun j hj => (hth j (by omega)).1) (fun j hj => (hth j (by omega)).2) (fun v hv' => h1 v (mem_zeroCells (by omega) hv'))
  simp only [Nat.add_zero] at hst
  obtain ⟨m, rfl⟩ : ∃ m, n = m + 1 := ⟨n - 1, by omega⟩
  simp [Builtin.clear_, run_underlying ht, hv, hst]
theorem Mid.grown {w : World} {g : Nat} {L C : List B} (h : Mid w g L C) (hg : g < w.heap.size) (n : Nat) (os : Array Obj) : Mid (grow (w.drewN n) os) g L C := by
  have hbb := below_grown w n os (Nat.le_refl _)
  have hcell : ∀ o, (grow (w.drewN n) os).cell? ⟨g, o, none⟩ = w.cell? ⟨g, o, none⟩ := fun o => hbb.cell hg
  have hfro : ∀ o, (grow (w.drewN n) os).frozen? ⟨g, o, none⟩ = w.frozen? ⟨g, o, none⟩ := fun o => hbb.frozen hg
  obtain ⟨h1, h2, h3⟩ := h
  refine ⟨fun j h i v hv => ?_, fun j h hc i v hv => ?_, fun j hj => ?_⟩
  · rw [hcell]; exact h1 j h i v hv
  · rw [hcell]; exact h2 j h hc i v hv
  · rw [hcell, hfro]; exact h3 j hj
theorem Mid.put {w : World} {g : Nat} {L C : List B} (h : Mid w g L C) (hc : C.length < L.length) (y : B) : Mid (w.setCells g (C.length * 21) (encB y)) g L (C ++ [y]) := by
  obtain ⟨h1, h2, h3⟩ := h
  refine ⟨fun j hj => ?_, fun j hj hcj => ?_, World.there_setCells h3 _ _ _⟩
  · by_cases e : j < C.length
    · rw [List.getElem_append_left e]
      exact World.rangeAt_setCells_apart (h1 j e) _ _ _ (Or.inr (Or.inl (by rw [len_encB]; omega)))
    · have : j = C.length := by simp at hj; omega
      subst this
      rw [List.getElem_append_right (Nat.le_refl _)]
      simp only [Nat.sub_self, List.getElem_cons_zero]
      refine World.rangeAt_setCells_same _ _ _ _ (fun i hi => ?_)
      rw [len_encB] at hi
      have := h3 (C.length * 21 + i) (by omega)
      rwa [Nat.zero_add] at this
  · simp at hcj
    exact World.rangeAt_setCells_apart (h2 j hj (by omega)) _ _ _ (Or.inr (Or.inr (by rw [len_encB]; omega)))
theorem one_encB (x : B) : (encB x).toArray.all (·.oneCell') = true := all_oneCell_toArray (one_ndA x.val)
theorem one_ndZ : ∀ v ∈ ndZ.toList, v.oneCell' = true := by
  intro v hv; simp [ndZ] at hv; rcases hv with rfl | rfl <;> rfl
theorem Yba.zero32 : ∀ w, (zeroValue 32).run Yba.prog w = .ok (.agg ndZ) w := fun w => by kernel_rfl

set_option maxHeartbeats 4000000 in
set_option maxRecDepth 100000 in
theorem compact_any (w : World) (g cap : Nat) (L : List B) (hg : g < w.heap.size) (hR : RowL w g L) (ht : w.there g 0 (L.length * 21)) (hl : L.length ≤ 8192) (hcap : L.length ≤ cap) :
    Calls Yba.prog 11 #[.slice (some ⟨g, 0, none⟩) L.length cap, .func (.func 12) #[] #[]] w fun e w' => e = .returned (.slice (some ⟨g, 0, none⟩) (comp L).length cap) ∧ RowL w' g (comp L) ∧ w.grownBy w' (some g) := by
  have HR := hide hR; have HT := hide ht
  clear hR ht
  by_cases h2 : L.length < 2
  · have hc : comp L = L := by
      match L, h2 with
      | [], _ => rfl
      | [x], _ => rfl
    have HC := hide hc
    clear hc
    go_enter Yba.func11, Yba.ntmps11
    go_wp2
    go_ret
    rw [HC.out]
    exact ⟨rfl, HR.out, ⟨rfl, rfl, rfl, Nat.le_refl _, fun _ _ _ => rfl⟩⟩
  go_enter Yba.func11, Yba.ntmps11
  go_wp2
  go_loopw [5] (fun kv wx => ∃ k : Nat, 1 ≤ k ∧ k ≤ L.length ∧ kv = .int .i64 k ∧ comp (L.take k) = L.take k ∧ Below w.heap.size w wx) (fun kv _ => L.length - (intOf kv).toNat)
  case atStart =>
    refine ⟨1, by omega, by omega, rfl, ?_, Below.refl _ _⟩
    match L, h2 with
    | x :: r, _ => rfl
    | [], h => simp at h
  case round =>
    obtain ⟨k, hk1, hkl, rfl, hcp, hb⟩ := hrel
    obtain ⟨m, rfl⟩ : ∃ m, k = m + 1 := ⟨k - 1, by omega⟩
    by_cases hlt : m + 1 < L.length
    · have HCP := hide hcp; have HB := hide hb
      have r1 : wr.rangeAt g ((m + 1) * 21) (encB L[m + 1]) := fun j v hv => (hb.cell (p := ⟨g, (m + 1) * 21 + j, none⟩) hg).trans (HR.out (m + 1) hlt j v hv)
      have r2 : wr.rangeAt g (m * 21) (encB L[m]) := fun j v hv => (hb.cell (p := ⟨g, m * 21 + j, none⟩) hg).trans (HR.out m (by omega) j v hv)
      clear hcp hb
      have HS : Hid (comp (L.take (m + 2)) = if L[m] = L[m + 1] then L.take (m + 1) else L.take (m + 2)) := comp_step L m hlt HCP.out
      generalize L[m + 1] = y1 at r1 HS
      generalize L[m] = y0 at r2 HS
      have hgr : g < wr.heap.size := Nat.lt_of_lt_of_le hg HB.out.size
      have R1 : Hid (∀ w', (∃ p : GrownBy, w' = grow (wr.drewN p.n) p.os) → ∀ j v, (encB y1)[j]? = some v → w'.cell? ⟨g, (m + 1) * 21 + j, none⟩ = some v) := fun w' hp j v hv => by
        obtain ⟨p, rfl⟩ := hp
        exact cell_grown hgr (r1 j v hv) _ _
      have R0 : Hid (∀ w', (∃ p : GrownBy, w' = grow (wr.drewN p.n) p.os) → ∀ j v, (encB y0)[j]? = some v → w'.cell? ⟨g, m * 21 + j, none⟩ = some v) := fun w' hp j v hv => by
        obtain ⟨p, rfl⟩ := hp
        exact cell_grown hgr (r2 j v hv) _ _
      clear r1 r2
      have b1 : ((m : Int) + 1) < (L.length : Int) := by omega
      have b0 : (0 : Int) ≤ (m : Int) + 1 := by omega
      have b2 : (m : Int) < (L.length : Int) := by omega
      go_upto_region 6 with fail
      refine wp_region_quiet_grown (by kernel_rfl) (by kernel_rfl) ?_
      repeat (first
        | go_big_quiet_skip
        | (go_big_quiet_want
           first
           | (refine quiet_load_cells 32 _ rfl g ((m + 1) * 21) rfl (encB y1) _ R1.out Yba.underlying32 rfl Yba.size32 ?_; simp only [Act.put, List.setIfInBounds_toArray, List.set_cons_zero, List.set_cons_succ]; go_big_quiet_on)
           | (refine quiet_load_cells 32 _ rfl g (m * 21) rfl (encB y0) _ R0.out Yba.underlying32 rfl Yba.size32 ?_; simp only [Act.put, List.setIfInBounds_toArray, List.set_cons_zero, List.set_cons_succ]; go_big_quiet_on)
           | (go_big_quiet_op; first | go_big_quiet_on | go_big_quiet_call (first | (go_at_call 12; exact Calls.grown_of (eq12 _ y1 y0))))))
      refine wpQuiet_nil ?_
      intro _ hw'
      obtain ⟨⟨nq, osq⟩, hw''⟩ := hw'
      subst hw''
      by_cases hey : y1.val = y0.val
      · have hd : decide (y1.val = y0.val) = true := decide_eq_true hey
        rw [hd]
        have HQ : Hid (comp (L.take (m + 1 + 1)) = L.take (m + 1)) := HS.out.trans (if_pos (Fin.ext hey.symm))
        have HG1 : Hid (w.grownBy (grow (wr.drewN nq) osq) (some g)) := by
          have := HB.out.trans (below_grown wr nq osq HB.out.size)
          exact ⟨this.os, this.tape, this.output, this.size, fun k hk _ => this.block k hk⟩
        have HM1 : Hid (Mid (grow (wr.drewN nq) osq) g L (L.take (m + 1))) := by
          have hbb := HB.out.trans (below_grown wr nq osq HB.out.size)
          have hcell : ∀ o, (grow (wr.drewN nq) osq).cell? ⟨g, o, none⟩ = w.cell? ⟨g, o, none⟩ := fun o => hbb.cell hg
          have hfro : ∀ o, (grow (wr.drewN nq) osq).frozen? ⟨g, o, none⟩ = w.frozen? ⟨g, o, none⟩ := fun o => hbb.frozen hg
          refine ⟨fun j h i v hv => ?_, fun j h _ i v hv => ?_, fun j hj => ?_⟩
          · rw [hcell]
            have hj : j < L.length := by simp at h; omega
            rw [List.getElem_take] at hv
            exact HR.out j hj i v hv
          · rw [hcell]; exact HR.out j h i v hv
          · rw [hcell, hfro]; exact HT.out j hj
        generalize grow (wr.drewN nq) osq = W1 at HG1 HM1 ⊢
        go_wp2
        go_loopw [5, 7] (fun kv qv wx => ∃ q : Nat, 1 ≤ q ∧ q ≤ L.length - (m + 1) ∧ qv = .int .i64 q ∧ kv = .int .i64 (comp (L.take (m + 1 + q))).length ∧ (comp (L.take (m + 1 + q))).length ≤ m + q ∧ Mid wx g L (comp (L.take (m + 1 + q))) ∧ w.grownBy wx (some g)) (fun _ qv _ => L.length - (intOf qv).toNat)
        case atStart => exact ⟨1, by omega, by omega, rfl, by rw [HQ.out, List.length_take, Nat.min_eq_left (by omega)], by rw [HQ.out, List.length_take]; omega, by rw [HQ.out]; exact HM1.out, HG1.out⟩
        case round =>
          obtain ⟨q, hq1, hql, rfl, rfl, hkq, hmid, hgw⟩ := hrel
          obtain ⟨p, rfl⟩ : ∃ p, q = p + 1 := ⟨q - 1, by omega⟩
          clear HB HG1 HM1 HQ R1 R0 HS HCP
          have HM := hide hmid; have HG := hide hgw
          have hgr2 : g < wr.heap.size := Nat.lt_of_lt_of_le hg hgw.size
          by_cases hlt2 : p + 1 < L.length - (m + 1)
          · have hi1 : m + 1 + p + 1 < L.length := by omega
            have r1 : wr.rangeAt g ((m + 1) * 21 + (p + 1) * 21) (encB L[m + 1 + p + 1]) := by
              have := hmid.2.1 (m + 1 + p + 1) hi1 (by omega)
              rwa [show (m + 1 + p + 1) * 21 = (m + 1) * 21 + (p + 1) * 21 by omega] at this
            have r2 : wr.rangeAt g ((m + 1) * 21 + p * 21) (encB L[m + 1 + p]) := by
              have := hmid.2.1 (m + 1 + p) (by omega) (by omega)
              rwa [show (m + 1 + p) * 21 = (m + 1) * 21 + p * 21 by omega] at this
            have HS2 : Hid (comp (L.take (m + 1 + (p + 2))) = if L[m + 1 + p] = L[m + 1 + p + 1] then comp (L.take (m + 1 + (p + 1))) else comp (L.take (m + 1 + (p + 1))) ++ [L[m + 1 + p + 1]]) := comp_step2 L (m + 1 + p) hi1
            clear hmid hgw
            generalize L[m + 1 + p + 1] = z1 at r1 HS2
            generalize L[m + 1 + p] = z0 at r2 HS2
            generalize comp (L.take (m + 1 + (p + 1))) = C at HS2 HM hkq ⊢
            have R1 : Hid (∀ w', (∃ p : GrownBy, w' = grow (wr.drewN p.n) p.os) → ∀ j v, (encB z1)[j]? = some v → w'.cell? ⟨g, (m + 1) * 21 + (p + 1) * 21 + j, none⟩ = some v) := fun w' hp j v hv => by
              obtain ⟨p, rfl⟩ := hp
              exact cell_grown hgr2 (r1 j v hv) _ _
            have R0 : Hid (∀ w', (∃ p : GrownBy, w' = grow (wr.drewN p.n) p.os) → ∀ j v, (encB z0)[j]? = some v → w'.cell? ⟨g, (m + 1) * 21 + p * 21 + j, none⟩ = some v) := fun w' hp j v hv => by
              obtain ⟨p, rfl⟩ := hp
              exact cell_grown hgr2 (r2 j v hv) _ _
            clear r1 r2
            have b1 : ((p : Int) + 1) < ((L.length - (m + 1) : Nat) : Int) := by omega
            have b0 : (0 : Int) ≤ (p : Int) + 1 := by omega
            have b2 : (p : Int) < ((L.length - (m + 1) : Nat) : Int) := by omega
            go_upto_region 11 with fail
            refine wp_region_quiet_grown (by kernel_rfl) (by kernel_rfl) ?_
            repeat (first
              | go_big_quiet_skip
              | (go_big_quiet_want
                 first
                 | (refine quiet_load_cells 32 _ rfl g ((m + 1) * 21 + (p + 1) * 21) rfl (encB z1) _ R1.out Yba.underlying32 rfl Yba.size32 ?_; simp only [Act.put, List.setIfInBounds_toArray, List.set_cons_zero, List.set_cons_succ]; go_big_quiet_on)
                 | (refine quiet_load_cells 32 _ rfl g ((m + 1) * 21 + p * 21) rfl (encB z0) _ R0.out Yba.underlying32 rfl Yba.size32 ?_; simp only [Act.put, List.setIfInBounds_toArray, List.set_cons_zero, List.set_cons_succ]; go_big_quiet_on)
                 | (go_big_quiet_op; first | go_big_quiet_on | go_big_quiet_call (first | (go_at_call 12; exact Calls.grown_of (eq12 _ z1 z0))))))
            refine wpQuiet_nil ?_
            intro _ hw'
            obtain ⟨⟨nq, osq⟩, hw''⟩ := hw'
            subst hw''
            by_cases hez : z1.val = z0.val
            · have hd : decide (z1.val = z0.val) = true := decide_eq_true hez
              rw [hd]
              have HE : Hid (comp (L.take (m + 1 + (p + 2))) = C) := HS2.out.trans (if_pos (Fin.ext hez.symm))
              go_wp2
              go_roundw
              case rel => exact ⟨p + 2, by omega, by omega, by go_num, by rw [HE.out], by rw [HE.out]; omega, by rw [HE.out]; exact HM.out.grown hgr2 _ _, gb_trans HG.out (grownBy_grown _ _ _ _)⟩
              case measure => simp [intOf]; omega
            · have hd : decide (z1.val = z0.val) = false := decide_eq_false hez
              rw [hd]
              have HE : Hid (comp (L.take (m + 1 + (p + 2))) = C ++ [z1]) := HS2.out.trans (if_neg (fun e => hez (by rw [e])))
              have HM2 : Hid (Mid (grow (wr.drewN nq) osq) g L C) := HM.out.grown hgr2 _ _
              have HG2 : Hid (w.grownBy (grow (wr.drewN nq) osq) (some g)) := gb_trans HG.out (grownBy_grown _ _ _ _)
              have R1' : Hid (∀ j v, (encB z1)[j]? = some v → (grow (wr.drewN nq) osq).cell? ⟨g, (m + 1) * 21 + (p + 1) * 21 + j, none⟩ = some v) := R1.out _ ⟨⟨nq, osq⟩, rfl⟩
              have TH : Hid ((grow (wr.drewN nq) osq).there g (C.length * 21) 21) := fun i hi => by
                have := HM2.out.2.2 (C.length * 21 + i) (by omega)
                rwa [Nat.zero_add] at this
              clear R1 R0 HS2
              generalize grow (wr.drewN nq) osq = W2 at HM2 HG2 R1' TH ⊢
              have HP : Hid (Mid (W2.setCells g (C.length * 21) (encB z1).toArray.toList) g L (C ++ [z1])) := HM2.out.put (by omega) z1
              have HGP : Hid (w.grownBy (W2.setCells g (C.length * 21) (encB z1).toArray.toList) (some g)) := gb_trans HG2.out (grownBy_setCells _ _ _ _)
              have bC : ((C.length : Nat) : Int) < (L.length : Int) := by omega
              go_wp2_with (first
                | refine wpList_load_cells rfl 32 _ rfl g ((m + 1) * 21 + (p + 1) * 21) rfl (encB z1) _ R1'.out Yba.underlying32 rfl Yba.size32 ?_
                | (refine wpList_store_mid rfl 32 _ _ rfl g (C.length * 21) (encB z1).toArray rfl rfl TH.out Yba.size32 (one_encB z1) ?_; generalize W2.setCells g (C.length * 21) (encB z1).toArray.toList = W3 at HP HGP ⊢))
              go_roundw
              case rel => (repeat apply Exists.intro); refine ⟨?_, rfl⟩; exact ⟨p + 2, by omega, by omega, by go_num, by rw [HE.out, List.length_append]; go_num, by rw [HE.out, List.length_append]; simp; omega, by rw [HE.out]; exact HP.out, HGP.out⟩
              case measure => simp [intOf]; omega
          · have hq : m + 1 + (p + 1) = L.length := by omega
            have hL : L.take (m + 1 + (p + 1)) = L := List.take_of_length_le (by omega)
            rw [hL] at HM hkq ⊢
            clear hmid hgw
            have hkL : (comp L).length < L.length := by omega
            have TH : wr.there g ((comp L).length * 21) ((L.length - (comp L).length) * 21) := fun i hi => by
              have := HM.out.2.2 ((comp L).length * 21 + i) (by omega)
              rwa [Nat.zero_add] at this
            have hcl := fun ty => run_clear_rows (P := Yba.prog) wr 37 32 ty (.agg ndZ) Yba.underlying37 Yba.zero32 21 rfl (by omega) (by intro v hv; exact one_ndZ v hv) g ((comp L).length * 21) (L.length - (comp L).length) (cap - (comp L).length) (by omega) TH
            have HF : Hid (RowL (wr.setCells g ((comp L).length * 21) (Builtin.zeroCells (Value.agg ndZ).cells (L.length - (comp L).length)).toList) g (comp L)) := fun j hj => World.rangeAt_setCells_apart (HM.out.1 j hj) _ _ _ (Or.inr (Or.inl (by rw [len_encB]; omega)))
            have HG3 : Hid (w.grownBy (wr.setCells g ((comp L).length * 21) (Builtin.zeroCells (Value.agg ndZ).cells (L.length - (comp L).length)).toList) (some g)) := gb_trans HG.out (grownBy_setCells _ _ _ _)
            clear TH
            generalize wr.setCells g ((comp L).length * 21) (Builtin.zeroCells (Value.agg ndZ).cells (L.length - (comp L).length)).toList = W3 at hcl HF HG3
            have s1 : (((comp L).length : Nat) : Int) ≤ (L.length : Int) := by omega
            have s2 : (L.length : Int) ≤ (cap : Int) := by omega
            go_wp2
            go_ret
            exact ⟨rfl, HF.out, HG3.out⟩
      · have hd : decide (y1.val = y0.val) = false := decide_eq_false hey
        rw [hd]
        go_wp2
        go_roundw
        case rel => exact ⟨m + 2, by omega, by omega, by go_num, by rw [HS.out, if_neg (fun e => hey (by rw [e]))], HB.out.trans (below_grown _ _ _ HB.out.size)⟩
        case measure => simp [intOf]; omega
    · have HB := hide hb
      have hm : m + 1 = L.length := by omega
      have HC : Hid (comp L = L) := by
        have : L.take (m + 1) = L := List.take_of_length_le (by omega)
        rw [this] at hcp; exact hcp
      clear hcp hb
      go_wp2
      go_ret
      rw [HC.out]
      exact ⟨rfl, fun j h i v hv => (HB.out.cell (p := ⟨g, j * 21 + i, none⟩) hg).trans (HR.out j h i v hv), ⟨HB.out.os, HB.out.tape, HB.out.output, HB.out.size, fun k hk _ => HB.out.block k hk⟩⟩
set_option maxHeartbeats 1000000 in
theorem compact_nil (w : World) : Calls Yba.prog 11 #[.slice none 0 0, .func (.func 12) #[] #[]] w fun e w' => e = .returned (.slice none 0 0) ∧ w' = w := by
  go_enter Yba.func11, Yba.ntmps11
  go_wp2
  go_ret
  exact ⟨rfl, rfl⟩
end Go.Proofs.Ybulkbmko
