/-
  LawS3160BModel: (*Member).child.
-/
import Derived.Test.YbulkbmkoB2
namespace Go.Proofs.Ybulkbmko
open Go.RowKit Go.Lib Go.Sort
set_option linter.unusedVariables false
set_option linter.unusedSimpArgs false

theorem below_drewN' (B : Nat) (w : World) (n : Nat) : Below B w (w.drewN n) := ⟨rfl, rfl, rfl, Nat.le_refl _, fun _ _ => rfl⟩
theorem lt_of_cell {w : World} {a : Addr} {v : Value} (h : w.cell? a = some v) : a.block < w.heap.size := by
  unfold World.cell? at h
  cases hq : w.heap[a.block]? with
  | none => rw [hq] at h; simp at h
  | some o => exact (Array.getElem?_eq_some_iff.1 hq).1
/-- A link's 24 cells. -/
def lkA (b : Int) (told : Option Addr) : Array Value := ndA b ++ #[.int .i64 0, .pointer told, .int .i64 0]
theorem quiet_load_cells {P : Program} {C : World → Prop} {a : Act} {o : Oper} {K : Act → Prop} (ty : TypeId) (x : Operand) (ho : o.op = .load ty x) (b off : Nat) (hx : a.eval x = .pointer (some ⟨b, off, none⟩)) (cs : List Value) (d : TypeDesc)
    (hc : ∀ w, C w → ∀ j v, cs[j]? = some v → w.cell? ⟨b, off + j, none⟩ = some v)
    (hu : P.underlying ty = some d) (hd : (match d with | .struct _ | .array _ _ => true | _ => false) = true) (hi : (P.info? ty).map (·.size) = some cs.length) (hk : K (a.put o.dst (.agg cs.toArray))) : o.quiet P a C K :=
  ⟨_, fun w hw => by
    have : (execOp a.eval o).run P w = .ok (.value (.agg cs.toArray)) w := by
      unfold execOp
      simp only [ho, hx, Instr.loadAt, Instr.sureAddr, Sem.run_bind, Sem.run_pure, Result.andThen_ok, run_loadVar_cells w b off ty cs d (hc w hw) hu hd hi]
    unfold Oper.quietAt; rw [this]; exact ⟨rfl, rfl⟩, hk⟩
theorem Yba.size36 : (Yba.prog.info? 36).map (·.size) = some 24 := by kernel_rfl

set_option maxHeartbeats 1000000 in
set_option maxRecDepth 100000 in
theorem child_none (W : World) (mp : Value) (x : Int) : Calls Yba.prog 7 #[mp, .agg (lkA x none)] W fun e w' => e = .returned (.bool false) ∧ Below W.heap.size W w' := by
  go_enter Yba.func7, Yba.ntmps7
  go_upto_region 1 with fail
  obtain ⟨V, hV⟩ : ∃ V, V = W.alloc (.cells (lkA x none) 36) := ⟨_, rfl⟩
  have h1 : V.heap[W.heap.size]? = some (.cells (lkA x none) 36) := by rw [hV]; exact heap_alloc_new _ _
  have hb : Below W.heap.size W V := by rw [hV]; exact (Below.refl _ _).alloc (Nat.le_refl _) _
  have k1 : V.cell? ⟨W.heap.size, 22, none⟩ = some (.pointer none) := by rw [cell_of_row _ _ 22 _ _ (0, 0) h1]; rfl
  have HB := hide hb
  rw [← hV]
  clear hV h1 hb
  go_quiet (fail)
  go_wp2
  go_ret
  exact ⟨rfl, HB.out.trans (below_drewN' _ _ _)⟩

set_option maxHeartbeats 1000000 in
set_option maxRecDepth 100000 in
theorem child_no (W : World) (mp : Value) (x : Int) (tb : Nat) (ht : W.cell? ⟨tb, 20, none⟩ = some (.bool false)) : Calls Yba.prog 7 #[mp, .agg (lkA x (some ⟨tb, 0, none⟩))] W fun e w' => e = .returned (.bool false) ∧ Below W.heap.size W w' := by
  go_enter Yba.func7, Yba.ntmps7
  go_upto_region 1 with fail
  obtain ⟨V, hV⟩ : ∃ V, V = W.alloc (.cells (lkA x (some ⟨tb, 0, none⟩)) 36) := ⟨_, rfl⟩
  have h1 : V.heap[W.heap.size]? = some (.cells (lkA x (some ⟨tb, 0, none⟩)) 36) := by rw [hV]; exact heap_alloc_new _ _
  have hb : Below W.heap.size W V := by rw [hV]; exact (Below.refl _ _).alloc (Nat.le_refl _) _
  have k1 : V.cell? ⟨W.heap.size, 22, none⟩ = some (.pointer (some ⟨tb, 0, none⟩)) := by rw [cell_of_row _ _ 22 _ _ (0, 0) h1]; rfl
  have k2 : V.cell? ⟨tb, 20, none⟩ = some (.bool false) := (hb.cell (lt_of_cell ht)).trans ht
  have HB := hide hb
  rw [← hV]
  clear hV h1 hb ht
  go_quiet (fail)
  go_wp2
  go_ret
  exact ⟨rfl, HB.out.trans (below_drewN' _ _ _)⟩
set_option maxHeartbeats 1000000 in
set_option maxRecDepth 100000 in
theorem child_yes (W : World) (mb : Nat) (x : Int) (tb : Nat) (a b c : Int) (ha : 0 ≤ a ∧ a ≤ 255) (hb' : 0 ≤ b ∧ b ≤ 255) (hc : 0 ≤ c ∧ c ≤ 255) (ht : W.cell? ⟨tb, 20, none⟩ = some (.bool true))
    (hi : ∀ j v, (idA a b).toList[j]? = some v → W.cell? ⟨tb, j, none⟩ = some v) (hm : ∀ j v, (idA 0 c).toList[j]? = some v → W.cell? ⟨mb, 105 + j, none⟩ = some v) :
    Calls Yba.prog 7 #[.pointer (some ⟨mb, 0, none⟩), .agg (lkA x (some ⟨tb, 0, none⟩))] W fun e w' => e = .returned (.bool (decide (a = 0) && decide (b = c))) ∧ Below W.heap.size W w' := by
  have he := fun V => eqI a b 0 c V ha hb' (by omega) hc
  go_enter Yba.func7, Yba.ntmps7
  go_upto_region 1 with fail
  obtain ⟨V, hV⟩ : ∃ V, V = W.alloc (.cells (lkA x (some ⟨tb, 0, none⟩)) 36) := ⟨_, rfl⟩
  have h1 : V.heap[W.heap.size]? = some (.cells (lkA x (some ⟨tb, 0, none⟩)) 36) := by rw [hV]; exact heap_alloc_new _ _
  have hb : Below W.heap.size W V := by rw [hV]; exact (Below.refl _ _).alloc (Nat.le_refl _) _
  have k1 : V.cell? ⟨W.heap.size, 22, none⟩ = some (.pointer (some ⟨tb, 0, none⟩)) := by rw [cell_of_row _ _ 22 _ _ (0, 0) h1]; rfl
  have k2 : V.cell? ⟨tb, 20, none⟩ = some (.bool true) := (hb.cell (lt_of_cell ht)).trans ht
  have HI : Hid (∀ w, (∃ q, w = V.drewN q) → ∀ j v, (idA a b).toList[j]? = some v → w.cell? ⟨tb, 0 + j, none⟩ = some v) := fun w hq j v hv => by
    obtain ⟨q, rfl⟩ := hq
    have := hi j v hv
    rw [Nat.zero_add]
    exact (hb.cell (p := ⟨tb, j, none⟩) (lt_of_cell this)).trans this
  have HM : Hid (∀ w, (∃ q, w = V.drewN q) → ∀ j v, (idA 0 c).toList[j]? = some v → w.cell? ⟨mb, 105 + j, none⟩ = some v) := fun w hq j v hv => by
    obtain ⟨q, rfl⟩ := hq
    have := hm j v hv
    exact (hb.cell (p := ⟨mb, 105 + j, none⟩) (lt_of_cell this)).trans this
  have HB := hide hb
  rw [← hV]
  clear hV h1 hb ht hi hm
  refine wp_region_quiet_lit (by kernel_rfl) (by kernel_rfl) ?_
  repeat (first
    | go_big_quiet_skip
    | (go_big_quiet_want
       first
       | (refine quiet_load_cells 27 _ rfl tb 0 rfl (idA a b).toList _ HI.out Yba.underlying27 rfl Yba.size27 ?_; simp only [Act.put, List.setIfInBounds_toArray, List.set_cons_zero, List.set_cons_succ, Array.toArray_toList]; go_big_quiet_on)
       | (refine quiet_load_cells 27 _ rfl mb 105 rfl (idA 0 c).toList _ HM.out Yba.underlying27 rfl Yba.size27 ?_; simp only [Act.put, List.setIfInBounds_toArray, List.set_cons_zero, List.set_cons_succ, Array.toArray_toList]; go_big_quiet_on)
       | (go_big_quiet_op; go_big_quiet_on)))
  refine wpQuiet_nil ?_
  intro _ hw'
  obtain ⟨nq, hw''⟩ := hw'
  subst hw''
  go_wp2
  go_ret
  exact ⟨rfl, HB.out.trans (below_drewN' _ _ _)⟩
end Go.Proofs.Ybulkbmko
