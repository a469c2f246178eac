/-
  LawS3160BModel: the small callees.
-/
import Derived.Test.YbulkbmkoRows
import Derived.WalkKit
import Derived.WalkSpells
import Derived.Laws.StructEq
import Derived.Deep.QuietTactic
import Derived.BigQuiet
import Derived.Lib.BytesEntry
import Derived.Sort.Grow
import Derived.Deep.RegionWith
import Derived.Deep.DeepCutAuto
import Derived.Laws.IdiomCopy
import Derived.Laws.Rows
import Derived.Deep.WholeRow
import Derived.Laws.BytesString
namespace Go.Proofs.Ybulkbmko
open Go.RowKit Go.Lib
set_option linter.unusedVariables false
set_option linter.unusedSimpArgs false

theorem hide {p : Prop} (h : p) : Hid p := h

/-- The twenty bytes of an ID whose first byte is 'a' and whose last is 'b'. -/
def idA (a b : Int) : Array Value := #[.int .u8 a, .int .u8 0, .int .u8 0, .int .u8 0, .int .u8 0, .int .u8 0, .int .u8 0, .int .u8 0, .int .u8 0, .int .u8 0, .int .u8 0, .int .u8 0, .int .u8 0, .int .u8 0, .int .u8 0, .int .u8 0, .int .u8 0, .int .u8 0, .int .u8 0, .int .u8 b]
def idV (a b : Int) : Value := .agg (idA a b)
def idL (a b : Int) : List Int := [a, 0, 0, 0, 0, 0, 0, 0, 0, 0, 0, 0, 0, 0, 0, 0, 0, 0, 0, b]
/-- The address text of a node. -/
def adS (b : Int) : ByteArray := ⟨#[110, b.toNat.toUInt8]⟩
def ndV (b : Int) : Value := .agg #[.int .u8 0, .int .u8 0, .int .u8 0, .int .u8 0, .int .u8 0, .int .u8 0, .int .u8 0, .int .u8 0, .int .u8 0, .int .u8 0, .int .u8 0, .int .u8 0, .int .u8 0, .int .u8 0, .int .u8 0, .int .u8 0, .int .u8 0, .int .u8 0, .int .u8 0, .int .u8 b, .string (adS b)]

/-! ### Loads and stores of a run of cells, as arms of a walk -/
theorem run_loadVar_cells {P : Program} (w : World) (b off : Nat) (ty : TypeId) (cs : List Value) (d : TypeDesc) (hc : ∀ j v, cs[j]? = some v → w.cell? ⟨b, off + j, none⟩ = some v)
    (hu : P.underlying ty = some d) (hd : (match d with | .struct _ | .array _ _ => true | _ => false) = true) (hi : (P.info? ty).map (·.size) = some cs.length) :
    (loadVar ty ⟨b, off, none⟩).run P w = .ok (.agg cs.toArray) w := by
  have hl : (loadCells ⟨b, off, none⟩ cs.length).run P w = .ok cs.toArray w :=
    run_loadCells_list (P := P) w ⟨b, off, none⟩ cs (fun j v hv => by
      have hadd : (⟨b, off, none⟩ : Addr).add j = ⟨b, off + j, none⟩ := by unfold Addr.add; split <;> simp_all
      rw [hadd]; exact hc j v hv)
  cases hq : P.info? ty with
  | none => simp [hq] at hi
  | some i =>
    have hs : i.size = cs.length := by simpa [hq] using hi
    have hagg : (isAgg ty).run P w = .ok true w := by
      unfold isAgg
      rw [Sem.run_bind, run_underlying hu w]
      cases d <;> simp_all
    simp [loadVar, Sem.run_bind, hagg, sizeOf, typeInfo, hq, hs, hl]
theorem wpList_load_cells {P : Program} {ops : Array Oper} {rest : List Oper} {o : Oper} {a : Act} {w : World} {Q : Exit → Act → World → Prop} (hgd : o.guard = none) (ty : TypeId) (x : Operand) (ho : o.op = .load ty x)
    (b off : Nat) (hx : a.eval x = .pointer (some ⟨b, off, none⟩)) (cs : List Value) (d : TypeDesc) (hc : ∀ j v, cs[j]? = some v → w.cell? ⟨b, off + j, none⟩ = some v)
    (hu : P.underlying ty = some d) (hd : (match d with | .struct _ | .array _ _ => true | _ => false) = true) (hi : (P.info? ty).map (·.size) = some cs.length)
    (h : wpList P ops Q rest (a.put o.dst (.agg cs.toArray)) w) : wpList P ops Q (o :: rest) a w :=
  wpList_plain hgd fun _ hK => by
    unfold Oper.wp execOp
    simp only [ho, hx, Instr.loadAt, Instr.sureAddr, Sem.run_bind, Sem.run_pure, Result.andThen_ok, run_loadVar_cells w b off ty cs d hc hu hd hi]
    exact hK _ _ h
theorem run_storeVar_cells {P : Program} (w : World) (b off : Nat) (ty : TypeId) (cs : Array Value) (hc : ∀ j, j < cs.size → (w.cell? ⟨b, off + j, none⟩).isSome = true) (hf : ∀ j, j < cs.size → w.frozen? ⟨b, off + j, none⟩ = false)
    (h1 : ∀ v ∈ cs.toList, v.oneCell' = true) (hi : (P.info? ty).map (·.size) = some cs.size) :
    (storeVar ty ⟨b, off, none⟩ (.agg cs)).run P w = .ok () (w.setCells b off cs.toList) := by
  have hst := run_storeCells_cells (P := P) b off cs.toList 0 w (by simpa using hc) (by simpa using hf) h1
  cases hq : P.info? ty with
  | none => simp [hq] at hi
  | some i =>
    have hs : i.size = cs.size := by simpa [hq] using hi
    simpa [storeVar, sizeOf, typeInfo, hq, hs, Value.cells] using hst
theorem wpList_store_cells {P : Program} {ops : Array Oper} {rest : List Oper} {o : Oper} {a : Act} {w : World} {Q : Exit → Act → World → Prop} (hgd : o.guard = none) (ty : TypeId) (x y : Operand) (ho : o.op = .store ty x y)
    (b off : Nat) (hx : a.eval x = .pointer (some ⟨b, off, none⟩)) (cs : Array Value) (hy : a.eval y = .agg cs) (hc : ∀ j, j < cs.size → (w.cell? ⟨b, off + j, none⟩).isSome = true) (hf : ∀ j, j < cs.size → w.frozen? ⟨b, off + j, none⟩ = false)
    (h1 : ∀ v ∈ cs.toList, v.oneCell' = true) (hi : (P.info? ty).map (·.size) = some cs.size)
    (h : wpList P ops Q rest (a.put o.dst undef) (w.setCells b off cs.toList)) : wpList P ops Q (o :: rest) a w :=
  wpList_plain hgd fun _ hK => by
    unfold Oper.wp execOp
    simp only [ho, hx, hy, Instr.storeAt, Instr.sureAddr, Sem.run_bind, Sem.run_pure, Result.andThen_ok, run_storeVar_cells w b off ty cs hc hf h1 hi]
    exact hK _ _ h
/-- A store over the whole of a block. -/
theorem wp_store_row {P : Program} {o : Oper} {a : Act} {w : World} {K : Act → World → Prop} {Q : Exit → Act → World → Prop} (ty : TypeId) (x y : Operand) (ho : o.op = .store ty x y)
    (g : Nat) (hx : a.eval x = .pointer (some ⟨g, 0, none⟩)) (cs : Array Value) (hy : a.eval y = .agg cs) (old : Array Value) (t : TypeId) (hg : w.heap[g]? = some (.cells old t)) (hs : old.size = cs.size)
    (h1 : ∀ v ∈ cs.toList, v.oneCell' = true) (hi : (P.info? ty).map (·.size) = some cs.size) (h : K (a.put o.dst undef) (w.setRow g cs)) : o.wp P a w K Q := by
  have hst := run_storeCells_from (P := P) g t cs.toList 0 old w hg (by simpa using hs.symm) h1
  have hv : (storeVar ty ⟨g, 0, none⟩ (.agg cs)).run P w = .ok () (w.setRow g cs) := by
    cases hq : P.info? ty with
    | none => simp [hq] at hi
    | some i =>
      have hs : i.size = cs.size := by simpa [hq] using hi
      simpa [storeVar, sizeOf, typeInfo, hq, hs, Value.cells] using hst
  unfold Oper.wp execOp
  simp only [ho, hx, hy, Instr.storeAt, Instr.sureAddr, Sem.run_bind, Sem.run_pure, Result.andThen_ok, hv]
  exact h
theorem wpList_store_row {P : Program} {ops : Array Oper} {rest : List Oper} {o : Oper} {a : Act} {w : World} {Q : Exit → Act → World → Prop} (hgd : o.guard = none) (ty : TypeId) (x y : Operand) (ho : o.op = .store ty x y)
    (g : Nat) (hx : a.eval x = .pointer (some ⟨g, 0, none⟩)) (cs : Array Value) (hy : a.eval y = .agg cs) (old : Array Value) (t : TypeId) (hg : w.heap[g]? = some (.cells old t)) (hs : old.size = cs.size)
    (h1 : ∀ v ∈ cs.toList, v.oneCell' = true) (hi : (P.info? ty).map (·.size) = some cs.size)
    (h : wpList P ops Q rest (a.put o.dst undef) (w.setRow g cs)) : wpList P ops Q (o :: rest) a w :=
  wpList_plain hgd fun _ hK => wp_store_row ty x y ho g hx cs hy old t hg hs h1 hi (hK _ _ h)
theorem below_setRow {B : Nat} {a w : World} (h : Below B a w) {g : Nat} (hg : B ≤ g) (c : Array Value) : Below B a (w.setRow g c) :=
  ⟨h.os, h.tape, h.output, by simpa [World.setRow] using h.size, fun k hk => by rw [setRow_other w g k c (by omega)]; exact h.block k hk⟩
theorem one_idA (a b : Int) : ∀ v ∈ (idA a b).toList, v.oneCell' = true := by
  intro v hv; simp [idA] at hv; rcases hv with rfl | rfl | rfl <;> rfl
theorem Yba.size27 : (Yba.prog.info? 27).map (·.size) = some 20 := by kernel_rfl
theorem Yba.size32 : (Yba.prog.info? 32).map (·.size) = some 21 := by kernel_rfl

set_option maxHeartbeats 1000000 in
set_option maxRecDepth 100000 in
theorem id_any (b : Int) (w : World) : Calls Yba.prog 4 #[.int .u8 b] w fun e w' => e = .returned (idV 0 b) ∧ Below w.heap.size w w' := by
  go_enter Yba.func4, Yba.ntmps4
  go_upto_region 3 with fail
  obtain ⟨W, hW⟩ : ∃ W, W = (w.alloc (.cells (idA 0 0) 27)).alloc (.cells (idA 0 b) 27) := ⟨_, rfl⟩
  have hb1 : W.heap[w.heap.size]? = some (.cells (idA 0 0) 27) := by rw [hW]; exact heap_alloc2_old _ _ _
  have hb2 : W.heap[w.heap.size + 1]? = some (.cells (idA 0 b) 27) := by rw [hW]; exact heap_alloc2_new _ _ _
  have bel : Below w.heap.size w W := by rw [hW]; exact ((Below.refl _ _).alloc (Nat.le_refl _) _).alloc (by simp) _
  simp only [idA] at hW
  rw [← hW]
  clear hW
  have hb3 : (W.setRow w.heap.size (idA 0 b)).heap[w.heap.size]? = some (.cells (idA 0 b) 27) := setRow_heap W _ _ _ _ _ hb1
  have bel3 : Below w.heap.size w (W.setRow w.heap.size (idA 0 b)) := below_setRow bel (Nat.le_refl _) _
  have HB1 := hide hb1; have HB2 := hide hb2; have HB3 := hide hb3; have HBL := hide bel3
  clear hb1 hb2 hb3 bel bel3
  go_wp2_with (first
    | refine wpList_load_row rfl 27 _ rfl (w.heap.size + 1) rfl 27 (idA 0 b) (0, 0) _ HB2.out Yba.underlying27 rfl Yba.size27 ?_
    | refine wpList_store_row rfl 27 _ _ rfl w.heap.size rfl (idA 0 b) rfl (idA 0 0) 27 HB1.out rfl (one_idA 0 b) Yba.size27 ?_)
  refine bodyPost_ret (v := idV 0 b) ?_ rfl ⟨rfl, HBL.out⟩
  exact results_cell_row (P := Yba.prog) Yba.results4 _ _ w.heap.size 27 (idA 0 b) (0, 0) _ rfl HB3.out Yba.underlying27 rfl Yba.size27
def ndA (b : Int) : Array Value := #[.int .u8 0, .int .u8 0, .int .u8 0, .int .u8 0, .int .u8 0, .int .u8 0, .int .u8 0, .int .u8 0, .int .u8 0, .int .u8 0, .int .u8 0, .int .u8 0, .int .u8 0, .int .u8 0, .int .u8 0, .int .u8 0, .int .u8 0, .int .u8 0, .int .u8 0, .int .u8 b, .string (adS b)]
def ndZ : Array Value := #[.int .u8 0, .int .u8 0, .int .u8 0, .int .u8 0, .int .u8 0, .int .u8 0, .int .u8 0, .int .u8 0, .int .u8 0, .int .u8 0, .int .u8 0, .int .u8 0, .int .u8 0, .int .u8 0, .int .u8 0, .int .u8 0, .int .u8 0, .int .u8 0, .int .u8 0, .int .u8 0, .string ⟨#[]⟩]
theorem lt_of_heap {w : World} {g : Nat} {o : Obj} (h : w.heap[g]? = some o) : g < w.heap.size := (Array.getElem?_eq_some_iff.1 h).1
theorem one_ndA (b : Int) : ∀ v ∈ (ndA b).toList, v.oneCell' = true := by
  intro v hv; simp [ndA] at hv; rcases hv with rfl | rfl | rfl <;> rfl
theorem conv_node (b : Int) (W : World) (g : Nat) (h0 : W.cell? ⟨g, 0, none⟩ = some (.int .u8 110)) (h1 : W.cell? ⟨g, 1, none⟩ = some (.int .u8 b)) :
    (convert 23 9 (.slice (some ⟨g, 0, none⟩) 2 2)).run Yba.prog W = .ok (.string (adS b)) W := by
  rw [run_convert_bytes_string W 23 9 5 _ 2 2 Yba.underlying23 Yba.underlying5 Yba.underlying9]
  have hl := run_loadCells_list (P := Yba.prog) W ⟨g, 0, none⟩ [.int .u8 110, .int .u8 b] (fun j v hv => by
    match j, hv with
    | 0, hv => simp at hv; subst hv; simpa [Addr.add] using h0
    | 1, hv => simp at hv; subst hv; simpa [Addr.add] using h1)
  rw [run_bytesToString W ⟨g, 0, none⟩ 2 2 [110, b] hl]
  rfl
set_option maxHeartbeats 1000000 in
set_option maxRecDepth 100000 in
theorem node_any (b : Int) (w : World) : Calls Yba.prog 5 #[.int .u8 b] w fun e w' => e = .returned (.agg (ndA b)) ∧ Below w.heap.size w w' := by
  have hcv := conv_node b
  go_enter Yba.func5, Yba.ntmps5
  go_upto_region 1 with fail
  refine wp_region_any (by kernel_rfl) ?_
  try (change wpAny _ _ _ _ _ _ _ (World.drew _))
  refine wpAny_take (i := 0) (v := .int .u8 b) rfl (by kernel_rfl) (by kernel_rfl) (by kernel_rfl) (fun _ _ _ h => h) (Or.inl ⟨by rfl, fun w => rfl⟩) ?_
  refine wpAny_take (i := 2) (v := .int .u8 b) rfl (by kernel_rfl) (by kernel_rfl) (by kernel_rfl) (fun _ _ _ h => h) (Or.inl ⟨by rfl, fun w => rfl⟩) ?_
  simp only [Act.put, List.setIfInBounds_toArray, List.set_cons_zero, List.set_cons_succ]
  refine wpAny_ready (rs := [1, 3]) (by kernel_rfl) (by simp) ?_
  refine AllReady.cons rfl (fun K hK => ?_) ?_
  · go_simp
    refine (id_any _ _).mono ?_
    rintro e w' ⟨rfl, hbx⟩
    have hH : w'.heap[w.heap.size]? = some (.cells ndZ 32) := (hbx.block _ (by simp [World.drew])).trans (heap_alloc_new _ _)
    have hB : Below w.heap.size w w' := (((Below.refl _ _).alloc (Nat.le_refl _) _).drew).trans (hbx.mono (by simp [World.drew]))
    have hsz := lt_of_heap hH
    clear hbx
    refine hK _ _ ?_
    clear hK K
    refine wpAny_ready (rs := [3]) (by kernel_rfl) (by simp) ?_
    refine AllReady.cons rfl (fun K hK => ?_) AllReady.nil
    go_simp
    refine hK _ _ ?_
    clear hK K
    refine wpAny_ready (rs := [4]) (by kernel_rfl) (by simp) ?_
    refine AllReady.cons rfl (fun K hK => ?_) AllReady.nil
    go_simp
    refine hK _ _ ?_
    clear hK K
    have hH2 := (Below.heap_alloc w' (.cells #[.int .u8 110, .int .u8 b] 5) w.heap.size hsz).trans hH
    have hB2 := hB.alloc hB.size (.cells #[.int .u8 110, .int .u8 b] 5)
    generalize w'.alloc (.cells #[.int .u8 110, .int .u8 b] 5) = W at hH2 hB2 ⊢
    clear hH hB hsz
    refine wpAny_ready (rs := [5]) (by kernel_rfl) (by simp) ?_
    refine AllReady.cons rfl (fun K hK => ?_) AllReady.nil
    simp only [idV, idA]
    go_simp
    refine hK _ _ ?_
    clear hK K
    refine wpAny_ready (rs := [6]) (by kernel_rfl) (by simp) ?_
    refine AllReady.cons rfl (fun K hK => ?_) AllReady.nil
    refine wp_store_row 32 _ _ rfl w.heap.size rfl (ndA b) rfl ndZ 32 hH2 rfl (one_ndA b) Yba.size32 (hK _ _ ?_)
    clear hK K
    refine wpAny_done (by kernel_rfl) ?_ _
    have hH3 := setRow_heap W _ _ (ndA b) _ _ hH2
    have hB3 := below_setRow hB2 (Nat.le_refl _) (ndA b)
    clear hH2 hB2
    have HH3 := hide hH3; have HB3 := hide hB3
    clear hH3 hB3
    go_wp2
    refine bodyPost_ret (v := .agg (ndA b)) ?_ rfl ⟨rfl, HB3.out⟩
    exact results_cell_row (P := Yba.prog) Yba.results5 _ _ w.heap.size 32 (ndA b) (0, 0) _ rfl HH3.out Yba.underlying32 rfl Yba.size32
  · refine AllReady.cons rfl (fun K hK => ?_) AllReady.nil
    go_simp
    refine hK _ _ ?_
    clear hK K
    refine wpAny_ready (rs := [1, 4]) (by kernel_rfl) (by simp) ?_
    refine AllReady.cons rfl (fun K hK => ?_) ?_
    · go_simp
      refine (id_any _ _).mono ?_
      rintro e W ⟨rfl, hbx⟩
      have hH2 : W.heap[w.heap.size]? = some (.cells ndZ 32) := (hbx.block _ (by simp [World.drew] <;> omega)).trans ((Below.heap_alloc _ _ _ (by simp [World.drew])).trans (heap_alloc_new _ _))
      have hB2 : Below w.heap.size w W := ((((Below.refl _ _).alloc (Nat.le_refl _) _).drew).alloc (by simp [World.drew]) _).trans (hbx.mono (by simp [World.drew] <;> omega))
      have q1 : W.cell? ⟨w.heap.size + 1, 0, none⟩ = some (.int .u8 110) := (hbx.cell (by simp [World.drew])).trans (by simp [go_sem])
      have q2 : W.cell? ⟨w.heap.size + 1, 1, none⟩ = some (.int .u8 b) := (hbx.cell (by simp [World.drew])).trans (by simp [go_sem])
      clear hbx
      refine hK _ _ ?_
      clear hK K
      refine wpAny_ready (rs := [4]) (by kernel_rfl) (by simp) ?_
      refine AllReady.cons rfl (fun K hK => ?_) AllReady.nil
      go_simp
      refine hK _ _ ?_
      clear hK K
      refine wpAny_ready (rs := [5]) (by kernel_rfl) (by simp) ?_
      refine AllReady.cons rfl (fun K hK => ?_) AllReady.nil
      simp only [idV, idA]
      go_simp
      refine hK _ _ ?_
      clear hK K
      refine wpAny_ready (rs := [6]) (by kernel_rfl) (by simp) ?_
      refine AllReady.cons rfl (fun K hK => ?_) AllReady.nil
      refine wp_store_row 32 _ _ rfl w.heap.size rfl (ndA b) rfl ndZ 32 hH2 rfl (one_ndA b) Yba.size32 (hK _ _ ?_)
      clear hK K
      refine wpAny_done (by kernel_rfl) ?_ _
      have hH3 := setRow_heap W _ _ (ndA b) _ _ hH2
      have hB3 := below_setRow hB2 (Nat.le_refl _) (ndA b)
      clear hH2 hB2
      have HH3 := hide hH3; have HB3 := hide hB3
      clear hH3 hB3
      go_wp2
      refine bodyPost_ret (v := .agg (ndA b)) ?_ rfl ⟨rfl, HB3.out⟩
      exact results_cell_row (P := Yba.prog) Yba.results5 _ _ w.heap.size 32 (ndA b) (0, 0) _ rfl HH3.out Yba.underlying32 rfl Yba.size32
    · refine AllReady.cons rfl (fun K hK => ?_) AllReady.nil
      go_simp
      refine hK _ _ ?_
      clear hK K
      refine wpAny_ready (rs := [1]) (by kernel_rfl) (by simp) ?_
      refine AllReady.cons rfl (fun K hK => ?_) AllReady.nil
      go_simp
      refine (id_any _ _).mono ?_
      rintro e W ⟨rfl, hbx⟩
      have hH2 : W.heap[w.heap.size]? = some (.cells ndZ 32) := (hbx.block _ (by simp [World.drew] <;> omega)).trans ((Below.heap_alloc _ _ _ (by simp [World.drew])).trans (heap_alloc_new _ _))
      have hB2 : Below w.heap.size w W := ((((Below.refl _ _).alloc (Nat.le_refl _) _).drew).alloc (by simp [World.drew]) _).trans (hbx.mono (by simp [World.drew] <;> omega))
      have q1 : W.cell? ⟨w.heap.size + 1, 0, none⟩ = some (.int .u8 110) := (hbx.cell (by simp [World.drew])).trans (by simp [go_sem])
      have q2 : W.cell? ⟨w.heap.size + 1, 1, none⟩ = some (.int .u8 b) := (hbx.cell (by simp [World.drew])).trans (by simp [go_sem])
      clear hbx
      refine hK _ _ ?_
      clear hK K
      refine wpAny_ready (rs := [5]) (by kernel_rfl) (by simp) ?_
      refine AllReady.cons rfl (fun K hK => ?_) AllReady.nil
      simp only [idV, idA]
      go_simp
      refine hK _ _ ?_
      clear hK K
      refine wpAny_ready (rs := [6]) (by kernel_rfl) (by simp) ?_
      refine AllReady.cons rfl (fun K hK => ?_) AllReady.nil
      refine wp_store_row 32 _ _ rfl w.heap.size rfl (ndA b) rfl ndZ 32 hH2 rfl (one_ndA b) Yba.size32 (hK _ _ ?_)
      clear hK K
      refine wpAny_done (by kernel_rfl) ?_ _
      have hH3 := setRow_heap W _ _ (ndA b) _ _ hH2
      have hB3 := below_setRow hB2 (Nat.le_refl _) (ndA b)
      clear hH2 hB2
      have HH3 := hide hH3; have HB3 := hide hB3
      clear hH3 hB3
      go_wp2
      refine bodyPost_ret (v := .agg (ndA b)) ?_ rfl ⟨rfl, HB3.out⟩
      exact results_cell_row (P := Yba.prog) Yba.results5 _ _ w.heap.size 32 (ndA b) (0, 0) _ rfl HH3.out Yba.underlying32 rfl Yba.size32
end Go.Proofs.Ybulkbmko
