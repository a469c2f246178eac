/-
  LawS3160BModel: the closures of the sort and of the compaction.
-/
import Derived.Test.YbulkbmkoB1
import Derived.Test.YbulkbmkoSort
import Derived.DeepKeys
namespace Go.Proofs.Ybulkbmko
open Go.RowKit Go.Lib Go.Sort
set_option linter.unusedVariables false
set_option linter.unusedSimpArgs false

abbrev B := Fin 256
def cfB (x y : B) : Int := if x.val < y.val then -1 else if y.val < x.val then 1 else 0
theorem cmp_id (x y : B) : compareBytes (bytesOf (idL 0 x.val)) (bytesOf (idL 0 y.val)) = cfB x y := by
  have e : ∀ z : B, ((z.val : Int).toNat.toUInt8).toNat = z.val := by
    intro z
    have := z.isLt
    simp [Nat.toUInt8] <;> omega
  have lt : ∀ a b : B, ((a.val : Int).toNat.toUInt8 < (b.val : Int).toNat.toUInt8) ↔ a.val < b.val := by
    intro a b
    rw [UInt8.lt_iff_toNat_lt, e, e]
  unfold cfB
  simp only [compareBytes, bytesOf, idL, List.map, Int.toNat_zero]
  simp only [lt]
  simp
theorem run_compare_slices (W : World) (g h : Nat) (xs ys : List Int) (hx : ∀ j x, xs[j]? = some x → W.cell? ⟨g, j, none⟩ = some (.int .u8 x)) (hy : ∀ j x, ys[j]? = some x → W.cell? ⟨h, j, none⟩ = some (.int .u8 x)) (n m : Nat) (hn : xs.length = n) (hm : ys.length = m) :
    (Extern.BytealgCompare.compare #[.slice (some ⟨g, 0, none⟩) n n, .slice (some ⟨h, 0, none⟩) m m]).run Yba.prog W = .ok (.int .i64 (compareBytes (bytesOf xs) (bytesOf ys))) W := by
  have ad : ∀ b k, (Addr.add ⟨b, 0, none⟩ k : Addr) = ⟨b, k, none⟩ := by intro b k; unfold Addr.add; split <;> simp_all
  have h1 := run_loadBytesX (P := Yba.prog) W xs ⟨g, 0, none⟩ .empty (fun j x hj => by rw [ad]; exact hx j x hj)
  have h2 := run_loadBytesX (P := Yba.prog) W ys ⟨h, 0, none⟩ .empty (fun j x hj => by rw [ad]; exact hy j x hj)
  rw [hn] at h1; rw [hm] at h2
  change Sem.run Yba.prog (do pure (goInt (Extern.BytealgCompare.cmp (← Extern.Bytes.bytesOf (.slice (some ⟨g, 0, none⟩) n n)) (← Extern.Bytes.bytesOf (.slice (some ⟨h, 0, none⟩) m m))))) W = _
  simp only [Extern.Bytes.bytesOf, Sem.run_bind, Sem.run_pure, Result.andThen, h1, h2]
  rw [cmp_eq]
  simp [goInt]
theorem idL_cells {W : World} {g : Nat} {a b : Int} (h : ∀ j v, (idA a b).toList[j]? = some v → W.cell? ⟨g, j, none⟩ = some v) : ∀ j x, (idL a b)[j]? = some x → W.cell? ⟨g, j, none⟩ = some (.int .u8 x) := by
  intro j x hj
  have e : (idA a b).toList = (idL a b).map (Value.int .u8) := rfl
  exact h j _ (by rw [e, List.getElem?_map, hj]; rfl)
theorem row_cells {W : World} {g : Nat} {c : Array Value} {t : TypeId} {n : Nat} (h : W.heap[g]? = some (.cells c t)) : ∀ j v, (c.toList.take n)[j]? = some v → W.cell? ⟨g, 0 + j, none⟩ = some v := by
  intro j v hv
  rw [Nat.zero_add, cell_of_row _ _ j c t (0, 0) h]
  rw [List.getElem?_take] at hv
  split at hv
  · simpa using hv
  · cases hv
theorem row_cells' {W : World} {g : Nat} {c : Array Value} {t : TypeId} (h : W.heap[g]? = some (.cells c t)) : ∀ j v, c.toList[j]? = some v → W.cell? ⟨g, j, none⟩ = some v := by
  intro j v hv
  rw [cell_of_row _ _ j c t (0, 0) h]
  simpa using hv
set_option maxHeartbeats 1000000 in
theorem cmp15 (W : World) (g h : Nat) (x y : B) (hx : W.heap[g]? = some (.cells (idA 0 x.val) 27)) (hy : W.heap[h]? = some (.cells (idA 0 y.val) 27)) :
    Calls Yba.prog 15 #[.slice (some ⟨g, 0, none⟩) 20 20, .slice (some ⟨h, 0, none⟩) 20 20] W fun e w' => e = .returned (.int .i64 (cfB x y)) ∧ w' = W := by
  have hc := run_compare_slices W g h _ _ (idL_cells (row_cells' hx)) (idL_cells (row_cells' hy)) 20 20 rfl rfl
  rw [cmp_id] at hc
  clear hx hy
  have HC := hide hc
  clear hc
  go_enter Yba.func15, Yba.ntmps15
  go_wp2
  rw [run_callFunc_extern Yba.func26 (by kernel_rfl) (by kernel_rfl) (by kernel_rfl) (e := Extern.BytealgCompare.compare) (by kernel_rfl), HC.out]
  simp only [Result.andThen]
  rw [Oper.upon_value]
  go_wp2
  go_ret
  exact ⟨rfl, rfl⟩
set_option maxHeartbeats 1000000 in
set_option maxRecDepth 100000 in
theorem cmp10 (W : World) (x y : B) : Calls Yba.prog 10 #[idV 0 x.val, idV 0 y.val] W fun e w' => e = .returned (.int .i64 (cfB x y)) ∧ ∃ q os', w' = grow (W.drewN q) os' := by
  go_enter Yba.func10, Yba.ntmps10
  go_upto_region 1 with fail
  change Code.wp _ _ _ _ ((W.alloc (.cells (idA 0 x.val) 27)).alloc (.cells (idA 0 y.val) 27))
  obtain ⟨V, hV⟩ : ∃ V, V = (W.alloc (.cells (idA 0 x.val) 27)).alloc (.cells (idA 0 y.val) 27) := ⟨_, rfl⟩
  have h1 : V.heap[W.heap.size]? = some (.cells (idA 0 x.val) 27) := by rw [hV]; exact heap_alloc2_old _ _ _
  have h2 : V.heap[W.heap.size + 1]? = some (.cells (idA 0 y.val) 27) := by rw [hV]; exact heap_alloc2_new _ _ _
  have hg : ∀ q, V.drewN q = grow (W.drewN q) #[.cells (idA 0 x.val) 27, .cells (idA 0 y.val) 27] := fun q => by rw [hV, alloc_eq_grow, alloc_eq_grow, grow_grow]; rfl
  rw [← hV]
  clear hV
  have H1 := hide h1; have H2 := hide h2; have HG := hide hg
  clear h1 h2 hg
  go_quiet (first | (go_at_call 15; exact Calls.quiet_of_same (cmp15 _ _ _ x y H1.out H2.out)))
  go_wp2
  go_ret
  exact ⟨rfl, _, _, HG.out _⟩
set_option maxHeartbeats 1000000 in
set_option maxRecDepth 100000 in
theorem cmp9 (W : World) (x y : B) : Calls Yba.prog 9 #[.agg (ndA x.val), .agg (ndA y.val)] W fun e w' => e = .returned (.int .i64 (cfB x y)) ∧ ∃ q os', w' = grow (W.drewN q) os' := by
  go_enter Yba.func9, Yba.ntmps9
  go_upto_region 1 with fail
  obtain ⟨V, hV⟩ : ∃ V, V = (W.alloc (.cells (ndA x.val) 32)).alloc (.cells (ndA y.val) 32) := ⟨_, rfl⟩
  have h1 : V.heap[W.heap.size]? = some (.cells (ndA x.val) 32) := by rw [hV]; exact heap_alloc2_old _ _ _
  have h2 : V.heap[W.heap.size + 1]? = some (.cells (ndA y.val) 32) := by rw [hV]; exact heap_alloc2_new _ _ _
  have hg : ∀ q os, grow (V.drewN q) os = grow (W.drewN q) (#[.cells (ndA x.val) 32, .cells (ndA y.val) 32] ++ os) := fun q os => by
    have : V.drewN q = grow (W.drewN q) #[.cells (ndA x.val) 32, .cells (ndA y.val) 32] := by rw [hV, alloc_eq_grow, alloc_eq_grow, grow_grow]; rfl
    rw [this, grow_grow]
  rw [← hV]
  clear hV
  have H1 := hide h1; have H2 := hide h2; have HG := hide hg
  clear h1 h2 hg
  go_wp2_with (first
    | refine wpList_load_cells rfl 27 _ rfl W.heap.size 0 rfl (idA 0 x.val).toList _ (row_cells (n := 20) H1.out) Yba.underlying27 rfl Yba.size27 ?_
    | refine wpList_load_cells rfl 27 _ rfl (W.heap.size + 1) 0 rfl (idA 0 y.val).toList _ (row_cells (n := 20) H2.out) Yba.underlying27 rfl Yba.size27 ?_
    | (go_at_call 10; refine (cmp10 _ x y).mono ?_; rintro e w' ⟨rfl, q, os, rfl⟩))
  go_ret
  exact ⟨rfl, _, _, HG.out _ _⟩
theorem ltB (x y : B) : ltOf cfB x y = decide (x.val < y.val) := by
  unfold ltOf cfB
  by_cases h1 : x.val < y.val
  · simp [h1]
  · by_cases h2 : y.val < x.val <;> simp [h1, h2]
theorem swoB : SWO (ltOf cfB) where
  irrefl x := by rw [ltB]; simp
  trans x y z h1 h2 := by rw [ltB] at *; simp at *; omega
  ntrans x y z h1 h2 := by rw [ltB] at *; simp at *; omega
def encB (x : B) : List Value := (ndA x.val).toList
theorem cmpLays9 (blk off size : Nat) (w : World) : CmpLays Yba.prog 9 #[] encB 21 cfB blk off size w :=
  fun _ _ _ _ x y => cmp9 _ x y
theorem sort_any (blk off cap : Nat) (d : Array B) (w : World) (hH : HoldsK encB 21 w blk off d) (hblk : blk < w.heap.size) (hsz : d.size < 4611686018427387904) :
    Calls Yba.prog 8 #[.slice (some ⟨blk, off, none⟩) d.size cap, .func (.func 9) #[] #[]] w fun e w' =>
      e = .returned (.tuple #[]) ∧ ∃ d' n os, PermIn 0 d.size d d' ∧ SortedIn (ltOf cfB) 0 d.size d' ∧ w' = sortWorldK encB 21 w blk off n d' os := by
  have eg : ∀ args w, (callFunc 9 args).run Yba.prog w = .ok (.enter 9 args) w := enters_of Yba.func9 (by kernel_rfl) rfl
  exact AnyQ.slices_SortFunc Yba.sortNd 21 Yba.isAgg32 Yba.sizeOf32 encB (fun _ => rfl) (fun x v hv => one_ndA _ v hv) cfB swoB 9 #[] blk off cap d w eg (cmpLays9 blk off d.size w) hH hblk hsz

/-! ### the compaction's closure -/
theorem lits5 (n : Int) (d : Nat) (h0 : 0 ≤ n) (h1 : n ≤ 255) : Yba.prog.keyLits (d + 1) 5 [.int .u8 n] = some [.int .u8 n] := by
  unfold Program.keyLits
  rw [Yba.underlying5]
  have : (Lit.int .u8 n).wf = true := by simp [Lit.wf, IntKind.min, IntKind.max, IntKind.signed, IntKind.bits]; omega
  simp [this]
theorem Yba.cells5 : Yba.prog.cellsOf 5 = 1 := by kernel_rfl
theorem Yba.cells27 : Yba.prog.cellsOf 27 = 20 := by kernel_rfl
theorem Yba.cells32 : Yba.prog.cellsOf 32 = 21 := by kernel_rfl
theorem Yba.cells9 : Yba.prog.cellsOf 9 = 1 := by kernel_rfl
theorem lits27 (a b : Int) (d : Nat) (a0 : 0 ≤ a) (a1 : a ≤ 255) (h0 : 0 ≤ b) (h1 : b ≤ 255) : Yba.prog.keyLits (d + 2) 27 (idA a b).toList = some ([Lit.int .u8 a] ++ List.replicate 18 (Lit.int .u8 0) ++ [Lit.int .u8 b]) := by
  unfold Program.keyLits
  rw [Yba.underlying27]
  have z := lits5 0 d (by omega) (by omega)
  have x := lits5 a d a0 a1
  have y := lits5 b d h0 h1
  simp [idA, Yba.cells27, Yba.cells5, List.range_succ, z, x, y]
theorem lits9 (b : Int) (d : Nat) : Yba.prog.keyLits (d + 1) 9 [.string (adS b)] = some [.string (adS b).data.toList] := by
  unfold Program.keyLits
  rw [Yba.underlying9]
  have : (adS b).size = 2 := rfl
  simp [this, maxLen]
theorem lits32 (b : Int) (d : Nat) (h0 : 0 ≤ b) (h1 : b ≤ 255) : Yba.prog.keyLits (d + 3) 32 (ndA b).toList = some ([Lit.int .u8 0] ++ List.replicate 18 (Lit.int .u8 0) ++ [Lit.int .u8 b] ++ [.string (adS b).data.toList]) := by
  unfold Program.keyLits
  rw [Yba.underlying32]
  have z := lits27 0 b d (by omega) (by omega) h0 h1
  have y := lits9 b (d + 1)
  have e : (List.take 20 (ndA b).toList) = (idA 0 b).toList := rfl
  have e2 : (List.take 1 (List.drop 20 (ndA b).toList)) = [.string (adS b)] := rfl
  have e3 : (ndA b).toList.length = 21 := rfl
  simp [Yba.cells27, Yba.cells32, Yba.cells9, e, e2, e3, z, y]
theorem eqI (a b x y : Int) (w : World) (ha : 0 ≤ a ∧ a ≤ 255) (hb : 0 ≤ b ∧ b ≤ 255) (hx : 0 ≤ x ∧ x ≤ 255) (hy : 0 ≤ y ∧ y ≤ 255) :
    (Op.equalIn 10000 27 (.agg (idA a b)) (.agg (idA x y))).run Yba.prog w = .ok (decide (a = x ∧ b = y)) w := by
  obtain ⟨r, h1, h2⟩ := run_equalIn_deep (P := Yba.prog) 9998 2 27 (by kernel_rfl) w 2 2 (.agg (idA a b)) (.agg (idA x y)) _ _ (by kernel_rfl) (by kernel_rfl) (lits27 a b 0 ha.1 ha.2 hb.1 hb.2) (lits27 x y 0 hx.1 hx.2 hy.1 hy.2)
  have h1' : (Op.equalIn 10000 27 (.agg (idA a b)) (.agg (idA x y))).run Yba.prog w = .ok r w := h1
  rw [h1']
  have : r = decide (a = x ∧ b = y) := by
    rw [Bool.eq_iff_iff, h2]
    simp
  rw [this]
theorem eqN (x y : B) (w : World) : (Op.equalIn 10000 32 (.agg (ndA x.val)) (.agg (ndA y.val))).run Yba.prog w = .ok (decide (x.val = y.val)) w := by
  have bx := x.isLt; have bY := y.isLt
  obtain ⟨r, h1, h2⟩ := run_equalIn_deep (P := Yba.prog) 9997 3 32 (by kernel_rfl) w 3 3 (.agg (ndA x.val)) (.agg (ndA y.val)) _ _ (by kernel_rfl) (by kernel_rfl) (lits32 x.val 0 (by omega) (by omega)) (lits32 y.val 0 (by omega) (by omega))
  have h1' : (Op.equalIn 10000 32 (.agg (ndA x.val)) (.agg (ndA y.val))).run Yba.prog w = .ok r w := h1
  rw [h1']
  have : r = decide (x.val = y.val) := by
    rw [Bool.eq_iff_iff, h2]
    constructor
    · intro h; simp at h; simp; omega
    · intro h; simp at h; rw [h]
  rw [this]
set_option maxHeartbeats 1000000 in
set_option maxRecDepth 100000 in
theorem eq12 (W : World) (x y : B) : Calls Yba.prog 12 #[.agg (ndA x.val), .agg (ndA y.val)] W fun e w' => e = .returned (.bool (decide (x.val = y.val))) ∧ ∃ q os', w' = grow (W.drewN q) os' := by
  go_enter Yba.func12, Yba.ntmps12
  go_upto_region 1 with fail
  obtain ⟨V, hV⟩ : ∃ V, V = (W.alloc (.cells (ndA x.val) 32)).alloc (.cells (ndA y.val) 32) := ⟨_, rfl⟩
  have h1 : V.heap[W.heap.size]? = some (.cells (ndA x.val) 32) := by rw [hV]; exact heap_alloc2_old _ _ _
  have h2 : V.heap[W.heap.size + 1]? = some (.cells (ndA y.val) 32) := by rw [hV]; exact heap_alloc2_new _ _ _
  have hg : V = grow (W.drewN 0) #[.cells (ndA x.val) 32, .cells (ndA y.val) 32] := by rw [hV, alloc_eq_grow, alloc_eq_grow, grow_grow]; rfl
  rw [← hV]
  clear hV
  have H1 := hide h1; have H2 := hide h2; have HG := hide hg
  clear h1 h2 hg
  have bx := x.isLt; have bY := y.isLt
  have he : (Op.equalIn 10000 27 (.agg (idA 0 x.val)) (.agg (idA 0 y.val))).run Yba.prog V = .ok (decide (x.val = y.val)) V := by
    rw [eqI 0 x.val 0 y.val V (by omega) (by omega) (by omega) (by omega)]
    congr 1
    rw [decide_eq_decide]; omega
  go_wp2_with (first
    | refine wpList_load_cells rfl 27 _ rfl W.heap.size 0 rfl (idA 0 x.val).toList _ (row_cells (n := 20) H1.out) Yba.underlying27 rfl Yba.size27 ?_
    | refine wpList_load_cells rfl 27 _ rfl (W.heap.size + 1) 0 rfl (idA 0 y.val).toList _ (row_cells (n := 20) H2.out) Yba.underlying27 rfl Yba.size27 ?_)
  go_ret
  exact ⟨rfl, _, _, HG.out⟩
end Go.Proofs.Ybulkbmko
