/-
  LawS3160BModel: the law's own walk.
-/
import Derived.Test.YbulkbmkoB6
namespace Go.Proofs.Ybulkbmko
open Go.RowKit Go.Lib Go.Sort
set_option linter.unusedVariables false
set_option linter.unusedSimpArgs false

/-- The bytes of a Members slice that came in. -/
def MB (w : World) (ad : Option Addr) (ms : List B) : Prop := ms = [] ∨ ∃ b off, ad = some ⟨b, off, none⟩ ∧ ∀ j (h : j < ms.length), w.cell? ⟨b, off + j, none⟩ = some (.int .u8 (ms[j].val : Int))
/-- The links that came in. -/
def LS (w : World) (ad : Option Addr) (len : Nat) (Z : List Zl) : Prop :=
  Z.length = len ∧ (∀ j (h : j < Z.length), Z[j].ms.length ≤ 140737488351232 ∧ MB w Z[j].ad Z[j].ms) ∧ (len = 0 ∨ ∃ b off, ad = some ⟨b, off, none⟩ ∧
    ∀ j (h : j < Z.length), w.cell? ⟨b, off + j * 5, none⟩ = some (.int .u8 (Z[j].id.val : Int)) ∧ w.cell? ⟨b, off + j * 5 + 1, none⟩ = some (.bool Z[j].told) ∧ w.cell? ⟨b, off + j * 5 + 2, none⟩ = some (.bool Z[j].parent) ∧
      w.cell? ⟨b, off + j * 5 + 3, none⟩ = some (.bool Z[j].same) ∧ w.cell? ⟨b, off + j * 5 + 4, none⟩ = some (.slice Z[j].ad Z[j].ms.length Z[j].cap))
theorem MB.below {w w' : World} {ad : Option Addr} {ms : List B} (h : MB w ad ms) (hb : RowKit.Below w.heap.size w w') : MB w' ad ms := by
  rcases h with h | ⟨b, off, e, h⟩
  · exact Or.inl h
  · exact Or.inr ⟨b, off, e, fun j hj => (hb.cell (lt_of_cell (h j hj))).trans (h j hj)⟩
def sumL (Z : List Zl) : Nat := (Z.map fun z => z.ms.length).sum
theorem sumL_take (Z : List Zl) (k : Nat) (h : k < Z.length) : sumL (Z.take (k + 1)) = sumL (Z.take k) + Z[k].ms.length := by
  unfold sumL; rw [List.take_succ_eq_append_getElem h, List.map_append, List.sum_append]; simp
theorem outL_le : ∀ Z : List Zl, (outL Z).length ≤ sumL Z + Z.length
  | [] => by simp [outL, sumL]
  | z :: Z => by
    have := outL_le Z
    have e : outL (z :: Z) = z.out ++ outL Z := by simp [outL]
    have e2 : sumL (z :: Z) = z.ms.length + sumL Z := by simp [sumL]
    rw [e, e2, List.length_append, List.length_cons]
    have : z.out.length ≤ z.ms.length + 1 := by unfold Zl.out; split <;> simp
    omega
theorem ms_le_sum : ∀ (Z : List Zl) (k : Nat) (h : k < Z.length), Z[k].ms.length ≤ sumL Z
  | z :: Z, 0, h => by simp [sumL]
  | z :: Z, k + 1, h => by
    have := ms_le_sum Z k (by simpa using h)
    have e2 : sumL (z :: Z) = z.ms.length + sumL Z := by simp [sumL]
    rw [e2]; simpa using by omega
/-- What a link has told, in blocks from n on. -/
def telp (n : Nat) (w : World) (least : B) (z : Zl) (t : Option Addr) : Prop :=
  (z.told = false ∧ t = none) ∨ (z.told = true ∧ ∃ tb mb c, n ≤ tb ∧ n ≤ mb ∧ t = some ⟨tb, 0, none⟩ ∧ (∀ j v, (idA (if z.same then 0 else 1) least.val).toList[j]? = some v → w.cell? ⟨tb, j, none⟩ = some v) ∧
    w.cell? ⟨tb, 20, none⟩ = some (.bool z.parent) ∧ w.cell? ⟨tb, 21, none⟩ = some (.slice (some ⟨mb, 0, none⟩) z.ms.length c) ∧ RowL w mb z.ms)
theorem telp.tel {n : Nat} {w : World} {least : B} {z : Zl} {t : Option Addr} (h : telp n w least z t) : tel w least z t := by
  rcases h with h | ⟨h, tb, mb, c, _, _, h1, h2, h3, h4, h5⟩
  · exact Or.inl h
  · exact Or.inr ⟨h, tb, mb, c, h1, h2, h3, h4, h5⟩
theorem telp.kept {n : Nat} {w w' : World} {least : B} {z : Zl} {t : Option Addr} (h : telp n w least z t) (hb : ∀ k, k < w.heap.size → n ≤ k → w'.heap[k]? = w.heap[k]?) : telp n w' least z t := by
  have ck : ∀ a v, n ≤ a.block → w.cell? a = some v → w'.cell? a = some v := fun a v hn hv => (World.cell?_of_block (hb a.block (lt_of_cell hv) hn)).trans hv
  rcases h with h | ⟨h, tb, mb, c, n1, n2, h1, h2, h3, h4, h5⟩
  · exact Or.inl h
  · exact Or.inr ⟨h, tb, mb, c, n1, n2, h1, fun j v hv => ck _ _ n1 (h2 j v hv), ck _ _ n1 h3, ck _ _ n1 h4, fun j hj i v hv => ck _ _ n2 (h5 j hj i v hv)⟩
theorem telp.mono {n m : Nat} {w : World} {least : B} {z : Zl} {t : Option Addr} (h : telp n w least z t) (hm : m ≤ n) : telp m w least z t := by
  rcases h with h | ⟨h, tb, mb, c, n1, n2, h'⟩
  · exact Or.inl h
  · exact Or.inr ⟨h, tb, mb, c, Nat.le_trans hm n1, Nat.le_trans hm n2, h'⟩
/-- What holds at the head of the second loop. -/
structure Inv (w0 wr : World) (a len : Nat) (least : B) (Z : List Zl) (k : Nat) (T : Nat → Option Addr) : Prop where
  bel : RowKit.Below w0.heap.size w0 wr
  ge : w0.heap.size ≤ a
  sz : a + 4 ≤ wr.heap.size
  idL : wr.heap[a]? = some (.cells (idA 0 least.val) 27)
  idO : wr.heap[a + 1]? = some (.cells (idA 1 least.val) 27)
  want : wr.heap[a + 2]? = some (.cells (wantA (outL (Z.take k))) 29)
  row : ∃ cur, wr.heap[a + 3]? = some (.cells cur 36) ∧ cur.size = len * 24 ∧ ∀ j (h : j < Z.length), j < k → ∀ i v, (lkA Z[j].id.val (T j)).toList[i]? = some v → cur[j * 24 + i]? = some v
  tels : ∀ j (h : j < Z.length), j < k → telp (a + 4) wr least Z[j] (T j)

theorem Inv.next {w0 wr wc : World} {a len : Nat} {least : B} {Z : List Zl} {k : Nat} {T : Nat → Option Addr} (h : Inv w0 wr a len least Z k T) (hk : k < Z.length) (hl : Z.length = len) {t : Option Addr} (htel : telp wr.heap.size wc least Z[k] t)
    (hW : wc.heap[a + 2]? = some (.cells (wantA (outL (Z.take (k + 1)))) 29)) (hg : wr.grownBy wc (some (a + 2))) {cur : Array Value} (hcur : wr.heap[a + 3]? = some (.cells cur 36)) (hcs : cur.size = len * 24)
    (hrow : ∀ j (h : j < Z.length), j < k → ∀ i v, (lkA Z[j].id.val (T j)).toList[i]? = some v → cur[j * 24 + i]? = some v) (o : Obj) :
    Inv w0 ((wc.alloc o).setRow (a + 3) (cur.toList.take (k * 24) ++ (lkA Z[k].id.val t).toList ++ cur.toList.drop (k * 24 + 24)).toArray) a len least Z (k + 1) (fun j => if j = k then t else T j) := by
  have hsz := h.sz; have hge := h.ge; have hgs := hg.size
  have old : ∀ b, b < wr.heap.size → b ≠ a + 2 → b ≠ a + 3 → ∀ c, ((wc.alloc o).setRow (a + 3) c).heap[b]? = wr.heap[b]? := fun b hb h1 h2 c => by
    rw [setRow_other _ _ _ _ h2, Below.heap_alloc _ _ _ (by omega)]
    exact hg.block b hb (fun e => h1 (Option.some.inj e))
  have hll : (lkA Z[k].id.val t).toList.length = 24 := rfl
  have hc3 : (wc.alloc o).heap[a + 3]? = some (.cells cur 36) := (Below.heap_alloc _ _ _ (by omega)).trans ((hg.block _ (by omega) (fun e => by have := Option.some.inj e; omega)).trans hcur)
  refine ⟨?_, hge, ?_, ?_, ?_, ?_, ⟨_, setRow_heap _ _ _ _ _ _ hc3, ?_, ?_⟩, ?_⟩
  · exact below_setRow ((h.bel.grown hg h.bel.size (fun b hb => by cases hb; omega)).alloc (by have := h.bel.size; omega) _) (by omega) _
  · rw [setRow_size]; show _ ≤ (wc.heap.push o).size; simp; omega
  · rw [old a (by omega) (by omega) (by omega)]; exact h.idL
  · rw [old (a + 1) (by omega) (by omega) (by omega)]; exact h.idO
  · rw [setRow_other _ _ _ _ (by omega), Below.heap_alloc _ _ _ (by omega)]; exact hW
  · simp [hll, hcs]; omega
  · intro j hj hjk i v hv
    have hi : i < 24 := by
      have := (List.getElem?_eq_some_iff.1 hv).1
      have e : (lkA Z[j].id.val (if j = k then t else T j)).toList.length = 24 := rfl
      omega
    rw [List.getElem?_toArray]
    by_cases e : j = k
    · subst e
      rw [if_pos rfl] at hv
      rw [List.append_assoc, List.getElem?_append_right (by simp; omega), List.getElem?_append_left (by rw [hll]; simp; omega)]
      rw [show j * 24 + i - (cur.toList.take (j * 24)).length = i by simp; omega]
      exact hv
    · rw [if_neg e] at hv
      rw [List.append_assoc, List.getElem?_append_left (by simp; omega), List.getElem?_take_of_lt (by omega)]
      have := hrow j hj (by omega) i v hv
      simpa using this
  · intro j hj hjk
    by_cases e : j = k
    · subst e
      simp only [if_pos]
      refine (htel.mono (m := a + 4) (by omega)).kept (fun b hb hn => ?_)
      rw [setRow_other _ _ _ _ (by omega), Below.heap_alloc _ _ _ hb]
    · simp only [if_neg e]
      refine (h.tels j hj (by omega)).kept (fun b hb hn => old b hb (by omega) (by omega) _)
theorem rowL_snoc {w : World} {g : Nat} {C : List B} (h : RowL w g C) (y : B) (ht : w.there g (C.length * 21) 21) : RowL (w.setCells g (C.length * 21) (encB y)) g (C ++ [y]) := by
  intro j hj
  by_cases e : j < C.length
  · rw [List.getElem_append_left e]
    exact World.rangeAt_setCells_apart (h j e) _ _ _ (Or.inr (Or.inl (by rw [len_encB]; omega)))
  · have : j = C.length := by simp at hj; omega
    subst this
    rw [List.getElem_append_right (Nat.le_refl _)]
    simp only [Nat.sub_self, List.getElem_cons_zero]
    exact World.rangeAt_setCells_same _ _ _ _ (by rw [len_encB]; exact ht)
theorem RowL.grownK {w w' : World} {g : Nat} {C : List B} (h : RowL w g C) (hb : w'.heap[g]? = w.heap[g]?) : RowL w' g C := fun j hj i v hv => (World.cell?_of_block hb).trans (h j hj i v hv)
theorem there_kept {w w' : World} {g o n : Nat} (h : w.there g o n) (hb : w'.heap[g]? = w.heap[g]?) : w'.there g o n := fun j hj => ⟨by rw [World.cell?_of_block hb]; exact (h j hj).1, by rw [World.frozen?_of_block hb]; exact (h j hj).2⟩
theorem there_block {w : World} {g : Nat} {cur : Array Value} {t : TypeId} (h : w.heap[g]? = some (.cells cur t)) : w.there g 0 cur.size := fun j hj => ⟨by rw [Nat.zero_add, cell_of_row _ _ j cur t (0, 0) h, Array.getElem?_eq_getElem hj]; rfl, by simp [World.frozen?, h]⟩
theorem frozen_block {w : World} {g i : Nat} {cur : Array Value} {t : TypeId} (h : w.heap[g]? = some (.cells cur t)) : w.frozen? ⟨g, i, none⟩ = false := by simp [World.frozen?, h]
theorem wp_ne32 {w : World} {o : Oper} {a : Act} {K : Act → World → Prop} {Q : Exit → Act → World → Prop} (x y : Operand) (ho : o.op = .binOp .neq 32 x y 32) (X : B) (hx : a.eval x = .agg (ndA X.val)) (hy : a.eval y = .agg (ndA X.val))
    (h : K (a.put o.dst (.bool false)) w) : o.wp Yba.prog a w K Q := by
  have hg := run_eqGuard_agg (P := Yba.prog) (w := w) .neq 32 x y (ndA X.val) (ndA X.val) (by kernel_rfl)
  have hb : (binOp .neq 32 (.agg (ndA X.val)) (.agg (ndA X.val))).run Yba.prog w = .ok (.bool false) w := by
    rw [run_neq_struct, eqN]; simp [Result.andThen]
  unfold Oper.wp execOp
  simp only [ho, hx, hy, Sem.run_bind, Sem.run_pure, hg, hb, Result.andThen_ok]
  exact h
theorem asc_ge {C : List B} (hC : C.Pairwise (fun a b => a.val < b.val)) : ∀ i (h : i < C.length), i ≤ C[i].val
  | 0, h => Nat.zero_le _
  | i + 1, h => by
    have ih := asc_ge hC i (by omega)
    have := List.pairwise_iff_getElem.1 hC i (i + 1) (by omega) h (by omega)
    omega
theorem asc_len {C : List B} (hC : C.Pairwise (fun a b => a.val < b.val)) : C.length ≤ 256 := by
  rcases Nat.lt_or_ge 256 C.length with h | h
  · have := asc_ge hC 256 h
    have := C[256].isLt
    omega
  · exact h
theorem sorted_step {C : List B} (hC : C.Pairwise (fun a b => a.val < b.val)) {b kk : Nat} (h1 : ∀ i (h : i < C.length), kk ≤ i → b ≤ C[i].val) {x : B} (hx : x ∈ C) (hxb : x.val = b) : ∃ h : kk < C.length ∨ True, ∀ (_ : kk ≤ C.length), (∀ i (h : i < C.length), i < kk → C[i].val < b) → ∃ h : kk < C.length, C[kk] = x := by
  refine ⟨Or.inr trivial, fun hk h0 => ?_⟩
  obtain ⟨i, hi, e⟩ := List.mem_iff_getElem.1 hx
  have hki : kk ≤ i := by
    rcases Nat.lt_or_ge i kk with h | h
    · have := h0 i hi h; rw [e] at this; omega
    · exact h
  have hlt : kk < C.length := by omega
  refine ⟨hlt, ?_⟩
  rcases Nat.lt_or_ge kk i with h | h
  · have a1 := List.pairwise_iff_getElem.1 hC kk i hlt hi h
    have a2 := h1 kk hlt (Nat.le_refl _)
    rw [e] at a1; omega
  · have : kk = i := by omega
    subst this; exact e

set_option maxHeartbeats 8000000 in
set_option maxRecDepth 100000 in
theorem law_walk (least : B) (ad : Option Addr) (len cap : Nat) (Z : List Zl) (w : World) (hZ : LS w ad len Z) (hl : len ≤ 512) :
    Calls Yba.prog 3 #[.int .u8 (least.val : Int), .slice ad len cap] w fun e w' => e = .returned (.bool true) ∧ RowKit.Below w.heap.size w w' := by
  obtain ⟨i32, hi, hz0, hz1, hz2⟩ := info_parts Yba.info32
  obtain ⟨i36, gi, gz0, gz1, gz2⟩ := info_parts Yba.info36
  have HZ := hide hZ; clear hZ
  go_enter Yba.func3, Yba.ntmps3
  go_wp2
  go_loopw [5, 35] (fun t i wr => ∃ k : Nat, k ≤ len ∧ i = .int .i64 k ∧ t = .int .i64 (sumL (Z.take k) : Nat) ∧ sumL (Z.take k) ≤ 4096 ∧ RowKit.Below w.heap.size w wr) (fun _ i _ => len - (intOf i).toNat)
  case atStart => exact ⟨0, Nat.zero_le _, rfl, rfl, by simp [sumL], Below.refl _ _⟩
  case round =>
    obtain ⟨k, hk, rfl, rfl, hsum, hb⟩ := hrel
    by_cases hlt : k < len
    · obtain ⟨e1, e2, e3⟩ := HZ.out
      rcases e3 with e | ⟨b, off, rfl, hc⟩
      · omega
      have hkZ : k < Z.length := by omega
      obtain ⟨k0, k1, k2, k3, k4⟩ := hc k hkZ
      have hlm := (e2 k hkZ).1
      have HS : Hid (sumL (Z.take (k + 1)) = sumL (Z.take k) + Z[k].ms.length) := sumL_take Z k hkZ
      generalize Z[k] = z at k0 k1 k2 k3 k4 hlm HS
      generalize sumL (Z.take k) = s at hsum HS ⊢
      have hbw : b < w.heap.size := lt_of_cell k0
      have j0 := (hb.cell (p := ⟨b, off + k * 5, none⟩) hbw).trans k0
      have j1 := (hb.cell (p := ⟨b, off + k * 5 + 1, none⟩) hbw).trans k1
      have j2 := (hb.cell (p := ⟨b, off + k * 5 + 2, none⟩) hbw).trans k2
      have j3 := (hb.cell (p := ⟨b, off + k * 5 + 3, none⟩) hbw).trans k3
      have j4 := (hb.cell (p := ⟨b, off + k * 5 + 4, none⟩) hbw).trans k4
      have HB := hide hb
      clear hb k0 k1 k2 k3 k4 hc e2
      by_cases hbig : s + z.ms.length ≤ 4096
      · go_wp2
        go_roundw
        case rel => exact ⟨k + 1, by omega, by go_num, by rw [HS.out]; go_num, by rw [HS.out]; exact hbig, HB.out.alloc HB.out.size _⟩
        case measure => simp [intOf]; omega
      · go_wp2
        go_ret
        exact ⟨rfl, HB.out.alloc HB.out.size _⟩
    · have hkl : k = len := by omega
      have hZl : Z.length = len := HZ.out.1
      have hsZ : sumL Z ≤ 4096 := by rw [hkl, ← hZl, List.take_length] at hsum; exact hsum
      have HB := hide hb
      clear hb hsum
      have hbl := least.isLt
      go_upto_region 12 with (first
        | (go_at_call 4; refine (id_any _ _).mono ?_; rintro e w1 ⟨rfl, hb1⟩)
        | refine wpList_store_new rfl 27 _ _ rfl (idA 0 least.val) _ 27 rfl rfl rfl (one_idA _ _) Yba.size27 ?_)
      have hbA : RowKit.Below w.heap.size w (w1.alloc (.cells (idA 0 least.val) 27)) := (HB.out.trans (hb1.mono HB.out.size)).alloc (Nat.le_trans HB.out.size hb1.size) _
      have hga : w.heap.size ≤ w1.heap.size := Nat.le_trans HB.out.size hb1.size
      have HA : Hid ((w1.alloc (.cells (idA 0 least.val) 27)).heap[w1.heap.size]? = some (.cells (idA 0 least.val) 27)) := heap_alloc_new _ _
      have hsA : (w1.alloc (.cells (idA 0 least.val) 27)).heap.size = w1.heap.size + 1 := by simp
      have HBA := hide hbA
      clear hb1 hbA HB
      generalize w1.alloc (.cells (idA 0 least.val) 27) = A at HA hsA HBA ⊢
      generalize w1.heap.size = a at hga HA hsA ⊢
      have HSA := hide hsA
      clear hsA
      go_upto_region 13 with (first
        | refine wpList_load_row rfl 27 _ rfl a rfl 27 (idA 0 least.val) (0, 0) _ HA.out Yba.underlying27 rfl Yba.size27 ?_
        | refine wpList_store_new rfl 27 _ _ rfl (idA 0 least.val) _ 27 rfl rfl rfl (one_idA _ _) Yba.size27 ?_)
      have ko : (A.alloc (.cells (idA 0 least.val) 27)).cell? ⟨A.heap.size, 0, none⟩ = some (.int .u8 0) := by
        rw [cell_of_row _ _ 0 _ 27 (0, 0) (heap_alloc_new _ _)]; rfl
      go_upto_region 14 with fail
      change Code.wp _ _ _ _ (A.alloc (.cells (idA 1 least.val) 27))
      have HA1 : Hid ((A.alloc (.cells (idA 1 least.val) 27)).heap[a]? = some (.cells (idA 0 least.val) 27)) := (Below.heap_alloc _ _ _ (by have := HSA.out; omega)).trans HA.out
      have HO1 : Hid ((A.alloc (.cells (idA 1 least.val) 27)).heap[a + 1]? = some (.cells (idA 1 least.val) 27)) := by rw [← HSA.out]; exact heap_alloc_new _ _
      have HBA1 : Hid (RowKit.Below w.heap.size w (A.alloc (.cells (idA 1 least.val) 27))) := HBA.out.alloc HBA.out.size _
      have HS1 : Hid ((A.alloc (.cells (idA 1 least.val) 27)).heap.size = a + 2) := by have := HSA.out; show (A.heap.push _).size = _; simp; omega
      rw [HSA.out]
      clear ko HA HBA HSA
      generalize A.alloc (.cells (idA 1 least.val) 27) = A1 at HA1 HO1 HBA1 HS1 ⊢
      go_upto_region 15 with (refine wpList_alloc rfl 29 rfl (wantA []) (alloc29 _) ?_)
      have HA2 : Hid ((A1.alloc (.cells (wantA []) 29)).heap[a]? = some (.cells (idA 0 least.val) 27)) := (Below.heap_alloc _ _ _ (by have := HS1.out; omega)).trans HA1.out
      have HO2 : Hid ((A1.alloc (.cells (wantA []) 29)).heap[a + 1]? = some (.cells (idA 1 least.val) 27)) := (Below.heap_alloc _ _ _ (by have := HS1.out; omega)).trans HO1.out
      have HW2 : Hid ((A1.alloc (.cells (wantA []) 29)).heap[a + 2]? = some (.cells (wantA []) 29)) := by rw [← HS1.out]; exact heap_alloc_new _ _
      have HBA2 : Hid (RowKit.Below w.heap.size w (A1.alloc (.cells (wantA []) 29))) := HBA1.out.alloc HBA1.out.size _
      have HS2 : Hid ((A1.alloc (.cells (wantA []) 29)).heap.size = a + 3) := by have := HS1.out; show (A1.heap.push _).size = _; simp; omega
      rw [HS1.out]
      clear HA1 HO1 HBA1 HS1
      generalize A1.alloc (.cells (wantA []) 29) = A2 at HA2 HO2 HW2 HBA2 HS2 ⊢
      go_upto_region 16 with (refine wpList_make rfl 30 _ _ rfl 0 len rfl rfl 36 i36 _ 24 64 Yba.underlying30 gi gz0 gz1 gz2 (Nat.zero_le _) (by omega) (by omega) ?_; intro cur hcur)
      have HI0 : Hid (Inv w (A2.alloc (.cells cur 36)) a len least Z 0 (fun _ => none)) := by
        have hs := HS2.out
        exact ⟨HBA2.out.alloc HBA2.out.size _, hga, by show _ ≤ (A2.heap.push _).size; simp; omega, (Below.heap_alloc _ _ _ (by omega)).trans HA2.out, (Below.heap_alloc _ _ _ (by omega)).trans HO2.out, (Below.heap_alloc _ _ _ (by omega)).trans HW2.out,
          ⟨cur, by rw [← hs]; exact heap_alloc_new _ _, hcur, fun j _ hj => absurd hj (by omega)⟩, fun j _ hj => absurd hj (by omega)⟩
      rw [HS2.out]
      clear HA2 HO2 HW2 HBA2 HS2 hcur
      generalize A2.alloc (.cells cur 36) = A3 at HI0 ⊢
      go_wp2
      go_loopw [11, 56] (fun v i wr => ∃ k : Nat, k ≤ len ∧ i = .int .i64 k ∧ v = .slice (some ⟨a + 3, 0, none⟩) k len ∧ ∃ T, Inv w wr a len least Z k T) (fun _ i _ => len - (intOf i).toNat)
      case atStart => exact ⟨0, Nat.zero_le _, rfl, rfl, _, HI0.out⟩
      case round =>
        obtain ⟨k, hk, rfl, rfl, T, hI⟩ := hrel
        clear HI0
        by_cases hlt2 : k < len
        · obtain ⟨e1, e2, e3⟩ := HZ.out
          rcases e3 with e | ⟨b, off, rfl, hc⟩
          · omega
          have hkZ : k < Z.length := by omega
          obtain ⟨k0, k1, k2, k3, k4⟩ := hc k hkZ
          have hlm : Z[k].ms.length ≤ 4096 := Nat.le_trans (ms_le_sum Z k hkZ) hsZ
          have HMB := hide (e2 k hkZ).2
          have HO : Hid (outL (Z.take (k + 1)) = outL (Z.take k) ++ Z[k].out) := outL_take Z k hkZ
          have HZK : Hid (∃ z, z = Z[k]) := ⟨_, rfl⟩
          obtain ⟨z, hz⟩ := HZK.out
          rw [← hz] at k0 k1 k2 k3 k4 hlm HMB HO
          have HZE := hide hz
          clear hz HZK
          have hbw : b < w.heap.size := lt_of_cell k0
          have hb := hI.bel
          have j0 := (hb.cell (p := ⟨b, off + k * 5, none⟩) hbw).trans k0
          have j1 := (hb.cell (p := ⟨b, off + k * 5 + 1, none⟩) hbw).trans k1
          have j2 := (hb.cell (p := ⟨b, off + k * 5 + 2, none⟩) hbw).trans k2
          have j3 := (hb.cell (p := ⟨b, off + k * 5 + 3, none⟩) hbw).trans k3
          have j4 := (hb.cell (p := ⟨b, off + k * 5 + 4, none⟩) hbw).trans k4
          have HINV := hide hI
          clear hb k0 k1 k2 k3 k4 hc e2 hI
          have bz := z.id.isLt
          go_upto_region 19 with fail
          have HBV : Hid (RowKit.Below wr.heap.size wr (wr.alloc (.cells #[.int .u8 (z.id.val : Int), .bool z.told, .bool z.parent, .bool z.same, .slice z.ad z.ms.length z.cap] 25))) := (Below.refl _ _).alloc (Nat.le_refl _) _
          have HVZ : Hid ((wr.alloc (.cells #[.int .u8 (z.id.val : Int), .bool z.told, .bool z.parent, .bool z.same, .slice z.ad z.ms.length z.cap] 25)).heap[wr.heap.size]? = some (.cells #[.int .u8 (z.id.val : Int), .bool z.told, .bool z.parent, .bool z.same, .slice z.ad z.ms.length z.cap] 25)) := heap_alloc_new _ _
          have f0 : (wr.alloc (.cells #[.int .u8 (z.id.val : Int), .bool z.told, .bool z.parent, .bool z.same, .slice z.ad z.ms.length z.cap] 25)).cell? ⟨wr.heap.size, 0, none⟩ = some (.int .u8 (z.id.val : Int)) := by rw [cell_of_row _ _ 0 _ _ (0, 0) HVZ.out]; rfl
          clear j0 j1 j2 j3 j4
          generalize wr.alloc (.cells #[.int .u8 (z.id.val : Int), .bool z.told, .bool z.parent, .bool z.same, .slice z.ad z.ms.length z.cap] 25) = V at HBV HVZ f0 ⊢
          go_upto_region 20 with (first
            | (go_at_call 5; refine (node_any _ _).mono ?_; rintro e w2 ⟨rfl, hb2⟩)
            | refine wpList_build rfl 36 _ rfl #[(0, .agg (ndA z.id.val))] (by kernel_rfl) _ (build36 _ _) ?_
            | refine wpList_store_new rfl 36 _ _ rfl (lkA z.id.val none) _ 36 rfl rfl rfl (one_lkA _ _) Yba.size36 ?_)
          have HB2 : Hid (RowKit.Below wr.heap.size wr (w2.alloc (.cells (lkA z.id.val none) 36))) := (HBV.out.trans (hb2.mono HBV.out.size)).alloc (Nat.le_trans HBV.out.size hb2.size) _
          have HZ2 : Hid ((w2.alloc (.cells (lkA z.id.val none) 36)).heap[wr.heap.size]? = some (.cells #[.int .u8 (z.id.val : Int), .bool z.told, .bool z.parent, .bool z.same, .slice z.ad z.ms.length z.cap] 25)) := (Below.heap_alloc _ _ _ (Nat.lt_of_lt_of_le (lt_of_heap HVZ.out) hb2.size)).trans ((hb2.block _ (lt_of_heap HVZ.out)).trans HVZ.out)
          have HL2 : Hid ((w2.alloc (.cells (lkA z.id.val none) 36)).heap[w2.heap.size]? = some (.cells (lkA z.id.val none) 36)) := heap_alloc_new _ _
          have hlb : wr.heap.size < w2.heap.size := Nat.lt_of_lt_of_le (lt_of_heap HVZ.out) hb2.size
          clear hb2 HBV HVZ f0
          generalize w2.alloc (.cells (lkA z.id.val none) 36) = V2 at HB2 HZ2 HL2 ⊢
          generalize w2.heap.size = lb at HL2 hlb ⊢
          have f1 : V2.cell? ⟨wr.heap.size, 1, none⟩ = some (.bool z.told) := by rw [cell_of_row _ _ 1 _ _ (0, 0) HZ2.out]; rfl
          go_upto_if 65 with fail
          go_cut [14] (fun s14 wy => ∃ lb t, s14 = .pointer (some ⟨lb, 0, none⟩) ∧ wr.heap.size ≤ lb ∧ wy.heap[lb]? = some (.cells (lkA z.id.val t) 36) ∧ telp wr.heap.size wy least z t ∧ wy.heap[a + 2]? = some (.cells (wantA (outL (Z.take k) ++ z.out)) 29) ∧ wr.grownBy wy (some (a + 2)))
          case first =>
            cases htold : z.told
            · have hout : z.out = [] := by simp [Zl.out, Zl.kid, htold]
              go_wp2
              go_meet
              case rel => exact ⟨lb, none, rfl, Nat.le_of_lt hlb, HL2.out, Or.inl ⟨htold, rfl⟩, by rw [hout, List.append_nil]; exact (HB2.out.block _ (by have := HINV.out.sz; omega)).trans HINV.out.want, gb_below HB2.out _⟩
            · obtain ⟨wA, hwA⟩ : ∃ x, x = wr := ⟨_, rfl⟩
              subst hwA
              obtain ⟨zad, hzad⟩ : ∃ x, x = z.ad := ⟨_, rfl⟩
              rw [← hzad] at HMB HZ2
              clear hzad
              have f4 : V2.cell? ⟨wA.heap.size, 4, none⟩ = some (.slice zad z.ms.length z.cap) := by rw [cell_of_row _ _ 4 _ _ (0, 0) HZ2.out]; rfl
              have hsz := HINV.out.sz
              have hV2 : wA.heap.size < V2.heap.size := lt_of_heap HZ2.out
              have hlV : lb < V2.heap.size := lt_of_heap HL2.out
              go_upto_region 22 with (refine wpList_make rfl 37 _ _ rfl z.ms.length z.ms.length rfl rfl 32 i32 _ 21 40 Yba.underlying37 hi hz0 hz1 hz2 (Nat.le_refl _) (by omega) (by omega) ?_; intro cur hcur)
              have HB3 : Hid (RowKit.Below wA.heap.size wA (V2.alloc (.cells cur 32))) := HB2.out.alloc HB2.out.size _
              have HZ3 : Hid ((V2.alloc (.cells cur 32)).heap[wA.heap.size]? = some (.cells #[.int .u8 (z.id.val : Int), .bool z.told, .bool z.parent, .bool z.same, .slice zad z.ms.length z.cap] 25)) := (Below.heap_alloc _ _ _ hV2).trans HZ2.out
              have HL3 : Hid ((V2.alloc (.cells cur 32)).heap[lb]? = some (.cells (lkA z.id.val none) 36)) := (Below.heap_alloc _ _ _ hlV).trans HL2.out
              have HT3 : Hid ((V2.alloc (.cells cur 32)).there V2.heap.size 0 (z.ms.length * 21)) := by rw [← hcur]; exact there_block (heap_alloc_new V2 (.cells cur 32))
              have hm3 : V2.heap.size < (V2.alloc (.cells cur 32)).heap.size := by simp
              clear f1 f4 HZ2 HL2 HB2 hcur
              generalize V2.alloc (.cells cur 32) = V3 at HB3 HZ3 HL3 HT3 hm3 ⊢
              generalize V2.heap.size = mb at hV2 hlV HT3 hm3 ⊢
              have f4 : V3.cell? ⟨wA.heap.size, 4, none⟩ = some (.slice zad z.ms.length z.cap) := by rw [cell_of_row _ _ 4 _ _ (0, 0) HZ3.out]; rfl
              go_wp2
              clear f4
              go_loopw [73] (fun i wx => ∃ j : Nat, j ≤ z.ms.length ∧ i = .int .i64 j ∧ V3.grownBy wx (some mb) ∧ RowL wx mb (z.ms.take j) ∧ wx.there mb 0 (z.ms.length * 21)) (fun i _ => z.ms.length - (intOf i).toNat)
              case atStart => exact ⟨0, Nat.zero_le _, rfl, ⟨rfl, rfl, rfl, Nat.le_refl _, fun _ _ _ => rfl⟩, fun j hj => absurd hj (by simp), HT3.out⟩
              case round =>
                obtain ⟨j, hj, rfl, hg3, hrow3, hth3⟩ := hrel
                by_cases hjn : j < z.ms.length
                · rcases HMB.out with e | ⟨b', off', rfl, hcells⟩
                  · rw [e] at hjn; simp at hjn
                  have jc := hcells j hjn
                  have hb' : b' < w.heap.size := lt_of_cell jc
                  have jc' : wr.cell? ⟨b', off' + j, none⟩ = some (.int .u8 (z.ms[j].val : Int)) := by
                    have h1 := (HINV.out.bel.cell (p := ⟨b', off' + j, none⟩) hb').trans jc
                    have h2 := (HB3.out.cell (p := ⟨b', off' + j, none⟩) (lt_of_cell h1)).trans h1
                    exact hg3.cell h2 (fun e => by have := Option.some.inj e; have := HINV.out.bel.size; dsimp only at *; omega)
                  have HTK : Hid (z.ms.take (j + 1) = z.ms.take j ++ [z.ms[j]]) := List.take_succ_eq_append_getElem hjn
                  have HTL : Hid ((z.ms.take j).length = j) := by rw [List.length_take]; exact Nat.min_eq_left (by omega)
                  generalize z.ms[j] = x at jc' HTK
                  generalize z.ms.take j = C at hrow3 HTK HTL
                  have HR3 := hide hrow3; have HT := hide hth3; have HG3 := hide hg3
                  clear hrow3 hth3 hg3 jc hcells
                  go_wp2_with fail
                  refine (node_any _ _).mono ?_
                  rintro e w5 ⟨rfl, hb5⟩
                  have hmr : mb < wr.heap.size := Nat.lt_of_lt_of_le hm3 HG3.out.size
                  have TH5 : Hid (w5.there mb (j * 21) 21) := fun i hi => by
                    have := there_kept HT.out (hb5.block mb hmr) (j * 21 + i) (by omega)
                    rwa [Nat.zero_add] at this
                  have HP : Hid (RowL (w5.setCells mb (j * 21) (ndA x.val).toList) mb (C ++ [x])) := by
                    have := rowL_snoc (RowL.grownK HR3.out (hb5.block mb hmr)) x (by rw [HTL.out]; exact TH5.out)
                    rw [HTL.out] at this; exact this
                  have HPT : Hid ((w5.setCells mb (j * 21) (ndA x.val).toList).there mb 0 (z.ms.length * 21)) := World.there_setCells (there_kept HT.out (hb5.block mb hmr)) _ _ _
                  have HPG : Hid (V3.grownBy (w5.setCells mb (j * 21) (ndA x.val).toList) (some mb)) := gb_trans (gb_trans HG3.out (gb_below hb5 _)) (grownBy_setCells _ _ _ _)
                  clear HR3 HT HG3 hb5 jc'
                  go_wp2_with (refine wpList_store_mid rfl 32 _ _ rfl mb (j * 21) (ndA x.val) rfl rfl TH5.out Yba.size32 (one_encB x) ?_; generalize w5.setCells mb (j * 21) (ndA x.val).toList = W6 at HP HPT HPG ⊢)
                  go_roundw
                  case rel => exact ⟨j + 1, by omega, by go_num, HPG.out, by rw [HTK.out]; exact HP.out, HPT.out⟩
                  case measure => simp [intOf]; omega
                · have hjl : j = z.ms.length := by omega
                  have hR4 : RowL wr mb z.ms := by rw [hjl, List.take_length] at hrow3; exact hrow3
                  obtain ⟨V4, hV4⟩ : ∃ x, x = wr := ⟨_, rfl⟩
                  subst hV4
                  have hnb : ∀ b, b < mb → V4.heap[b]? = V3.heap[b]? := fun b hb => hg3.block b (by omega) (fun e => by have := Option.some.inj e; omega)
                  have HA4 : Hid (V4.heap[a]? = some (.cells (idA 0 least.val) 27)) := (hnb a (by omega)).trans ((HB3.out.block a (by omega)).trans HINV.out.idL)
                  have HO4 : Hid (V4.heap[a + 1]? = some (.cells (idA 1 least.val) 27)) := (hnb (a + 1) (by omega)).trans ((HB3.out.block (a + 1) (by omega)).trans HINV.out.idO)
                  have HW4 : Hid (V4.heap[a + 2]? = some (.cells (wantA (outL (Z.take k))) 29)) := (hnb (a + 2) (by omega)).trans ((HB3.out.block (a + 2) (by omega)).trans HINV.out.want)
                  have HZ4 : Hid (V4.heap[wA.heap.size]? = some (.cells #[.int .u8 (z.id.val : Int), .bool z.told, .bool z.parent, .bool z.same, .slice zad z.ms.length z.cap] 25)) := (hnb _ (by omega)).trans HZ3.out
                  have HL4 : Hid (V4.heap[lb]? = some (.cells (lkA z.id.val none) 36)) := (hnb lb (by omega)).trans HL3.out
                  have HB4 : Hid (RowKit.Below wA.heap.size wA V4) := HB3.out.grown hg3 (by omega) (fun b hb => by cases hb; omega)
                  have HR4 := hide hR4
                  have hm4 : mb < V4.heap.size := Nat.lt_of_lt_of_le hm3 hg3.size
                  clear hrow3 hth3 hg3 hR4 hnb HB3 HZ3 HL3 HT3 hm3
                  have f3 : (V4.alloc (.cells (idA 1 least.val) 27)).cell? ⟨wA.heap.size, 3, none⟩ = some (.bool z.same) := by rw [cell_of_row _ _ 3 _ _ (0, 0) ((Below.heap_alloc _ _ _ (by omega)).trans HZ4.out)]; rfl
                  go_upto_if 86 with (first
                    | refine wpList_load_row rfl 27 _ rfl (a + 1) rfl 27 (idA 1 least.val) (0, 0) _ HO4.out Yba.underlying27 rfl Yba.size27 ?_
                    | refine wpList_store_new rfl 27 _ _ rfl (idA 1 least.val) _ 27 rfl rfl rfl (one_idA _ _) Yba.size27 ?_)
                  have HA5 : Hid ((V4.alloc (.cells (idA 1 least.val) 27)).heap[a]? = some (.cells (idA 0 least.val) 27)) := (Below.heap_alloc _ _ _ (by omega)).trans HA4.out
                  go_cut [18] (fun s18 wy => s18 = .pointer (some ⟨V4.heap.size, 0, none⟩) ∧ wy = V4.alloc (.cells (idA (if z.same then 0 else 1) least.val) 27))
                  case first =>
                    cases hsame : z.same
                    · go_wp2
                      go_meet
                      case rel => exact ⟨rfl, by rw [hsame]; rfl⟩
                    · go_wp2_with (first
                        | refine wpList_load_row rfl 27 _ rfl a rfl 27 (idA 0 least.val) (0, 0) _ HA5.out Yba.underlying27 rfl Yba.size27 ?_
                        | refine wpList_store_new rfl 27 _ _ rfl (idA 0 least.val) _ 27 rfl rfl rfl (one_idA _ _) Yba.size27 ?_)
                      go_meet
                      case rel => exact ⟨rfl, by rw [hsame]; rfl⟩
                  case rest =>
                    obtain ⟨rfl, hwc⟩ := hcut
                    have HID : Hid (wc.heap[V4.heap.size]? = some (.cells (idA (if z.same then 0 else 1) least.val) 27)) := by rw [hwc]; exact heap_alloc_new _ _
                    have h5 : ∀ b, b < V4.heap.size → wc.heap[b]? = V4.heap[b]? := fun b hb => by rw [hwc]; exact Below.heap_alloc _ _ _ hb
                    have hs5 : wc.heap.size = V4.heap.size + 1 := by rw [hwc]; simp
                    have HB5 : Hid (RowKit.Below wA.heap.size wA wc) := by rw [hwc]; exact HB4.out.alloc HB4.out.size _
                    have HZ5 := hide ((h5 wA.heap.size (by omega)).trans HZ4.out)
                    have HL5 := hide ((h5 lb (by omega)).trans HL4.out)
                    have HW5 := hide ((h5 (a + 2) (by omega)).trans HW4.out)
                    have HR5 : Hid (RowL wc mb z.ms) := RowL.grownK HR4.out (h5 mb hm4)
                    obtain ⟨V5, hV5⟩ : ∃ x, x = wc := ⟨_, rfl⟩
                    subst hV5
                    have HS5 := hide hs5
                    clear hwc h5 HA5 HA4 HO4 HW4 HZ4 HL4 HB4 HR4 f3 hs5
                    obtain ⟨s, hs⟩ : ∃ s : Int, s = (if z.same then 0 else 1) := ⟨_, rfl⟩
                    rw [← hs] at HID
                    have HSE := hide hs
                    clear hs
                    have f2 : V5.cell? ⟨wA.heap.size, 2, none⟩ = some (.bool z.parent) := by rw [cell_of_row _ _ 2 _ _ (0, 0) HZ5.out]; rfl
                    have k22 : (V5.alloc (.cells (blA s least.val z.parent (.slice (some ⟨mb, 0, none⟩) z.ms.length z.ms.length)) 39)).cell? ⟨lb, 22, none⟩ = some (.pointer none) := by
                      rw [cell_of_row _ _ 22 _ _ (0, 0) ((Below.heap_alloc _ _ _ (by have := HS5.out; omega)).trans HL5.out)]; rfl
                    have z22 : (V5.alloc (.cells (blA s least.val z.parent (.slice (some ⟨mb, 0, none⟩) z.ms.length z.ms.length)) 39)).frozen? ⟨lb, 22, none⟩ = false := frozen_block ((Below.heap_alloc _ _ _ (by have := HS5.out; omega)).trans HL5.out)
                    go_upto_region 31 with (first
                      | refine wpList_load_row rfl 27 _ rfl V4.heap.size rfl 27 (idA s least.val) (0, 0) _ HID.out Yba.underlying27 rfl Yba.size27 ?_
                      | refine wpList_build rfl 39 _ rfl #[(0, .agg (idA s least.val)), (1, .bool z.parent), (2, .slice (some ⟨mb, 0, none⟩) z.ms.length z.ms.length)] (by kernel_rfl) _ (build39 _ _ _ _ _ _ _) ?_
                      | refine wpList_box rfl 39 _ rfl (blA s least.val z.parent (.slice (some ⟨mb, 0, none⟩) z.ms.length z.ms.length)) rfl (box39 _ _ _ _ _) ?_)
                    have hs5 := HS5.out
                    have htl : lb < V5.heap.size := by omega
                    have h6 : ∀ b, b < V5.heap.size → b ≠ lb → ((V5.alloc (.cells (blA s least.val z.parent (.slice (some ⟨mb, 0, none⟩) z.ms.length z.ms.length)) 39)).setCell ⟨lb, 22, none⟩ (.pointer (some ⟨V5.heap.size, 0, none⟩))).heap[b]? = V5.heap[b]? := fun b hb hne => by
                      rw [heap_setCell_other _ _ _ _ hne]; exact Below.heap_alloc _ _ _ hb
                    have HL7 : Hid (((V5.alloc (.cells (blA s least.val z.parent (.slice (some ⟨mb, 0, none⟩) z.ms.length z.ms.length)) 39)).setCell ⟨lb, 22, none⟩ (.pointer (some ⟨V5.heap.size, 0, none⟩))).heap[lb]? = some (.cells (lkA z.id.val (some ⟨V5.heap.size, 0, none⟩)) 36)) :=
                      heap_setCell_same _ _ _ _ _ _ ((Below.heap_alloc _ _ _ htl).trans HL5.out)
                    have hT7 : ((V5.alloc (.cells (blA s least.val z.parent (.slice (some ⟨mb, 0, none⟩) z.ms.length z.ms.length)) 39)).setCell ⟨lb, 22, none⟩ (.pointer (some ⟨V5.heap.size, 0, none⟩))).heap[V5.heap.size]? = some (.cells (blA s least.val z.parent (.slice (some ⟨mb, 0, none⟩) z.ms.length z.ms.length)) 39) := by
                      rw [heap_setCell_other _ _ _ _ (by show V5.heap.size ≠ lb; omega)]; exact heap_alloc_new _ _
                    have HB7 : Hid (RowKit.Below wA.heap.size wA ((V5.alloc (.cells (blA s least.val z.parent (.slice (some ⟨mb, 0, none⟩) z.ms.length z.ms.length)) 39)).setCell ⟨lb, 22, none⟩ (.pointer (some ⟨V5.heap.size, 0, none⟩)))) := (HB5.out.alloc HB5.out.size _).setCell (by show wA.heap.size ≤ lb; omega) _
                    have hz7 := (h6 wA.heap.size (by omega) (by omega)).trans HZ5.out
                    have HW7 := hide ((h6 (a + 2) (by omega) (by omega)).trans HW5.out)
                    have hR7 := RowL.grownK HR5.out (h6 mb (by omega) (by omega))
                    clear k22 z22 f2 h6 HL5 HZ5 HW5 HR5 HB5 HID
                    generalize (V5.alloc (.cells (blA s least.val z.parent (.slice (some ⟨mb, 0, none⟩) z.ms.length z.ms.length)) 39)).setCell ⟨lb, 22, none⟩ (.pointer (some ⟨V5.heap.size, 0, none⟩)) = V7 at HL7 hT7 HB7 hz7 HW7 hR7 ⊢
                    generalize V5.heap.size = tb at hs5 HL7 hT7 ⊢
                    have HTEL : Hid (telp wA.heap.size V7 least z (some ⟨tb, 0, none⟩)) := Or.inr ⟨htold, tb, mb, z.ms.length, by omega, by omega, rfl, fun j v hv => row_cells' hT7 j v (by
                        have hj : j < 20 := (List.getElem?_eq_some_iff.1 hv).1
                        show ((idA s least.val).toList ++ _)[j]? = some v
                        rw [List.getElem?_append_left (by exact hj), HSE.out]; exact hv), row_cells' hT7 20 _ rfl, row_cells' hT7 21 _ rfl, hR7⟩
                    have f0 : V7.cell? ⟨wA.heap.size, 0, none⟩ = some (.int .u8 (z.id.val : Int)) := by rw [cell_of_row _ _ 0 _ _ (0, 0) hz7]; rfl
                    have f2 : V7.cell? ⟨wA.heap.size, 2, none⟩ = some (.bool z.parent) := by rw [cell_of_row _ _ 2 _ _ (0, 0) hz7]; rfl
                    have f3 : V7.cell? ⟨wA.heap.size, 3, none⟩ = some (.bool z.same) := by rw [cell_of_row _ _ 3 _ _ (0, 0) hz7]; rfl
                    have hf4 : V7.cell? ⟨wA.heap.size, 4, none⟩ = some (.slice zad z.ms.length z.cap) := by rw [cell_of_row _ _ 4 _ _ (0, 0) hz7]; rfl
                    have HF4 := hide hf4
                    have hg7 : wA.grownBy V7 (some (a + 2)) := gb_below HB7.out _
                    have HG7 := hide hg7
                    clear hz7 hT7 hR7 hf4 hg7 HSE HS5
                    cases hp : z.parent
                    · have hout : z.out = [] := by simp [Zl.out, Zl.kid, hp]
                      rw [hp] at f2
                      have HP := hide hp
                      clear hp
                      go_wp2
                      go_meet
                      case rel => exact ⟨lb, _, rfl, Nat.le_of_lt hlb, HL7.out, HTEL.out, by rw [hout, List.append_nil]; exact HW7.out, HG7.out⟩
                    · cases hsm : z.same
                      · have hout : z.out = [] := by simp [Zl.out, Zl.kid, hsm]
                        rw [hp] at f2; rw [hsm] at f3
                        have HP := hide hp; have HSM := hide hsm
                        clear hp hsm
                        go_wp2
                        go_meet
                        case rel => exact ⟨lb, _, rfl, Nat.le_of_lt hlb, HL7.out, HTEL.out, by rw [hout, List.append_nil]; exact HW7.out, HG7.out⟩
                      · have hout : z.out = z.id :: z.ms := by simp [Zl.out, Zl.kid, hsm, hp, htold]
                        rw [hp] at f2; rw [hsm] at f3
                        have HP := hide hp; have HSM := hide hsm; have HOUT := hide hout
                        clear hp hsm hout
                        have kw : V7.cell? ⟨a + 2, z.id.val, none⟩ = some (.bool ((outL (Z.take k)).any fun x => x.val == z.id.val)) := by rw [cell_of_row _ _ _ _ _ (0, 0) HW7.out]; exact wantA_get _ _ bz
                        have zw : V7.frozen? ⟨a + 2, z.id.val, none⟩ = false := frozen_block HW7.out
                        have bi : (z.id.val : Int) < 256 := by omega
                        go_upto_region 33 with fail
                        have HW8 : Hid ((V7.setCell ⟨a + 2, z.id.val, none⟩ (.bool true)).heap[a + 2]? = some (.cells (wantA (outL (Z.take k) ++ [z.id])) 29)) := by
                          rw [← wantA_set]; exact heap_setCell_same _ _ _ _ _ _ HW7.out
                        have HG8 : Hid (V7.grownBy (V7.setCell ⟨a + 2, z.id.val, none⟩ (.bool true)) (some (a + 2))) := ⟨rfl, rfl, rfl, by simp, fun b hb hne => heap_setCell_other _ _ _ _ (fun e => hne (by rw [e]))⟩
                        have f4 : (V7.setCell ⟨a + 2, z.id.val, none⟩ (.bool true)).cell? ⟨wA.heap.size, 4, none⟩ = some (.slice zad z.ms.length z.cap) := HG8.out.cell HF4.out (fun e => by have := Option.some.inj e; dsimp only at *; omega)
                        clear f0 f2 f3 kw zw
                        generalize V7.setCell ⟨a + 2, z.id.val, none⟩ (.bool true) = V8 at HW8 HG8 f4 ⊢
                        go_wp2
                        clear f4
                        go_loopw [107] (fun i wx => ∃ j : Nat, j ≤ z.ms.length ∧ i = .int .i64 j ∧ V7.grownBy wx (some (a + 2)) ∧ wx.heap[a + 2]? = some (.cells (wantA (outL (Z.take k) ++ z.id :: z.ms.take j)) 29)) (fun i _ => z.ms.length - (intOf i).toNat)
                        case atStart => exact ⟨0, Nat.zero_le _, rfl, HG8.out, HW8.out⟩
                        case round =>
                          obtain ⟨j, hj, rfl, hg9, hw9⟩ := hrel
                          by_cases hjn : j < z.ms.length
                          · rcases HMB.out with e | ⟨b', off', rfl, hcells⟩
                            · rw [e] at hjn; simp at hjn
                            have jc := hcells j hjn
                            have hb' : b' < w.heap.size := lt_of_cell jc
                            have hge := HINV.out.ge
                            have jc' : wr.cell? ⟨b', off' + j, none⟩ = some (.int .u8 (z.ms[j].val : Int)) := by
                              have h1 := (HINV.out.bel.cell (p := ⟨b', off' + j, none⟩) hb').trans jc
                              have h2 := (HB7.out.cell (p := ⟨b', off' + j, none⟩) (lt_of_cell h1)).trans h1
                              exact hg9.cell h2 (fun e => by have := Option.some.inj e; dsimp only at *; omega)
                            have HTK : Hid (outL (Z.take k) ++ z.id :: z.ms.take (j + 1) = (outL (Z.take k) ++ z.id :: z.ms.take j) ++ [z.ms[j]]) := hide (by rw [List.take_succ_eq_append_getElem hjn]; simp)
                            generalize z.ms[j] = x at jc' HTK
                            generalize outL (Z.take k) ++ z.id :: z.ms.take j = C at hw9 HTK
                            have bx := x.isLt
                            have bi2 : (x.val : Int) < 256 := by omega
                            have kw : wr.cell? ⟨a + 2, x.val, none⟩ = some (.bool (C.any fun y => y.val == x.val)) := by rw [cell_of_row _ _ _ _ _ (0, 0) hw9]; exact wantA_get _ _ bx
                            have zw : wr.frozen? ⟨a + 2, x.val, none⟩ = false := frozen_block hw9
                            have HWN : Hid ((wr.setCell ⟨a + 2, x.val, none⟩ (.bool true)).heap[a + 2]? = some (.cells (wantA (C ++ [x])) 29)) := by
                              rw [← wantA_set]; exact heap_setCell_same _ _ _ _ _ _ hw9
                            have HGN : Hid (V7.grownBy (wr.setCell ⟨a + 2, x.val, none⟩ (.bool true)) (some (a + 2))) := gb_trans hg9 ⟨rfl, rfl, rfl, by simp, fun b hb hne => heap_setCell_other _ _ _ _ (fun e => hne (by rw [e]))⟩
                            clear jc hcells hg9 hw9
                            go_wp2
                            go_roundw
                            case rel => exact ⟨j + 1, by omega, by go_num, HGN.out, by rw [HTK.out]; exact HWN.out⟩
                            case measure => simp [intOf]; omega
                          · have hjl : j = z.ms.length := by omega
                            have hw' : wr.heap[a + 2]? = some (.cells (wantA (outL (Z.take k) ++ z.out)) 29) := by rw [HOUT.out]; rw [hjl, List.take_length] at hw9; exact hw9
                            have hother : ∀ b, b < V7.heap.size → b ≠ a + 2 → wr.heap[b]? = V7.heap[b]? := fun b hb hne => hg9.block b hb (fun e => hne (Option.some.inj e))
                            have HLF := hide ((hother lb (lt_of_heap HL7.out) (by omega)).trans HL7.out)
                            have HTF : Hid (telp wA.heap.size wr least z (some ⟨tb, 0, none⟩)) := HTEL.out.kept (fun b hb hn => hother b hb (by omega))
                            have HGF : Hid (wA.grownBy wr (some (a + 2))) := gb_trans HG7.out hg9
                            have HWF := hide hw'
                            clear hg9 hw9 hw' hother
                            go_wp2
                            go_meet
                            case rel => exact ⟨lb, _, rfl, Nat.le_of_lt hlb, HLF.out, HTF.out, HWF.out, HGF.out⟩
          case rest =>
            obtain ⟨lb', t, rfl, hlb', hL, htel, hW, hg⟩ := hcut
            obtain ⟨cur, hcur, hcs, hrow⟩ := HINV.out.row
            have hsz := HINV.out.sz
            have HCUR : Hid ((wc.alloc (.cells (lkA z.id.val t) 36)).heap[a + 3]? = some (.cells cur 36)) := (Below.heap_alloc _ _ _ (by have := hg.size; omega)).trans ((hg.block _ (by omega) (fun e => by have := Option.some.inj e; omega)).trans hcur)
            have HNEW : Hid (∀ j u, (lkA z.id.val t).toList[j]? = some u → (wc.alloc (.cells (lkA z.id.val t) 36)).cell? ((⟨wc.heap.size, 0, none⟩ : Addr).add j) = some u) := fun j u hu => by
              rw [Addr.add_mid, Nat.zero_add]
              exact row_cells' (heap_alloc_new wc (.cells (lkA z.id.val t) 36)) j u hu
            have HNX : Hid (Inv w ((wc.alloc (.cells (lkA z.id.val t) 36)).setRow (a + 3) (cur.toList.take (k * 24) ++ (lkA z.id.val t).toList ++ cur.toList.drop (k * 24 + (lkA z.id.val t).toList.length)).toArray) a len least Z (k + 1) (fun j => if j = k then t else T j)) := by
              have hz := HZE.out
              subst hz
              exact HINV.out.next hkZ e1 htel (by rw [HO.out]; exact hW) hg hcur hcs hrow _
            have HL := hide hL
            clear hL htel hW hg hcur hrow HL2 HZ2 HB2 HINV
            go_upto_region 39 with (first
              | refine wpList_load_row rfl 36 _ rfl lb' rfl 36 (lkA z.id.val t) (0, 0) _ HL.out Yba.underlying36 rfl Yba.size36 ?_
              | refine wpList_buildS rfl 30 1 _ rfl #[(0, .agg (lkA z.id.val t))] (by kernel_rfl) _ (build30 _ _ _) ?_
              | (refine wpList_append_room rfl (.tmp 114) (.tmp 116) 30 rfl 36 i36 24 Yba.underlying30 gi gz1 (a + 3) k len rfl cur HCUR.out ⟨wc.heap.size, 0, none⟩ 1 1 (lkA z.id.val t).toList rfl rfl HNEW.out (one_lkA _ _) (by omega) (by rw [hcs]; show k * 24 + 24 ≤ _; omega) ?_
                 generalize (wc.alloc (.cells (lkA z.id.val t) 36)).setRow (a + 3) (cur.toList.take (k * 24) ++ (lkA z.id.val t).toList ++ cur.toList.drop (k * 24 + (lkA z.id.val t).toList.length)).toArray = W9 at HNX ⊢))
            go_wp2
            go_roundw
            case rel => exact ⟨k + 1, by omega, by go_num, rfl, _, HNX.out⟩
            case measure => simp [intOf]; omega
        · have hk2 : k = len := by omega
          have hI' : Inv w wr a len least Z len T := by rw [hk2] at hI; exact hI
          obtain ⟨M0, hM0⟩ : ∃ x, x = wr := ⟨_, rfl⟩
          subst hM0
          obtain ⟨m32, m42, m45, m77, q32, q42, q45, q77, qbox, qlinks, qleast⟩ := member_ex least.val (some ⟨a + 3, 0, none⟩) len len
          have HINV := hide hI'
          have Q32 := hide q32; have Q42 := hide q42; have Q45 := hide q45; have Q77 := hide q77; have QB := hide qbox
          have HIL := hide hI'.idL
          clear hI hI' q32 q42 q45 q77 qbox
          have hkz : (k : Int) = (len : Int) := by omega
          rw [hk2]
          go_upto_region 41 with (first
            | refine wpList_load_row rfl 27 _ rfl a rfl 27 (idA 0 least.val) (0, 0) _ HIL.out Yba.underlying27 rfl Yba.size27 ?_
            | refine wpList_build rfl 32 _ rfl #[(0, .agg (idA 0 least.val))] (by kernel_rfl) _ (Q32.out _) ?_
            | refine wpList_build rfl 42 _ rfl #[(0, .agg m32)] (by kernel_rfl) _ (Q42.out _) ?_
            | refine wpList_build rfl 45 _ rfl #[(0, .agg m42)] (by kernel_rfl) _ (Q45.out _) ?_
            | refine wpList_build rfl 77 _ rfl #[(20, .slice (some ⟨a + 3, 0, none⟩) len len), (15, .agg m45)] (by kernel_rfl) _ (Q77.out _) ?_
            | refine wpList_box rfl 77 _ rfl m77 rfl (QB.out _) ?_)
          obtain ⟨cur, hcur, hcs, hrow⟩ := HINV.out.row
          have hsz := HINV.out.sz
          have hML : (M0.alloc (.cells m77 77)).cell? ⟨M0.heap.size, 134, none⟩ = some (.slice (some ⟨a + 3, 0, none⟩) Z.length len) := by
            rw [hZl, cell_of_row _ _ 134 _ _ (0, 0) (heap_alloc_new _ _)]; exact qlinks
          have hMi : ∀ j v, (idA 0 least.val).toList[j]? = some v → (M0.alloc (.cells m77 77)).cell? ⟨M0.heap.size, 105 + j, none⟩ = some v := fun j v hv => by
            rw [cell_of_row _ _ (105 + j) _ _ (0, 0) (heap_alloc_new _ _)]; exact least_cells qleast j v hv
          have hcurM : (M0.alloc (.cells m77 77)).heap[a + 3]? = some (.cells cur 36) := (Below.heap_alloc _ _ _ (by omega)).trans hcur
          have hbM : RowKit.Below M0.heap.size M0 (M0.alloc (.cells m77 77)) := (Below.refl _ _).alloc (Nat.le_refl _) _
          have hLR : LR (M0.alloc (.cells m77 77)) (a + 3) least Z T := fun j hj => ⟨fun i v hv => by
              rw [cell_of_row _ _ _ _ _ (0, 0) hcurM]; exact hrow j hj (by omega) i v hv, (HINV.out.tels j hj (by omega)).tel.below hbM⟩
          have hwM : (M0.alloc (.cells m77 77)).heap[a + 2]? = some (.cells (wantA (outL Z)) 29) := (Below.heap_alloc _ _ _ (by omega)).trans (by
            have := HINV.out.want; rwa [← hZl, List.take_length] at this)
          have hbwM : RowKit.Below w.heap.size w (M0.alloc (.cells m77 77)) := HINV.out.bel.alloc HINV.out.bel.size _
          have HBC := hide (below_any (M0.alloc (.cells m77 77)) M0.heap.size (a + 3) len least Z T hML hMi hLR (by omega) (by have := outL_le Z; omega))
          have HLR := hide hLR; have HWM := hide hwM; have HBWM := hide hbwM
          have hsM : M0.heap.size < (M0.alloc (.cells m77 77)).heap.size := by simp
          clear hML hMi hcurM hbM hLR hwM hbwM hcur hrow hcs cur HINV HIL Q32 Q42 Q45 Q77 QB qlinks qleast
          generalize M0.alloc (.cells m77 77) = M at HBC HLR HWM HBWM hsM ⊢
          go_wp2_with fail
          refine HBC.out.mono ?_
          rintro e W ⟨v, C, rfl, hC, hCm, hGot, hbW⟩
          have HW : Hid (W.heap[a + 2]? = some (.cells (wantA (outL Z)) 29)) := (hbW.block _ (by omega)).trans HWM.out
          have HTL : Hid (∀ i (h : i < Z.length), W.cell? ⟨a + 3, i * 24 + 22, none⟩ = some (.pointer (T i)) ∧ tel W least Z[i] (T i)) := fun i h => by
            obtain ⟨h1, h2⟩ := HLR.out i h
            have := h1 22 (.pointer (T i)) rfl
            exact ⟨(hbW.cell (lt_of_cell this)).trans this, h2.below hbW⟩
          have HBW : Hid (RowKit.Below w.heap.size w W) := HBWM.out.trans (hbW.mono HBWM.out.size)
          obtain ⟨vad, vcap, rfl, hv⟩ : ∃ vad vcap, v = .slice vad C.length vcap ∧ (C = [] ∨ ∃ g', vad = some ⟨g', 0, none⟩ ∧ RowL W g' C) := by
            rcases hGot with ⟨rfl, rfl⟩ | ⟨g', c', rfl, h⟩
            · exact ⟨none, 0, rfl, Or.inl rfl⟩
            · exact ⟨_, c', rfl, Or.inr ⟨g', rfl, h⟩⟩
          have HV := hide hv; have HC := hide hC; have HCM := hide hCm
          have hCl : C.length ≤ 256 := asc_len hC
          clear hv hC hCm hGot hbW HBC HLR HWM HBWM
          go_wp2
          go_loopw [23, 24] (fun s23 s24 wx => ∃ b kk : Nat, b ≤ 256 ∧ kk ≤ C.length ∧ s23 = .int .i64 kk ∧ s24 = .int .i64 b ∧ (∀ i (h : i < C.length), i < kk → C[i].val < b) ∧ (∀ i (h : i < C.length), kk ≤ i → b ≤ C[i].val) ∧ RowKit.Below W.heap.size W wx) (fun _ s24 _ => 256 - (intOf s24).toNat)
          case atStart => exact ⟨0, 0, by omega, Nat.zero_le _, rfl, rfl, fun i h hi => absurd hi (by omega), fun i h hi => Nat.zero_le _, Below.refl _ _⟩
          case round =>
            obtain ⟨b, kk, hb256, hkk, rfl, rfl, hlo, hhi, hbX⟩ := hrel
            by_cases hb : b < 256
            · have hw2 : wr.cell? ⟨a + 2, b, none⟩ = some (.bool ((outL Z).any fun x => x.val == b)) := by
                have : W.cell? ⟨a + 2, b, none⟩ = some (.bool ((outL Z).any fun x => x.val == b)) := by rw [cell_of_row _ _ _ _ _ (0, 0) HW.out]; exact wantA_get _ _ hb
                exact (hbX.cell (lt_of_cell this)).trans this
              have HBX := hide hbX
              clear hbX
              have bi : (b : Int) < 256 := by omega
              cases hany : (outL Z).any fun x => x.val == b
              · rw [hany] at hw2
                have hno : ∀ i (h : i < C.length), C[i].val ≠ b := fun i h e => by
                  have : C[i] ∈ outL Z := (HCM.out _).1 (List.getElem_mem h)
                  have h2 : ((outL Z).any fun x => x.val == b) = true := List.any_eq_true.2 ⟨_, this, by simpa using e⟩
                  rw [hany] at h2; cases h2
                have HANY := hide hany
                clear hany
                go_wp2
                go_roundw
                case rel => exact ⟨b + 1, kk, by omega, hkk, rfl, by go_num, fun i h hi => by have := hlo i h hi; omega, fun i h hi => by have := hhi i h hi; have := hno i h; omega, HBX.out⟩
                case measure => simp [intOf]; omega
              · rw [hany] at hw2
                obtain ⟨x, hx, hxb⟩ := List.any_eq_true.1 hany
                have hxb' : x.val = b := by simpa using hxb
                obtain ⟨hlt3, hek⟩ := (sorted_step HC.out hhi ((HCM.out x).2 hx) hxb').2 hkk hlo
                have HANY := hide hany
                clear hany hxb
                rcases HV.out with e | ⟨g', rfl, hrow⟩
                · rw [e] at hlt3; simp at hlt3
                have R1 : Hid (wr.rangeAt g' (kk * 21) (ndA x.val).toList) := fun i u hu => by
                  have := hrow kk hlt3 i u (by rw [hek]; exact hu)
                  exact (HBX.out.cell (lt_of_cell this)).trans this
                clear hrow
                have bk : (kk : Int) < (C.length : Int) := by omega
                have hdk : decide ((C.length : Int) ≤ (kk : Int)) = false := decide_eq_false (by omega)
                go_upto_region 47 with fail
                subst hxb'
                have bx := x.isLt
                have hwr : IntKind.u8.wrap (x.val : Int) = (x.val : Int) := by simp [IntKind.wrap, IntKind.bits, IntKind.signed] <;> omega
                refine wp_region_held (S := RowKit.Below wr.heap.size wr) (by kernel_rfl) ?_
                try (change wpAnyH _ _ _ _ _ _ _ _ (World.drew _))
                have S0 : RowKit.Below wr.heap.size wr wr.drew := (Below.refl _ _).drew
                refine wpAnyH_take (i := 0) (v := .int .i64 (kk : Int)) rfl (by kernel_rfl) (by kernel_rfl) (by kernel_rfl) (fun _ _ _ h => h) (Or.inl ⟨by kernel_rfl, fun w hS => by go_simp⟩) S0 ?_
                simp only [Act.put, List.getElem_toArray, List.getElem_cons_succ, List.getElem_cons_zero, List.setIfInBounds_toArray, List.set_cons_zero, List.set_cons_succ]
                refine wpAnyH_take (i := 1) (v := .slice (some ⟨g', 0, none⟩) C.length vcap) rfl (by kernel_rfl) (by kernel_rfl) (by kernel_rfl) (fun _ _ _ h => h) (Or.inl ⟨by kernel_rfl, fun w hS => by go_simp⟩) S0 ?_
                simp only [Act.put, List.getElem_toArray, List.getElem_cons_succ, List.getElem_cons_zero, List.setIfInBounds_toArray, List.set_cons_zero, List.set_cons_succ]
                refine wpAnyH_take (i := 2) (v := .int .i64 (C.length : Int)) rfl (by kernel_rfl) (by kernel_rfl) (by kernel_rfl) (fun _ _ _ h => h) (Or.inl ⟨by kernel_rfl, fun w hS => by go_simp⟩) S0 ?_
                simp only [Act.put, List.getElem_toArray, List.getElem_cons_succ, List.getElem_cons_zero, List.setIfInBounds_toArray, List.set_cons_zero, List.set_cons_succ]
                refine wpAnyH_take (i := 3) (v := .bool false) rfl (by kernel_rfl) (by kernel_rfl) (by kernel_rfl) (fun _ _ _ h => h) (Or.inl ⟨by kernel_rfl, fun w hS => by go_simp⟩) S0 ?_
                simp only [Act.put, List.getElem_toArray, List.getElem_cons_succ, List.getElem_cons_zero, List.setIfInBounds_toArray, List.set_cons_zero, List.set_cons_succ]
                refine wpAnyH_take (i := 4) (v := .bool false) rfl (by kernel_rfl) (by kernel_rfl) (by kernel_rfl) (fun _ _ _ h => h) (Or.inl ⟨by kernel_rfl, fun w hS => by go_simp⟩) S0 ?_
                simp only [Act.put, List.getElem_toArray, List.getElem_cons_succ, List.getElem_cons_zero, List.setIfInBounds_toArray, List.set_cons_zero, List.set_cons_succ]
                refine wpAnyH_take (i := 5) (v := .slice (some ⟨g', 0, none⟩) C.length vcap) rfl (by kernel_rfl) (by kernel_rfl) (by kernel_rfl) (fun _ _ _ h => h) (Or.inl ⟨by kernel_rfl, fun w hS => by go_simp⟩) S0 ?_
                simp only [Act.put, List.getElem_toArray, List.getElem_cons_succ, List.getElem_cons_zero, List.setIfInBounds_toArray, List.set_cons_zero, List.set_cons_succ]
                refine wpAnyH_take (i := 6) (v := .int .i64 (kk : Int)) rfl (by kernel_rfl) (by kernel_rfl) (by kernel_rfl) (fun _ _ _ h => h) (Or.inl ⟨by kernel_rfl, fun w hS => by go_simp⟩) S0 ?_
                simp only [Act.put, List.getElem_toArray, List.getElem_cons_succ, List.getElem_cons_zero, List.setIfInBounds_toArray, List.set_cons_zero, List.set_cons_succ]
                refine wpAnyH_take (i := 7) (v := .pointer (some ⟨g', kk * 21, none⟩)) rfl (by kernel_rfl) (by kernel_rfl) (by kernel_rfl) (fun _ _ _ h => h) (Or.inl ⟨by kernel_rfl, fun w hS => by go_simp⟩) S0 ?_
                simp only [Act.put, List.getElem_toArray, List.getElem_cons_succ, List.getElem_cons_zero, List.setIfInBounds_toArray, List.set_cons_zero, List.set_cons_succ]
                refine wpAnyH_take (i := 8) (v := .agg (ndA x.val).toList.toArray) rfl (by kernel_rfl) (by kernel_rfl) (by kernel_rfl) (fun _ _ _ h => h) (yieldsIf_load_mid (by kernel_rfl) 32 (.tmp 143) rfl g' (kk * 21) rfl (ndA x.val).toList _ (fun w' hS i u hu => (hS.cell (lt_of_cell (R1.out i u hu))).trans (R1.out i u hu)) Yba.underlying32 rfl Yba.size32) S0 ?_
                simp only [Act.put, List.getElem_toArray, List.getElem_cons_succ, List.getElem_cons_zero, List.setIfInBounds_toArray, List.set_cons_zero, List.set_cons_succ]
                refine wpAnyH_take (i := 9) (v := .int .i64 (x.val : Int)) rfl (by kernel_rfl) (by kernel_rfl) (by kernel_rfl) (fun _ _ _ h => h) (Or.inl ⟨by kernel_rfl, fun w hS => by go_simp⟩) S0 ?_
                simp only [Act.put, List.getElem_toArray, List.getElem_cons_succ, List.getElem_cons_zero, List.setIfInBounds_toArray, List.set_cons_zero, List.set_cons_succ]
                refine wpAnyH_take (i := 10) (v := .int .u8 (x.val : Int)) rfl (by kernel_rfl) (by kernel_rfl) (by kernel_rfl) (fun _ _ _ h => h) (Or.inl ⟨by kernel_rfl, fun w hS => by go_simp⟩) S0 ?_
                simp only [Act.put, List.getElem_toArray, List.getElem_cons_succ, List.getElem_cons_zero, List.setIfInBounds_toArray, List.set_cons_zero, List.set_cons_succ]
                clear hwr
                refine wpAnyH_ready (rs := [11]) (by kernel_rfl) (by simp) ?_
                refine AllReadyH.cons rfl (fun K hK => ?_) AllReadyH.nil
                rw [if_pos (by kernel_rfl)]
                go_simp
                refine (node_any _ _).mono ?_
                rintro e w6 ⟨rfl, hb6⟩
                have S6 : RowKit.Below wr.heap.size wr w6 := S0.trans (hb6.mono (Nat.le_refl _))
                refine hK.out _ _ S6 (fun _ => ?_)
                clear hK K
                refine wpAnyH_ready (rs := [12]) (by kernel_rfl) (by simp) ?_
                refine AllReadyH.cons rfl (fun K hK => ?_) AllReadyH.nil
                rw [if_pos (by kernel_rfl)]
                refine wp_ne32 (.tmp 144) (.tmp 147) rfl x (by kernel_rfl) (by kernel_rfl) (hK.out _ _ S6 (fun _ => ?_))
                clear hK K
                simp only [Act.put, List.getElem_toArray, List.getElem_cons_succ, List.getElem_cons_zero, List.setIfInBounds_toArray, List.set_cons_zero, List.set_cons_succ]
                refine wpAnyH_ready (rs := [13]) (by kernel_rfl) (by simp) ?_
                refine AllReadyH.cons rfl (fun K hK => ?_) AllReadyH.nil
                rw [if_pos (by kernel_rfl)]
                go_simp
                refine hK.out _ _ S6 (fun _ => ?_)
                clear hK K
                refine wpAnyH_done (by kernel_rfl) ?_ _
                have HS6 := hide S6
                clear S6 S0 hb6
                go_wp2
                go_roundw
                case rel => exact ⟨x.val + 1, kk + 1, by omega, by omega, by go_num, by go_num, fun i h hi => by
                    rcases Nat.lt_or_ge i kk with h' | h'
                    · have := hlo i h h'; omega
                    · have e : i = kk := by omega
                      subst e; rw [hek]; omega, fun i h hi => by
                    have := List.pairwise_iff_getElem.1 HC.out kk i hlt3 h (by omega)
                    rw [hek] at this; omega, HBX.out.trans (HS6.out.mono HBX.out.size)⟩
                case measure => simp [intOf]; omega
            · have hbe : b = 256 := by omega
              subst hbe
              have hke : kk = C.length := by
                rcases Nat.lt_or_ge kk C.length with h | h
                · have := hhi kk h (Nat.le_refl _); have := C[kk].isLt; omega
                · omega
              obtain ⟨X, hX⟩ : ∃ x, x = wr := ⟨_, rfl⟩
              subst hX
              have HBX := hide hbX
              rw [hke]
              clear hbX hlo hhi hke
              go_wp2
              go_loopw [158] (fun i wx => ∃ k6 : Nat, k6 ≤ len ∧ i = .int .i64 k6 ∧ RowKit.Below W.heap.size W wx) (fun i _ => len - (intOf i).toNat)
              case atStart => exact ⟨0, Nat.zero_le _, rfl, HBX.out⟩
              case round =>
                obtain ⟨k6, hk6, rfl, hb6⟩ := hrel
                clear HBX
                by_cases hlt6 : k6 < len
                · obtain ⟨e1, e2, e3⟩ := HZ.out
                  rcases e3 with e | ⟨b, off, rfl, hc⟩
                  · omega
                  have hkZ : k6 < Z.length := by omega
                  obtain ⟨k0, k1, k2, k3, k4⟩ := hc k6 hkZ
                  have hlm : Z[k6].ms.length ≤ 4096 := Nat.le_trans (ms_le_sum Z k6 hkZ) hsZ
                  have HMB := hide (e2 k6 hkZ).2
                  have htp := (HTL.out k6 hkZ).1
                  have htel := (HTL.out k6 hkZ).2
                  generalize Z[k6] = z at k0 k1 k2 k3 k4 hlm HMB htel
                  generalize T k6 = tk at htp htel
                  have hbw : b < w.heap.size := lt_of_cell k0
                  have hb := HBW.out.trans (hb6.mono HBW.out.size)
                  have j0 := (hb.cell (p := ⟨b, off + k6 * 5, none⟩) hbw).trans k0
                  have j1 := (hb.cell (p := ⟨b, off + k6 * 5 + 1, none⟩) hbw).trans k1
                  have j2 := (hb.cell (p := ⟨b, off + k6 * 5 + 2, none⟩) hbw).trans k2
                  have j3 := (hb.cell (p := ⟨b, off + k6 * 5 + 3, none⟩) hbw).trans k3
                  have j4 := (hb.cell (p := ⟨b, off + k6 * 5 + 4, none⟩) hbw).trans k4
                  have htp' := (hb6.cell (lt_of_cell htp)).trans htp
                  have htel' := htel.below hb6
                  have HB6 := hide hb6; have HBW6 := hide hb
                  obtain ⟨zad, hzad⟩ : ∃ x, x = z.ad := ⟨_, rfl⟩
                  rw [← hzad] at HMB j4
                  clear hzad hb hb6 k0 k1 k2 k3 k4 hc e2 htp htel
                  go_upto_region 55 with fail
                  have HBV : Hid (RowKit.Below wr.heap.size wr (wr.alloc (.cells #[.int .u8 (z.id.val : Int), .bool z.told, .bool z.parent, .bool z.same, .slice zad z.ms.length z.cap] 25))) := (Below.refl _ _).alloc (Nat.le_refl _) _
                  have hVZ : (wr.alloc (.cells #[.int .u8 (z.id.val : Int), .bool z.told, .bool z.parent, .bool z.same, .slice zad z.ms.length z.cap] 25)).heap[wr.heap.size]? = some (.cells #[.int .u8 (z.id.val : Int), .bool z.told, .bool z.parent, .bool z.same, .slice zad z.ms.length z.cap] 25) := heap_alloc_new _ _
                  clear j0 j1 j2 j3 j4
                  generalize wr.alloc (.cells #[.int .u8 (z.id.val : Int), .bool z.told, .bool z.parent, .bool z.same, .slice zad z.ms.length z.cap] 25) = V at HBV hVZ ⊢
                  obtain ⟨w6, hw6⟩ : ∃ x, x = wr := ⟨_, rfl⟩
                  subst hw6
                  have f1 : V.cell? ⟨w6.heap.size, 1, none⟩ = some (.bool z.told) := by rw [cell_of_row _ _ 1 _ _ (0, 0) hVZ]; rfl
                  have f4 : V.cell? ⟨w6.heap.size, 4, none⟩ = some (.slice zad z.ms.length z.cap) := by rw [cell_of_row _ _ 4 _ _ (0, 0) hVZ]; rfl
                  have tp : V.cell? ⟨a + 3, k6 * 24 + 22, none⟩ = some (.pointer tk) := (HBV.out.cell (lt_of_cell htp')).trans htp'
                  have htel := htel'.below HBV.out
                  have HBVW : Hid (RowKit.Below W.heap.size W V) := HB6.out.trans (HBV.out.mono HB6.out.size)
                  clear hVZ htp' htel' HB6
                  rcases htel with ⟨ht, rfl⟩ | ⟨ht, tb, mb, c, rfl, _, _, q21, hrow⟩
                  · rw [ht] at f1
                    have HTD := hide ht
                    clear ht
                    go_wp2
                    go_roundw
                    case rel => exact ⟨k6 + 1, by omega, by go_num, HBVW.out⟩
                    case measure => simp [intOf]; omega
                  · rw [ht] at f1
                    have HTD := hide ht
                    have HROW := hide hrow
                    clear ht hrow
                    go_wp2
                    go_loopw [183] (fun i wx => ∃ j : Nat, j ≤ z.ms.length ∧ i = .int .i64 j ∧ RowKit.Below V.heap.size V wx) (fun i _ => z.ms.length - (intOf i).toNat)
                    case atStart => exact ⟨0, Nat.zero_le _, rfl, Below.refl _ _⟩
                    case round =>
                      obtain ⟨j, hj, rfl, hb7⟩ := hrel
                      clear f1 f4 tp q21
                      by_cases hjn : j < z.ms.length
                      · rcases HMB.out with e | ⟨b', off', rfl, hcells⟩
                        · rw [e] at hjn; simp at hjn
                        have jc := hcells j hjn
                        have hb' : b' < w.heap.size := lt_of_cell jc
                        have jc' : wr.cell? ⟨b', off' + j, none⟩ = some (.int .u8 (z.ms[j].val : Int)) := by
                          have h1 := (HBW6.out.cell (p := ⟨b', off' + j, none⟩) hb').trans jc
                          have h2 := (HBV.out.cell (p := ⟨b', off' + j, none⟩) (lt_of_cell h1)).trans h1
                          exact (hb7.cell (p := ⟨b', off' + j, none⟩) (lt_of_cell h2)).trans h2
                        have r1 := HROW.out j hjn
                        generalize z.ms[j] = x at jc' r1
                        have R1 : Hid (wr.rangeAt mb (j * 21) (ndA x.val).toList) := fun i u hu => (hb7.cell (lt_of_cell (r1 i u hu))).trans (r1 i u hu)
                        have HB7 := hide hb7
                        clear r1 jc hcells hb7
                        have bj : (j : Int) < (z.ms.length : Int) := by omega
                        go_upto_region 62 with fail
                        refine wp_region_held (S := RowKit.Below wr.heap.size wr) (by kernel_rfl) ?_
                        try (change wpAnyH _ _ _ _ _ _ _ _ (World.drew _))
                        have S0 : RowKit.Below wr.heap.size wr wr.drew := (Below.refl _ _).drew
                        refine wpAnyH_take (i := 0) (v := .slice (some ⟨mb, 0, none⟩) z.ms.length c) rfl (by kernel_rfl) (by kernel_rfl) (by kernel_rfl) (fun _ _ _ h => h) (Or.inl ⟨by kernel_rfl, fun w hS => by go_simp⟩) S0 ?_
                        simp only [Act.put, List.getElem_toArray, List.getElem_cons_succ, List.getElem_cons_zero, List.setIfInBounds_toArray, List.set_cons_zero, List.set_cons_succ]
                        refine wpAnyH_take (i := 1) (v := .int .i64 (j : Int)) rfl (by kernel_rfl) (by kernel_rfl) (by kernel_rfl) (fun _ _ _ h => h) (Or.inl ⟨by kernel_rfl, fun w hS => by go_simp⟩) S0 ?_
                        simp only [Act.put, List.getElem_toArray, List.getElem_cons_succ, List.getElem_cons_zero, List.setIfInBounds_toArray, List.set_cons_zero, List.set_cons_succ]
                        refine wpAnyH_take (i := 2) (v := .pointer (some ⟨mb, j * 21, none⟩)) rfl (by kernel_rfl) (by kernel_rfl) (by kernel_rfl) (fun _ _ _ h => h) (Or.inl ⟨by kernel_rfl, fun w hS => by go_simp⟩) S0 ?_
                        simp only [Act.put, List.getElem_toArray, List.getElem_cons_succ, List.getElem_cons_zero, List.setIfInBounds_toArray, List.set_cons_zero, List.set_cons_succ]
                        refine wpAnyH_take (i := 3) (v := .agg (ndA x.val).toList.toArray) rfl (by kernel_rfl) (by kernel_rfl) (by kernel_rfl) (fun _ _ _ h => h) (yieldsIf_load_mid (by kernel_rfl) 32 (.tmp 190) rfl mb (j * 21) rfl (ndA x.val).toList _ (fun w' hS i u hu => (hS.cell (lt_of_cell (R1.out i u hu))).trans (R1.out i u hu)) Yba.underlying32 rfl Yba.size32) S0 ?_
                        simp only [Act.put, List.getElem_toArray, List.getElem_cons_succ, List.getElem_cons_zero, List.setIfInBounds_toArray, List.set_cons_zero, List.set_cons_succ]
                        refine wpAnyH_take (i := 4) (v := .int .u8 (x.val : Int)) rfl (by kernel_rfl) (by kernel_rfl) (by kernel_rfl) (fun _ _ _ h => h) (Or.inl ⟨by kernel_rfl, fun w hS => by go_simp⟩) S0 ?_
                        simp only [Act.put, List.getElem_toArray, List.getElem_cons_succ, List.getElem_cons_zero, List.setIfInBounds_toArray, List.set_cons_zero, List.set_cons_succ]
                        refine wpAnyH_ready (rs := [5]) (by kernel_rfl) (by simp) ?_
                        refine AllReadyH.cons rfl (fun K hK => ?_) AllReadyH.nil
                        rw [if_pos (by kernel_rfl)]
                        go_simp
                        refine (node_any _ _).mono ?_
                        rintro e w8 ⟨rfl, hb8⟩
                        have S6 : RowKit.Below wr.heap.size wr w8 := S0.trans (hb8.mono (Nat.le_refl _))
                        refine hK.out _ _ S6 (fun _ => ?_)
                        clear hK K
                        refine wpAnyH_ready (rs := [6]) (by kernel_rfl) (by simp) ?_
                        refine AllReadyH.cons rfl (fun K hK => ?_) AllReadyH.nil
                        rw [if_pos (by kernel_rfl)]
                        refine wp_ne32 (.tmp 191) (.tmp 193) rfl x (by kernel_rfl) (by kernel_rfl) (hK.out _ _ S6 (fun _ => ?_))
                        clear hK K
                        simp only [Act.put, List.getElem_toArray, List.getElem_cons_succ, List.getElem_cons_zero, List.setIfInBounds_toArray, List.set_cons_zero, List.set_cons_succ]
                        refine wpAnyH_done (by kernel_rfl) ?_ _
                        have HS6 := hide S6
                        clear S6 S0 hb8
                        go_wp2
                        go_roundw
                        case rel => (repeat apply Exists.intro); refine ⟨?_, rfl⟩; exact ⟨j + 1, by omega, by go_num, HB7.out.trans (HS6.out.mono HB7.out.size)⟩
                        case measure => simp [intOf]; omega
                      · have HB7 := hide hb7
                        clear hb7
                        go_wp2
                        go_roundw
                        case rel => exact ⟨k6 + 1, by omega, by go_num, HBVW.out.trans (HB7.out.mono HBVW.out.size)⟩
                        case measure => simp [intOf]; omega
                · have HB6 := hide hb6
                  clear hb6
                  go_wp2
                  go_ret
                  exact ⟨rfl, HBW.out.trans (HB6.out.mono HBW.out.size)⟩
end Go.Proofs.Ybulkbmko
