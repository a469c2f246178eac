/-
  LawS3160BModel: (*Member).below.
-/
import Derived.Test.YbulkbmkoB4
import Derived.OrdersHeld
import Derived.Deep.RegionHeld
import Derived.Maps.AppendAt
import Derived.Deep.WholeRow
import Derived.Lib.SmallJoins
import Derived.OwnWalk
import Derived.Shelf.SlSortCmp.NoneTotal
namespace Go.Proofs.Ybulkbmko
open Go.RowKit Go.Lib Go.Sort
set_option linter.unusedVariables false
set_option linter.unusedSimpArgs false

/-- An input link. -/
structure Zl where
  id : B
  told : Bool
  parent : Bool
  same : Bool
  ms : List B
  ad : Option Addr
  cap : Nat
def Zl.kid (z : Zl) : Bool := z.told && z.parent && z.same
def Zl.out (z : Zl) : List B := if z.kid then z.id :: z.ms else []
def outL (Z : List Zl) : List B := Z.flatMap Zl.out
theorem outL_take (Z : List Zl) (k : Nat) (h : k < Z.length) : outL (Z.take (k + 1)) = outL (Z.take k) ++ Z[k].out := by
  unfold outL; rw [List.take_succ_eq_append_getElem h, List.flatMap_append]; simp only [List.flatMap_cons, List.flatMap_nil, List.append_nil]
theorem outL_take_le (Z : List Zl) (k : Nat) : (outL (Z.take k)).length ≤ (outL Z).length := by
  have : outL Z = outL (Z.take k) ++ outL (Z.drop k) := by
    unfold outL; rw [← List.flatMap_append, List.take_append_drop]
  rw [this, List.length_append]; omega
/-- What a link has told, as it lies in memory. -/
def tel (w : World) (least : B) (z : Zl) (t : Option Addr) : Prop :=
  (z.told = false ∧ t = none) ∨ (z.told = true ∧ ∃ tb mb c, t = some ⟨tb, 0, none⟩ ∧ (∀ j v, (idA (if z.same then 0 else 1) least.val).toList[j]? = some v → w.cell? ⟨tb, j, none⟩ = some v) ∧
    w.cell? ⟨tb, 20, none⟩ = some (.bool z.parent) ∧ w.cell? ⟨tb, 21, none⟩ = some (.slice (some ⟨mb, 0, none⟩) z.ms.length c) ∧ RowL w mb z.ms)
theorem tel.below {w w' : World} {least : B} {z : Zl} {t : Option Addr} (h : tel w least z t) (hb : Below w.heap.size w w') : tel w' least z t := by
  have ck : ∀ a v, w.cell? a = some v → w'.cell? a = some v := fun a v hv => (hb.cell (lt_of_cell hv)).trans hv
  rcases h with h | ⟨h, tb, mb, c, h1, h2, h3, h4, h5⟩
  · exact Or.inl h
  · exact Or.inr ⟨h, tb, mb, c, h1, fun j v hv => ck _ _ (h2 j v hv), ck _ _ h3, ck _ _ h4, fun j hj i v hv => ck _ _ (h5 j hj i v hv)⟩
theorem child_any (W : World) (mb : Nat) (least : B) (z : Zl) (t : Option Addr) (h : tel W least z t) (hm : ∀ j v, (idA 0 least.val).toList[j]? = some v → W.cell? ⟨mb, 105 + j, none⟩ = some v) :
    Calls Yba.prog 7 #[.pointer (some ⟨mb, 0, none⟩), .agg (lkA z.id.val t)] W fun e w' => e = .returned (.bool z.kid) ∧ Below W.heap.size W w' := by
  have bl := least.isLt
  rcases h with ⟨h, rfl⟩ | ⟨h, tb, mb', c, rfl, h2, h3, h4, h5⟩
  · have : z.kid = false := by simp [Zl.kid, h]
    rw [this]; exact child_none W _ _
  · cases hp : z.parent
    · have : z.kid = false := by simp [Zl.kid, hp]
      rw [this]; rw [hp] at h3; exact child_no W _ _ tb h3
    · rw [hp] at h3
      refine (child_yes W mb z.id.val tb (if z.same then 0 else 1) least.val least.val (by split <;> omega) (by omega) (by omega) h3 h2 hm).mono ?_
      rintro e w' ⟨rfl, hb⟩
      refine ⟨?_, hb⟩
      cases hs : z.same <;> simp [Zl.kid, h, hp, hs]
def rowN (L : List B) : List Value := L.flatMap encB
theorem rowN_app (L M : List B) : rowN (L ++ M) = rowN L ++ rowN M := by simp [rowN]
theorem rowN_one (x : B) : rowN [x] = encB x := by simp [rowN]
theorem rowN_len : ∀ (L : List B), (rowN L).length = L.length * 21
  | [] => rfl
  | x :: L => by
    show (encB x ++ rowN L).length = _
    rw [List.length_append, len_encB, rowN_len L, List.length_cons]; omega
theorem rowN_get : ∀ (L : List B) (j i : Nat) (h : j < L.length) (hi : i < 21), (rowN L)[j * 21 + i]? = (encB L[j])[i]?
  | [], j, i, h, hi => by cases h
  | x :: L, 0, i, h, hi => by
    show (encB x ++ rowN L)[0 * 21 + i]? = _
    rw [List.getElem?_append_left (by rw [len_encB]; omega)]; simp
  | x :: L, j + 1, i, h, hi => by
    show (encB x ++ rowN L)[(j + 1) * 21 + i]? = _
    rw [List.getElem?_append_right (by rw [len_encB]; omega)]
    rw [show (j + 1) * 21 + i - (encB x).length = j * 21 + i by rw [len_encB]; omega]
    rw [rowN_get L j i (by simpa using h) hi]; rfl
theorem one_rowN (L : List B) : ∀ u ∈ rowN L, u.oneCell' = true := by
  intro u hu
  obtain ⟨x, _, hx⟩ := List.mem_flatMap.1 hu
  exact one_ndA _ u hx
/-- A row by elements, as a run of cells. -/
theorem RowL.cells {w : World} {g : Nat} {L : List B} (h : RowL w g L) : ∀ j u, (rowN L)[j]? = some u → w.cell? ((⟨g, 0, none⟩ : Addr).add j) = some u := by
  intro j u hu
  rw [Addr.add_mid, Nat.zero_add]
  have hj : j < L.length * 21 := by rw [← rowN_len]; exact (List.getElem?_eq_some_iff.1 hu).1
  have e : j = j / 21 * 21 + j % 21 := by omega
  have hq : j / 21 < L.length := by omega
  rw [e] at hu ⊢
  rw [rowN_get L (j / 21) (j % 21) hq (by omega)] at hu
  exact h (j / 21) hq (j % 21) u hu
theorem rowL_of_cells {w : World} {g : Nat} {L : List B} (h : ∀ j u, (rowN L)[j]? = some u → w.cell? ⟨g, j, none⟩ = some u) : RowL w g L := by
  intro j hj i v hv
  have hi : i < 21 := by have := (List.getElem?_eq_some_iff.1 hv).1; rwa [len_encB] at this
  exact h _ _ (by rw [rowN_get L j i hj hi]; exact hv)
theorem gb_step {a b c : World} {r r' : Option Nat} (h : a.grownBy b r) (k : b.grownBy c r') (hr : r' = r ∨ ∃ n, r' = some n ∧ a.heap.size ≤ n) : a.grownBy c r :=
  ⟨k.os.trans h.os, k.tape.trans h.tape, k.output.trans h.output, Nat.le_trans h.size k.size, fun i hi hne => (k.block i (Nat.lt_of_lt_of_le hi h.size) (by
    rcases hr with rfl | ⟨n, rfl, hn⟩
    · exact hne
    · intro e; cases e; omega)).trans (h.block i hi hne)⟩
theorem gb_below {w w' : World} (h : Below w.heap.size w w') (r : Option Nat) : w.grownBy w' r := ⟨h.os, h.tape, h.output, h.size, fun k hk _ => h.block k hk⟩
theorem wpList_store_new {P : Program} {ops : Array Oper} {rest : List Oper} {o : Oper} {a : Act} {w : World} {Q : Exit → Act → World → Prop} (hgd : o.guard = none) (ty : TypeId) (x y : Operand) (ho : o.op = .store ty x y)
    (cs : Array Value) (old : Array Value) (t : TypeId) (hx : a.eval x = .pointer (some ⟨w.heap.size, 0, none⟩)) (hy : a.eval y = .agg cs) (hs : old.size = cs.size)
    (h1 : ∀ v ∈ cs.toList, v.oneCell' = true) (hi : (P.info? ty).map (·.size) = some cs.size)
    (h : wpList P ops Q rest (a.put o.dst undef) (w.alloc (.cells cs t))) : wpList P ops Q (o :: rest) a (w.alloc (.cells old t)) :=
  wpList_store_row hgd ty x y ho w.heap.size hx cs hy old t (heap_alloc_new _ _) hs h1 hi (by rw [World.setRow_alloc_new]; exact h)
theorem one_lkA (x : Int) (t : Option Addr) : ∀ v ∈ (lkA x t).toList, v.oneCell' = true := by
  intro v hv
  simp [lkA, ndA] at hv; rcases hv with rfl | rfl | rfl | rfl | rfl | rfl <;> rfl
theorem Yba.info32 : (Yba.prog.info? 32).map (fun i => (i.zero, i.size, i.bytes)) = some (some (.agg ndZ), 21, 40) := by kernel_rfl
theorem wp_append_own_at {P : Program} {w : World} {o : Oper} {a : Act} {K : Act → World → Prop} {Q : Exit → Act → World → Prop} (s x : Operand) (t : TypeId)
    (ho : o.op = .call { callee := .builtin .append, args := #[s, x], argTypes := #[t, t] })
    (base : Nat) (e : TypeId) (i : TypeInfo) (z : Value) (size bytes : Nat) (ht : P.underlying t = some (.slice e)) (hi : P.info? e = some i) (hz : i.zero = some z)
    (hsize : i.size = size) (hby : i.bytes = bytes) (hzs : z.cells.size = size) (hsz : 0 < size)
    (v : Value) (n : Nat) (xs : List Value) (hs : a.eval s = v) (hown : w.ownsRow base e size v n xs)
    (ad : Addr) (m c : Nat) (news : List Value) (hx : a.eval x = .slice (some ad) m c) (hl : news.length = m * size) (hnews : ∀ j u, news[j]? = some u → w.cell? (ad.add j) = some u) (h1 : ∀ u ∈ news, u.oneCell' = true)
    (h63 : n + m ≤ maxLen) (hbytes : (n + m) * bytes ≤ 140737488355328) (hbase : base ≤ w.heap.size)
    (h : ∀ v' w', w'.ownsRow base e size v' (n + m) (xs ++ news) → w.grownBy w' v.ownBlock → (v'.ownBlock = v.ownBlock ∨ v'.ownBlock = some w.heap.size) → K (a.put o.dst v') w') :
    o.wp P a w K Q := by
  obtain ⟨v', w', hr, h2, h3, h4, h5⟩ := run_append_own_at (P := P) w base t o.type e i z size bytes ht hi hz hsize hby hzs hsz v n xs hown ad m c news hl hnews h1 h63 hbytes hbase
  unfold Oper.wp execOp
  simp only [ho, resolve, invoke, builtin, Sem.run_bind, Sem.run_pure, Result.andThen_ok, List.map_toArray, List.map_cons, List.map_nil, hs, hx, hr]
  exact h v' w' h2 h3 h5
theorem build37 (x : B) (w : World) : (Instr.buildSlice 37 1 #[(0, .agg (encB x).toArray)]).run Yba.prog w = .ok (.slice (some ⟨w.heap.size, 0, none⟩) 1 1) (w.alloc (.cells (encB x).toArray 32)) := by kernel_rfl
theorem wp_build {P : Program} {w w' : World} {o : Oper} {a : Act} {K : Act → World → Prop} {Q : Exit → Act → World → Prop} (t : TypeId) (n : Nat) (ps : Array (Nat × Operand)) (ho : o.op = .buildSlice t n ps) (vs : Array (Nat × Value)) (hv : (ps.map fun (i, x) => (i, a.eval x)) = vs)
    (v : Value) (hr : (Instr.buildSlice t n vs).run P w = .ok v w') (h : K (a.put o.dst v) w') : o.wp P a w K Q := by
  unfold Oper.wp execOp
  simp only [ho, hv, Sem.run_bind, Sem.run_pure, Result.andThen_ok, hr]
  exact h
theorem grown_drew (w : World) (r : Option Nat) : w.grownBy w.drew r := ⟨rfl, rfl, rfl, Nat.le_refl _, fun _ _ _ => rfl⟩
theorem own_drew {w : World} {base e size n : Nat} {v : Value} {xs : List Value} (h : w.ownsRow base e size v n xs) : w.drew.ownsRow base e size v n xs := h
theorem HoldsK.cells' {w : World} {g : Nat} {d : Array B} (h : HoldsK encB 21 w g 0 d) {j : Nat} (hj : j < d.size) : ∀ c v, (encB d[j]!)[c]? = some v → w.cell? ⟨g, j * 21 + c, none⟩ = some v := fun c v hv => by
  have hc : c < 21 := by have := (List.getElem?_eq_some_iff.1 hv).1; rwa [len_encB] at this
  have := (h.cell hj hc).1
  rw [Nat.zero_add] at this
  rw [this, getElem!_pos _ c (by rw [len_encB]; exact hc)]
  rw [List.getElem?_eq_getElem (by rw [len_encB]; exact hc)] at hv
  exact hv
theorem holdsK_of_own {w : World} {base g cap : Nat} {L : List B} (hown : w.ownsRow base 32 21 (.slice (some ⟨g, 0, none⟩) L.length cap) L.length (rowN L)) : HoldsK encB 21 w g 0 L.toArray := by
  obtain ⟨_, h⟩ := hown
  rcases h with ⟨h, _⟩ | ⟨g', cap', cur, h, _, hh, _, _, _, ht⟩
  · cases h
  · cases h
    intro j hj
    rw [size_flatK] at hj
    have hj' : j < L.length * 21 := by simpa using hj
    refine ⟨?_, by simp [World.frozen?, hh]⟩
    rw [Nat.zero_add, cell_of_row _ _ j cur 32 (0, 0) hh, get_flatK _ _ _ j hj]
    have hq : j / 21 < L.length := by omega
    have e : cur[j]? = (rowN L)[j]? := by
      rw [← ht, List.getElem?_take_of_lt hj']; simp
    have e2 : (rowN L)[j]? = (encB L[j / 21])[j % 21]? := by
      rw [← rowN_get L (j / 21) (j % 21) hq (by omega)]
      rw [show j / 21 * 21 + j % 21 = j by omega]
    rw [e, e2]
    have hm : j % 21 < (encB L[j / 21]).length := by rw [len_encB]; omega
    rw [List.getElem?_eq_getElem hm]
    have e3 : L.toArray[j / 21]! = L[j / 21] := by rw [getElem!_pos _ _ (by simpa using hq)]; simp
    rw [e3, getElem!_pos (encB L[j / 21]) (j % 21) hm]; rfl
theorem grownBy_sortK {w : World} {g n : Nat} {d : Array B} {os : Array Obj} : w.grownBy (sortWorldK encB 21 w g 0 n d os) (some g) := by
  unfold sortWorldK putRowK
  refine ⟨rfl, rfl, rfl, by simp [grow, putRow, mapBlock, Sort.ahead], fun k hk hne => ?_⟩
  have hb : g ≠ k := fun e => hne (by rw [e])
  rw [heap_grow_old _ _ (by simpa [putRow, mapBlock, Sort.ahead] using hk)]
  simp [putRow, mapBlock, Sort.ahead, Array.getElem?_modify, hb]
theorem sort_own (w : World) (base g cap : Nat) (L : List B) (hown : w.ownsRow base 32 21 (.slice (some ⟨g, 0, none⟩) L.length cap) L.length (rowN L)) (hl : L.length ≤ 8192) :
    Calls Yba.prog 8 #[.slice (some ⟨g, 0, none⟩) L.length cap, .func (.func 9) #[] #[]] w fun e w' => e = .returned (.tuple #[]) ∧ ∃ L', L'.Perm L ∧ L'.Pairwise (fun a b => a.val ≤ b.val) ∧ RowL w' g L' ∧ w'.there g 0 (L'.length * 21) ∧ w.grownBy w' (some g) := by
  have hH := holdsK_of_own hown
  have hg : g < w.heap.size := (hown.lt g rfl).2
  refine (sort_any g 0 cap L.toArray w hH hg (by simp; omega)).mono ?_
  rintro e w' ⟨rfl, d', n, os, ⟨hs, _, hp⟩, hsort, rfl⟩
  have hH' : HoldsK encB 21 (sortWorldK encB 21 w g 0 n d' os) g 0 d' := holdsK_sortWorldK encB 21 w g 0 n L.toArray d' os hg hH hs
  refine ⟨rfl, d'.toList, ?_, ?_, ?_, ?_, grownBy_sortK⟩
  · have e1 : d'.extract 0 L.toArray.size = d' := by rw [← hs]; simp
    have e2 : L.toArray.extract 0 L.toArray.size = L.toArray := by simp
    rw [e1, e2] at hp; simpa using hp
  · rw [List.pairwise_iff_getElem]
    intro i j hi hj hij
    have hi' : i < d'.size := by simpa using hi
    have hj' : j < d'.size := by simpa using hj
    have := hsort i j (Nat.zero_le _) hij (by omega)
    rw [getElem!_pos d' i hi', getElem!_pos d' j hj', ltB] at this
    simp at this
    simpa using this
  · intro j hj i v hv
    have hj' : j < d'.size := by simpa using hj
    have := HoldsK.cells' hH' hj' i v (by rw [getElem!_pos d' j hj']; simpa using hv)
    exact this
  · intro j hj
    have hj' : j < d'.size * 21 := by simpa using hj
    have := hH' j (by rw [size_flatK]; exact hj')
    exact ⟨by rw [this.1]; rfl, this.2⟩
theorem sort_nil (w : World) : Calls Yba.prog 8 #[.slice none 0 0, .func (.func 9) #[] #[]] w fun e w' => e = .returned (.tuple #[]) ∧ w' = w :=
  AnyF.slices_SortFunc_none Yba.sortNd none 0 _ w
/-- The links, as they lie in memory. -/
def LR (w : World) (g : Nat) (least : B) (Z : List Zl) (T : Nat → Option Addr) : Prop :=
  ∀ j (h : j < Z.length), w.rangeAt g (j * 24) (lkA Z[j].id.val (T j)).toList ∧ tel w least Z[j] (T j)
/-- What below hands back. -/
def Got (w : World) (v : Value) (C : List B) : Prop := (v = .slice none 0 0 ∧ C = []) ∨ ∃ g cap, v = .slice (some ⟨g, 0, none⟩) C.length cap ∧ RowL w g C
set_option maxHeartbeats 4000000 in
set_option maxRecDepth 100000 in
theorem below_any (w : World) (mb g cap : Nat) (least : B) (Z : List Zl) (T : Nat → Option Addr) (h1 : w.cell? ⟨mb, 134, none⟩ = some (.slice (some ⟨g, 0, none⟩) Z.length cap))
    (h2 : ∀ j v, (idA 0 least.val).toList[j]? = some v → w.cell? ⟨mb, 105 + j, none⟩ = some v) (h3 : LR w g least Z T) (hl : Z.length ≤ 512) (hn : (outL Z).length ≤ 8192) :
    Calls Yba.prog 6 #[.pointer (some ⟨mb, 0, none⟩)] w fun e w' => ∃ v C, e = .returned v ∧ C.Pairwise (fun a b => a.val < b.val) ∧ (∀ x, x ∈ C ↔ x ∈ outL Z) ∧ Got w' v C ∧ Below w.heap.size w w' := by
  obtain ⟨i32, hi, hz0, hz1, hz2⟩ := info_parts Yba.info32
  have H2 := hide h2; have H3 := hide h3
  clear h2 h3
  go_enter Yba.func6, Yba.ntmps6
  go_wp2
  clear h1
  go_loopw [3, 11] (fun v i wr => ∃ k : Nat, k ≤ Z.length ∧ i = .int .i64 k ∧ wr.ownsRow w.heap.size 32 21 v (outL (Z.take k)).length (rowN (outL (Z.take k))) ∧ Below w.heap.size w wr) (fun _ i _ => Z.length - (intOf i).toNat)
  case atStart => exact ⟨0, Nat.zero_le _, rfl, World.ownsRow_nil _ _ _ _, Below.refl _ _⟩
  case round =>
    obtain ⟨k, hk, rfl, hown, hb⟩ := hrel
    by_cases hlt : k < Z.length
    · obtain ⟨r1, htel⟩ := H3.out k hlt
      have HOUT : Hid (outL (Z.take (k + 1)) = outL (Z.take k) ++ Z[k].out) := outL_take Z k hlt
      have HLEN : Hid ((outL (Z.take (k + 1))).length ≤ 8192) := Nat.le_trans (outL_take_le Z (k + 1)) hn
      have R1 : Hid (∀ j v, (lkA Z[k].id.val (T k)).toList[j]? = some v → wr.cell? ⟨g, k * 24 + j, none⟩ = some v) := fun j v hv => (hb.cell (lt_of_cell (r1 j v hv))).trans (r1 j v hv)
      have TELW := hide htel
      have TEL : Hid (tel wr least Z[k] (T k)) := htel.below ⟨hb.os, hb.tape, hb.output, hb.size, hb.block⟩
      have HM : Hid (∀ j v, (idA 0 least.val).toList[j]? = some v → wr.cell? ⟨mb, 105 + j, none⟩ = some v) := fun j v hv => (hb.cell (lt_of_cell (H2.out j v hv))).trans (H2.out j v hv)
      clear r1 htel
      generalize Z[k] = z at HOUT R1 TEL TELW
      generalize T k = tk at R1 TEL TELW
      generalize outL (Z.take k) = O at HOUT hown
      have HO := hide hown; have HB := hide hb
      clear hown hb
      have bk : (k : Int) < (Z.length : Int) := by omega
      go_upto_region 4 with fail
      go_upto_region 5 with (first
        | refine wpList_load_cells rfl 36 _ rfl g (k * 24) rfl (lkA z.id.val tk).toList _ R1.out Yba.underlying36 rfl Yba.size36 ?_
        | refine wpList_store_new rfl 36 _ _ rfl (lkA z.id.val tk) _ 36 rfl rfl rfl (one_lkA _ _) Yba.size36 ?_)
      have HV : Hid ((wr.alloc (.cells (lkA z.id.val tk) 36)).heap[wr.heap.size]? = some (.cells (lkA z.id.val tk) 36)) := heap_alloc_new _ _
      have HBV : Hid (RowKit.Below wr.heap.size wr (wr.alloc (.cells (lkA z.id.val tk) 36))) := (Below.refl _ _).alloc (Nat.le_refl _) _
      clear R1
      generalize wr.alloc (.cells (lkA z.id.val tk) 36) = V at HV HBV ⊢
      have HMV : Hid (∀ j v, (idA 0 least.val).toList[j]? = some v → V.cell? ⟨mb, 105 + j, none⟩ = some v) := fun j v hv => (HBV.out.cell (lt_of_cell (HM.out j v hv))).trans (HM.out j v hv)
      clear HM
      have CH : Hid (Calls Yba.prog 7 #[.pointer (some ⟨mb, 0, none⟩), .agg (lkA z.id.val tk)] V fun e w' => e = .returned (.bool z.kid) ∧ RowKit.Below V.heap.size V w') := child_any V mb least z tk (TEL.out.below HBV.out) HMV.out
      clear HMV
      cases hkid : z.kid
      · rw [hkid] at CH
        have HOUT' : Hid (outL (Z.take (k + 1)) = O) := hide (by rw [HOUT.out, Zl.out, hkid]; simp)
        go_upto_region 7 with (first
          | refine wpList_load_row rfl 36 _ rfl wr.heap.size rfl 36 (lkA z.id.val tk) (0, 0) _ HV.out Yba.underlying36 rfl Yba.size36 ?_
          | (go_at_call 7; refine CH.out.mono ?_; rintro e w1 ⟨rfl, hb1⟩))
        have hb2 := HBV.out.trans (hb1.mono HBV.out.size)
        have HB2 := hide hb2
        clear hb1 hb2
        go_wp2
        go_roundw
        case rel => exact ⟨k + 1, by omega, by go_num, by rw [HOUT'.out]; exact HO.out.kept (gb_below HB2.out none) (by cases u3.ownBlock <;> simp), HB.out.trans (HB2.out.mono HB.out.size)⟩
        case measure => simp [intOf]; omega
      · rw [hkid] at CH
        have HOUT' : Hid (outL (Z.take (k + 1)) = O ++ z.id :: z.ms) := hide (by rw [HOUT.out, Zl.out, hkid]; simp)
        clear HOUT
        go_upto_region 6 with (first
          | refine wpList_load_row rfl 36 _ rfl wr.heap.size rfl 36 (lkA z.id.val tk) (0, 0) _ HV.out Yba.underlying36 rfl Yba.size36 ?_
          | (go_at_call 7; refine CH.out.mono ?_; rintro e w1 ⟨rfl, hb1⟩))
        have hb2 := HBV.out.trans (hb1.mono HBV.out.size)
        have HB2 := hide hb2
        rcases TELW.out with ⟨ht, _⟩ | ⟨ht, tb, mbk, c, rfl, _, _, q21, hrow⟩
        · simp [Zl.kid, ht] at hkid
        have hbw1 : RowKit.Below w.heap.size w w1 := HB.out.trans (hb2.mono HB.out.size)
        have HBW1 := hide hbw1
        have q21' : w1.cell? ⟨tb, 21, none⟩ = some (.slice (some ⟨mbk, 0, none⟩) z.ms.length c) := (hbw1.cell (lt_of_cell q21)).trans q21
        have hH1 : w1.heap[wr.heap.size]? = some (.cells (lkA z.id.val (some ⟨tb, 0, none⟩)) 36) := (hb1.block _ (lt_of_heap HV.out)).trans HV.out
        have hO1 : w1.ownsRow w.heap.size 32 21 u3 O.length (rowN O) := HO.out.kept (gb_below HB2.out none) (by cases u3.ownBlock <;> simp)
        have hne : ∀ b, u3.ownBlock = some b → w.heap.size ≤ b ∧ b < wr.heap.size := HO.out.lt
        have K21 : Hid (∀ w', w1.grownBy w' u3.ownBlock → w'.cell? ⟨tb, 21, none⟩ = some (.slice (some ⟨mbk, 0, none⟩) z.ms.length c)) := fun w' hg => hg.cell q21' (fun e => by have := hne _ e.symm; have := lt_of_cell q21; dsimp only at *; omega)
        have c1 : ∀ j u, (lkA z.id.val (some ⟨tb, 0, none⟩)).toList[j]? = some u → w1.cell? ⟨wr.heap.size, j, none⟩ = some u := fun j u hu => row_cells' hH1 j u hu
        have K22 : Hid (∀ w', w1.grownBy w' u3.ownBlock → w'.cell? ⟨wr.heap.size, 22, none⟩ = some (.pointer (some ⟨tb, 0, none⟩))) := fun w' hg => hg.cell (c1 22 _ rfl) (fun e => by have := hne _ e.symm; dsimp only at *; omega)
        have K0 : Hid (∀ w', w1.grownBy w' u3.ownBlock → w'.rangeAt wr.heap.size 0 (encB z.id)) := fun w' hg j u hu => hg.cell (by
            rw [Nat.zero_add]
            refine c1 j u ?_
            have hj : j < 21 := by have := (List.getElem?_eq_some_iff.1 hu).1; rwa [len_encB] at this
            show ((ndA z.id.val).toList ++ _)[j]? = some u
            rw [List.getElem?_append_left (by exact hj)]; exact hu) (fun e => by have := hne _ e.symm; dsimp only at *; omega)
        have KM : Hid (∀ w', w1.grownBy w' u3.ownBlock → RowL w' mbk z.ms) := fun w' hg j hj i v hv => hg.cell ((hbw1.cell (lt_of_cell (hrow j hj i v hv))).trans (hrow j hj i v hv)) (fun e => by have := hne _ e.symm; have := lt_of_cell (hrow j hj i v hv); dsimp only at *; omega)
        have HO1 := hide hO1; have HNE := hide hne
        clear HV HBV CH TEL TELW hb1 hb2 q21 hrow ht hbw1 q21' hH1 hO1 hne c1
        refine wp_region_held (S := fun w' => w1.grownBy w' u3.ownBlock) (by kernel_rfl) ?_
        try (change wpAnyH _ _ _ _ _ _ _ _ (World.drew _))
        have S0 : w1.grownBy w1.drew u3.ownBlock := ⟨rfl, rfl, rfl, Nat.le_refl _, fun _ _ _ => rfl⟩
        refine wpAnyH_take (i := 0) (v := u3) rfl (by kernel_rfl) (by kernel_rfl) (by kernel_rfl) (fun _ _ _ h => h) (Or.inl ⟨by rfl, fun w hS => rfl⟩) S0 ?_
        refine wpAnyH_take (i := 1) (v := .pointer (some ⟨wr.heap.size, 0, none⟩)) rfl (by kernel_rfl) (by kernel_rfl) (by kernel_rfl) (fun _ _ _ h => h) (Or.inl ⟨by rfl, fun w hS => by go_simp⟩) S0 ?_
        simp only [Act.put, List.setIfInBounds_toArray, List.set_cons_zero, List.set_cons_succ]
        refine wpAnyH_take (i := 2) (v := .agg (encB z.id).toArray) rfl (by kernel_rfl) (by kernel_rfl) (by kernel_rfl) (fun _ _ _ h => h) (yieldsIf_load_mid (by rfl) 32 _ rfl wr.heap.size 0 rfl (encB z.id) _ K0.out Yba.underlying32 rfl Yba.size32) S0 ?_
        refine wpAnyH_take (i := 5) (v := .pointer (some ⟨wr.heap.size, 22, none⟩)) rfl (by kernel_rfl) (by kernel_rfl) (by kernel_rfl) (fun _ _ _ h => h) (Or.inl ⟨by rfl, fun w hS => by go_simp⟩) S0 ?_
        simp only [Act.put, List.setIfInBounds_toArray, List.set_cons_zero, List.set_cons_succ]
        refine wpAnyH_take (i := 6) (v := .pointer (some ⟨tb, 0, none⟩)) rfl (by kernel_rfl) (by kernel_rfl) (by kernel_rfl) (fun _ _ _ h => h) (Or.inl ⟨by rfl, fun w hS => by have k := K22.out w hS; go_simp⟩) S0 ?_
        simp only [Act.put, List.setIfInBounds_toArray, List.set_cons_zero, List.set_cons_succ]
        refine wpAnyH_take (i := 7) (v := .pointer (some ⟨tb, 0, none⟩)) rfl (by kernel_rfl) (by kernel_rfl) (by kernel_rfl) (fun _ _ _ h => h) (Or.inl ⟨by rfl, fun w hS => by go_simp⟩) S0 ?_
        simp only [Act.put, List.setIfInBounds_toArray, List.set_cons_zero, List.set_cons_succ]
        refine wpAnyH_take (i := 8) (v := .pointer (some ⟨tb, 21, none⟩)) rfl (by kernel_rfl) (by kernel_rfl) (by kernel_rfl) (fun _ _ _ h => h) (Or.inl ⟨by rfl, fun w hS => by go_simp⟩) S0 ?_
        simp only [Act.put, List.setIfInBounds_toArray, List.set_cons_zero, List.set_cons_succ]
        refine wpAnyH_take (i := 9) (v := .slice (some ⟨mbk, 0, none⟩) z.ms.length c) rfl (by kernel_rfl) (by kernel_rfl) (by kernel_rfl) (fun _ _ _ h => h) (Or.inl ⟨by rfl, fun w hS => by have k := K21.out w hS; go_simp⟩) S0 ?_
        simp only [Act.put, List.setIfInBounds_toArray, List.set_cons_zero, List.set_cons_succ]
        refine wpAnyH_ready (rs := [3]) (by kernel_rfl) (by simp) ?_
        refine AllReadyH.cons rfl (fun K hK => ?_) AllReadyH.nil
        rw [if_pos (by kernel_rfl)]
        refine wp_build 37 1 _ rfl #[(0, .agg (encB z.id).toArray)] (by kernel_rfl) _ (build37 z.id _) ?_
        have S1 : w1.grownBy (w1.drew.alloc (.cells (encB z.id).toArray 32)) u3.ownBlock := gb_trans (grown_drew _ _) (World.grownBy_alloc _ _ _)
        refine hK.out _ _ S1 (fun _ => ?_)
        clear hK K
        simp only [Act.put, List.setIfInBounds_toArray, List.set_cons_zero, List.set_cons_succ]
        have HO2 : Hid ((w1.drew.alloc (.cells (encB z.id).toArray 32)).ownsRow w.heap.size 32 21 u3 O.length (rowN O)) := (own_drew HO1.out).alloc _
        have HN2 : Hid (∀ j u, (encB z.id)[j]? = some u → (w1.drew.alloc (.cells (encB z.id).toArray 32)).cell? ((⟨w1.drew.heap.size, 0, none⟩ : Addr).add j) = some u) := fun j u hu => by
          rw [Addr.add_mid, Nat.zero_add]
          exact row_cells' (heap_alloc_new w1.drew (.cells (encB z.id).toArray 32)) j u hu
        have hsz : w1.heap.size < (w1.drew.alloc (.cells (encB z.id).toArray 32)).heap.size := by show w1.heap.size < (w1.heap.push _).size; simp
        generalize w1.drew.alloc (.cells (encB z.id).toArray 32) = W2 at S1 HO2 HN2 hsz ⊢
        have hlen := HLEN.out
        rw [HOUT'.out] at hlen
        simp only [List.length_append, List.length_cons] at hlen
        have hw2 : w.heap.size ≤ W2.heap.size := Nat.le_trans HBW1.out.size S1.size
        refine wpAnyH_ready (rs := [4]) (by kernel_rfl) (by simp) ?_
        refine AllReadyH.cons rfl (fun K hK => ?_) AllReadyH.nil
        rw [if_pos (by kernel_rfl)]
        simp only [List.getElem_toArray, List.getElem_cons_succ, List.getElem_cons_zero]
        refine wp_append_own_at (.tmp 18) (.tmp 21) 37 rfl w.heap.size 32 i32 (.agg ndZ) 21 40 Yba.underlying37 hi hz0 hz1 hz2 (by kernel_rfl) (by decide) u3 O.length (rowN O) (by kernel_rfl) HO2.out ⟨w1.drew.heap.size, 0, none⟩ 1 1 (encB z.id) (by kernel_rfl) (by kernel_rfl) HN2.out (one_ndA _) (by unfold maxLen; omega) (by omega) hw2 ?_
        intro v3 W3 hO3 hg3 hat3
        have S3 := gb_step S1 hg3 (Or.inl rfl)
        refine hK.out _ _ S3 (fun _ => ?_)
        clear hK K
        simp only [Act.put, List.setIfInBounds_toArray, List.set_cons_zero, List.set_cons_succ]
        have hw3 : w.heap.size ≤ W3.heap.size := Nat.le_trans hw2 hg3.size
        refine wpAnyH_ready (rs := [10]) (by kernel_rfl) (by simp) ?_
        refine AllReadyH.cons rfl (fun K hK => ?_) AllReadyH.nil
        rw [if_pos (by kernel_rfl)]
        simp only [List.getElem_toArray, List.getElem_cons_succ, List.getElem_cons_zero]
        refine wp_append_own_at (.tmp 22) (.tmp 27) 37 rfl w.heap.size 32 i32 (.agg ndZ) 21 40 Yba.underlying37 hi hz0 hz1 hz2 (by kernel_rfl) (by decide) v3 _ _ (by kernel_rfl) hO3 ⟨mbk, 0, none⟩ z.ms.length c (rowN z.ms) (by kernel_rfl) (rowN_len _) (KM.out _ S3).cells (one_rowN _) (by unfold maxLen; omega) (by omega) hw3 ?_
        intro v4 W4 hO4 hg4 hat4
        have S4 : w1.grownBy W4 u3.ownBlock := gb_step S3 hg4 (by
          rcases hat3 with e | e
          · exact Or.inl e
          · exact Or.inr ⟨_, e, by have := S1.size; omega⟩)
        refine hK.out _ _ S4 (fun _ => ?_)
        clear hK K
        simp only [Act.put, List.setIfInBounds_toArray, List.set_cons_zero, List.set_cons_succ]
        refine wpAnyH_ready (rs := [11]) (by kernel_rfl) (by simp) ?_
        refine AllReadyH.cons rfl (fun K hK => ?_) AllReadyH.nil
        rw [if_pos (by kernel_rfl)]
        go_simp
        refine hK.out _ _ S4 (fun _ => ?_)
        clear hK K
        refine wpAnyH_done (by kernel_rfl) ?_ _
        have HFIN : Hid (W4.ownsRow w.heap.size 32 21 v4 (outL (Z.take (k + 1))).length (rowN (outL (Z.take (k + 1))))) := hide (by
          rw [HOUT'.out]
          have e : rowN (O ++ z.id :: z.ms) = rowN O ++ encB z.id ++ rowN z.ms := by
            rw [rowN_app, show z.id :: z.ms = [z.id] ++ z.ms from rfl, rowN_app, rowN_one, List.append_assoc]
          rw [e, List.length_append, List.length_cons, show O.length + (z.ms.length + 1) = O.length + 1 + z.ms.length by omega]
          exact hO4)
        have HBF : Hid (RowKit.Below w.heap.size w W4) := HBW1.out.grown S4 HBW1.out.size (fun b hb => (HNE.out b hb).1)
        clear hO4 hO3 hg3 hg4 hat3 hat4 S1 S3 S4 HO2 HN2 S0 K21 K22 K0 KM
        go_wp2
        go_roundw
        case rel => exact ⟨k + 1, by omega, by go_num, HFIN.out, HBF.out⟩
        case measure => simp [intOf]; omega
    · have hkz : k = Z.length := by omega
      have hO : outL (Z.take k) = outL Z := by rw [hkz, List.take_length]
      rw [hO] at hown
      clear hO
      have HB := hide hb
      clear hb
      rcases hown.2 with ⟨rfl, h0⟩ | ⟨g', cap', cur, rfl, hbase, _, hcap, _, _, _⟩
      · have hnil : outL Z = [] := List.length_eq_zero_iff.1 h0
        clear hown
        go_wp2_with fail
        refine (sort_nil _).mono ?_
        rintro e w1 ⟨rfl, rfl⟩
        go_wp2_with fail
        refine (compact_nil _).mono ?_
        rintro e w1 ⟨rfl, rfl⟩
        go_wp2_with fail
        go_ret
        exact ⟨_, [], rfl, List.Pairwise.nil, by rw [hnil]; simp, Or.inl ⟨rfl, rfl⟩, HB.out⟩
      · have HO := hide hown
        clear hown
        go_wp2_with fail
        refine (sort_own _ _ g' cap' (outL Z) HO.out hn).mono ?_
        rintro e w1 ⟨rfl, L', hperm, hsort, hR, hT, hg1⟩
        have hlen : L'.length = (outL Z).length := hperm.length_eq
        have hgl : g' < w1.heap.size := Nat.lt_of_lt_of_le (HO.out.lt g' rfl).2 hg1.size
        have HC := hide (compact_any w1 g' cap' L' hgl hR hT (by omega) (by omega))
        rw [hlen] at HC
        have HP := hide hperm; have HS := hide hsort; have HG1 := hide hg1
        clear hperm hsort hR hT hg1
        go_wp2_with fail
        refine HC.out.mono ?_
        rintro e w2 ⟨rfl, hR2, hg2⟩
        have HR2 := hide hR2; have HG2 := hide hg2
        clear hR2 hg2 HC
        go_wp2_with fail
        go_ret
        refine ⟨_, comp L', rfl, comp_sorted _ L' rfl HS.out, fun x => ?_, Or.inr ⟨g', cap', rfl, HR2.out⟩, HB.out.grown (gb_trans HG1.out HG2.out) HB.out.size (fun b hb => by cases hb; exact hbase)⟩
        rw [comp_mem _ L' rfl]; exact HP.out.mem_iff
end Go.Proofs.Ybulkbmko
