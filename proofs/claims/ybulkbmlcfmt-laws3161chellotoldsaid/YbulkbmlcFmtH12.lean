/-
  LawS3161CHello: append(s, make([]byte, m)...) onto a slice of the call's own.
-/
import Derived.Test.YbulkbmlcFmtH11
import Derived.Maps.AppendAt
import Derived.OwnWalk
namespace Go.Proofs.YbulkbmlcFmt
open Go.RowKit Go.Lib
set_option linter.unusedVariables false
set_option linter.unusedSimpArgs false

theorem info5 : (Ybaf.prog.info? 5).map (fun i => (i.zero, i.size, i.bytes)) = some (some (.int .u8 0), 1, 1) := by kernel_rfl
theorem zeros_eq (m : Nat) : (Builtin.zeroCells #[Value.int .u8 0] m).toList = List.replicate m (.int .u8 0) := by
  apply List.ext_getElem
  · simp [Builtin.zeroCells]
  · intro j h1 h2; simp [Builtin.zeroCells, Nat.mod_one]
theorem zeros_arr (m : Nat) : Builtin.zeroCells #[Value.int .u8 0] m = (List.replicate m (Value.int .u8 0)).toArray := by
  rw [← zeros_eq]
theorem am_room (w : World) (ty : TypeId) (g sLen sCap m : Nat) (cur : Array Value) (hg : w.heap[g]? = some (.cells cur 5 (0, 0))) (h1 : 1 ≤ m) (hm : m ≤ 1000000) (hroom : sLen + m ≤ sCap) (hfit : sLen + m ≤ cur.size) :
    (Builtin.append_ #[23, 3] ty #[.slice (some ⟨g, 0, none⟩) sLen sCap, .int .i64 (m : Int)]).run Ybaf.prog w =
      .ok (.slice (some ⟨g, 0, none⟩) (sLen + m) sCap) (w.setRow g (cur.toList.take sLen ++ List.replicate m (Value.int .u8 0) ++ cur.toList.drop (sLen + m)).toArray) := by
  obtain ⟨i, hi, hz0, hz1, hz2⟩ := info_parts info5
  have hst := run_storeCells_at Ybaf.prog g sLen 5 (List.replicate m (.int .u8 0)) 0 cur w hg (by simpa using hfit) (by intro v hv; rw [List.eq_of_mem_replicate hv]; rfl)
  simp only [Nat.add_zero, List.length_replicate] at hst
  have wl : IntKind.i64.wrap (m : Int) = (m : Int) := by rw [IntKind.wrap_i64]; omega
  have n1 : ¬ (m : Int) < 0 := by omega
  have n2 : ¬ (281474976710656 < (m : Int)) := by omega
  have n3 : ¬ m = 0 := by omega
  have hzl := zeros_eq m
  simp [Builtin.append_, run_underlying Ybaf.underlying23, run_underlying Ybaf.underlying3, sizeOf, typeInfo, zeroValue, hi, hz0, hz1, hz2, asInt, asIntOf, wl, n1, n2, n3, hroom, Addr.add_lit, Value.cells, hzl, hst]
theorem am_grow (w : World) (ty : TypeId) (b : Addr) (sLen sCap m : Nat) (olds : List Value) (hlo : olds.length = sLen) (holds : ∀ j v, olds[j]? = some v → w.cell? (b.add j) = some v) (h1 : 1 ≤ m) (hm : sLen + m ≤ 1000000) (hg : sCap < sLen + m) :
    (Builtin.append_ #[23, 3] ty #[.slice (some b) sLen sCap, .int .i64 (m : Int)]).run Ybaf.prog w =
      .ok (.slice (some ⟨w.heap.size, 0, none⟩) (sLen + m) (grownCap w (sLen + m) sCap 5))
        (w.drew.alloc (.cells (olds.toArray ++ (List.replicate m (Value.int .u8 0)).toArray ++ Builtin.zeroCells #[.int .u8 0] (grownCap w (sLen + m) sCap 5 - (sLen + m))) 5)) := by
  obtain ⟨i, hi, hz0, hz1, hz2⟩ := info_parts info5
  have hn : ¬ (sLen + m ≤ sCap) := by omega
  have h63' : ¬ (9223372036854775807 < ((sLen : Int) + (m : Int))) := by omega
  have h48 : Builtin.nextslicecap (sLen + m) sCap * 1 ≤ 281474976710656 := growslice_fits (by omega) (by omega)
  have h48' : ¬ (281474976710656 < Builtin.nextslicecap (sLen + m) sCap) := by omega
  have hfo := run_firstCells_some (P := Ybaf.prog) w.drew 1 sLen b sLen sCap olds (by omega) (by simpa using holds)
  have wl : IntKind.i64.wrap (m : Int) = (m : Int) := by rw [IntKind.wrap_i64]; omega
  have n1 : ¬ (m : Int) < 0 := by omega
  have n2 : ¬ (281474976710656 < (m : Int)) := by omega
  have n3 : ¬ m = 0 := by omega
  have hzl := zeros_arr m
  simp [Builtin.append_, run_underlying Ybaf.underlying23, run_underlying Ybaf.underlying3, sizeOf, typeInfo, zeroValue, hi, hz0, hz1, hz2, asInt, asIntOf, wl, n1, n2, n3, hn, h63', h48', Question.forced, hfo, newRow, grownCap, Value.cells, hzl]
theorem am_nil (w : World) (ty : TypeId) (m : Nat) (h1 : 1 ≤ m) (hm : m ≤ 1000000) :
    (Builtin.append_ #[23, 3] ty #[.slice none 0 0, .int .i64 (m : Int)]).run Ybaf.prog w =
      .ok (.slice (some ⟨w.heap.size, 0, none⟩) m (grownCap w m 0 5))
        (w.drew.alloc (.cells ((List.replicate m (Value.int .u8 0)).toArray ++ Builtin.zeroCells #[.int .u8 0] (grownCap w m 0 5 - m)) 5)) := by
  obtain ⟨i, hi, hz0, hz1, hz2⟩ := info_parts info5
  have hn : ¬ (m ≤ 0) := by omega
  have h63' : ¬ (9223372036854775807 < (m : Int)) := by omega
  have h48 : Builtin.nextslicecap (0 + m) 0 * 1 ≤ 281474976710656 := growslice_fits (by omega) (by omega)
  rw [Nat.zero_add, Nat.mul_one] at h48
  have h48' : ¬ (281474976710656 < Builtin.nextslicecap m 0) := by omega
  have wl : IntKind.i64.wrap (m : Int) = (m : Int) := by rw [IntKind.wrap_i64]; omega
  have n1 : ¬ (m : Int) < 0 := by omega
  have n2 : ¬ (281474976710656 < (m : Int)) := by omega
  have n3 : ¬ m = 0 := by omega
  have hzl := zeros_arr m
  simp [Builtin.append_, run_underlying Ybaf.underlying23, run_underlying Ybaf.underlying3, sizeOf, typeInfo, zeroValue, hi, hz0, hz1, hz2, asInt, asIntOf, wl, n1, n2, n3, hn, h63', h48', Question.forced, newRow, grownCap, Value.cells, hzl, Builtin.firstCells, loadCells, loadCellsFrom]
theorem am_own (w : World) (base : Nat) (ty : TypeId) (v : Value) (n m : Nat) (xs : List Value) (hown : w.ownsRow base 5 1 v n xs) (h1 : 1 ≤ m) (hm : n + m ≤ 1000000) (hbase : base ≤ w.heap.size) :
    ∃ v' w' g c, (Builtin.append_ #[23, 3] ty #[v, .int .i64 (m : Int)]).run Ybaf.prog w = .ok v' w' ∧ v' = .slice (some ⟨g, 0, none⟩) (n + m) c ∧ w'.ownsRow base 5 1 v' (n + m) (xs ++ List.replicate m (.int .u8 0)) ∧ w.grownBy w' v.ownBlock ∧ (v.ownBlock = some g ∨ g = w.heap.size) := by
  have hx := hown.1
  have grown : ∀ (old : Nat) (row : Option Nat), xs.length = n →
      (w.drew.alloc (.cells (xs.toArray ++ (List.replicate m (Value.int .u8 0)).toArray ++ Builtin.zeroCells #[.int .u8 0] (grownCap w (n + m) old 5 - (n + m))) 5)).ownsRow base 5 1
        (.slice (some ⟨w.heap.size, 0, none⟩) (n + m) (grownCap w (n + m) old 5)) (n + m) (xs ++ List.replicate m (.int .u8 0)) ∧
      w.grownBy (w.drew.alloc (.cells (xs.toArray ++ (List.replicate m (Value.int .u8 0)).toArray ++ Builtin.zeroCells #[.int .u8 0] (grownCap w (n + m) old 5 - (n + m))) 5)) row := by
    intro old row hxl
    have hge := grownCap_ge w (n + m) old 5
    have hcm : grownCap w (n + m) old 5 ≤ maxLen := grownCap_le_maxLen w (n + m) old 5 (by unfold maxLen; omega)
    refine ⟨⟨by simp [hxl], .inr ⟨w.heap.size, _, _, rfl, hbase, heap_alloc_new w.drew _, hge, hcm, ?_, ?_⟩⟩, ⟨rfl, rfl, rfl, by simp, fun k hk _ => Below.heap_alloc w.drew _ k hk⟩⟩
    · simp [size_zeroCells, hxl]; omega
    · simp only [Array.toList_append, List.append_assoc]
      rw [← List.append_assoc, show (n + m) * 1 = (xs ++ List.replicate m (Value.int .u8 0)).length by simp [hxl]]
      exact List.take_left
  rcases hown.2 with ⟨rfl, rfl⟩ | ⟨g, cap, cur, rfl, hbg, hg, hnc, hcm, hcs, htake⟩
  · have hxn : xs = [] := List.eq_nil_of_length_eq_zero (by simpa using hx)
    subst hxn
    have hgr := grown 0 none rfl
    simp only [Nat.zero_add, List.nil_append, Array.empty_append] at hgr ⊢
    exact ⟨_, _, w.heap.size, _, am_nil w ty m h1 (by omega), rfl, hgr.1, hgr.2, Or.inr rfl⟩
  · rw [Nat.mul_one] at hx hcs htake
    by_cases hroom : n + m ≤ cap
    · refine ⟨_, _, g, cap, am_room w ty g n cap m cur hg h1 (by omega) hroom (by omega), rfl, ⟨by simp [hx], .inr ⟨g, cap, _, rfl, hbg, setRow_heap w g cur _ 5 _ hg, hroom, hcm, ?_, ?_⟩⟩, ⟨rfl, rfl, rfl, by simp, fun k _ hk => setRow_other w g k _ (fun e => hk (by simp [Value.ownBlock, e]))⟩, Or.inl rfl⟩
      · simp; omega
      · rw [htake, show (n + m) * 1 = (xs ++ List.replicate m (Value.int .u8 0)).length by simp [hx]]
        exact List.take_left
    · have holds : ∀ j u, xs[j]? = some u → w.cell? ((⟨g, 0, none⟩ : Addr).add j) = some u := hown.cells (g := g) rfl
      have hgr := grown cap (some g) hx
      exact ⟨_, _, w.heap.size, _, am_grow w ty ⟨g, 0, none⟩ n cap m xs hx holds h1 hm (by omega), rfl, hgr.1, hgr.2, Or.inr rfl⟩
end Go.Proofs.YbulkbmlcFmt
