/-
  LawS3160BModel: arms and small laws for the law's own walk.
-/
import Derived.Test.YbulkbmkoB5
import Derived.Laws.MakeOwn
namespace Go.Proofs.Ybulkbmko
open Go.RowKit Go.Lib Go.Sort
set_option linter.unusedVariables false
set_option linter.unusedSimpArgs false

section
variable {P : Program} {ops : Array Oper} {rest : List Oper} {o : Oper} {a : Act} {w w' : World} {Q : Exit → Act → World → Prop}
theorem wpList_build (hgd : o.guard = none) (t : TypeId) (ps : Array (Nat × Operand)) (ho : o.op = .build t ps) (vs : Array (Nat × Value)) (hv : (ps.map fun (i, x) => (i, a.eval x)) = vs)
    (v : Value) (hr : (Instr.build t vs).run P w = .ok v w) (h : wpList P ops Q rest (a.put o.dst v) w) : wpList P ops Q (o :: rest) a w :=
  wpList_plain hgd fun _ hK => by
    unfold Oper.wp execOp
    simp only [ho, hv, Sem.run_bind, Sem.run_pure, Result.andThen_ok, hr]
    exact hK _ _ h
theorem wpList_buildS (hgd : o.guard = none) (t : TypeId) (n : Nat) (ps : Array (Nat × Operand)) (ho : o.op = .buildSlice t n ps) (vs : Array (Nat × Value)) (hv : (ps.map fun (i, x) => (i, a.eval x)) = vs)
    (v : Value) (hr : (Instr.buildSlice t n vs).run P w = .ok v w') (h : wpList P ops Q rest (a.put o.dst v) w') : wpList P ops Q (o :: rest) a w :=
  wpList_plain hgd fun _ hK => wp_build t n ps ho vs hv v hr (hK _ _ h)
theorem wpList_box (hgd : o.guard = none) (t : TypeId) (x : Operand) (ho : o.op = .box t x) (cs : Array Value) (hx : a.eval x = .agg cs) (hr : (Instr.box t (.agg cs)).run P w = .ok (.pointer (some ⟨w.heap.size, 0, none⟩)) (w.alloc (.cells cs t)))
    (h : wpList P ops Q rest (a.put o.dst (.pointer (some ⟨w.heap.size, 0, none⟩))) (w.alloc (.cells cs t))) : wpList P ops Q (o :: rest) a w :=
  wpList_plain hgd fun _ hK => by
    unfold Oper.wp execOp
    simp only [ho, hx, Sem.run_bind, Sem.run_pure, Result.andThen_ok, hr]
    exact hK _ _ h
theorem wpList_alloc (hgd : o.guard = none) (t : TypeId) (ho : o.op = .alloc t) (cs : Array Value) (hr : (Instr.alloc t true (.tuple #[])).run P w = .ok (.pointer (some ⟨w.heap.size, 0, none⟩)) (w.alloc (.cells cs t)))
    (h : wpList P ops Q rest (a.put o.dst (.pointer (some ⟨w.heap.size, 0, none⟩))) (w.alloc (.cells cs t))) : wpList P ops Q (o :: rest) a w :=
  wpList_plain hgd fun _ hK => by
    unfold Oper.wp execOp
    simp only [ho, Sem.run_bind, Sem.run_pure, Result.andThen_ok, hr]
    exact hK _ _ h
theorem wpList_make (hgd : o.guard = none) (t : TypeId) (x y : Operand) (ho : o.op = .makeSlice t x y) (l c : Nat) (hx : a.eval x = .int .i64 (l : Int)) (hy : a.eval y = .int .i64 (c : Int)) (e : TypeId) (i : TypeInfo) (z : Value) (size bytes : Nat)
    (ht : P.underlying t = some (.slice e)) (hi : P.info? e = some i) (hz : i.zero = some z) (hs : i.size = size) (hb : i.bytes = bytes) (hlc : l ≤ c) (hbytes : bytes * c ≤ 281474976710656) (h63 : c ≤ 9223372036854775807)
    (h : ∀ cur : Array Value, cur.size = c * size → wpList P ops Q rest (a.put o.dst (.slice (some ⟨w.heap.size, 0, none⟩) l c)) (w.alloc (.cells cur e))) : wpList P ops Q (o :: rest) a w :=
  wpList_plain hgd fun _ hK => by
    subst hs hb
    have hb' : (i.bytes : Int) * (c : Int) ≤ 281474976710656 := by
      have : ((i.bytes * c : Nat) : Int) ≤ 281474976710656 := by omega
      rwa [Int.natCast_mul] at this
    have hr := run_make (P := P) w t e i z ht hi hz .i64 .i64 l c (by omega) (by omega) hb' (by omega)
    simp only [Int.toNat_natCast] at hr
    unfold Oper.wp execOp
    simp only [ho, hx, hy, Sem.run_bind, Sem.run_pure, Result.andThen_ok, hr]
    exact hK _ _ (h _ (size_madeCells _ _))
theorem wpList_append_room (hgd : o.guard = none) (s x : Operand) (t : TypeId) (ho : o.op = .call { callee := .builtin .append, args := #[s, x], argTypes := #[t, t] })
    (e : TypeId) (i : TypeInfo) (size : Nat) (ht : P.underlying t = some (.slice e)) (hi : P.info? e = some i) (hsz : i.size = size) (g sLen sCap : Nat) (hs : a.eval s = .slice (some ⟨g, 0, none⟩) sLen sCap) (cur : Array Value) (hg : w.heap[g]? = some (.cells cur e (0, 0)))
    (ad : Addr) (m c : Nat) (news : List Value) (hx : a.eval x = .slice (some ad) m c) (hl : news.length = m * size) (hnews : ∀ j u, news[j]? = some u → w.cell? (ad.add j) = some u) (h1 : ∀ u ∈ news, u.oneCell' = true)
    (hroom : sLen + m ≤ sCap) (hfit : sLen * size + news.length ≤ cur.size)
    (h : wpList P ops Q rest (a.put o.dst (.slice (some ⟨g, 0, none⟩) (sLen + m) sCap)) (w.setRow g (cur.toList.take (sLen * size) ++ news ++ cur.toList.drop (sLen * size + news.length)).toArray)) : wpList P ops Q (o :: rest) a w :=
  wpList_plain hgd fun _ hK => by
    subst hsz
    have hr := run_append_room (P := P) w t o.type e i ht hi g sLen sCap cur hg ad m c news hl hnews h1 hroom hfit
    unfold Oper.wp execOp
    simp only [ho, resolve, invoke, builtin, Sem.run_bind, Sem.run_pure, Result.andThen_ok, List.map_toArray, List.map_cons, List.map_nil, hs, hx, hr]
    exact hK _ _ h
end

/-! ### the wanted bytes -/
def wantA (L : List B) : Array Value := ((List.range 256).map fun b => Value.bool (L.any fun x => x.val == b)).toArray
theorem wantA_size (L : List B) : (wantA L).size = 256 := by simp [wantA]
theorem wantA_get (L : List B) (b : Nat) (h : b < 256) : (wantA L)[b]? = some (.bool (L.any fun x => x.val == b)) := by simp [wantA, h]
theorem wantA_set (L : List B) (x : B) : (wantA L).setIfInBounds x.val (.bool true) = wantA (L ++ [x]) := by
  apply Array.ext_getElem?
  intro b
  have hx := x.isLt
  by_cases hb : b < 256
  · rw [wantA_get _ b hb, Array.getElem?_setIfInBounds]
    by_cases e : x.val = b
    · rw [if_pos e, if_pos (by rw [wantA_size]; omega)]; simp [e]
    · rw [if_neg e, wantA_get _ b hb]
      have : (x.val == b) = false := by simpa using e
      simp [List.any_append, this]
  · rw [Array.getElem?_eq_none (by simp [wantA_size]; omega), Array.getElem?_eq_none (by simp [wantA_size]; omega)]
theorem alloc29 (w : World) : (Instr.alloc 29 true (.tuple #[])).run Yba.prog w = .ok (.pointer (some ⟨w.heap.size, 0, none⟩)) (w.alloc (.cells (wantA []) 29)) := by kernel_rfl
theorem build36 (x : Int) (w : World) : (Instr.build 36 #[(0, .agg (ndA x))]).run Yba.prog w = .ok (.agg (lkA x none)) w := by kernel_rfl
theorem build30 (x : Int) (t : Option Addr) (w : World) : (Instr.buildSlice 30 1 #[(0, .agg (lkA x t))]).run Yba.prog w = .ok (.slice (some ⟨w.heap.size, 0, none⟩) 1 1) (w.alloc (.cells (lkA x t) 36)) := by kernel_rfl
/-- A told Below's cells. -/
def blA (a b : Int) (p : Bool) (v : Value) : Array Value := idA a b ++ #[.bool p, v]
theorem build39 (a b : Int) (p : Bool) (ad : Option Addr) (l c : Nat) (w : World) : (Instr.build 39 #[(0, .agg (idA a b)), (1, .bool p), (2, .slice ad l c)]).run Yba.prog w = .ok (.agg (blA a b p (.slice ad l c))) w := by kernel_rfl
theorem box39 (a b : Int) (p : Bool) (v : Value) (w : World) : (Instr.box 39 (.agg (blA a b p v))).run Yba.prog w = .ok (.pointer (some ⟨w.heap.size, 0, none⟩)) (w.alloc (.cells (blA a b p v) 39)) := by kernel_rfl
theorem Yba.info36 : (Yba.prog.info? 36).map (fun i => (i.zero, i.size, i.bytes)) = some (some (.agg (ndZ ++ #[.int .i64 0, .pointer none, .int .i64 0])), 24, 64) := by kernel_rfl
/-! ### the member -/
def putA (cs : Array Value) (off : Nat) (xs : Array Value) : Array Value := xs.zipIdx.foldl (fun cs (c, j) => cs.setIfInBounds (off + j) c) cs
theorem member_ex (b : Int) (ad : Option Addr) (l c : Nat) : ∃ m32 m42 m45 m77 : Array Value, (∀ w, (Instr.build 32 #[(0, .agg (idA 0 b))]).run Yba.prog w = .ok (.agg m32) w) ∧ (∀ w, (Instr.build 42 #[(0, .agg m32)]).run Yba.prog w = .ok (.agg m42) w) ∧
    (∀ w, (Instr.build 45 #[(0, .agg m42)]).run Yba.prog w = .ok (.agg m45) w) ∧ (∀ w, (Instr.build 77 #[(20, .slice ad l c), (15, .agg m45)]).run Yba.prog w = .ok (.agg m77) w) ∧
    (∀ w : World, (Instr.box 77 (.agg m77)).run Yba.prog w = .ok (.pointer (some ⟨w.heap.size, 0, none⟩)) (w.alloc (.cells m77 77))) ∧ m77[134]? = some (.slice ad l c) ∧ (m77.toList.drop 105).take 20 = (idA 0 b).toList := by
  refine ⟨putA ((match Yba.prog.info? 32 with | some i => (match i.zero with | some z => z.cells | none => #[]) | none => #[]) : Array Value) 0 (idA 0 b), putA ((match Yba.prog.info? 42 with | some i => (match i.zero with | some z => z.cells | none => #[]) | none => #[]) : Array Value) 0 (putA ((match Yba.prog.info? 32 with | some i => (match i.zero with | some z => z.cells | none => #[]) | none => #[]) : Array Value) 0 (idA 0 b)), putA ((match Yba.prog.info? 45 with | some i => (match i.zero with | some z => z.cells | none => #[]) | none => #[]) : Array Value) 0 (putA ((match Yba.prog.info? 42 with | some i => (match i.zero with | some z => z.cells | none => #[]) | none => #[]) : Array Value) 0 (putA ((match Yba.prog.info? 32 with | some i => (match i.zero with | some z => z.cells | none => #[]) | none => #[]) : Array Value) 0 (idA 0 b))), putA (putA ((match Yba.prog.info? 77 with | some i => (match i.zero with | some z => z.cells | none => #[]) | none => #[]) : Array Value) 134 #[.slice ad l c]) 105 (putA ((match Yba.prog.info? 45 with | some i => (match i.zero with | some z => z.cells | none => #[]) | none => #[]) : Array Value) 0 (putA ((match Yba.prog.info? 42 with | some i => (match i.zero with | some z => z.cells | none => #[]) | none => #[]) : Array Value) 0 (putA ((match Yba.prog.info? 32 with | some i => (match i.zero with | some z => z.cells | none => #[]) | none => #[]) : Array Value) 0 (idA 0 b)))), fun w => ?_, fun w => ?_, fun w => ?_, fun w => ?_, fun w => ?_, ?_, ?_⟩
  all_goals kernel_rfl
theorem least_cells {m : Array Value} {b : Int} (h : (m.toList.drop 105).take 20 = (idA 0 b).toList) : ∀ j u, (idA 0 b).toList[j]? = some u → m[105 + j]? = some u := by
  intro j u hu
  rw [← h, List.getElem?_take] at hu
  split at hu
  · rw [List.getElem?_drop] at hu; simpa using hu
  · cases hu
end Go.Proofs.Ybulkbmko
