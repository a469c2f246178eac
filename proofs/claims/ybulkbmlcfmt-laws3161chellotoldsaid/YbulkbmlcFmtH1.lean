/-
  LawS3161CHello: the reader that hands out its bytes a few at a time, and the one that counts.
-/
import Derived.Test.YbulkbmlcFmtRows
import Derived.WalkKit
import Derived.WalkSpells
import Derived.LaidEql
import Derived.Stop.Asserts
import Derived.Stop.CallBack
import Derived.Stop.IfaceNil
import Derived.RowKitTokens
import Derived.Deep.QuietTactic
import Derived.BigQuiet
import Derived.Sort.Grow
import Derived.Deep.RegionWith
import Derived.Deep.DeepCutAuto
import Derived.Laws.IdiomCopy
import Derived.Laws.Rows
import Derived.Deep.WholeRow
import Derived.Deep.MidRow
import Derived.Deep.RegionHeld3
import Derived.Lib.VarintMem
import Derived.Laws.Cover1
namespace Go.Proofs.YbulkbmlcFmt
open Go.RowKit Go.Lib
set_option linter.unusedVariables false
set_option linter.unusedSimpArgs false

theorem hide {p : Prop} (h : p) : Hid p := h
theorem lt_of_cell {w : World} {a : Addr} {v : Value} (h : w.cell? a = some v) : a.block < w.heap.size := World.block_lt_of_cell? w a h
theorem lt_of_heap {w : World} {g : Nat} {o : Obj} (h : w.heap[g]? = some o) : g < w.heap.size := (Array.getElem?_eq_some_iff.1 h).1
abbrev Bytes := List UInt8
theorem one_byteCells (l : Bytes) : ∀ v ∈ byteCells l, v.oneCell' = true := by
  intro v hv; simp [byteCells] at hv; obtain ⟨x, _, rfl⟩ := hv; rfl
theorem len_byteCells (l : Bytes) : (byteCells l).length = l.length := by simp [byteCells]
theorem frozen_block {w : World} {g i : Nat} {cur : Array Value} {t : TypeId} (h : w.heap[g]? = some (.cells cur t)) : w.frozen? ⟨g, i, none⟩ = false := by simp [World.frozen?, h]
theorem size1 : (Ybaf.prog.info? 5).map (·.size) = some 1 := by kernel_rfl

theorem wp_copy {P : Program} {w : World} {o : Oper} {a : Act} {K : Act → World → Prop} {Q : Exit → Act → World → Prop} (d s : Operand) (t e : TypeId) (ho : o.op = .call { callee := .builtin .copy, args := #[d, s], argTypes := #[t, t] })
    (b off dl dc : Nat) (hd : a.eval d = .slice (some ⟨b, off, none⟩) dl dc) (ad : Addr) (sl sc : Nat) (hs : a.eval s = .slice (some ad) sl sc) (cs : List Value) (hu : P.underlying t = some (.slice e)) (hsz : (P.info? e).map (·.size) = some 1)
    (hn : cs.length = Nat.min sl dl) (hsrc : ∀ j v, cs[j]? = some v → w.cell? (ad.add j) = some v) (hth : w.there b off cs.length) (h1 : ∀ v ∈ cs, v.oneCell' = true) (h : K (a.put o.dst (.int .i64 (cs.length : Int))) (w.setCells b off cs)) : o.wp P a w K Q := by
  have hr := run_copy_cells (P := P) w t t o.type e b off dl dc ad sl sc cs hu hsz hn hsrc (fun j hj => (hth j hj).1) (fun j hj => (hth j hj).2) h1
  unfold Oper.wp execOp
  simp only [ho, resolve, invoke, builtin, Sem.run_bind, Sem.run_pure, Result.andThen_ok, List.map_toArray, List.map_cons, List.map_nil, hd, hs, hr]
  exact h
theorem cell_drewN (w : World) (q : Nat) (a : Addr) : (w.drewN q).cell? a = w.cell? a := rfl
theorem frozen_drewN (w : World) (q : Nat) (a : Addr) : (w.drewN q).frozen? a = w.frozen? a := rfl
theorem setCells_drewN (b : Nat) (q : Nat) : ∀ (vs : List Value) (o : Nat) (w : World), (w.drewN q).setCells b o vs = (w.setCells b o vs).drewN q
  | [], _, _ => rfl
  | v :: r, o, w => by
    show ((w.drewN q).setCell ⟨b, o, none⟩ v).setCells b (o + 1) r = ((w.setCell ⟨b, o, none⟩ v).setCells b (o + 1) r).drewN q
    rw [← setCells_drewN b q r]; rfl
theorem drew_drewN (w : World) (q : Nat) : (w.drewN q).drew = w.drewN (q + 1) := rfl
/-- The reader's three cells. -/
def zzA (sb n sc i st : Nat) : Array Value := #[.slice (some ⟨sb, 0, none⟩) n sc, .int .i64 (i : Int), .int .i64 (st : Int)]

set_option maxHeartbeats 1000000 in
set_option maxRecDepth 100000 in
theorem zz_eof (zb sb n sc i st : Nat) (E : Value) (p : Value) (w : World) (hz : w.heap[zb]? = some (.cells (zzA sb n sc i st) 30)) (hE : w.cell? ⟨3, 0, none⟩ = some E) (hi : n ≤ i) :
    Calls Ybaf.prog 38 #[.pointer (some ⟨zb, 0, none⟩), p] w fun e w' => e = .returned (.tuple #[.int .i64 0, E]) ∧ ∃ q, w' = w.drewN q := by
  have c0 : w.cell? ⟨zb, 0, none⟩ = some (.slice (some ⟨sb, 0, none⟩) n sc) := by rw [cell_of_row _ _ 0 _ _ (0, 0) hz]; rfl
  have c1 : w.cell? ⟨zb, 1, none⟩ = some (.int .i64 (i : Int)) := by rw [cell_of_row _ _ 1 _ _ (0, 0) hz]; rfl
  have b1 : (n : Int) ≤ (i : Int) := by omega
  clear hz
  go_enter Ybaf.func38, Ybaf.ntmps38
  go_upto_region 1 with fail
  go_quiet (fail)
  go_upto_region 2 with fail
  go_quiet (fail)
  go_wp2
  go_ret2
  exact ⟨rfl, _, World.drewN_drewN _ _ _⟩

set_option maxHeartbeats 2000000 in
set_option maxRecDepth 100000 in
theorem zz_some (zb sb n sc i st k pb po m pc : Nat) (l : Bytes) (w : World) (hz : w.heap[zb]? = some (.cells (zzA sb n sc i st) 30)) (hi : i < n) (hnc : n ≤ sc) (hnm : n ≤ 1000000) (hmm : m ≤ 1000000) (hmc : m ≤ pc) (hst : 1 ≤ st ∧ st ≤ 7)
    (hm : 1 ≤ m) (hk : k = min (min m st) (n - i)) (hl : l.length = k) (hS : w.rangeAt sb i (byteCells l)) (hp : w.there pb po m) (hne : zb ≠ pb) :
    Calls Ybaf.prog 38 #[.pointer (some ⟨zb, 0, none⟩), .slice (some ⟨pb, po, none⟩) m pc] w fun e w' => e = .returned (.tuple #[.int .i64 (k : Int), .nilIface]) ∧ ∃ q, w' = ((w.setCells pb po (byteCells l)).setCell ⟨zb, 1, none⟩ (.int .i64 ((i + k : Nat) : Int))).drewN q := by
  have c0 : w.cell? ⟨zb, 0, none⟩ = some (.slice (some ⟨sb, 0, none⟩) n sc) := by rw [cell_of_row _ _ 0 _ _ (0, 0) hz]; rfl
  have c1 : w.cell? ⟨zb, 1, none⟩ = some (.int .i64 (i : Int)) := by rw [cell_of_row _ _ 1 _ _ (0, 0) hz]; rfl
  have c2 : w.cell? ⟨zb, 2, none⟩ = some (.int .i64 (st : Int)) := by rw [cell_of_row _ _ 2 _ _ (0, 0) hz]; rfl
  have b1 : ¬ (n : Int) ≤ (i : Int) := by omega
  have HZ := hide hz
  clear hz
  go_enter Ybaf.func38, Ybaf.ntmps38
  go_upto_region 1 with fail
  go_quiet (fail)
  go_upto_region 3 with fail
  go_quiet (fail)
  have hmin : (if (n : Int) - (i : Int) < if st < m then (st : Int) else (m : Int) then (n : Int) - (i : Int) else if st < m then (st : Int) else (m : Int)) = (k : Int) := by
    rw [hk]; repeat' split
    all_goals omega
  rw [hmin, World.drewN_drewN]
  have HP := hide hp; have HS := hide hS; have HL := hide hl
  clear hmin hp hS hl
  have k1 : k ≤ m := by omega
  have k2 : i + k ≤ n := by omega
  have k0 : 1 ≤ k := by omega
  have kp : ¬ pc < k := by omega
  have hw1 : IntKind.i64.wrap ((i : Int) + (k : Int)) = (i : Int) + (k : Int) := by rw [IntKind.wrap_i64]; omega
  have hA : (0 : Int) ≤ (i : Int) + (k : Int) := by omega
  have hB : (i : Int) + (k : Int) ≤ (sc : Int) := by omega
  have hT : ((i : Int) + (k : Int)).toNat = i + k := by omega
  have hN : ¬ sc = i := by omega
  have HCL : Hid ((byteCells l).length = k) := hide (by rw [len_byteCells]; exact HL.out)
  clear hk HL
  go_upto_region 4 with fail
  generalize (_ : Nat) + (_ : Nat) = q0
  have c0' : (w.drewN q0).cell? ⟨zb, 0, none⟩ = some (.slice (some ⟨sb, 0, none⟩) n sc) := c0
  have c1' : (w.drewN q0).cell? ⟨zb, 1, none⟩ = some (.int .i64 (i : Int)) := c1
  refine wp_region_held (S := fun w' => w'.cell? ⟨zb, 0, none⟩ = some (.slice (some ⟨sb, 0, none⟩) n sc) ∧ w'.cell? ⟨zb, 1, none⟩ = some (.int .i64 (i : Int))) (by kernel_rfl) ?_
  try (change wpAnyH _ _ _ _ _ _ _ _ (World.drew _))
  have S0 : (w.drewN q0).drew.cell? ⟨zb, 0, none⟩ = some (.slice (some ⟨sb, 0, none⟩) n sc) ∧ (w.drewN q0).drew.cell? ⟨zb, 1, none⟩ = some (.int .i64 (i : Int)) := ⟨c0, c1⟩
  refine wpAnyH_take (i := 0) (v := .slice (some ⟨pb, po, none⟩) m pc) rfl (by kernel_rfl) (by kernel_rfl) (by kernel_rfl) (fun _ _ _ h => h) (Or.inl ⟨by kernel_rfl, fun w hS => by obtain ⟨q0, q1⟩ := hS; go_simp⟩) S0 ?_
  simp only [Act.put, List.getElem_toArray, List.getElem_cons_succ, List.getElem_cons_zero, List.setIfInBounds_toArray, List.set_cons_zero, List.set_cons_succ]
  refine wpAnyH_take (i := 1) (v := .int .i64 (k : Int)) rfl (by kernel_rfl) (by kernel_rfl) (by kernel_rfl) (fun _ _ _ h => h) (Or.inl ⟨by kernel_rfl, fun w hS => by obtain ⟨q0, q1⟩ := hS; go_simp⟩) S0 ?_
  simp only [Act.put, List.getElem_toArray, List.getElem_cons_succ, List.getElem_cons_zero, List.setIfInBounds_toArray, List.set_cons_zero, List.set_cons_succ]
  refine wpAnyH_take (i := 2) (v := .slice (some ⟨pb, po, none⟩) k pc) rfl (by kernel_rfl) (by kernel_rfl) (by kernel_rfl) (fun _ _ _ h => h) (Or.inl ⟨by kernel_rfl, fun w hS => by obtain ⟨q0, q1⟩ := hS; go_simp⟩) S0 ?_
  simp only [Act.put, List.getElem_toArray, List.getElem_cons_succ, List.getElem_cons_zero, List.setIfInBounds_toArray, List.set_cons_zero, List.set_cons_succ]
  refine wpAnyH_take (i := 3) (v := .pointer (some ⟨zb, 0, none⟩)) rfl (by kernel_rfl) (by kernel_rfl) (by kernel_rfl) (fun _ _ _ h => h) (Or.inl ⟨by kernel_rfl, fun w hS => by obtain ⟨q0, q1⟩ := hS; go_simp⟩) S0 ?_
  simp only [Act.put, List.getElem_toArray, List.getElem_cons_succ, List.getElem_cons_zero, List.setIfInBounds_toArray, List.set_cons_zero, List.set_cons_succ]
  refine wpAnyH_take (i := 4) (v := .pointer (some ⟨zb, 0, none⟩)) rfl (by kernel_rfl) (by kernel_rfl) (by kernel_rfl) (fun _ _ _ h => h) (Or.inl ⟨by kernel_rfl, fun w hS => by obtain ⟨q0, q1⟩ := hS; go_simp⟩) S0 ?_
  simp only [Act.put, List.getElem_toArray, List.getElem_cons_succ, List.getElem_cons_zero, List.setIfInBounds_toArray, List.set_cons_zero, List.set_cons_succ]
  refine wpAnyH_take (i := 5) (v := .pointer (some ⟨zb, 0, none⟩)) rfl (by kernel_rfl) (by kernel_rfl) (by kernel_rfl) (fun _ _ _ h => h) (Or.inl ⟨by kernel_rfl, fun w hS => by obtain ⟨q0, q1⟩ := hS; go_simp⟩) S0 ?_
  simp only [Act.put, List.getElem_toArray, List.getElem_cons_succ, List.getElem_cons_zero, List.setIfInBounds_toArray, List.set_cons_zero, List.set_cons_succ]
  refine wpAnyH_take (i := 6) (v := .slice (some ⟨sb, 0, none⟩) n sc) rfl (by kernel_rfl) (by kernel_rfl) (by kernel_rfl) (fun _ _ _ h => h) (Or.inl ⟨by kernel_rfl, fun w hS => by obtain ⟨q0, q1⟩ := hS; go_simp⟩) S0 ?_
  simp only [Act.put, List.getElem_toArray, List.getElem_cons_succ, List.getElem_cons_zero, List.setIfInBounds_toArray, List.set_cons_zero, List.set_cons_succ]
  refine wpAnyH_take (i := 7) (v := .pointer (some ⟨zb, 0, none⟩)) rfl (by kernel_rfl) (by kernel_rfl) (by kernel_rfl) (fun _ _ _ h => h) (Or.inl ⟨by kernel_rfl, fun w hS => by obtain ⟨q0, q1⟩ := hS; go_simp⟩) S0 ?_
  simp only [Act.put, List.getElem_toArray, List.getElem_cons_succ, List.getElem_cons_zero, List.setIfInBounds_toArray, List.set_cons_zero, List.set_cons_succ]
  refine wpAnyH_take (i := 8) (v := .pointer (some ⟨zb, 0, none⟩)) rfl (by kernel_rfl) (by kernel_rfl) (by kernel_rfl) (fun _ _ _ h => h) (Or.inl ⟨by kernel_rfl, fun w hS => by obtain ⟨q0, q1⟩ := hS; go_simp⟩) S0 ?_
  simp only [Act.put, List.getElem_toArray, List.getElem_cons_succ, List.getElem_cons_zero, List.setIfInBounds_toArray, List.set_cons_zero, List.set_cons_succ]
  refine wpAnyH_take (i := 9) (v := .pointer (some ⟨zb, 1, none⟩)) rfl (by kernel_rfl) (by kernel_rfl) (by kernel_rfl) (fun _ _ _ h => h) (Or.inl ⟨by kernel_rfl, fun w hS => by obtain ⟨q0, q1⟩ := hS; go_simp⟩) S0 ?_
  simp only [Act.put, List.getElem_toArray, List.getElem_cons_succ, List.getElem_cons_zero, List.setIfInBounds_toArray, List.set_cons_zero, List.set_cons_succ]
  refine wpAnyH_take (i := 10) (v := .int .i64 (i : Int)) rfl (by kernel_rfl) (by kernel_rfl) (by kernel_rfl) (fun _ _ _ h => h) (Or.inl ⟨by kernel_rfl, fun w hS => by obtain ⟨q0, q1⟩ := hS; go_simp⟩) S0 ?_
  simp only [Act.put, List.getElem_toArray, List.getElem_cons_succ, List.getElem_cons_zero, List.setIfInBounds_toArray, List.set_cons_zero, List.set_cons_succ]
  refine wpAnyH_take (i := 11) (v := .pointer (some ⟨zb, 0, none⟩)) rfl (by kernel_rfl) (by kernel_rfl) (by kernel_rfl) (fun _ _ _ h => h) (Or.inl ⟨by kernel_rfl, fun w hS => by obtain ⟨q0, q1⟩ := hS; go_simp⟩) S0 ?_
  simp only [Act.put, List.getElem_toArray, List.getElem_cons_succ, List.getElem_cons_zero, List.setIfInBounds_toArray, List.set_cons_zero, List.set_cons_succ]
  refine wpAnyH_take (i := 12) (v := .pointer (some ⟨zb, 0, none⟩)) rfl (by kernel_rfl) (by kernel_rfl) (by kernel_rfl) (fun _ _ _ h => h) (Or.inl ⟨by kernel_rfl, fun w hS => by obtain ⟨q0, q1⟩ := hS; go_simp⟩) S0 ?_
  simp only [Act.put, List.getElem_toArray, List.getElem_cons_succ, List.getElem_cons_zero, List.setIfInBounds_toArray, List.set_cons_zero, List.set_cons_succ]
  refine wpAnyH_take (i := 13) (v := .pointer (some ⟨zb, 1, none⟩)) rfl (by kernel_rfl) (by kernel_rfl) (by kernel_rfl) (fun _ _ _ h => h) (Or.inl ⟨by kernel_rfl, fun w hS => by obtain ⟨q0, q1⟩ := hS; go_simp⟩) S0 ?_
  simp only [Act.put, List.getElem_toArray, List.getElem_cons_succ, List.getElem_cons_zero, List.setIfInBounds_toArray, List.set_cons_zero, List.set_cons_succ]
  refine wpAnyH_take (i := 14) (v := .int .i64 (i : Int)) rfl (by kernel_rfl) (by kernel_rfl) (by kernel_rfl) (fun _ _ _ h => h) (Or.inl ⟨by kernel_rfl, fun w hS => by obtain ⟨q0, q1⟩ := hS; go_simp⟩) S0 ?_
  simp only [Act.put, List.getElem_toArray, List.getElem_cons_succ, List.getElem_cons_zero, List.setIfInBounds_toArray, List.set_cons_zero, List.set_cons_succ]
  refine wpAnyH_take (i := 15) (v := .int .i64 (k : Int)) rfl (by kernel_rfl) (by kernel_rfl) (by kernel_rfl) (fun _ _ _ h => h) (Or.inl ⟨by kernel_rfl, fun w hS => by obtain ⟨q0, q1⟩ := hS; go_simp⟩) S0 ?_
  simp only [Act.put, List.getElem_toArray, List.getElem_cons_succ, List.getElem_cons_zero, List.setIfInBounds_toArray, List.set_cons_zero, List.set_cons_succ]
  refine wpAnyH_take (i := 16) (v := .int .i64 ((i : Int) + (k : Int))) rfl (by kernel_rfl) (by kernel_rfl) (by kernel_rfl) (fun _ _ _ h => h) (Or.inl ⟨by kernel_rfl, fun w hS => by obtain ⟨q0, q1⟩ := hS; go_simp⟩) S0 ?_
  simp only [Act.put, List.getElem_toArray, List.getElem_cons_succ, List.getElem_cons_zero, List.setIfInBounds_toArray, List.set_cons_zero, List.set_cons_succ]
  refine wpAnyH_take (i := 17) (v := .slice (some ⟨sb, i, none⟩) k (sc - i)) rfl (by kernel_rfl) (by kernel_rfl) (by kernel_rfl) (fun _ _ _ h => h) (Or.inl ⟨by kernel_rfl, fun w hS => by obtain ⟨q0, q1⟩ := hS; go_simp⟩) S0 ?_
  simp only [Act.put, List.getElem_toArray, List.getElem_cons_succ, List.getElem_cons_zero, List.setIfInBounds_toArray, List.set_cons_zero, List.set_cons_succ]
  rw [drew_drewN] at S0 ⊢
  have HX : Hid ((w.drewN (q0 + 1)).setCells pb po (byteCells l) = (w.setCells pb po (byteCells l)).drewN (q0 + 1)) := setCells_drewN _ _ _ _ _
  have out : ∀ j, ((w.drewN (q0 + 1)).setCells pb po (byteCells l)).cell? ⟨zb, j, none⟩ = w.cell? ⟨zb, j, none⟩ := fun j => by
    rw [World.cell?_setCells_out pb _ po _ _ (fun h => absurd h hne)]; rfl
  have S1 : ((w.drewN (q0 + 1)).setCells pb po (byteCells l)).cell? ⟨zb, 0, none⟩ = some (.slice (some ⟨sb, 0, none⟩) n sc) ∧ ((w.drewN (q0 + 1)).setCells pb po (byteCells l)).cell? ⟨zb, 1, none⟩ = some (.int .i64 (i : Int)) := ⟨(out 0).trans c0, (out 1).trans c1⟩
  have zf : ((w.drewN (q0 + 1)).setCells pb po (byteCells l)).frozen? ⟨zb, 1, none⟩ = false := by rw [World.frozen?_setCells]; exact frozen_block HZ.out
  refine wpAnyH_ready (rs := [18]) (by kernel_rfl) (by simp) ?_
  refine AllReadyH.cons rfl (fun K hK => ?_) AllReadyH.nil
  rw [if_pos (by kernel_rfl)]
  refine wp_copy (.tmp 37) (.tmp 52) 23 5 rfl pb po k pc (by kernel_rfl) ⟨sb, i, none⟩ k (sc - i) (by kernel_rfl) (byteCells l) Ybaf.underlying23 size1 (by rw [HCL.out]; exact (Nat.min_self k).symm) (fun j v hv => by rw [Addr.add_mid]; exact HS.out j v hv) (fun j hj => HP.out j (by rw [HCL.out] at hj; omega)) (one_byteCells l) (hK.out _ _ S1 (fun _ => ?_))
  clear hK K
  simp only [Act.put, List.getElem_toArray, List.getElem_cons_succ, List.getElem_cons_zero, List.setIfInBounds_toArray, List.set_cons_zero, List.set_cons_succ]
  refine wpAnyH_done (by kernel_rfl) ?_ _
  obtain ⟨_, d1⟩ := S1
  clear S0 out c0 c1 c2 c0' c1'
  rw [HCL.out]
  generalize (w.drewN (q0 + 1)).setCells pb po (byteCells l) = X at HX d1 zf ⊢
  go_wp2
  go_ret2
  refine ⟨rfl, q0 + 1, ?_⟩
  rw [HX.out]
  rfl

theorem mRead28 (v : Value) (w : World) : (method 199 28 v "Read").run Ybaf.prog w = .ok (38, v) w := by kernel_rfl
theorem mRead37 (v : Value) (w : World) : (method 199 37 v "Read").run Ybaf.prog w = .ok (40, v) w := by kernel_rfl
theorem mRead38 (v : Value) (w : World) : (method 199 38 v "Read").run Ybaf.prog w = .ok (41, v) w := by kernel_rfl
theorem mReadByte38 (v : Value) (w : World) : (method 199 38 v "ReadByte").run Ybaf.prog w = .ok (7, v) w := by kernel_rfl
def crA (zb : Nat) (cnt : Int) : Array Value := #[.iface 28 (.pointer (some ⟨zb, 0, none⟩)), .int .i64 cnt]
set_option maxHeartbeats 1000000 in
set_option maxRecDepth 100000 in
theorem cr_eof (cb zb sb n sc i st : Nat) (cnt : Int) (E : Value) (p : Value) (w : World) (hc : w.heap[cb]? = some (.cells (crA zb cnt) 48)) (hz : w.heap[zb]? = some (.cells (zzA sb n sc i st) 30)) (hE : w.cell? ⟨3, 0, none⟩ = some E) (hi : n ≤ i) :
    Calls Ybaf.prog 40 #[.pointer (some ⟨cb, 0, none⟩), p] w fun e w' => e = .returned (.tuple #[.int .i64 0, E]) ∧ ∃ q c', w' = (w.setCell ⟨cb, 1, none⟩ (.int .i64 c')).drewN q := by
  have c0 : w.cell? ⟨cb, 0, none⟩ = some (.iface 28 (.pointer (some ⟨zb, 0, none⟩))) := by rw [cell_of_row _ _ 0 _ _ (0, 0) hc]; rfl
  have c1 : w.cell? ⟨cb, 1, none⟩ = some (.int .i64 cnt) := by rw [cell_of_row _ _ 1 _ _ (0, 0) hc]; rfl
  have cf : w.frozen? ⟨cb, 1, none⟩ = false := frozen_block hc
  have mR := mRead28
  have HZ := hide hz; have HE := hide hE
  clear hc hz hE
  go_enter Ybaf.func40, Ybaf.ntmps40
  go_wp2_with (go_at_call 38; refine (zz_eof zb sb n sc i st E _ _ HZ.out HE.out hi).mono ?_; rintro e w1 ⟨rfl, q, rfl⟩)
  go_ret2
  exact ⟨rfl, q, _, rfl⟩
set_option maxHeartbeats 1000000 in
set_option maxRecDepth 100000 in
theorem cr_some (cb zb sb n sc i st k pb po m pc : Nat) (cnt : Int) (l : Bytes) (w : World) (hc : w.heap[cb]? = some (.cells (crA zb cnt) 48)) (hz : w.heap[zb]? = some (.cells (zzA sb n sc i st) 30)) (hi : i < n) (hnc : n ≤ sc) (hnm : n ≤ 1000000) (hmm : m ≤ 1000000) (hmc : m ≤ pc) (hst : 1 ≤ st ∧ st ≤ 7)
    (hm : 1 ≤ m) (hk : k = min (min m st) (n - i)) (hl : l.length = k) (hS : w.rangeAt sb i (byteCells l)) (hp : w.there pb po m) (hne : zb ≠ pb) (hcz : cb ≠ zb) (hcp : cb ≠ pb) :
    Calls Ybaf.prog 40 #[.pointer (some ⟨cb, 0, none⟩), .slice (some ⟨pb, po, none⟩) m pc] w fun e w' => e = .returned (.tuple #[.int .i64 (k : Int), .nilIface]) ∧
      ∃ q c', w' = (((w.setCells pb po (byteCells l)).setCell ⟨zb, 1, none⟩ (.int .i64 ((i + k : Nat) : Int))).setCell ⟨cb, 1, none⟩ (.int .i64 c')).drewN q := by
  have c0 : w.cell? ⟨cb, 0, none⟩ = some (.iface 28 (.pointer (some ⟨zb, 0, none⟩))) := by rw [cell_of_row _ _ 0 _ _ (0, 0) hc]; rfl
  have c1 : ((w.setCells pb po (byteCells l)).setCell ⟨zb, 1, none⟩ (.int .i64 ((i + k : Nat) : Int))).cell? ⟨cb, 1, none⟩ = some (.int .i64 cnt) := by
    rw [World.cell?_setCell_other _ _ _ _ (by intro e; exact hcz (congrArg Addr.block e).symm), World.cell?_setCells_out pb _ po _ _ (fun h => absurd h hcp), cell_of_row _ _ 1 _ _ (0, 0) hc]; rfl
  have cf : ((w.setCells pb po (byteCells l)).setCell ⟨zb, 1, none⟩ (.int .i64 ((i + k : Nat) : Int))).frozen? ⟨cb, 1, none⟩ = false := by
    rw [World.frozen?_setCell, World.frozen?_setCells]; exact frozen_block hc
  have mR := mRead28
  have HZC := hide (zz_some zb sb n sc i st k pb po m pc l w hz hi hnc hnm hmm hmc hst hm hk hl hS hp hne)
  clear hc hz hS hp hl hk
  generalize (w.setCells pb po (byteCells l)).setCell ⟨zb, 1, none⟩ (.int .i64 ((i + k : Nat) : Int)) = X at c1 cf HZC ⊢
  go_enter Ybaf.func40, Ybaf.ntmps40
  go_wp2_with (go_at_call 38; refine HZC.out.mono ?_; rintro e w1 ⟨rfl, q, rfl⟩)
  go_ret2
  exact ⟨rfl, q, _, rfl⟩
end Go.Proofs.YbulkbmlcFmt
