/-
  LawS3161CHello: the buffered reader's Read.
-/
import Derived.Test.YbulkbmlcFmtH4
namespace Go.Proofs.YbulkbmlcFmt
open Go.RowKit Go.Lib
set_option linter.unusedVariables false
set_option linter.unusedSimpArgs false

def Apart (p : Par) (pb : Nat) : Prop := pb ≠ 3 ∧ pb ≠ p.zb ∧ pb ≠ p.cb ∧ pb ≠ p.rb ∧ pb ≠ p.bb ∧ pb ≠ p.sb
def own2 (p : Par) (pb k : Nat) : Prop := own p k ∨ k = pb
theorem buf_range {p : Par} {w : World} {i r wd : Nat} {buf : Bytes} {e : Value} {cnt lb lr : Int} (h : St p w i r wd buf e cnt lb lr) (o k : Nat) : w.rangeAt p.bb o (byteCells ((buf.drop o).take k)) := fun j v hv => by
  have hj : j < ((buf.drop o).take k).length := by rw [← len_byteCells]; exact (List.getElem?_eq_some_iff.1 hv).1
  simp at hj
  rw [buf_cell h (j := o + j) (by omega)]
  simp [byteCells, List.getElem?_take, List.getElem?_drop] at hv
  obtain ⟨_, y, hy, rfl⟩ := hv
  rw [List.getElem?_eq_getElem (by omega)] at hy
  rw [Option.some.inj hy]
theorem setCells_same {W w : World} (b : Nat) : ∀ (vs : List Value) (o : Nat) (W w : World), W.heap[b]? = w.heap[b]? → (W.setCells b o vs).heap[b]? = (w.setCells b o vs).heap[b]?
  | [], _, _, _, h => h
  | v :: r, o, W, w, h => by
    rw [World.setCells, World.setCells]
    refine setCells_same (W := W) (w := w) b r (o + 1) _ _ ?_
    simp only [World.setCell, Array.getElem?_modify, if_pos]
    rw [h]
theorem setCells_same_block {W w : World} (b o : Nat) (vs : List Value) (_ _ : Unit) (h : W.heap[b]? = w.heap[b]?) : (W.drew.setCells b o vs).heap[b]? = (w.setCells b o vs).heap[b]? := setCells_same (W := W) (w := w) b vs o W.drew w h

set_option maxHeartbeats 4000000 in
set_option maxRecDepth 100000 in
theorem read_have {p : Par} (ok : p.Ok) {w : World} {i r wd : Nat} {buf : Bytes} {cnt lb lr : Int} (h : St p w i r wd buf .nilIface cnt lb lr) (hr : r < wd) (hw : wd ≤ p.K) (pb po m pc : Nat) (hap : Apart p pb) (hm : 1 ≤ m) (hmm : m ≤ 1000000) (hmc : m ≤ pc) (hth : w.there pb po m)
    (k : Nat) (hk : k = min m (wd - r)) :
    Calls Ybaf.prog 41 #[.pointer (some ⟨p.rb, 0, none⟩), .slice (some ⟨pb, po, none⟩) m pc] w fun e w' => e = .returned (.tuple #[.int .i64 (k : Int), .nilIface]) ∧ Fr (own2 p pb) w w' ∧
      (∃ lb' lr', St p w' i (r + k) wd buf .nilIface cnt lb' lr') ∧ w'.heap[pb]? = (w.setCells pb po (byteCells ((buf.drop r).take k))).heap[pb]? := by
  have l5 := ok.l5
  have hb := h.hb
  have hkm : k ≤ m := by omega
  have hk1 : 1 ≤ k := by omega
  have hkw : r + k ≤ wd := by omega
  have hkl : ((buf.drop r).take k).length = k := by simp; omega
  have HKL := hide hkl; have HK := hide hk
  clear hkl hk
  have c2 : w.cell? ⟨p.rb, 2, none⟩ = some (.int .i64 (r : Int)) := by rw [cell_of_row _ _ 2 _ _ (0, 0) h.rd]; rfl
  have c3 : w.cell? ⟨p.rb, 3, none⟩ = some (.int .i64 (wd : Int)) := by rw [cell_of_row _ _ 3 _ _ (0, 0) h.rd]; rfl
  have H1 := hide h; have HT := hide hth; have HAP := hide hap
  clear h hth hap
  have m0 : ¬ m = 0 := by omega
  have hne : ¬ r = wd := by omega
  go_enter Ybaf.func41, Ybaf.ntmps41
  go_upto_region 6 with fail
  go_quiet (fail)
  have H2 := hide (H1.out.ahead nq); have F2 : Hid (Fr (own2 p pb) w (w.drewN nq)) := (Fr.refl _ _).drewN nq
  have T2 : Hid ((w.drewN nq).there pb po m) := HT.out
  have E2 : Hid ((w.drewN nq).heap[pb]? = w.heap[pb]?) := hide rfl
  clear c2 c3
  go_upto_region 25 with fail
  generalize w.drewN nq = W at H2 F2 T2 E2 ⊢
  have c0 : W.cell? ⟨p.rb, 0, none⟩ = some (.slice (some ⟨p.bb, 0, none⟩) p.K p.K) := by rw [cell_of_row _ _ 0 _ _ (0, 0) H2.out.rd]; rfl
  have c2 : W.cell? ⟨p.rb, 2, none⟩ = some (.int .i64 ((r : Nat) : Int)) := by rw [cell_of_row _ _ 2 _ _ (0, 0) H2.out.rd]; rfl
  have c3 : W.cell? ⟨p.rb, 3, none⟩ = some (.int .i64 ((wd : Nat) : Int)) := by rw [cell_of_row _ _ 3 _ _ (0, 0) H2.out.rd]; rfl
  have hrb : p.rb ≠ pb := fun e => HAP.out.2.2.2.1 e.symm
  refine wp_region_held (S := fun w' => w'.cell? ⟨p.rb, 0, none⟩ = some (.slice (some ⟨p.bb, 0, none⟩) p.K p.K) ∧ w'.cell? ⟨p.rb, 2, none⟩ = some (.int .i64 ((r : Nat) : Int)) ∧ w'.cell? ⟨p.rb, 3, none⟩ = some (.int .i64 ((wd : Nat) : Int))) (by kernel_rfl) ?_
  try (change wpAnyH _ _ _ _ _ _ _ _ (World.drew _))
  have S0 : W.drew.cell? ⟨p.rb, 0, none⟩ = some (.slice (some ⟨p.bb, 0, none⟩) p.K p.K) ∧ W.drew.cell? ⟨p.rb, 2, none⟩ = some (.int .i64 ((r : Nat) : Int)) ∧ W.drew.cell? ⟨p.rb, 3, none⟩ = some (.int .i64 ((wd : Nat) : Int)) := ⟨c0, c2, c3⟩
  have hle1 : wd ≤ p.K := by omega
  have hle2 : r ≤ wd := by omega
  have hnK : ¬ p.K = r := by omega
  refine wpAnyH_take (i := 0) (v := .slice (some ⟨pb, po, none⟩) m pc) rfl (by kernel_rfl) (by kernel_rfl) (by kernel_rfl) (fun _ _ _ h => h) (Or.inl ⟨by kernel_rfl, fun w hS => by obtain ⟨q0, q2, q3⟩ := hS; go_simp⟩) S0 ?_
  simp only [Act.put, List.getElem_toArray, List.getElem_cons_succ, List.getElem_cons_zero, List.setIfInBounds_toArray, List.set_cons_zero, List.set_cons_succ]
  refine wpAnyH_take (i := 1) (v := .pointer (some ⟨p.rb, 0, none⟩)) rfl (by kernel_rfl) (by kernel_rfl) (by kernel_rfl) (fun _ _ _ h => h) (Or.inl ⟨by kernel_rfl, fun w hS => by obtain ⟨q0, q2, q3⟩ := hS; go_simp⟩) S0 ?_
  simp only [Act.put, List.getElem_toArray, List.getElem_cons_succ, List.getElem_cons_zero, List.setIfInBounds_toArray, List.set_cons_zero, List.set_cons_succ]
  refine wpAnyH_take (i := 2) (v := .pointer (some ⟨p.rb, 0, none⟩)) rfl (by kernel_rfl) (by kernel_rfl) (by kernel_rfl) (fun _ _ _ h => h) (Or.inl ⟨by kernel_rfl, fun w hS => by obtain ⟨q0, q2, q3⟩ := hS; go_simp⟩) S0 ?_
  simp only [Act.put, List.getElem_toArray, List.getElem_cons_succ, List.getElem_cons_zero, List.setIfInBounds_toArray, List.set_cons_zero, List.set_cons_succ]
  refine wpAnyH_take (i := 3) (v := .pointer (some ⟨p.rb, 0, none⟩)) rfl (by kernel_rfl) (by kernel_rfl) (by kernel_rfl) (fun _ _ _ h => h) (Or.inl ⟨by kernel_rfl, fun w hS => by obtain ⟨q0, q2, q3⟩ := hS; go_simp⟩) S0 ?_
  simp only [Act.put, List.getElem_toArray, List.getElem_cons_succ, List.getElem_cons_zero, List.setIfInBounds_toArray, List.set_cons_zero, List.set_cons_succ]
  refine wpAnyH_take (i := 4) (v := .slice (some ⟨p.bb, 0, none⟩) p.K p.K) rfl (by kernel_rfl) (by kernel_rfl) (by kernel_rfl) (fun _ _ _ h => h) (Or.inl ⟨by kernel_rfl, fun w hS => by obtain ⟨q0, q2, q3⟩ := hS; go_simp⟩) S0 ?_
  simp only [Act.put, List.getElem_toArray, List.getElem_cons_succ, List.getElem_cons_zero, List.setIfInBounds_toArray, List.set_cons_zero, List.set_cons_succ]
  refine wpAnyH_take (i := 5) (v := .pointer (some ⟨p.rb, 0, none⟩)) rfl (by kernel_rfl) (by kernel_rfl) (by kernel_rfl) (fun _ _ _ h => h) (Or.inl ⟨by kernel_rfl, fun w hS => by obtain ⟨q0, q2, q3⟩ := hS; go_simp⟩) S0 ?_
  simp only [Act.put, List.getElem_toArray, List.getElem_cons_succ, List.getElem_cons_zero, List.setIfInBounds_toArray, List.set_cons_zero, List.set_cons_succ]
  refine wpAnyH_take (i := 6) (v := .pointer (some ⟨p.rb, 0, none⟩)) rfl (by kernel_rfl) (by kernel_rfl) (by kernel_rfl) (fun _ _ _ h => h) (Or.inl ⟨by kernel_rfl, fun w hS => by obtain ⟨q0, q2, q3⟩ := hS; go_simp⟩) S0 ?_
  simp only [Act.put, List.getElem_toArray, List.getElem_cons_succ, List.getElem_cons_zero, List.setIfInBounds_toArray, List.set_cons_zero, List.set_cons_succ]
  refine wpAnyH_take (i := 7) (v := .pointer (some ⟨p.rb, 2, none⟩)) rfl (by kernel_rfl) (by kernel_rfl) (by kernel_rfl) (fun _ _ _ h => h) (Or.inl ⟨by kernel_rfl, fun w hS => by obtain ⟨q0, q2, q3⟩ := hS; go_simp⟩) S0 ?_
  simp only [Act.put, List.getElem_toArray, List.getElem_cons_succ, List.getElem_cons_zero, List.setIfInBounds_toArray, List.set_cons_zero, List.set_cons_succ]
  refine wpAnyH_take (i := 8) (v := .int .i64 ((r : Nat) : Int)) rfl (by kernel_rfl) (by kernel_rfl) (by kernel_rfl) (fun _ _ _ h => h) (Or.inl ⟨by kernel_rfl, fun w hS => by obtain ⟨q0, q2, q3⟩ := hS; go_simp⟩) S0 ?_
  simp only [Act.put, List.getElem_toArray, List.getElem_cons_succ, List.getElem_cons_zero, List.setIfInBounds_toArray, List.set_cons_zero, List.set_cons_succ]
  refine wpAnyH_take (i := 9) (v := .pointer (some ⟨p.rb, 0, none⟩)) rfl (by kernel_rfl) (by kernel_rfl) (by kernel_rfl) (fun _ _ _ h => h) (Or.inl ⟨by kernel_rfl, fun w hS => by obtain ⟨q0, q2, q3⟩ := hS; go_simp⟩) S0 ?_
  simp only [Act.put, List.getElem_toArray, List.getElem_cons_succ, List.getElem_cons_zero, List.setIfInBounds_toArray, List.set_cons_zero, List.set_cons_succ]
  refine wpAnyH_take (i := 10) (v := .pointer (some ⟨p.rb, 0, none⟩)) rfl (by kernel_rfl) (by kernel_rfl) (by kernel_rfl) (fun _ _ _ h => h) (Or.inl ⟨by kernel_rfl, fun w hS => by obtain ⟨q0, q2, q3⟩ := hS; go_simp⟩) S0 ?_
  simp only [Act.put, List.getElem_toArray, List.getElem_cons_succ, List.getElem_cons_zero, List.setIfInBounds_toArray, List.set_cons_zero, List.set_cons_succ]
  refine wpAnyH_take (i := 11) (v := .pointer (some ⟨p.rb, 3, none⟩)) rfl (by kernel_rfl) (by kernel_rfl) (by kernel_rfl) (fun _ _ _ h => h) (Or.inl ⟨by kernel_rfl, fun w hS => by obtain ⟨q0, q2, q3⟩ := hS; go_simp⟩) S0 ?_
  simp only [Act.put, List.getElem_toArray, List.getElem_cons_succ, List.getElem_cons_zero, List.setIfInBounds_toArray, List.set_cons_zero, List.set_cons_succ]
  refine wpAnyH_take (i := 12) (v := .int .i64 ((wd : Nat) : Int)) rfl (by kernel_rfl) (by kernel_rfl) (by kernel_rfl) (fun _ _ _ h => h) (Or.inl ⟨by kernel_rfl, fun w hS => by obtain ⟨q0, q2, q3⟩ := hS; go_simp⟩) S0 ?_
  simp only [Act.put, List.getElem_toArray, List.getElem_cons_succ, List.getElem_cons_zero, List.setIfInBounds_toArray, List.set_cons_zero, List.set_cons_succ]
  refine wpAnyH_take (i := 13) (v := .slice (some ⟨p.bb, r, none⟩) (wd - r) (p.K - r)) rfl (by kernel_rfl) (by kernel_rfl) (by kernel_rfl) (fun _ _ _ h => h) (Or.inl ⟨by kernel_rfl, fun w hS => by obtain ⟨q0, q2, q3⟩ := hS; go_simp⟩) S0 ?_
  simp only [Act.put, List.getElem_toArray, List.getElem_cons_succ, List.getElem_cons_zero, List.setIfInBounds_toArray, List.set_cons_zero, List.set_cons_succ]
  have HX : Hid (St p (W.drew.setCells pb po (byteCells ((buf.drop r).take k))) i r wd buf .nilIface cnt lb lr) := (H2.out.ahead 1).setO ok HAP.out _ _
  have FX : Hid (Fr (own2 p pb) w (W.drew.setCells pb po (byteCells ((buf.drop r).take k)))) := (F2.out.drewN 1).sets (Or.inr rfl) _ _
  have EX : Hid ((W.drew.setCells pb po (byteCells ((buf.drop r).take k))).heap[pb]? = (w.setCells pb po (byteCells ((buf.drop r).take k))).heap[pb]?) := hide (setCells_same_block _ _ _ () () E2.out)
  have S1 : (W.drew.setCells pb po (byteCells ((buf.drop r).take k))).cell? ⟨p.rb, 0, none⟩ = some (.slice (some ⟨p.bb, 0, none⟩) p.K p.K) ∧ (W.drew.setCells pb po (byteCells ((buf.drop r).take k))).cell? ⟨p.rb, 2, none⟩ = some (.int .i64 ((r : Nat) : Int)) ∧ (W.drew.setCells pb po (byteCells ((buf.drop r).take k))).cell? ⟨p.rb, 3, none⟩ = some (.int .i64 ((wd : Nat) : Int)) := ⟨by rw [cell_of_row _ _ 0 _ _ (0, 0) HX.out.rd]; rfl, by rw [cell_of_row _ _ 2 _ _ (0, 0) HX.out.rd]; rfl, by rw [cell_of_row _ _ 3 _ _ (0, 0) HX.out.rd]; rfl⟩
  refine wpAnyH_ready (rs := [14]) (by kernel_rfl) (by simp) ?_
  refine AllReadyH.cons rfl (fun K hK => ?_) AllReadyH.nil
  rw [if_pos (by kernel_rfl)]
  refine wp_copy (.tmp 109) (.tmp 122) 23 5 rfl pb po m pc (by kernel_rfl) ⟨p.bb, r, none⟩ (wd - r) (p.K - r) (by kernel_rfl) (byteCells ((buf.drop r).take k)) Ybaf.underlying23 size1 (by rw [len_byteCells, HKL.out, HK.out]; exact Nat.min_comm _ _) (fun j v hv => by rw [Addr.add_mid]; exact buf_range H2.out r k j v hv) (fun j hj => T2.out j (by rw [len_byteCells, HKL.out] at hj; omega)) (one_byteCells _) (hK.out _ _ S1 (fun _ => ?_))
  clear hK K
  simp only [Act.put, List.getElem_toArray, List.getElem_cons_succ, List.getElem_cons_zero, List.setIfInBounds_toArray, List.set_cons_zero, List.set_cons_succ]
  rw [len_byteCells, HKL.out]
  refine wpAnyH_take (i := 15) (v := .int .i64 (k : Int)) rfl (by kernel_rfl) (by kernel_rfl) (by kernel_rfl) (fun _ _ _ h => h) (Or.inl ⟨by kernel_rfl, fun w hS => by go_simp⟩) S1 ?_
  simp only [Act.put, List.getElem_toArray, List.getElem_cons_succ, List.getElem_cons_zero, List.setIfInBounds_toArray, List.set_cons_zero, List.set_cons_succ]
  refine wpAnyH_done (by kernel_rfl) ?_ _
  clear c0 c2 c3 S0 S1 T2
  generalize W.drew.setCells pb po (byteCells ((buf.drop r).take k)) = X at HX FX EX ⊢
  have d2 : X.cell? ⟨p.rb, 2, none⟩ = some (.int .i64 ((r : Nat) : Int)) := by rw [cell_of_row _ _ 2 _ _ (0, 0) HX.out.rd]; rfl
  have f2 : X.frozen? ⟨p.rb, 2, none⟩ = false := frozen_block HX.out.rd
  have hwr : IntKind.i64.wrap (((r : Nat) : Int) + (k : Int)) = ((r : Nat) : Int) + (k : Int) := by rw [IntKind.wrap_i64]; omega
  go_upto_region 27 with fail
  have HY : Hid (St p (X.setCell ⟨p.rb, 2, none⟩ (.int .i64 (((r : Nat) : Int) + (k : Int)))) i (r + k) wd buf .nilIface cnt lb lr) := HX.out.setR ok 2 _ rfl
  have FY : Hid (Fr (own2 p pb) w (X.setCell ⟨p.rb, 2, none⟩ (.int .i64 (((r : Nat) : Int) + (k : Int))))) := FX.out.set (Or.inl (Or.inr (Or.inr (Or.inl rfl)))) _
  have EY : Hid ((X.setCell ⟨p.rb, 2, none⟩ (.int .i64 (((r : Nat) : Int) + (k : Int)))).heap[pb]? = (w.setCells pb po (byteCells ((buf.drop r).take k))).heap[pb]?) := hide ((heap_setCell_other _ _ _ _ (fun e => hrb e.symm)).trans EX.out)
  clear d2 f2 hwr
  generalize X.setCell ⟨p.rb, 2, none⟩ (.int .i64 (((r : Nat) : Int) + (k : Int))) = Y at HY FY EY ⊢
  obtain ⟨j1, hj1⟩ : ∃ j1, j1 + 1 = r + k := ⟨r + k - 1, by omega⟩
  have hbY := HY.out.hb
  have hjl : j1 < buf.length := by omega
  have g0 : Y.cell? ⟨p.rb, 0, none⟩ = some (.slice (some ⟨p.bb, 0, none⟩) p.K p.K) := by rw [cell_of_row _ _ 0 _ _ (0, 0) HY.out.rd]; rfl
  have g2 : Y.cell? ⟨p.rb, 2, none⟩ = some (.int .i64 ((j1 : Int) + 1)) := by rw [cell_of_row _ _ 2 _ _ (0, 0) HY.out.rd, ← hj1]; rfl
  have gb : Y.cell? ⟨p.bb, j1, none⟩ = some (.int .u8 (buf[j1].toNat : Int)) := buf_cell HY.out hjl
  have gf : Y.frozen? ⟨p.rb, 5, none⟩ = false := frozen_block HY.out.rd
  have g5 : Y.cell? ⟨p.rb, 5, none⟩ = some (.int .i64 lb) := by rw [cell_of_row _ _ 5 _ _ (0, 0) HY.out.rd]; rfl
  generalize buf[j1] = y at gb
  have hy := y.toNat_lt
  have bj : (j1 : Int) < (p.K : Int) := by omega
  refine wp_region_held (S := fun w' => w'.cell? ⟨p.rb, 0, none⟩ = some (.slice (some ⟨p.bb, 0, none⟩) p.K p.K) ∧ w'.cell? ⟨p.rb, 2, none⟩ = some (.int .i64 ((j1 : Int) + 1)) ∧ w'.cell? ⟨p.bb, j1, none⟩ = some (.int .u8 (y.toNat : Int))) (by kernel_rfl) ?_
  try (change wpAnyH _ _ _ _ _ _ _ _ (World.drew _))
  have S0 : Y.drew.cell? ⟨p.rb, 0, none⟩ = some (.slice (some ⟨p.bb, 0, none⟩) p.K p.K) ∧ Y.drew.cell? ⟨p.rb, 2, none⟩ = some (.int .i64 ((j1 : Int) + 1)) ∧ Y.drew.cell? ⟨p.bb, j1, none⟩ = some (.int .u8 (y.toNat : Int)) := ⟨g0, g2, gb⟩
  have hw9 : IntKind.i64.wrap (j1 : Int) = (j1 : Int) := by rw [IntKind.wrap_i64]; omega
  have hcv : IntKind.i64.wrap (y.toNat : Int) = (y.toNat : Int) := by rw [IntKind.wrap_i64]; omega
  have hcv' : wrap64 (y.toNat : Int) = (y.toNat : Int) := by unfold wrap64; omega
  refine wpAnyH_take (i := 0) (v := .pointer (some ⟨p.rb, 0, none⟩)) rfl (by kernel_rfl) (by kernel_rfl) (by kernel_rfl) (fun _ _ _ h => h) (Or.inl ⟨by kernel_rfl, fun w hS => by obtain ⟨q0, q2, q3⟩ := hS; go_simp⟩) S0 ?_
  simp only [Act.put, List.getElem_toArray, List.getElem_cons_succ, List.getElem_cons_zero, List.setIfInBounds_toArray, List.set_cons_zero, List.set_cons_succ]
  refine wpAnyH_take (i := 1) (v := .pointer (some ⟨p.rb, 0, none⟩)) rfl (by kernel_rfl) (by kernel_rfl) (by kernel_rfl) (fun _ _ _ h => h) (Or.inl ⟨by kernel_rfl, fun w hS => by obtain ⟨q0, q2, q3⟩ := hS; go_simp⟩) S0 ?_
  simp only [Act.put, List.getElem_toArray, List.getElem_cons_succ, List.getElem_cons_zero, List.setIfInBounds_toArray, List.set_cons_zero, List.set_cons_succ]
  refine wpAnyH_take (i := 2) (v := .pointer (some ⟨p.rb, 0, none⟩)) rfl (by kernel_rfl) (by kernel_rfl) (by kernel_rfl) (fun _ _ _ h => h) (Or.inl ⟨by kernel_rfl, fun w hS => by obtain ⟨q0, q2, q3⟩ := hS; go_simp⟩) S0 ?_
  simp only [Act.put, List.getElem_toArray, List.getElem_cons_succ, List.getElem_cons_zero, List.setIfInBounds_toArray, List.set_cons_zero, List.set_cons_succ]
  refine wpAnyH_take (i := 3) (v := .pointer (some ⟨p.rb, 0, none⟩)) rfl (by kernel_rfl) (by kernel_rfl) (by kernel_rfl) (fun _ _ _ h => h) (Or.inl ⟨by kernel_rfl, fun w hS => by obtain ⟨q0, q2, q3⟩ := hS; go_simp⟩) S0 ?_
  simp only [Act.put, List.getElem_toArray, List.getElem_cons_succ, List.getElem_cons_zero, List.setIfInBounds_toArray, List.set_cons_zero, List.set_cons_succ]
  refine wpAnyH_take (i := 4) (v := .slice (some ⟨p.bb, 0, none⟩) p.K p.K) rfl (by kernel_rfl) (by kernel_rfl) (by kernel_rfl) (fun _ _ _ h => h) (Or.inl ⟨by kernel_rfl, fun w hS => by obtain ⟨q0, q2, q3⟩ := hS; go_simp⟩) S0 ?_
  simp only [Act.put, List.getElem_toArray, List.getElem_cons_succ, List.getElem_cons_zero, List.setIfInBounds_toArray, List.set_cons_zero, List.set_cons_succ]
  refine wpAnyH_take (i := 5) (v := .pointer (some ⟨p.rb, 0, none⟩)) rfl (by kernel_rfl) (by kernel_rfl) (by kernel_rfl) (fun _ _ _ h => h) (Or.inl ⟨by kernel_rfl, fun w hS => by obtain ⟨q0, q2, q3⟩ := hS; go_simp⟩) S0 ?_
  simp only [Act.put, List.getElem_toArray, List.getElem_cons_succ, List.getElem_cons_zero, List.setIfInBounds_toArray, List.set_cons_zero, List.set_cons_succ]
  refine wpAnyH_take (i := 6) (v := .pointer (some ⟨p.rb, 0, none⟩)) rfl (by kernel_rfl) (by kernel_rfl) (by kernel_rfl) (fun _ _ _ h => h) (Or.inl ⟨by kernel_rfl, fun w hS => by obtain ⟨q0, q2, q3⟩ := hS; go_simp⟩) S0 ?_
  simp only [Act.put, List.getElem_toArray, List.getElem_cons_succ, List.getElem_cons_zero, List.setIfInBounds_toArray, List.set_cons_zero, List.set_cons_succ]
  refine wpAnyH_take (i := 7) (v := .pointer (some ⟨p.rb, 2, none⟩)) rfl (by kernel_rfl) (by kernel_rfl) (by kernel_rfl) (fun _ _ _ h => h) (Or.inl ⟨by kernel_rfl, fun w hS => by obtain ⟨q0, q2, q3⟩ := hS; go_simp⟩) S0 ?_
  simp only [Act.put, List.getElem_toArray, List.getElem_cons_succ, List.getElem_cons_zero, List.setIfInBounds_toArray, List.set_cons_zero, List.set_cons_succ]
  refine wpAnyH_take (i := 8) (v := .int .i64 ((j1 : Int) + 1)) rfl (by kernel_rfl) (by kernel_rfl) (by kernel_rfl) (fun _ _ _ h => h) (Or.inl ⟨by kernel_rfl, fun w hS => by obtain ⟨q0, q2, q3⟩ := hS; go_simp⟩) S0 ?_
  simp only [Act.put, List.getElem_toArray, List.getElem_cons_succ, List.getElem_cons_zero, List.setIfInBounds_toArray, List.set_cons_zero, List.set_cons_succ]
  refine wpAnyH_take (i := 9) (v := .int .i64 (j1 : Int)) rfl (by kernel_rfl) (by kernel_rfl) (by kernel_rfl) (fun _ _ _ h => h) (Or.inl ⟨by kernel_rfl, fun w hS => by obtain ⟨q0, q2, q3⟩ := hS; go_simp⟩) S0 ?_
  simp only [Act.put, List.getElem_toArray, List.getElem_cons_succ, List.getElem_cons_zero, List.setIfInBounds_toArray, List.set_cons_zero, List.set_cons_succ]
  refine wpAnyH_take (i := 10) (v := .pointer (some ⟨p.bb, j1, none⟩)) rfl (by kernel_rfl) (by kernel_rfl) (by kernel_rfl) (fun _ _ _ h => h) (Or.inl ⟨by kernel_rfl, fun w hS => by obtain ⟨q0, q2, q3⟩ := hS; go_simp⟩) S0 ?_
  simp only [Act.put, List.getElem_toArray, List.getElem_cons_succ, List.getElem_cons_zero, List.setIfInBounds_toArray, List.set_cons_zero, List.set_cons_succ]
  refine wpAnyH_take (i := 11) (v := .int .u8 (y.toNat : Int)) rfl (by kernel_rfl) (by kernel_rfl) (by kernel_rfl) (fun _ _ _ h => h) (Or.inl ⟨by kernel_rfl, fun w hS => by obtain ⟨q0, q2, q3⟩ := hS; go_simp⟩) S0 ?_
  simp only [Act.put, List.getElem_toArray, List.getElem_cons_succ, List.getElem_cons_zero, List.setIfInBounds_toArray, List.set_cons_zero, List.set_cons_succ]
  refine wpAnyH_take (i := 12) (v := .int .i64 (y.toNat : Int)) rfl (by kernel_rfl) (by kernel_rfl) (by kernel_rfl) (fun _ _ _ h => h) (Or.inl ⟨by kernel_rfl, fun w hS => by obtain ⟨q0, q2, q3⟩ := hS; go_simp⟩) S0 ?_
  simp only [Act.put, List.getElem_toArray, List.getElem_cons_succ, List.getElem_cons_zero, List.setIfInBounds_toArray, List.set_cons_zero, List.set_cons_succ]
  refine wpAnyH_take (i := 13) (v := .pointer (some ⟨p.rb, 0, none⟩)) rfl (by kernel_rfl) (by kernel_rfl) (by kernel_rfl) (fun _ _ _ h => h) (Or.inl ⟨by kernel_rfl, fun w hS => by obtain ⟨q0, q2, q3⟩ := hS; go_simp⟩) S0 ?_
  simp only [Act.put, List.getElem_toArray, List.getElem_cons_succ, List.getElem_cons_zero, List.setIfInBounds_toArray, List.set_cons_zero, List.set_cons_succ]
  refine wpAnyH_take (i := 14) (v := .pointer (some ⟨p.rb, 5, none⟩)) rfl (by kernel_rfl) (by kernel_rfl) (by kernel_rfl) (fun _ _ _ h => h) (Or.inl ⟨by kernel_rfl, fun w hS => by obtain ⟨q0, q2, q3⟩ := hS; go_simp⟩) S0 ?_
  simp only [Act.put, List.getElem_toArray, List.getElem_cons_succ, List.getElem_cons_zero, List.setIfInBounds_toArray, List.set_cons_zero, List.set_cons_succ]
  have HZ9 : Hid (St p (Y.drew.setCell ⟨p.rb, 5, none⟩ (.int .i64 (y.toNat : Int))) i (r + k) wd buf .nilIface cnt (y.toNat : Int) lr) := (HY.out.ahead 1).setR ok 5 _ rfl
  have FZ9 : Hid (Fr (own2 p pb) w (Y.drew.setCell ⟨p.rb, 5, none⟩ (.int .i64 (y.toNat : Int)))) := (FY.out.drewN 1).set (Or.inl (Or.inr (Or.inr (Or.inl rfl)))) _
  have EZ9 : Hid ((Y.drew.setCell ⟨p.rb, 5, none⟩ (.int .i64 (y.toNat : Int))).heap[pb]? = (w.setCells pb po (byteCells ((buf.drop r).take k))).heap[pb]?) := hide ((heap_setCell_other _ _ _ _ (fun e => hrb e.symm)).trans EY.out)
  have S1 : (Y.drew.setCell ⟨p.rb, 5, none⟩ (.int .i64 (y.toNat : Int))).cell? ⟨p.rb, 0, none⟩ = some (.slice (some ⟨p.bb, 0, none⟩) p.K p.K) ∧ (Y.drew.setCell ⟨p.rb, 5, none⟩ (.int .i64 (y.toNat : Int))).cell? ⟨p.rb, 2, none⟩ = some (.int .i64 ((j1 : Int) + 1)) ∧ (Y.drew.setCell ⟨p.rb, 5, none⟩ (.int .i64 (y.toNat : Int))).cell? ⟨p.bb, j1, none⟩ = some (.int .u8 (y.toNat : Int)) :=
    ⟨by rw [cell_of_row _ _ 0 _ _ (0, 0) HZ9.out.rd]; rfl, by rw [cell_of_row _ _ 2 _ _ (0, 0) HZ9.out.rd, ← hj1]; rfl, by rw [World.cell?_setCell_other _ _ _ _ (by intro e; exact ok.n8 (congrArg Addr.block e))]; exact gb⟩
  refine wpAnyH_ready (rs := [15]) (by kernel_rfl) (by simp) ?_
  refine AllReadyH.cons rfl (fun K hK => ?_) AllReadyH.nil
  rw [if_pos (by kernel_rfl)]
  have gf' : Y.drew.frozen? ⟨p.rb, 5, none⟩ = false := gf
  have g5' : Y.drew.cell? ⟨p.rb, 5, none⟩ = some (.int .i64 lb) := g5
  go_simp
  refine hK.out _ (Y.drew.setCell ⟨p.rb, 5, none⟩ (.int .i64 (y.toNat : Int))) S1 (fun _ => ?_)
  clear hK K
  refine wpAnyH_done (by kernel_rfl) ?_ _
  clear S0 S1 g0 g2 gb gf g5 gf' g5' hw9 hcv hcv'
  generalize Y.drew.setCell ⟨p.rb, 5, none⟩ (.int .i64 (y.toNat : Int)) = Z at HZ9 FZ9 EZ9 ⊢
  have e6 : Z.cell? ⟨p.rb, 6, none⟩ = some (.int .i64 lr) := by rw [cell_of_row _ _ 6 _ _ (0, 0) HZ9.out.rd]; rfl
  have ef6 : Z.frozen? ⟨p.rb, 6, none⟩ = false := frozen_block HZ9.out.rd
  go_wp2
  go_ret2
  have HFIN : Hid (St p (Z.setCell ⟨p.rb, 6, none⟩ (.int .i64 (-1))) i (r + k) wd buf .nilIface cnt (y.toNat : Int) (-1)) := HZ9.out.setR ok 6 _ rfl
  have FFIN := FZ9.out.set (j := 6) (Or.inl (Or.inr (Or.inr (Or.inl rfl)))) (.int .i64 (-1))
  have EFIN : (Z.setCell ⟨p.rb, 6, none⟩ (.int .i64 (-1))).heap[pb]? = (w.setCells pb po (byteCells ((buf.drop r).take k))).heap[pb]? := (heap_setCell_other _ _ _ _ (fun e => hrb e.symm)).trans EZ9.out
  exact ⟨rfl, FFIN, ⟨_, _, HFIN.out⟩, EFIN⟩
end Go.Proofs.YbulkbmlcFmt
