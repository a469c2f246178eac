/-
  LawS3161CHello: the buffered reader's Read: the end of the stream; and through the buffer.
-/
import Derived.Test.YbulkbmlcFmtH6
namespace Go.Proofs.YbulkbmlcFmt
open Go.RowKit Go.Lib
set_option linter.unusedVariables false
set_option linter.unusedSimpArgs false

set_option maxHeartbeats 4000000 in
set_option maxRecDepth 100000 in
theorem read_eof_direct {p : Par} (ok : p.Ok) {w : World} {i r : Nat} {buf : Bytes} {cnt lb lr : Int} (h : St p w i r r buf .nilIface cnt lb lr) (hin : p.n ≤ i) (pb po m pc : Nat) (hap : Apart p pb) (hm : p.K ≤ m) (hmm : m ≤ 1000000) (hmc : m ≤ pc) (hth : w.there pb po m) :
    Calls Ybaf.prog 41 #[.pointer (some ⟨p.rb, 0, none⟩), .slice (some ⟨pb, po, none⟩) m pc] w fun e w' => e = .returned (.tuple #[.int .i64 0, p.eof]) ∧ Fr (own p) w w' ∧ ∃ cnt' lb' lr', St p w' i r r buf .nilIface cnt' lb' lr' := by
  have l5 := ok.l5; have l4 := ok.l4; have l3 := ok.l3
  have c2 : w.cell? ⟨p.rb, 2, none⟩ = some (.int .i64 (r : Int)) := by rw [cell_of_row _ _ 2 _ _ (0, 0) h.rd]; rfl
  have c3 : w.cell? ⟨p.rb, 3, none⟩ = some (.int .i64 (r : Int)) := by rw [cell_of_row _ _ 3 _ _ (0, 0) h.rd]; rfl
  have H1 := hide h; have HT := hide hth; have HAP := hide hap; have HIN := hide hin
  clear h hth hap hin
  have m0 : ¬ m = 0 := by omega
  have mR := mRead37
  go_enter Ybaf.func41, Ybaf.ntmps41
  go_upto_region 6 with fail
  go_quiet (fail)
  have H2 := hide (H1.out.ahead nq); have F2 : Hid (Fr (own p) w (w.drewN nq)) := (Fr.refl _ _).drewN nq
  have T2 : Hid ((w.drewN nq).there pb po m) := HT.out
  have E2 : Hid ((w.drewN nq).heap[pb]? = w.heap[pb]?) := hide rfl
  clear c2 c3
  generalize w.drewN nq = W at H2 F2 T2 E2 ⊢
  have c0 : W.cell? ⟨p.rb, 0, none⟩ = some (.slice (some ⟨p.bb, 0, none⟩) p.K p.K) := by rw [cell_of_row _ _ 0 _ _ (0, 0) H2.out.rd]; rfl
  have c1 : W.cell? ⟨p.rb, 1, none⟩ = some (.iface 37 (.pointer (some ⟨p.cb, 0, none⟩))) := by rw [cell_of_row _ _ 1 _ _ (0, 0) H2.out.rd]; rfl
  have c4 : W.cell? ⟨p.rb, 4, none⟩ = some .nilIface := by rw [cell_of_row _ _ 4 _ _ (0, 0) H2.out.rd]; rfl
  have hge : (p.K : Int) ≤ (m : Int) := by omega
  have hrb : p.rb ≠ pb := fun e => HAP.out.2.2.2.1 e.symm
  go_wp2_with fail
  refine (cr_eof p.cb p.zb p.sb p.n p.sc i p.st cnt p.eof _ W H2.out.c H2.out.z H2.out.g HIN.out).mono ?_
  rintro x w1 ⟨rfl, q, c', rfl⟩
  simp only [Par.eof]
  have HX : Hid (St p ((W.setCell ⟨p.cb, 1, none⟩ (.int .i64 c')).drewN q) i r r buf .nilIface c' lb lr) := (H2.out.setC ok c').ahead q
  have FX : Hid (Fr (own p) w ((W.setCell ⟨p.cb, 1, none⟩ (.int .i64 c')).drewN q)) := (F2.out.set (Or.inr (Or.inl rfl)) _).drewN q
  clear c0 c1 c4
  generalize (W.setCell ⟨p.cb, 1, none⟩ (.int .i64 c')).drewN q = X at HX FX ⊢
  have d4 : X.cell? ⟨p.rb, 4, none⟩ = some .nilIface := by rw [cell_of_row _ _ 4 _ _ (0, 0) HX.out.rd]; rfl
  have f4 : X.frozen? ⟨p.rb, 4, none⟩ = false := frozen_block HX.out.rd
  go_upto_region 11 with fail
  have HY : Hid (St p (X.setCell ⟨p.rb, 4, none⟩ (.iface 63 (.pointer (some p.E)))) i r r buf p.eof c' lb lr) := HX.out.setR ok 4 _ rfl
  have FY : Hid (Fr (own p) w (X.setCell ⟨p.rb, 4, none⟩ (.iface 63 (.pointer (some p.E))))) := FX.out.set (Or.inr (Or.inr (Or.inl rfl))) _
  clear d4 f4
  generalize X.setCell ⟨p.rb, 4, none⟩ (.iface 63 (.pointer (some p.E))) = Y at HY FY ⊢
  go_wp2_with fail
  refine (readErr_any HY.out).mono ?_
  rintro e w3 ⟨rfl, rfl⟩
  go_wp2_with fail
  go_ret2
  exact ⟨rfl, FY.out.set (Or.inr (Or.inr (Or.inl rfl))) _, c', _, _, HY.out.setR ok 4 .nilIface rfl⟩

set_option maxHeartbeats 4000000 in
set_option maxRecDepth 100000 in
theorem read_eof_buf {p : Par} (ok : p.Ok) {w : World} {i r : Nat} {buf : Bytes} {cnt lb lr : Int} (h : St p w i r r buf .nilIface cnt lb lr) (hin : p.n ≤ i) (pb po m pc : Nat) (hap : Apart p pb) (hm1 : 1 ≤ m) (hm : m < p.K) (hmm : m ≤ 1000000) (hmc : m ≤ pc) (hth : w.there pb po m) :
    Calls Ybaf.prog 41 #[.pointer (some ⟨p.rb, 0, none⟩), .slice (some ⟨pb, po, none⟩) m pc] w fun e w' => e = .returned (.tuple #[.int .i64 0, p.eof]) ∧ Fr (own p) w w' ∧ ∃ cnt' lb' lr', St p w' i 0 0 buf .nilIface cnt' lb' lr' := by
  have l5 := ok.l5; have l4 := ok.l4; have l3 := ok.l3
  have c2 : w.cell? ⟨p.rb, 2, none⟩ = some (.int .i64 (r : Int)) := by rw [cell_of_row _ _ 2 _ _ (0, 0) h.rd]; rfl
  have c3 : w.cell? ⟨p.rb, 3, none⟩ = some (.int .i64 (r : Int)) := by rw [cell_of_row _ _ 3 _ _ (0, 0) h.rd]; rfl
  have H1 := hide h; have HT := hide hth; have HAP := hide hap; have HIN := hide hin
  clear h hth hap hin
  have m0 : ¬ m = 0 := by omega
  have mR := mRead37
  go_enter Ybaf.func41, Ybaf.ntmps41
  go_upto_region 6 with fail
  go_quiet (fail)
  have H2 := hide (H1.out.ahead nq); have F2 : Hid (Fr (own p) w (w.drewN nq)) := (Fr.refl _ _).drewN nq
  have T2 : Hid ((w.drewN nq).there pb po m) := HT.out
  have E2 : Hid ((w.drewN nq).heap[pb]? = w.heap[pb]?) := hide rfl
  clear c2 c3
  generalize w.drewN nq = W at H2 F2 T2 E2 ⊢
  have c0 : W.cell? ⟨p.rb, 0, none⟩ = some (.slice (some ⟨p.bb, 0, none⟩) p.K p.K) := by rw [cell_of_row _ _ 0 _ _ (0, 0) H2.out.rd]; rfl
  have c1 : W.cell? ⟨p.rb, 1, none⟩ = some (.iface 37 (.pointer (some ⟨p.cb, 0, none⟩))) := by rw [cell_of_row _ _ 1 _ _ (0, 0) H2.out.rd]; rfl
  have c4 : W.cell? ⟨p.rb, 4, none⟩ = some .nilIface := by rw [cell_of_row _ _ 4 _ _ (0, 0) H2.out.rd]; rfl
  have hge : ¬ (p.K : Int) ≤ (m : Int) := by omega
  have hge' : ¬ p.K ≤ m := by omega
  have d2 : W.cell? ⟨p.rb, 2, none⟩ = some (.int .i64 (r : Int)) := by rw [cell_of_row _ _ 2 _ _ (0, 0) H2.out.rd]; rfl
  have d3 : W.cell? ⟨p.rb, 3, none⟩ = some (.int .i64 (r : Int)) := by rw [cell_of_row _ _ 3 _ _ (0, 0) H2.out.rd]; rfl
  have f2 : W.frozen? ⟨p.rb, 2, none⟩ = false := frozen_block H2.out.rd
  have f3 : W.frozen? ⟨p.rb, 3, none⟩ = false := frozen_block H2.out.rd
  have hrb : p.rb ≠ pb := fun e => HAP.out.2.2.2.1 e.symm
  go_upto_region 19 with fail
  have HV : Hid (St p ((W.setCell ⟨p.rb, 2, none⟩ (.int .i64 0)).setCell ⟨p.rb, 3, none⟩ (.int .i64 0)) i 0 0 buf .nilIface cnt lb lr) := (H2.out.setR ok 2 (.int .i64 0) (r' := 0) (wd' := r) (e' := .nilIface) (lb' := lb) (lr' := lr) rfl).setR ok 3 _ rfl
  have FV : Hid (Fr (own p) w ((W.setCell ⟨p.rb, 2, none⟩ (.int .i64 0)).setCell ⟨p.rb, 3, none⟩ (.int .i64 0))) := (F2.out.set (Or.inr (Or.inr (Or.inl rfl))) _).set (Or.inr (Or.inr (Or.inl rfl))) _
  clear c0 c1 c4 d2 d3 f2 f3
  generalize (W.setCell ⟨p.rb, 2, none⟩ (.int .i64 0)).setCell ⟨p.rb, 3, none⟩ (.int .i64 0) = V at HV FV ⊢
  have c0 : V.cell? ⟨p.rb, 0, none⟩ = some (.slice (some ⟨p.bb, 0, none⟩) p.K p.K) := by rw [cell_of_row _ _ 0 _ _ (0, 0) HV.out.rd]; rfl
  have c1 : V.cell? ⟨p.rb, 1, none⟩ = some (.iface 37 (.pointer (some ⟨p.cb, 0, none⟩))) := by rw [cell_of_row _ _ 1 _ _ (0, 0) HV.out.rd]; rfl
  refine wp_region_held (S := fun w' => w'.cell? ⟨p.rb, 0, none⟩ = some (.slice (some ⟨p.bb, 0, none⟩) p.K p.K) ∧ w'.cell? ⟨p.rb, 1, none⟩ = some (.iface 37 (.pointer (some ⟨p.cb, 0, none⟩)))) (by kernel_rfl) ?_
  try (change wpAnyH _ _ _ _ _ _ _ _ (World.drew _))
  have S0 : V.drew.cell? ⟨p.rb, 0, none⟩ = some (.slice (some ⟨p.bb, 0, none⟩) p.K p.K) ∧ V.drew.cell? ⟨p.rb, 1, none⟩ = some (.iface 37 (.pointer (some ⟨p.cb, 0, none⟩))) := ⟨c0, c1⟩
  refine wpAnyH_take (i := 0) (v := .pointer (some ⟨p.rb, 0, none⟩)) rfl (by kernel_rfl) (by kernel_rfl) (by kernel_rfl) (fun _ _ _ h => h) (Or.inl ⟨by kernel_rfl, fun w hS => by obtain ⟨q0, q1⟩ := hS; go_simp⟩) S0 ?_
  simp only [Act.put, List.getElem_toArray, List.getElem_cons_succ, List.getElem_cons_zero, List.setIfInBounds_toArray, List.set_cons_zero, List.set_cons_succ]
  refine wpAnyH_take (i := 1) (v := .pointer (some ⟨p.rb, 0, none⟩)) rfl (by kernel_rfl) (by kernel_rfl) (by kernel_rfl) (fun _ _ _ h => h) (Or.inl ⟨by kernel_rfl, fun w hS => by obtain ⟨q0, q1⟩ := hS; go_simp⟩) S0 ?_
  simp only [Act.put, List.getElem_toArray, List.getElem_cons_succ, List.getElem_cons_zero, List.setIfInBounds_toArray, List.set_cons_zero, List.set_cons_succ]
  refine wpAnyH_take (i := 2) (v := .pointer (some ⟨p.rb, 0, none⟩)) rfl (by kernel_rfl) (by kernel_rfl) (by kernel_rfl) (fun _ _ _ h => h) (Or.inl ⟨by kernel_rfl, fun w hS => by obtain ⟨q0, q1⟩ := hS; go_simp⟩) S0 ?_
  simp only [Act.put, List.getElem_toArray, List.getElem_cons_succ, List.getElem_cons_zero, List.setIfInBounds_toArray, List.set_cons_zero, List.set_cons_succ]
  refine wpAnyH_take (i := 3) (v := .pointer (some ⟨p.rb, 1, none⟩)) rfl (by kernel_rfl) (by kernel_rfl) (by kernel_rfl) (fun _ _ _ h => h) (Or.inl ⟨by kernel_rfl, fun w hS => by obtain ⟨q0, q1⟩ := hS; go_simp⟩) S0 ?_
  simp only [Act.put, List.getElem_toArray, List.getElem_cons_succ, List.getElem_cons_zero, List.setIfInBounds_toArray, List.set_cons_zero, List.set_cons_succ]
  refine wpAnyH_take (i := 4) (v := .iface 37 (.pointer (some ⟨p.cb, 0, none⟩))) rfl (by kernel_rfl) (by kernel_rfl) (by kernel_rfl) (fun _ _ _ h => h) (Or.inl ⟨by kernel_rfl, fun w hS => by obtain ⟨q0, q1⟩ := hS; go_simp⟩) S0 ?_
  simp only [Act.put, List.getElem_toArray, List.getElem_cons_succ, List.getElem_cons_zero, List.setIfInBounds_toArray, List.set_cons_zero, List.set_cons_succ]
  refine wpAnyH_take (i := 5) (v := .pointer (some ⟨p.rb, 0, none⟩)) rfl (by kernel_rfl) (by kernel_rfl) (by kernel_rfl) (fun _ _ _ h => h) (Or.inl ⟨by kernel_rfl, fun w hS => by obtain ⟨q0, q1⟩ := hS; go_simp⟩) S0 ?_
  simp only [Act.put, List.getElem_toArray, List.getElem_cons_succ, List.getElem_cons_zero, List.setIfInBounds_toArray, List.set_cons_zero, List.set_cons_succ]
  refine wpAnyH_take (i := 6) (v := .pointer (some ⟨p.rb, 0, none⟩)) rfl (by kernel_rfl) (by kernel_rfl) (by kernel_rfl) (fun _ _ _ h => h) (Or.inl ⟨by kernel_rfl, fun w hS => by obtain ⟨q0, q1⟩ := hS; go_simp⟩) S0 ?_
  simp only [Act.put, List.getElem_toArray, List.getElem_cons_succ, List.getElem_cons_zero, List.setIfInBounds_toArray, List.set_cons_zero, List.set_cons_succ]
  refine wpAnyH_take (i := 7) (v := .pointer (some ⟨p.rb, 0, none⟩)) rfl (by kernel_rfl) (by kernel_rfl) (by kernel_rfl) (fun _ _ _ h => h) (Or.inl ⟨by kernel_rfl, fun w hS => by obtain ⟨q0, q1⟩ := hS; go_simp⟩) S0 ?_
  simp only [Act.put, List.getElem_toArray, List.getElem_cons_succ, List.getElem_cons_zero, List.setIfInBounds_toArray, List.set_cons_zero, List.set_cons_succ]
  refine wpAnyH_take (i := 8) (v := .slice (some ⟨p.bb, 0, none⟩) p.K p.K) rfl (by kernel_rfl) (by kernel_rfl) (by kernel_rfl) (fun _ _ _ h => h) (Or.inl ⟨by kernel_rfl, fun w hS => by obtain ⟨q0, q1⟩ := hS; go_simp⟩) S0 ?_
  simp only [Act.put, List.getElem_toArray, List.getElem_cons_succ, List.getElem_cons_zero, List.setIfInBounds_toArray, List.set_cons_zero, List.set_cons_succ]
  refine wpAnyH_take (i := 9) (v := .iface 37 (.pointer (some ⟨p.cb, 0, none⟩))) rfl (by kernel_rfl) (by kernel_rfl) (by kernel_rfl) (fun _ _ _ h => h) (Or.inl ⟨by kernel_rfl, fun w hS => by obtain ⟨q0, q1⟩ := hS; go_simp⟩) S0 ?_
  simp only [Act.put, List.getElem_toArray, List.getElem_cons_succ, List.getElem_cons_zero, List.setIfInBounds_toArray, List.set_cons_zero, List.set_cons_succ]
  refine wpAnyH_take (i := 10) (v := .iface 37 (.pointer (some ⟨p.cb, 0, none⟩))) rfl (by kernel_rfl) (by kernel_rfl) (by kernel_rfl) (fun _ _ _ h => h) (Or.inl ⟨by kernel_rfl, fun w hS => by obtain ⟨q0, q1⟩ := hS; go_simp⟩) S0 ?_
  simp only [Act.put, List.getElem_toArray, List.getElem_cons_succ, List.getElem_cons_zero, List.setIfInBounds_toArray, List.set_cons_zero, List.set_cons_succ]
  refine wpAnyH_ready (rs := [11]) (by kernel_rfl) (by simp) ?_
  refine AllReadyH.cons rfl (fun K hK => ?_) AllReadyH.nil
  rw [if_pos (by kernel_rfl)]
  go_simp
  refine (cr_eof p.cb p.zb p.sb p.n p.sc i p.st cnt p.eof _ V.drew HV.out.c HV.out.z HV.out.g HIN.out).mono ?_
  rintro x w1 ⟨rfl, q, c', rfl⟩
  simp only [Par.eof]
  have HX : Hid (St p ((V.drew.setCell ⟨p.cb, 1, none⟩ (.int .i64 c')).drewN q) i 0 0 buf .nilIface c' lb lr) := ((HV.out.ahead 1).setC ok c').ahead q
  have FX : Hid (Fr (own p) w ((V.drew.setCell ⟨p.cb, 1, none⟩ (.int .i64 c')).drewN q)) := ((FV.out.drewN 1).set (Or.inr (Or.inl rfl)) _).drewN q
  clear c0 c1 S0
  generalize (V.drew.setCell ⟨p.cb, 1, none⟩ (.int .i64 c')).drewN q = X at HX FX ⊢
  have S1 : X.cell? ⟨p.rb, 0, none⟩ = some (.slice (some ⟨p.bb, 0, none⟩) p.K p.K) ∧ X.cell? ⟨p.rb, 1, none⟩ = some (.iface 37 (.pointer (some ⟨p.cb, 0, none⟩))) := ⟨by rw [cell_of_row _ _ 0 _ _ (0, 0) HX.out.rd]; rfl, by rw [cell_of_row _ _ 1 _ _ (0, 0) HX.out.rd]; rfl⟩
  refine hK.out _ _ S1 (fun _ => ?_)
  clear hK K
  refine wpAnyH_take (i := 12) (v := .tuple #[.int .i64 0, .iface 63 (.pointer (some p.E))]) rfl (by kernel_rfl) (by kernel_rfl) (by kernel_rfl) (fun _ _ _ h => h) (Or.inl ⟨by kernel_rfl, fun w hS => by go_simp⟩) S1 ?_
  simp only [Act.put, List.getElem_toArray, List.getElem_cons_succ, List.getElem_cons_zero, List.setIfInBounds_toArray, List.set_cons_zero, List.set_cons_succ]
  refine wpAnyH_take (i := 13) (v := .int .i64 0) rfl (by kernel_rfl) (by kernel_rfl) (by kernel_rfl) (fun _ _ _ h => h) (Or.inl ⟨by kernel_rfl, fun w hS => by go_simp⟩) S1 ?_
  simp only [Act.put, List.getElem_toArray, List.getElem_cons_succ, List.getElem_cons_zero, List.setIfInBounds_toArray, List.set_cons_zero, List.set_cons_succ]
  refine wpAnyH_take (i := 14) (v := .iface 63 (.pointer (some p.E))) rfl (by kernel_rfl) (by kernel_rfl) (by kernel_rfl) (fun _ _ _ h => h) (Or.inl ⟨by kernel_rfl, fun w hS => by go_simp⟩) S1 ?_
  simp only [Act.put, List.getElem_toArray, List.getElem_cons_succ, List.getElem_cons_zero, List.setIfInBounds_toArray, List.set_cons_zero, List.set_cons_succ]
  refine wpAnyH_take (i := 15) (v := .int .i64 0) rfl (by kernel_rfl) (by kernel_rfl) (by kernel_rfl) (fun _ _ _ h => h) (Or.inl ⟨by kernel_rfl, fun w hS => by go_simp⟩) S1 ?_
  simp only [Act.put, List.getElem_toArray, List.getElem_cons_succ, List.getElem_cons_zero, List.setIfInBounds_toArray, List.set_cons_zero, List.set_cons_succ]
  refine wpAnyH_take (i := 16) (v := .pointer (some ⟨p.rb, 0, none⟩)) rfl (by kernel_rfl) (by kernel_rfl) (by kernel_rfl) (fun _ _ _ h => h) (Or.inl ⟨by kernel_rfl, fun w hS => by go_simp⟩) S1 ?_
  simp only [Act.put, List.getElem_toArray, List.getElem_cons_succ, List.getElem_cons_zero, List.setIfInBounds_toArray, List.set_cons_zero, List.set_cons_succ]
  refine wpAnyH_take (i := 17) (v := .pointer (some ⟨p.rb, 4, none⟩)) rfl (by kernel_rfl) (by kernel_rfl) (by kernel_rfl) (fun _ _ _ h => h) (Or.inl ⟨by kernel_rfl, fun w hS => by go_simp⟩) S1 ?_
  simp only [Act.put, List.getElem_toArray, List.getElem_cons_succ, List.getElem_cons_zero, List.setIfInBounds_toArray, List.set_cons_zero, List.set_cons_succ]
  have HY : Hid (St p (X.setCell ⟨p.rb, 4, none⟩ (.iface 63 (.pointer (some p.E)))) i 0 0 buf p.eof c' lb lr) := HX.out.setR ok 4 _ rfl
  have FY : Hid (Fr (own p) w (X.setCell ⟨p.rb, 4, none⟩ (.iface 63 (.pointer (some p.E))))) := FX.out.set (Or.inr (Or.inr (Or.inl rfl))) _
  have S2 : (X.setCell ⟨p.rb, 4, none⟩ (.iface 63 (.pointer (some p.E)))).cell? ⟨p.rb, 0, none⟩ = some (.slice (some ⟨p.bb, 0, none⟩) p.K p.K) ∧ (X.setCell ⟨p.rb, 4, none⟩ (.iface 63 (.pointer (some p.E)))).cell? ⟨p.rb, 1, none⟩ = some (.iface 37 (.pointer (some ⟨p.cb, 0, none⟩))) := ⟨by rw [cell_of_row _ _ 0 _ _ (0, 0) HY.out.rd]; rfl, by rw [cell_of_row _ _ 1 _ _ (0, 0) HY.out.rd]; rfl⟩
  refine wpAnyH_ready (rs := [18]) (by kernel_rfl) (by simp) ?_
  refine AllReadyH.cons rfl (fun K hK => ?_) AllReadyH.nil
  rw [if_pos (by kernel_rfl)]
  have e4 : X.cell? ⟨p.rb, 4, none⟩ = some .nilIface := by rw [cell_of_row _ _ 4 _ _ (0, 0) HX.out.rd]; rfl
  have ef4 : X.frozen? ⟨p.rb, 4, none⟩ = false := frozen_block HX.out.rd
  go_simp
  refine hK.out _ _ S2 (fun _ => ?_)
  clear hK K e4 ef4 S1 S2
  refine wpAnyH_done (by kernel_rfl) ?_ _
  generalize X.setCell ⟨p.rb, 4, none⟩ (.iface 63 (.pointer (some p.E))) = Y at HY FY ⊢
  go_wp2_with fail
  refine (readErr_any HY.out).mono ?_
  rintro e w3 ⟨rfl, rfl⟩
  go_wp2_with fail
  go_ret2
  exact ⟨rfl, FY.out.set (Or.inr (Or.inr (Or.inl rfl))) _, c', _, _, HY.out.setR ok 4 .nilIface rfl⟩
end Go.Proofs.YbulkbmlcFmt
