/-
  LawS3161CHello: the buffered reader's Read through the buffer; and Read by the stream.
-/
import Derived.Test.YbulkbmlcFmtH7
namespace Go.Proofs.YbulkbmlcFmt
open Go.RowKit Go.Lib
set_option linter.unusedVariables false
set_option linter.unusedSimpArgs false

set_option maxHeartbeats 4000000 in
set_option maxRecDepth 100000 in
theorem read_fill {p : Par} (ok : p.Ok) {w : World} {i r : Nat} {buf : Bytes} {cnt lb lr : Int} (h : St p w i r r buf .nilIface cnt lb lr) (hin : i < p.n) (pb po m pc : Nat) (hap : Apart p pb) (hm1 : 1 ≤ m) (hm : m < p.K) (hmm : m ≤ 1000000) (hmc : m ≤ pc) (hth : w.there pb po m)
    (k' k : Nat) (hk' : k' = min (min p.K p.st) (p.n - i)) (hk : k = min m k') (b : Bytes) (hbb : b = (p.S.drop i).take k' ++ buf.drop k') :
    Calls Ybaf.prog 41 #[.pointer (some ⟨p.rb, 0, none⟩), .slice (some ⟨pb, po, none⟩) m pc] w fun e w' => e = .returned (.tuple #[.int .i64 (k : Int), .nilIface]) ∧ Fr (own2 p pb) w w' ∧
      (∃ cnt' lb' lr', St p w' (i + k') k k' b .nilIface cnt' lb' lr') ∧ w'.heap[pb]? = (w.setCells pb po (byteCells ((b.drop 0).take k))).heap[pb]? := by
  have hk1' : 1 ≤ k' := by have := ok.l4; have := ok.l5; omega
  have hkK : k' ≤ p.K := by omega
  have hkn : i + k' ≤ p.n := by omega
  have hkl' : ((p.S.drop i).take k').length = k' := by have := ok.l3; simp; omega
  have hbl : b.length = p.K := by have := h.hb; rw [hbb, List.length_append, hkl']; simp; omega
  have hkl : ((b.drop 0).take k).length = k := by simp; omega
  have HKL := hide hkl; have HK : Hid (k = min m (k' - 0)) := hk; have HK' := hide hk'; have HKL' := hide hkl'; have HBB := hide hbb
  have hk1 : 1 ≤ k := by omega
  have hkm : k ≤ m := by omega
  have hkk : k ≤ k' := by omega
  clear hkl hk hk' hkl' hbb
  have l5 := ok.l5; have l4 := ok.l4; have l3 := ok.l3
  have c2 : w.cell? ⟨p.rb, 2, none⟩ = some (.int .i64 (r : Int)) := by rw [cell_of_row _ _ 2 _ _ (0, 0) h.rd]; rfl
  have c3 : w.cell? ⟨p.rb, 3, none⟩ = some (.int .i64 (r : Int)) := by rw [cell_of_row _ _ 3 _ _ (0, 0) h.rd]; rfl
  have H1 := hide h; have HT := hide hth; have HAP := hide hap; have HIN := hide hin
  clear h hth hap hin
  have m0 : ¬ m = 0 := by omega
  have mR := mRead37
  go_enter Ybaf.func41, Ybaf.ntmps41
  go_upto_region 6 with fail
  go_quiet (fail)
  have H2 := hide (H1.out.ahead nq); have F2 : Hid (Fr (own2 p pb) w (w.drewN nq)) := (Fr.refl _ _).drewN nq
  have T2 : Hid ((w.drewN nq).there pb po m) := HT.out
  have E2 : Hid ((w.drewN nq).heap[pb]? = w.heap[pb]?) := hide rfl
  clear c2 c3
  generalize w.drewN nq = W at H2 F2 T2 E2 ⊢
  have c0 : W.cell? ⟨p.rb, 0, none⟩ = some (.slice (some ⟨p.bb, 0, none⟩) p.K p.K) := by rw [cell_of_row _ _ 0 _ _ (0, 0) H2.out.rd]; rfl
  have c1 : W.cell? ⟨p.rb, 1, none⟩ = some (.iface 37 (.pointer (some ⟨p.cb, 0, none⟩))) := by rw [cell_of_row _ _ 1 _ _ (0, 0) H2.out.rd]; rfl
  have c4 : W.cell? ⟨p.rb, 4, none⟩ = some .nilIface := by rw [cell_of_row _ _ 4 _ _ (0, 0) H2.out.rd]; rfl
  have hge : ¬ (p.K : Int) ≤ (m : Int) := by omega
  have hge' : ¬ p.K ≤ m := by omega
  have d2 : W.cell? ⟨p.rb, 2, none⟩ = some (.int .i64 (r : Int)) := by rw [cell_of_row _ _ 2 _ _ (0, 0) H2.out.rd]; rfl
  have d3 : W.cell? ⟨p.rb, 3, none⟩ = some (.int .i64 (r : Int)) := by rw [cell_of_row _ _ 3 _ _ (0, 0) H2.out.rd]; rfl
  have f2 : W.frozen? ⟨p.rb, 2, none⟩ = false := frozen_block H2.out.rd
  have f3 : W.frozen? ⟨p.rb, 3, none⟩ = false := frozen_block H2.out.rd
  have hrb : p.rb ≠ pb := fun e => HAP.out.2.2.2.1 e.symm
  go_upto_region 19 with fail
  have HV : Hid (St p ((W.setCell ⟨p.rb, 2, none⟩ (.int .i64 0)).setCell ⟨p.rb, 3, none⟩ (.int .i64 0)) i 0 0 buf .nilIface cnt lb lr) := (H2.out.setR ok 2 (.int .i64 0) (r' := 0) (wd' := r) (e' := .nilIface) (lb' := lb) (lr' := lr) rfl).setR ok 3 _ rfl
  have FV : Hid (Fr (own2 p pb) w ((W.setCell ⟨p.rb, 2, none⟩ (.int .i64 0)).setCell ⟨p.rb, 3, none⟩ (.int .i64 0))) := (F2.out.set (Or.inl (Or.inr (Or.inr (Or.inl rfl)))) _).set (Or.inl (Or.inr (Or.inr (Or.inl rfl)))) _
  have EV : Hid (((W.setCell ⟨p.rb, 2, none⟩ (.int .i64 0)).setCell ⟨p.rb, 3, none⟩ (.int .i64 0)).heap[pb]? = w.heap[pb]?) := hide (((heap_setCell_other _ _ _ _ (fun e => hrb e.symm)).trans (heap_setCell_other _ _ _ _ (fun e => hrb e.symm))).trans E2.out)
  clear c0 c1 c4 d2 d3 f2 f3
  generalize (W.setCell ⟨p.rb, 2, none⟩ (.int .i64 0)).setCell ⟨p.rb, 3, none⟩ (.int .i64 0) = V at HV FV EV ⊢
  have c0 : V.cell? ⟨p.rb, 0, none⟩ = some (.slice (some ⟨p.bb, 0, none⟩) p.K p.K) := by rw [cell_of_row _ _ 0 _ _ (0, 0) HV.out.rd]; rfl
  have c1 : V.cell? ⟨p.rb, 1, none⟩ = some (.iface 37 (.pointer (some ⟨p.cb, 0, none⟩))) := by rw [cell_of_row _ _ 1 _ _ (0, 0) HV.out.rd]; rfl
  refine wp_region_held (S := fun w' => w'.cell? ⟨p.rb, 0, none⟩ = some (.slice (some ⟨p.bb, 0, none⟩) p.K p.K) ∧ w'.cell? ⟨p.rb, 1, none⟩ = some (.iface 37 (.pointer (some ⟨p.cb, 0, none⟩)))) (by kernel_rfl) ?_
  try (change wpAnyH _ _ _ _ _ _ _ _ (World.drew _))
  have S0 : V.drew.cell? ⟨p.rb, 0, none⟩ = some (.slice (some ⟨p.bb, 0, none⟩) p.K p.K) ∧ V.drew.cell? ⟨p.rb, 1, none⟩ = some (.iface 37 (.pointer (some ⟨p.cb, 0, none⟩))) := ⟨c0, c1⟩
  refine wpAnyH_take (i := 0) (v := .pointer (some ⟨p.rb, 0, none⟩)) rfl (by kernel_rfl) (by kernel_rfl) (by kernel_rfl) (fun _ _ _ h => h) (Or.inl ⟨by kernel_rfl, fun w hS => by obtain ⟨q0, q1⟩ := hS; go_simp⟩) S0 ?_
  simp only [Act.put, List.getElem_toArray, List.getElem_cons_succ, List.getElem_cons_zero, List.setIfInBounds_toArray, List.set_cons_zero, List.set_cons_succ]
  refine wpAnyH_take (i := 1) (v := .pointer (some ⟨p.rb, 0, none⟩)) rfl (by kernel_rfl) (by kernel_rfl) (by kernel_rfl) (fun _ _ _ h => h) (Or.inl ⟨by kernel_rfl, fun w hS => by obtain ⟨q0, q1⟩ := hS; go_simp⟩) S0 ?_
  simp only [Act.put, List.getElem_toArray, List.getElem_cons_succ, List.getElem_cons_zero, List.setIfInBounds_toArray, List.set_cons_zero, List.set_cons_succ]
  refine wpAnyH_take (i := 2) (v := .pointer (some ⟨p.rb, 0, none⟩)) rfl (by kernel_rfl) (by kernel_rfl) (by kernel_rfl) (fun _ _ _ h => h) (Or.inl ⟨by kernel_rfl, fun w hS => by obtain ⟨q0, q1⟩ := hS; go_simp⟩) S0 ?_
  simp only [Act.put, List.getElem_toArray, List.getElem_cons_succ, List.getElem_cons_zero, List.setIfInBounds_toArray, List.set_cons_zero, List.set_cons_succ]
  refine wpAnyH_take (i := 3) (v := .pointer (some ⟨p.rb, 1, none⟩)) rfl (by kernel_rfl) (by kernel_rfl) (by kernel_rfl) (fun _ _ _ h => h) (Or.inl ⟨by kernel_rfl, fun w hS => by obtain ⟨q0, q1⟩ := hS; go_simp⟩) S0 ?_
  simp only [Act.put, List.getElem_toArray, List.getElem_cons_succ, List.getElem_cons_zero, List.setIfInBounds_toArray, List.set_cons_zero, List.set_cons_succ]
  refine wpAnyH_take (i := 4) (v := .iface 37 (.pointer (some ⟨p.cb, 0, none⟩))) rfl (by kernel_rfl) (by kernel_rfl) (by kernel_rfl) (fun _ _ _ h => h) (Or.inl ⟨by kernel_rfl, fun w hS => by obtain ⟨q0, q1⟩ := hS; go_simp⟩) S0 ?_
  simp only [Act.put, List.getElem_toArray, List.getElem_cons_succ, List.getElem_cons_zero, List.setIfInBounds_toArray, List.set_cons_zero, List.set_cons_succ]
  refine wpAnyH_take (i := 5) (v := .pointer (some ⟨p.rb, 0, none⟩)) rfl (by kernel_rfl) (by kernel_rfl) (by kernel_rfl) (fun _ _ _ h => h) (Or.inl ⟨by kernel_rfl, fun w hS => by obtain ⟨q0, q1⟩ := hS; go_simp⟩) S0 ?_
  simp only [Act.put, List.getElem_toArray, List.getElem_cons_succ, List.getElem_cons_zero, List.setIfInBounds_toArray, List.set_cons_zero, List.set_cons_succ]
  refine wpAnyH_take (i := 6) (v := .pointer (some ⟨p.rb, 0, none⟩)) rfl (by kernel_rfl) (by kernel_rfl) (by kernel_rfl) (fun _ _ _ h => h) (Or.inl ⟨by kernel_rfl, fun w hS => by obtain ⟨q0, q1⟩ := hS; go_simp⟩) S0 ?_
  simp only [Act.put, List.getElem_toArray, List.getElem_cons_succ, List.getElem_cons_zero, List.setIfInBounds_toArray, List.set_cons_zero, List.set_cons_succ]
  refine wpAnyH_take (i := 7) (v := .pointer (some ⟨p.rb, 0, none⟩)) rfl (by kernel_rfl) (by kernel_rfl) (by kernel_rfl) (fun _ _ _ h => h) (Or.inl ⟨by kernel_rfl, fun w hS => by obtain ⟨q0, q1⟩ := hS; go_simp⟩) S0 ?_
  simp only [Act.put, List.getElem_toArray, List.getElem_cons_succ, List.getElem_cons_zero, List.setIfInBounds_toArray, List.set_cons_zero, List.set_cons_succ]
  refine wpAnyH_take (i := 8) (v := .slice (some ⟨p.bb, 0, none⟩) p.K p.K) rfl (by kernel_rfl) (by kernel_rfl) (by kernel_rfl) (fun _ _ _ h => h) (Or.inl ⟨by kernel_rfl, fun w hS => by obtain ⟨q0, q1⟩ := hS; go_simp⟩) S0 ?_
  simp only [Act.put, List.getElem_toArray, List.getElem_cons_succ, List.getElem_cons_zero, List.setIfInBounds_toArray, List.set_cons_zero, List.set_cons_succ]
  refine wpAnyH_take (i := 9) (v := .iface 37 (.pointer (some ⟨p.cb, 0, none⟩))) rfl (by kernel_rfl) (by kernel_rfl) (by kernel_rfl) (fun _ _ _ h => h) (Or.inl ⟨by kernel_rfl, fun w hS => by obtain ⟨q0, q1⟩ := hS; go_simp⟩) S0 ?_
  simp only [Act.put, List.getElem_toArray, List.getElem_cons_succ, List.getElem_cons_zero, List.setIfInBounds_toArray, List.set_cons_zero, List.set_cons_succ]
  refine wpAnyH_take (i := 10) (v := .iface 37 (.pointer (some ⟨p.cb, 0, none⟩))) rfl (by kernel_rfl) (by kernel_rfl) (by kernel_rfl) (fun _ _ _ h => h) (Or.inl ⟨by kernel_rfl, fun w hS => by obtain ⟨q0, q1⟩ := hS; go_simp⟩) S0 ?_
  simp only [Act.put, List.getElem_toArray, List.getElem_cons_succ, List.getElem_cons_zero, List.setIfInBounds_toArray, List.set_cons_zero, List.set_cons_succ]
  refine wpAnyH_ready (rs := [11]) (by kernel_rfl) (by simp) ?_
  refine AllReadyH.cons rfl (fun K hK => ?_) AllReadyH.nil
  rw [if_pos (by kernel_rfl)]
  go_simp
  refine (cr_some p.cb p.zb p.sb p.n p.sc i p.st k' p.bb 0 p.K p.K cnt ((p.S.drop i).take k') V.drew HV.out.c HV.out.z HIN.out ok.l1 ok.l2 (by omega) (Nat.le_refl _) ok.l4 (by omega) HK'.out HKL'.out (src_range HV.out.s) (fun j hj => ⟨by
      rw [Nat.zero_add]; show (V.cell? ⟨p.bb, j, none⟩).isSome = true
      have hbl : (byteCells buf).length = p.K := by rw [len_byteCells]; exact HV.out.hb
      rw [cell_of_row _ _ j _ _ (0, 0) HV.out.b, List.getElem?_toArray, List.getElem?_eq_getElem (by omega)]; rfl, frozen_block HV.out.b⟩) ok.n3 (fun e => ok.n1 e.symm) ok.n6).mono ?_
  rintro x w1 ⟨rfl, q, c', rfl⟩
  have HX : Hid (St p ((((V.drew.setCells p.bb 0 (byteCells ((p.S.drop i).take k'))).setCell ⟨p.zb, 1, none⟩ (.int .i64 ((i + k' : Nat) : Int))).setCell ⟨p.cb, 1, none⟩ (.int .i64 c')).drewN q) (i + k') 0 0 b .nilIface c' lb lr) := hide (by
    have := ((((HV.out.ahead 1).setB ok 0 ((p.S.drop i).take k') (by rw [HKL'.out]; omega)).setZ ok (i + k') hkn).setC ok c').ahead q
    rw [HKL'.out, Nat.zero_add, List.take_zero, List.nil_append, ← HBB.out] at this
    exact this)
  have FX : Hid (Fr (own2 p pb) w ((((V.drew.setCells p.bb 0 (byteCells ((p.S.drop i).take k'))).setCell ⟨p.zb, 1, none⟩ (.int .i64 ((i + k' : Nat) : Int))).setCell ⟨p.cb, 1, none⟩ (.int .i64 c')).drewN q)) := ((((FV.out.drewN 1).sets (Or.inl (Or.inr (Or.inr (Or.inr rfl)))) _ _).set (Or.inl (Or.inl rfl)) _).set (Or.inl (Or.inr (Or.inl rfl))) _).drewN q
  have EX : Hid (((((V.drew.setCells p.bb 0 (byteCells ((p.S.drop i).take k'))).setCell ⟨p.zb, 1, none⟩ (.int .i64 ((i + k' : Nat) : Int))).setCell ⟨p.cb, 1, none⟩ (.int .i64 c')).drewN q).heap[pb]? = w.heap[pb]?) := hide ((((heap_setCell_other _ _ _ _ HAP.out.2.2.1).trans (heap_setCell_other _ _ _ _ HAP.out.2.1)).trans (heap_setCells_other _ _ _ _ _ HAP.out.2.2.2.2.1)).trans EV.out)
  clear c0 c1 S0
  generalize (((V.drew.setCells p.bb 0 (byteCells ((p.S.drop i).take k'))).setCell ⟨p.zb, 1, none⟩ (.int .i64 ((i + k' : Nat) : Int))).setCell ⟨p.cb, 1, none⟩ (.int .i64 c')).drewN q = X at HX FX EX ⊢
  have S1 : X.cell? ⟨p.rb, 0, none⟩ = some (.slice (some ⟨p.bb, 0, none⟩) p.K p.K) ∧ X.cell? ⟨p.rb, 1, none⟩ = some (.iface 37 (.pointer (some ⟨p.cb, 0, none⟩))) := ⟨by rw [cell_of_row _ _ 0 _ _ (0, 0) HX.out.rd]; rfl, by rw [cell_of_row _ _ 1 _ _ (0, 0) HX.out.rd]; rfl⟩
  refine hK.out _ _ S1 (fun _ => ?_)
  clear hK K
  refine wpAnyH_take (i := 12) (v := .tuple #[.int .i64 (k' : Int), .nilIface]) rfl (by kernel_rfl) (by kernel_rfl) (by kernel_rfl) (fun _ _ _ h => h) (Or.inl ⟨by kernel_rfl, fun w hS => by go_simp⟩) S1 ?_
  simp only [Act.put, List.getElem_toArray, List.getElem_cons_succ, List.getElem_cons_zero, List.setIfInBounds_toArray, List.set_cons_zero, List.set_cons_succ]
  refine wpAnyH_take (i := 13) (v := .int .i64 (k' : Int)) rfl (by kernel_rfl) (by kernel_rfl) (by kernel_rfl) (fun _ _ _ h => h) (Or.inl ⟨by kernel_rfl, fun w hS => by go_simp⟩) S1 ?_
  simp only [Act.put, List.getElem_toArray, List.getElem_cons_succ, List.getElem_cons_zero, List.setIfInBounds_toArray, List.set_cons_zero, List.set_cons_succ]
  refine wpAnyH_take (i := 14) (v := .nilIface) rfl (by kernel_rfl) (by kernel_rfl) (by kernel_rfl) (fun _ _ _ h => h) (Or.inl ⟨by kernel_rfl, fun w hS => by go_simp⟩) S1 ?_
  simp only [Act.put, List.getElem_toArray, List.getElem_cons_succ, List.getElem_cons_zero, List.setIfInBounds_toArray, List.set_cons_zero, List.set_cons_succ]
  refine wpAnyH_take (i := 15) (v := .int .i64 (k' : Int)) rfl (by kernel_rfl) (by kernel_rfl) (by kernel_rfl) (fun _ _ _ h => h) (Or.inl ⟨by kernel_rfl, fun w hS => by go_simp⟩) S1 ?_
  simp only [Act.put, List.getElem_toArray, List.getElem_cons_succ, List.getElem_cons_zero, List.setIfInBounds_toArray, List.set_cons_zero, List.set_cons_succ]
  refine wpAnyH_take (i := 16) (v := .pointer (some ⟨p.rb, 0, none⟩)) rfl (by kernel_rfl) (by kernel_rfl) (by kernel_rfl) (fun _ _ _ h => h) (Or.inl ⟨by kernel_rfl, fun w hS => by go_simp⟩) S1 ?_
  simp only [Act.put, List.getElem_toArray, List.getElem_cons_succ, List.getElem_cons_zero, List.setIfInBounds_toArray, List.set_cons_zero, List.set_cons_succ]
  refine wpAnyH_take (i := 17) (v := .pointer (some ⟨p.rb, 4, none⟩)) rfl (by kernel_rfl) (by kernel_rfl) (by kernel_rfl) (fun _ _ _ h => h) (Or.inl ⟨by kernel_rfl, fun w hS => by go_simp⟩) S1 ?_
  simp only [Act.put, List.getElem_toArray, List.getElem_cons_succ, List.getElem_cons_zero, List.setIfInBounds_toArray, List.set_cons_zero, List.set_cons_succ]
  have HY : Hid (St p (X.setCell ⟨p.rb, 4, none⟩ .nilIface) (i + k') 0 0 b .nilIface c' lb lr) := HX.out.setR ok 4 _ rfl
  have FY : Hid (Fr (own2 p pb) w (X.setCell ⟨p.rb, 4, none⟩ .nilIface)) := FX.out.set (Or.inl (Or.inr (Or.inr (Or.inl rfl)))) _
  have EY : Hid ((X.setCell ⟨p.rb, 4, none⟩ .nilIface).heap[pb]? = w.heap[pb]?) := hide ((heap_setCell_other _ _ _ _ (fun e => hrb e.symm)).trans EX.out)
  have S2 : (X.setCell ⟨p.rb, 4, none⟩ .nilIface).cell? ⟨p.rb, 0, none⟩ = some (.slice (some ⟨p.bb, 0, none⟩) p.K p.K) ∧ (X.setCell ⟨p.rb, 4, none⟩ .nilIface).cell? ⟨p.rb, 1, none⟩ = some (.iface 37 (.pointer (some ⟨p.cb, 0, none⟩))) := ⟨by rw [cell_of_row _ _ 0 _ _ (0, 0) HY.out.rd]; rfl, by rw [cell_of_row _ _ 1 _ _ (0, 0) HY.out.rd]; rfl⟩
  refine wpAnyH_ready (rs := [18]) (by kernel_rfl) (by simp) ?_
  refine AllReadyH.cons rfl (fun K hK => ?_) AllReadyH.nil
  rw [if_pos (by kernel_rfl)]
  have e4 : X.cell? ⟨p.rb, 4, none⟩ = some .nilIface := by rw [cell_of_row _ _ 4 _ _ (0, 0) HX.out.rd]; rfl
  have ef4 : X.frozen? ⟨p.rb, 4, none⟩ = false := frozen_block HX.out.rd
  go_simp
  refine hK.out _ _ S2 (fun _ => ?_)
  clear hK K e4 ef4 S1 S2
  refine wpAnyH_done (by kernel_rfl) ?_ _
  clear H2 F2 T2 E2 HX FX EX
  generalize X.setCell ⟨p.rb, 4, none⟩ .nilIface = Y0 at HY FY EY ⊢
  have e3 : Y0.cell? ⟨p.rb, 3, none⟩ = some (.int .i64 0) := by rw [cell_of_row _ _ 3 _ _ (0, 0) HY.out.rd]; rfl
  have ef3 : Y0.frozen? ⟨p.rb, 3, none⟩ = false := frozen_block HY.out.rd
  have q1 : ¬ (k' : Int) < 0 := by omega
  have q2 : ¬ k' = 0 := by omega
  have q3 : ((k' : Int) == 0) = false := by simp; omega
  go_upto_region 25 with fail
  have H2 : Hid (St p (Y0.setCell ⟨p.rb, 3, none⟩ (.int .i64 (k' : Int))) (i + k') 0 k' b .nilIface c' lb lr) := HY.out.setR ok 3 _ rfl
  have F2 : Hid (Fr (own2 p pb) w (Y0.setCell ⟨p.rb, 3, none⟩ (.int .i64 (k' : Int)))) := FY.out.set (Or.inl (Or.inr (Or.inr (Or.inl rfl)))) _
  have E2 : Hid ((Y0.setCell ⟨p.rb, 3, none⟩ (.int .i64 (k' : Int))).heap[pb]? = w.heap[pb]?) := hide ((heap_setCell_other _ _ _ _ (fun e => hrb e.symm)).trans EY.out)
  have T2 : Hid ((Y0.setCell ⟨p.rb, 3, none⟩ (.int .i64 (k' : Int))).there pb po m) := fun j hj => ⟨by
      obtain ⟨u, hu⟩ := Option.isSome_iff_exists.1 (HT.out j hj).1
      rw [cell_kept hu E2.out]; rfl, by rw [World.frozen?_of_block E2.out]; exact (HT.out j hj).2⟩
  clear e3 ef3 q1 q2 q3 HY FY EY
  generalize Y0.setCell ⟨p.rb, 3, none⟩ (.int .i64 (k' : Int)) = W at H2 F2 E2 T2 ⊢
  have c0 : W.cell? ⟨p.rb, 0, none⟩ = some (.slice (some ⟨p.bb, 0, none⟩) p.K p.K) := by rw [cell_of_row _ _ 0 _ _ (0, 0) H2.out.rd]; rfl
  have c2 : W.cell? ⟨p.rb, 2, none⟩ = some (.int .i64 0) := by rw [cell_of_row _ _ 2 _ _ (0, 0) H2.out.rd]; rfl
  have c3 : W.cell? ⟨p.rb, 3, none⟩ = some (.int .i64 (k' : Int)) := by rw [cell_of_row _ _ 3 _ _ (0, 0) H2.out.rd]; rfl
  refine wp_region_held (S := fun w' => w'.cell? ⟨p.rb, 0, none⟩ = some (.slice (some ⟨p.bb, 0, none⟩) p.K p.K) ∧ w'.cell? ⟨p.rb, 2, none⟩ = some (.int .i64 0) ∧ w'.cell? ⟨p.rb, 3, none⟩ = some (.int .i64 (k' : Int))) (by kernel_rfl) ?_
  try (change wpAnyH _ _ _ _ _ _ _ _ (World.drew _))
  have S0 : W.drew.cell? ⟨p.rb, 0, none⟩ = some (.slice (some ⟨p.bb, 0, none⟩) p.K p.K) ∧ W.drew.cell? ⟨p.rb, 2, none⟩ = some (.int .i64 0) ∧ W.drew.cell? ⟨p.rb, 3, none⟩ = some (.int .i64 (k' : Int)) := ⟨c0, c2, c3⟩
  have hle1 : k' ≤ p.K := by omega
  have hle2 : 0 ≤ k' := by omega
  have hnK : ¬ p.K = 0 := by omega
  refine wpAnyH_take (i := 0) (v := .slice (some ⟨pb, po, none⟩) m pc) rfl (by kernel_rfl) (by kernel_rfl) (by kernel_rfl) (fun _ _ _ h => h) (Or.inl ⟨by kernel_rfl, fun w hS => by obtain ⟨q0, q2, q3⟩ := hS; go_simp⟩) S0 ?_
  simp only [Act.put, List.getElem_toArray, List.getElem_cons_succ, List.getElem_cons_zero, List.setIfInBounds_toArray, List.set_cons_zero, List.set_cons_succ]
  refine wpAnyH_take (i := 1) (v := .pointer (some ⟨p.rb, 0, none⟩)) rfl (by kernel_rfl) (by kernel_rfl) (by kernel_rfl) (fun _ _ _ h => h) (Or.inl ⟨by kernel_rfl, fun w hS => by obtain ⟨q0, q2, q3⟩ := hS; go_simp⟩) S0 ?_
  simp only [Act.put, List.getElem_toArray, List.getElem_cons_succ, List.getElem_cons_zero, List.setIfInBounds_toArray, List.set_cons_zero, List.set_cons_succ]
  refine wpAnyH_take (i := 2) (v := .pointer (some ⟨p.rb, 0, none⟩)) rfl (by kernel_rfl) (by kernel_rfl) (by kernel_rfl) (fun _ _ _ h => h) (Or.inl ⟨by kernel_rfl, fun w hS => by obtain ⟨q0, q2, q3⟩ := hS; go_simp⟩) S0 ?_
  simp only [Act.put, List.getElem_toArray, List.getElem_cons_succ, List.getElem_cons_zero, List.setIfInBounds_toArray, List.set_cons_zero, List.set_cons_succ]
  refine wpAnyH_take (i := 3) (v := .pointer (some ⟨p.rb, 0, none⟩)) rfl (by kernel_rfl) (by kernel_rfl) (by kernel_rfl) (fun _ _ _ h => h) (Or.inl ⟨by kernel_rfl, fun w hS => by obtain ⟨q0, q2, q3⟩ := hS; go_simp⟩) S0 ?_
  simp only [Act.put, List.getElem_toArray, List.getElem_cons_succ, List.getElem_cons_zero, List.setIfInBounds_toArray, List.set_cons_zero, List.set_cons_succ]
  refine wpAnyH_take (i := 4) (v := .slice (some ⟨p.bb, 0, none⟩) p.K p.K) rfl (by kernel_rfl) (by kernel_rfl) (by kernel_rfl) (fun _ _ _ h => h) (Or.inl ⟨by kernel_rfl, fun w hS => by obtain ⟨q0, q2, q3⟩ := hS; go_simp⟩) S0 ?_
  simp only [Act.put, List.getElem_toArray, List.getElem_cons_succ, List.getElem_cons_zero, List.setIfInBounds_toArray, List.set_cons_zero, List.set_cons_succ]
  refine wpAnyH_take (i := 5) (v := .pointer (some ⟨p.rb, 0, none⟩)) rfl (by kernel_rfl) (by kernel_rfl) (by kernel_rfl) (fun _ _ _ h => h) (Or.inl ⟨by kernel_rfl, fun w hS => by obtain ⟨q0, q2, q3⟩ := hS; go_simp⟩) S0 ?_
  simp only [Act.put, List.getElem_toArray, List.getElem_cons_succ, List.getElem_cons_zero, List.setIfInBounds_toArray, List.set_cons_zero, List.set_cons_succ]
  refine wpAnyH_take (i := 6) (v := .pointer (some ⟨p.rb, 0, none⟩)) rfl (by kernel_rfl) (by kernel_rfl) (by kernel_rfl) (fun _ _ _ h => h) (Or.inl ⟨by kernel_rfl, fun w hS => by obtain ⟨q0, q2, q3⟩ := hS; go_simp⟩) S0 ?_
  simp only [Act.put, List.getElem_toArray, List.getElem_cons_succ, List.getElem_cons_zero, List.setIfInBounds_toArray, List.set_cons_zero, List.set_cons_succ]
  refine wpAnyH_take (i := 7) (v := .pointer (some ⟨p.rb, 2, none⟩)) rfl (by kernel_rfl) (by kernel_rfl) (by kernel_rfl) (fun _ _ _ h => h) (Or.inl ⟨by kernel_rfl, fun w hS => by obtain ⟨q0, q2, q3⟩ := hS; go_simp⟩) S0 ?_
  simp only [Act.put, List.getElem_toArray, List.getElem_cons_succ, List.getElem_cons_zero, List.setIfInBounds_toArray, List.set_cons_zero, List.set_cons_succ]
  refine wpAnyH_take (i := 8) (v := .int .i64 0) rfl (by kernel_rfl) (by kernel_rfl) (by kernel_rfl) (fun _ _ _ h => h) (Or.inl ⟨by kernel_rfl, fun w hS => by obtain ⟨q0, q2, q3⟩ := hS; go_simp⟩) S0 ?_
  simp only [Act.put, List.getElem_toArray, List.getElem_cons_succ, List.getElem_cons_zero, List.setIfInBounds_toArray, List.set_cons_zero, List.set_cons_succ]
  refine wpAnyH_take (i := 9) (v := .pointer (some ⟨p.rb, 0, none⟩)) rfl (by kernel_rfl) (by kernel_rfl) (by kernel_rfl) (fun _ _ _ h => h) (Or.inl ⟨by kernel_rfl, fun w hS => by obtain ⟨q0, q2, q3⟩ := hS; go_simp⟩) S0 ?_
  simp only [Act.put, List.getElem_toArray, List.getElem_cons_succ, List.getElem_cons_zero, List.setIfInBounds_toArray, List.set_cons_zero, List.set_cons_succ]
  refine wpAnyH_take (i := 10) (v := .pointer (some ⟨p.rb, 0, none⟩)) rfl (by kernel_rfl) (by kernel_rfl) (by kernel_rfl) (fun _ _ _ h => h) (Or.inl ⟨by kernel_rfl, fun w hS => by obtain ⟨q0, q2, q3⟩ := hS; go_simp⟩) S0 ?_
  simp only [Act.put, List.getElem_toArray, List.getElem_cons_succ, List.getElem_cons_zero, List.setIfInBounds_toArray, List.set_cons_zero, List.set_cons_succ]
  refine wpAnyH_take (i := 11) (v := .pointer (some ⟨p.rb, 3, none⟩)) rfl (by kernel_rfl) (by kernel_rfl) (by kernel_rfl) (fun _ _ _ h => h) (Or.inl ⟨by kernel_rfl, fun w hS => by obtain ⟨q0, q2, q3⟩ := hS; go_simp⟩) S0 ?_
  simp only [Act.put, List.getElem_toArray, List.getElem_cons_succ, List.getElem_cons_zero, List.setIfInBounds_toArray, List.set_cons_zero, List.set_cons_succ]
  refine wpAnyH_take (i := 12) (v := .int .i64 (k' : Int)) rfl (by kernel_rfl) (by kernel_rfl) (by kernel_rfl) (fun _ _ _ h => h) (Or.inl ⟨by kernel_rfl, fun w hS => by obtain ⟨q0, q2, q3⟩ := hS; go_simp⟩) S0 ?_
  simp only [Act.put, List.getElem_toArray, List.getElem_cons_succ, List.getElem_cons_zero, List.setIfInBounds_toArray, List.set_cons_zero, List.set_cons_succ]
  refine wpAnyH_take (i := 13) (v := .slice (some ⟨p.bb, 0, none⟩) (k' - 0) (p.K - 0)) rfl (by kernel_rfl) (by kernel_rfl) (by kernel_rfl) (fun _ _ _ h => h) (Or.inl ⟨by kernel_rfl, fun w hS => by obtain ⟨q0, q2, q3⟩ := hS; go_simp⟩) S0 ?_
  simp only [Act.put, List.getElem_toArray, List.getElem_cons_succ, List.getElem_cons_zero, List.setIfInBounds_toArray, List.set_cons_zero, List.set_cons_succ]
  have HX : Hid (St p (W.drew.setCells pb po (byteCells ((b.drop 0).take k))) (i + k') 0 k' b .nilIface c' lb lr) := (H2.out.ahead 1).setO ok HAP.out _ _
  have FX : Hid (Fr (own2 p pb) w (W.drew.setCells pb po (byteCells ((b.drop 0).take k)))) := (F2.out.drewN 1).sets (Or.inr rfl) _ _
  have EX : Hid ((W.drew.setCells pb po (byteCells ((b.drop 0).take k))).heap[pb]? = (w.setCells pb po (byteCells ((b.drop 0).take k))).heap[pb]?) := hide (setCells_same_block _ _ _ () () E2.out)
  have S1 : (W.drew.setCells pb po (byteCells ((b.drop 0).take k))).cell? ⟨p.rb, 0, none⟩ = some (.slice (some ⟨p.bb, 0, none⟩) p.K p.K) ∧ (W.drew.setCells pb po (byteCells ((b.drop 0).take k))).cell? ⟨p.rb, 2, none⟩ = some (.int .i64 0) ∧ (W.drew.setCells pb po (byteCells ((b.drop 0).take k))).cell? ⟨p.rb, 3, none⟩ = some (.int .i64 (k' : Int)) := ⟨by rw [cell_of_row _ _ 0 _ _ (0, 0) HX.out.rd]; rfl, by rw [cell_of_row _ _ 2 _ _ (0, 0) HX.out.rd]; rfl, by rw [cell_of_row _ _ 3 _ _ (0, 0) HX.out.rd]; rfl⟩
  refine wpAnyH_ready (rs := [14]) (by kernel_rfl) (by simp) ?_
  refine AllReadyH.cons rfl (fun K hK => ?_) AllReadyH.nil
  rw [if_pos (by kernel_rfl)]
  refine wp_copy (.tmp 109) (.tmp 122) 23 5 rfl pb po m pc (by kernel_rfl) ⟨p.bb, 0, none⟩ (k' - 0) (p.K - 0) (by kernel_rfl) (byteCells ((b.drop 0).take k)) Ybaf.underlying23 size1 (by rw [len_byteCells, HKL.out, HK.out]; exact Nat.min_comm _ _) (fun j v hv => by rw [Addr.add_mid]; exact buf_range H2.out 0 k j v hv) (fun j hj => T2.out j (by rw [len_byteCells, HKL.out] at hj; omega)) (one_byteCells _) (hK.out _ _ S1 (fun _ => ?_))
  clear hK K
  simp only [Act.put, List.getElem_toArray, List.getElem_cons_succ, List.getElem_cons_zero, List.setIfInBounds_toArray, List.set_cons_zero, List.set_cons_succ]
  rw [len_byteCells, HKL.out]
  refine wpAnyH_take (i := 15) (v := .int .i64 (k : Int)) rfl (by kernel_rfl) (by kernel_rfl) (by kernel_rfl) (fun _ _ _ h => h) (Or.inl ⟨by kernel_rfl, fun w hS => by go_simp⟩) S1 ?_
  simp only [Act.put, List.getElem_toArray, List.getElem_cons_succ, List.getElem_cons_zero, List.setIfInBounds_toArray, List.set_cons_zero, List.set_cons_succ]
  refine wpAnyH_done (by kernel_rfl) ?_ _
  clear c0 c2 c3 S0 S1 T2
  generalize W.drew.setCells pb po (byteCells ((b.drop 0).take k)) = X at HX FX EX ⊢
  have d2 : X.cell? ⟨p.rb, 2, none⟩ = some (.int .i64 0) := by rw [cell_of_row _ _ 2 _ _ (0, 0) HX.out.rd]; rfl
  have f2 : X.frozen? ⟨p.rb, 2, none⟩ = false := frozen_block HX.out.rd
  have hwr : IntKind.i64.wrap (k : Int) = (k : Int) := by rw [IntKind.wrap_i64]; omega
  go_upto_region 27 with fail
  have HY : Hid (St p (X.setCell ⟨p.rb, 2, none⟩ (.int .i64 (k : Int))) (i + k') k k' b .nilIface c' lb lr) := HX.out.setR ok 2 _ rfl
  have FY : Hid (Fr (own2 p pb) w (X.setCell ⟨p.rb, 2, none⟩ (.int .i64 (k : Int)))) := FX.out.set (Or.inl (Or.inr (Or.inr (Or.inl rfl)))) _
  have EY : Hid ((X.setCell ⟨p.rb, 2, none⟩ (.int .i64 (k : Int))).heap[pb]? = (w.setCells pb po (byteCells ((b.drop 0).take k))).heap[pb]?) := hide ((heap_setCell_other _ _ _ _ (fun e => hrb e.symm)).trans EX.out)
  clear d2 f2 hwr
  generalize X.setCell ⟨p.rb, 2, none⟩ (.int .i64 (k : Int)) = Y at HY FY EY ⊢
  obtain ⟨j1, hj1⟩ : ∃ j1, j1 + 1 = k := ⟨k - 1, by omega⟩
  have hbY := HY.out.hb
  have hjl : j1 < b.length := by omega
  have g0 : Y.cell? ⟨p.rb, 0, none⟩ = some (.slice (some ⟨p.bb, 0, none⟩) p.K p.K) := by rw [cell_of_row _ _ 0 _ _ (0, 0) HY.out.rd]; rfl
  have g2 : Y.cell? ⟨p.rb, 2, none⟩ = some (.int .i64 ((j1 : Int) + 1)) := by rw [cell_of_row _ _ 2 _ _ (0, 0) HY.out.rd, ← hj1]; rfl
  have gb : Y.cell? ⟨p.bb, j1, none⟩ = some (.int .u8 (b[j1].toNat : Int)) := buf_cell HY.out hjl
  have gf : Y.frozen? ⟨p.rb, 5, none⟩ = false := frozen_block HY.out.rd
  have g5 : Y.cell? ⟨p.rb, 5, none⟩ = some (.int .i64 lb) := by rw [cell_of_row _ _ 5 _ _ (0, 0) HY.out.rd]; rfl
  generalize b[j1] = y at gb
  have hy := y.toNat_lt
  have bj : (j1 : Int) < (p.K : Int) := by omega
  refine wp_region_held (S := fun w' => w'.cell? ⟨p.rb, 0, none⟩ = some (.slice (some ⟨p.bb, 0, none⟩) p.K p.K) ∧ w'.cell? ⟨p.rb, 2, none⟩ = some (.int .i64 ((j1 : Int) + 1)) ∧ w'.cell? ⟨p.bb, j1, none⟩ = some (.int .u8 (y.toNat : Int))) (by kernel_rfl) ?_
  try (change wpAnyH _ _ _ _ _ _ _ _ (World.drew _))
  have S0 : Y.drew.cell? ⟨p.rb, 0, none⟩ = some (.slice (some ⟨p.bb, 0, none⟩) p.K p.K) ∧ Y.drew.cell? ⟨p.rb, 2, none⟩ = some (.int .i64 ((j1 : Int) + 1)) ∧ Y.drew.cell? ⟨p.bb, j1, none⟩ = some (.int .u8 (y.toNat : Int)) := ⟨g0, g2, gb⟩
  have hw9 : IntKind.i64.wrap (j1 : Int) = (j1 : Int) := by rw [IntKind.wrap_i64]; omega
  have hcv : IntKind.i64.wrap (y.toNat : Int) = (y.toNat : Int) := by rw [IntKind.wrap_i64]; omega
  have hcv' : wrap64 (y.toNat : Int) = (y.toNat : Int) := by unfold wrap64; omega
  refine wpAnyH_take (i := 0) (v := .pointer (some ⟨p.rb, 0, none⟩)) rfl (by kernel_rfl) (by kernel_rfl) (by kernel_rfl) (fun _ _ _ h => h) (Or.inl ⟨by kernel_rfl, fun w hS => by obtain ⟨q0, q2, q3⟩ := hS; go_simp⟩) S0 ?_
  simp only [Act.put, List.getElem_toArray, List.getElem_cons_succ, List.getElem_cons_zero, List.setIfInBounds_toArray, List.set_cons_zero, List.set_cons_succ]
  refine wpAnyH_take (i := 1) (v := .pointer (some ⟨p.rb, 0, none⟩)) rfl (by kernel_rfl) (by kernel_rfl) (by kernel_rfl) (fun _ _ _ h => h) (Or.inl ⟨by kernel_rfl, fun w hS => by obtain ⟨q0, q2, q3⟩ := hS; go_simp⟩) S0 ?_
  simp only [Act.put, List.getElem_toArray, List.getElem_cons_succ, List.getElem_cons_zero, List.setIfInBounds_toArray, List.set_cons_zero, List.set_cons_succ]
  refine wpAnyH_take (i := 2) (v := .pointer (some ⟨p.rb, 0, none⟩)) rfl (by kernel_rfl) (by kernel_rfl) (by kernel_rfl) (fun _ _ _ h => h) (Or.inl ⟨by kernel_rfl, fun w hS => by obtain ⟨q0, q2, q3⟩ := hS; go_simp⟩) S0 ?_
  simp only [Act.put, List.getElem_toArray, List.getElem_cons_succ, List.getElem_cons_zero, List.setIfInBounds_toArray, List.set_cons_zero, List.set_cons_succ]
  refine wpAnyH_take (i := 3) (v := .pointer (some ⟨p.rb, 0, none⟩)) rfl (by kernel_rfl) (by kernel_rfl) (by kernel_rfl) (fun _ _ _ h => h) (Or.inl ⟨by kernel_rfl, fun w hS => by obtain ⟨q0, q2, q3⟩ := hS; go_simp⟩) S0 ?_
  simp only [Act.put, List.getElem_toArray, List.getElem_cons_succ, List.getElem_cons_zero, List.setIfInBounds_toArray, List.set_cons_zero, List.set_cons_succ]
  refine wpAnyH_take (i := 4) (v := .slice (some ⟨p.bb, 0, none⟩) p.K p.K) rfl (by kernel_rfl) (by kernel_rfl) (by kernel_rfl) (fun _ _ _ h => h) (Or.inl ⟨by kernel_rfl, fun w hS => by obtain ⟨q0, q2, q3⟩ := hS; go_simp⟩) S0 ?_
  simp only [Act.put, List.getElem_toArray, List.getElem_cons_succ, List.getElem_cons_zero, List.setIfInBounds_toArray, List.set_cons_zero, List.set_cons_succ]
  refine wpAnyH_take (i := 5) (v := .pointer (some ⟨p.rb, 0, none⟩)) rfl (by kernel_rfl) (by kernel_rfl) (by kernel_rfl) (fun _ _ _ h => h) (Or.inl ⟨by kernel_rfl, fun w hS => by obtain ⟨q0, q2, q3⟩ := hS; go_simp⟩) S0 ?_
  simp only [Act.put, List.getElem_toArray, List.getElem_cons_succ, List.getElem_cons_zero, List.setIfInBounds_toArray, List.set_cons_zero, List.set_cons_succ]
  refine wpAnyH_take (i := 6) (v := .pointer (some ⟨p.rb, 0, none⟩)) rfl (by kernel_rfl) (by kernel_rfl) (by kernel_rfl) (fun _ _ _ h => h) (Or.inl ⟨by kernel_rfl, fun w hS => by obtain ⟨q0, q2, q3⟩ := hS; go_simp⟩) S0 ?_
  simp only [Act.put, List.getElem_toArray, List.getElem_cons_succ, List.getElem_cons_zero, List.setIfInBounds_toArray, List.set_cons_zero, List.set_cons_succ]
  refine wpAnyH_take (i := 7) (v := .pointer (some ⟨p.rb, 2, none⟩)) rfl (by kernel_rfl) (by kernel_rfl) (by kernel_rfl) (fun _ _ _ h => h) (Or.inl ⟨by kernel_rfl, fun w hS => by obtain ⟨q0, q2, q3⟩ := hS; go_simp⟩) S0 ?_
  simp only [Act.put, List.getElem_toArray, List.getElem_cons_succ, List.getElem_cons_zero, List.setIfInBounds_toArray, List.set_cons_zero, List.set_cons_succ]
  refine wpAnyH_take (i := 8) (v := .int .i64 ((j1 : Int) + 1)) rfl (by kernel_rfl) (by kernel_rfl) (by kernel_rfl) (fun _ _ _ h => h) (Or.inl ⟨by kernel_rfl, fun w hS => by obtain ⟨q0, q2, q3⟩ := hS; go_simp⟩) S0 ?_
  simp only [Act.put, List.getElem_toArray, List.getElem_cons_succ, List.getElem_cons_zero, List.setIfInBounds_toArray, List.set_cons_zero, List.set_cons_succ]
  refine wpAnyH_take (i := 9) (v := .int .i64 (j1 : Int)) rfl (by kernel_rfl) (by kernel_rfl) (by kernel_rfl) (fun _ _ _ h => h) (Or.inl ⟨by kernel_rfl, fun w hS => by obtain ⟨q0, q2, q3⟩ := hS; go_simp⟩) S0 ?_
  simp only [Act.put, List.getElem_toArray, List.getElem_cons_succ, List.getElem_cons_zero, List.setIfInBounds_toArray, List.set_cons_zero, List.set_cons_succ]
  refine wpAnyH_take (i := 10) (v := .pointer (some ⟨p.bb, j1, none⟩)) rfl (by kernel_rfl) (by kernel_rfl) (by kernel_rfl) (fun _ _ _ h => h) (Or.inl ⟨by kernel_rfl, fun w hS => by obtain ⟨q0, q2, q3⟩ := hS; go_simp⟩) S0 ?_
  simp only [Act.put, List.getElem_toArray, List.getElem_cons_succ, List.getElem_cons_zero, List.setIfInBounds_toArray, List.set_cons_zero, List.set_cons_succ]
  refine wpAnyH_take (i := 11) (v := .int .u8 (y.toNat : Int)) rfl (by kernel_rfl) (by kernel_rfl) (by kernel_rfl) (fun _ _ _ h => h) (Or.inl ⟨by kernel_rfl, fun w hS => by obtain ⟨q0, q2, q3⟩ := hS; go_simp⟩) S0 ?_
  simp only [Act.put, List.getElem_toArray, List.getElem_cons_succ, List.getElem_cons_zero, List.setIfInBounds_toArray, List.set_cons_zero, List.set_cons_succ]
  refine wpAnyH_take (i := 12) (v := .int .i64 (y.toNat : Int)) rfl (by kernel_rfl) (by kernel_rfl) (by kernel_rfl) (fun _ _ _ h => h) (Or.inl ⟨by kernel_rfl, fun w hS => by obtain ⟨q0, q2, q3⟩ := hS; go_simp⟩) S0 ?_
  simp only [Act.put, List.getElem_toArray, List.getElem_cons_succ, List.getElem_cons_zero, List.setIfInBounds_toArray, List.set_cons_zero, List.set_cons_succ]
  refine wpAnyH_take (i := 13) (v := .pointer (some ⟨p.rb, 0, none⟩)) rfl (by kernel_rfl) (by kernel_rfl) (by kernel_rfl) (fun _ _ _ h => h) (Or.inl ⟨by kernel_rfl, fun w hS => by obtain ⟨q0, q2, q3⟩ := hS; go_simp⟩) S0 ?_
  simp only [Act.put, List.getElem_toArray, List.getElem_cons_succ, List.getElem_cons_zero, List.setIfInBounds_toArray, List.set_cons_zero, List.set_cons_succ]
  refine wpAnyH_take (i := 14) (v := .pointer (some ⟨p.rb, 5, none⟩)) rfl (by kernel_rfl) (by kernel_rfl) (by kernel_rfl) (fun _ _ _ h => h) (Or.inl ⟨by kernel_rfl, fun w hS => by obtain ⟨q0, q2, q3⟩ := hS; go_simp⟩) S0 ?_
  simp only [Act.put, List.getElem_toArray, List.getElem_cons_succ, List.getElem_cons_zero, List.setIfInBounds_toArray, List.set_cons_zero, List.set_cons_succ]
  have HZ9 : Hid (St p (Y.drew.setCell ⟨p.rb, 5, none⟩ (.int .i64 (y.toNat : Int))) (i + k') k k' b .nilIface c' (y.toNat : Int) lr) := (HY.out.ahead 1).setR ok 5 _ rfl
  have FZ9 : Hid (Fr (own2 p pb) w (Y.drew.setCell ⟨p.rb, 5, none⟩ (.int .i64 (y.toNat : Int)))) := (FY.out.drewN 1).set (Or.inl (Or.inr (Or.inr (Or.inl rfl)))) _
  have EZ9 : Hid ((Y.drew.setCell ⟨p.rb, 5, none⟩ (.int .i64 (y.toNat : Int))).heap[pb]? = (w.setCells pb po (byteCells ((b.drop 0).take k))).heap[pb]?) := hide ((heap_setCell_other _ _ _ _ (fun e => hrb e.symm)).trans EY.out)
  have S1 : (Y.drew.setCell ⟨p.rb, 5, none⟩ (.int .i64 (y.toNat : Int))).cell? ⟨p.rb, 0, none⟩ = some (.slice (some ⟨p.bb, 0, none⟩) p.K p.K) ∧ (Y.drew.setCell ⟨p.rb, 5, none⟩ (.int .i64 (y.toNat : Int))).cell? ⟨p.rb, 2, none⟩ = some (.int .i64 ((j1 : Int) + 1)) ∧ (Y.drew.setCell ⟨p.rb, 5, none⟩ (.int .i64 (y.toNat : Int))).cell? ⟨p.bb, j1, none⟩ = some (.int .u8 (y.toNat : Int)) :=
    ⟨by rw [cell_of_row _ _ 0 _ _ (0, 0) HZ9.out.rd]; rfl, by rw [cell_of_row _ _ 2 _ _ (0, 0) HZ9.out.rd, ← hj1]; rfl, by rw [World.cell?_setCell_other _ _ _ _ (by intro e; exact ok.n8 (congrArg Addr.block e))]; exact gb⟩
  refine wpAnyH_ready (rs := [15]) (by kernel_rfl) (by simp) ?_
  refine AllReadyH.cons rfl (fun K hK => ?_) AllReadyH.nil
  rw [if_pos (by kernel_rfl)]
  have gf' : Y.drew.frozen? ⟨p.rb, 5, none⟩ = false := gf
  have g5' : Y.drew.cell? ⟨p.rb, 5, none⟩ = some (.int .i64 lb) := g5
  go_simp
  refine hK.out _ (Y.drew.setCell ⟨p.rb, 5, none⟩ (.int .i64 (y.toNat : Int))) S1 (fun _ => ?_)
  clear hK K
  refine wpAnyH_done (by kernel_rfl) ?_ _
  clear S0 S1 g0 g2 gb gf g5 gf' g5' hw9 hcv hcv'
  generalize Y.drew.setCell ⟨p.rb, 5, none⟩ (.int .i64 (y.toNat : Int)) = Z at HZ9 FZ9 EZ9 ⊢
  have e6 : Z.cell? ⟨p.rb, 6, none⟩ = some (.int .i64 lr) := by rw [cell_of_row _ _ 6 _ _ (0, 0) HZ9.out.rd]; rfl
  have ef6 : Z.frozen? ⟨p.rb, 6, none⟩ = false := frozen_block HZ9.out.rd
  go_wp2
  go_ret2
  have HFIN : Hid (St p (Z.setCell ⟨p.rb, 6, none⟩ (.int .i64 (-1))) (i + k') k k' b .nilIface c' (y.toNat : Int) (-1)) := HZ9.out.setR ok 6 _ rfl
  have FFIN := FZ9.out.set (j := 6) (Or.inl (Or.inr (Or.inr (Or.inl rfl)))) (.int .i64 (-1))
  have EFIN : (Z.setCell ⟨p.rb, 6, none⟩ (.int .i64 (-1))).heap[pb]? = (w.setCells pb po (byteCells ((b.drop 0).take k))).heap[pb]? := (heap_setCell_other _ _ _ _ (fun e => hrb e.symm)).trans EZ9.out
  exact ⟨rfl, FFIN, ⟨_, _, _, HFIN.out⟩, EFIN⟩
theorem rem_take {p : Par} {i r wd k : Nat} {buf : Bytes} (hr : r ≤ wd) (hw : wd ≤ buf.length) (hk : k ≤ wd - r) : (rem p i r wd buf).take k = (buf.drop r).take k := by
  unfold rem
  rw [List.take_append_of_le_length (by simp; omega), List.take_take, Nat.min_eq_left hk]
theorem rem_drop {p : Par} {i r wd k : Nat} {buf : Bytes} (hr : r ≤ wd) (hw : wd ≤ buf.length) (hk : k ≤ wd - r) : (rem p i r wd buf).drop k = rem p i (r + k) wd buf := by
  unfold rem
  rw [List.drop_append_of_le_length (by simp; omega), List.drop_take, List.drop_drop, show wd - r - k = wd - (r + k) by omega]
theorem rem_len {p : Par} {i r wd : Nat} {buf : Bytes} (hr : r ≤ wd) (hw : wd ≤ buf.length) : wd - r ≤ (rem p i r wd buf).length := by
  unfold rem; simp; omega
/-- Read, by the stream. -/
theorem read_any {p : Par} (ok : p.Ok) {w : World} {rm : Bytes} (h : RS p w rm) (pb po m pc : Nat) (hap : Apart p pb) (hm1 : 1 ≤ m) (hmm : m ≤ 1000000) (hmc : m ≤ pc) (hth : w.there pb po m) :
    Calls Ybaf.prog 41 #[.pointer (some ⟨p.rb, 0, none⟩), .slice (some ⟨pb, po, none⟩) m pc] w fun e w' => Fr (own2 p pb) w w' ∧ ((rm = [] ∧ e = .returned (.tuple #[.int .i64 0, p.eof]) ∧ RS p w' [] ∧ w'.heap[pb]? = w.heap[pb]?) ∨
      ∃ k, 1 ≤ k ∧ k ≤ m ∧ k ≤ rm.length ∧ e = .returned (.tuple #[.int .i64 (k : Int), .nilIface]) ∧ RS p w' (rm.drop k) ∧ w'.heap[pb]? = (w.setCells pb po (byteCells (rm.take k))).heap[pb]?) := by
  obtain ⟨i, r, wd, buf, cnt, lb, lr, hSt, hr, hw, rfl⟩ := h
  have hb := hSt.hb
  have hl3 := ok.l3; have hl4 := ok.l4; have hl5 := ok.l5
  have hpl : pb < w.heap.size := by
    obtain ⟨u, hu⟩ := Option.isSome_iff_exists.1 (hth 0 (by omega)).1
    exact lt_of_cell hu
  have hno : ¬ own p pb := fun h => by rcases h with e | e | e | e <;> simp_all [Apart]
  rcases Nat.lt_or_ge r wd with hlt | hge
  · have hbl : wd ≤ buf.length := by omega
    have hrl := rem_len (p := p) (i := i) hr hbl
    refine (read_have ok hSt hlt hw pb po m pc hap hm1 hmm hmc hth _ rfl).mono ?_
    rintro e w' ⟨rfl, hF, ⟨lb', lr', hSt'⟩, hE⟩
    refine ⟨hF, Or.inr ⟨min m (wd - r), by omega, by omega, by omega, rfl, ⟨i, r + min m (wd - r), wd, buf, cnt, lb', lr', hSt', by omega, hw, rem_drop hr hbl (by omega)⟩, ?_⟩⟩
    rw [rem_take hr hbl (by omega)]; exact hE
  · have e : r = wd := by omega
    subst e
    rw [rem_empty]
    rcases Nat.lt_or_ge i p.n with hin | hin
    · rcases Nat.lt_or_ge m p.K with hmK | hmK
      · refine (read_fill ok hSt hin pb po m pc hap hm1 hmK hmm hmc hth _ _ rfl rfl _ rfl).mono ?_
        obtain ⟨k', hk'⟩ : ∃ k', k' = min (min p.K p.st) (p.n - i) := ⟨_, rfl⟩
        rw [← hk']
        rintro e w' ⟨rfl, hF, ⟨cnt', lb', lr', hSt'⟩, hE⟩
        have hkl : ((p.S.drop i).take k').length = k' := by simp; omega
        have hbl := hSt'.hb
        have hrem : rem p (i + k') 0 k' ((p.S.drop i).take k' ++ buf.drop k') = p.S.drop i := by
          unfold rem
          rw [List.drop_zero, Nat.sub_zero, List.take_append_of_le_length (by omega), List.take_of_length_le (by omega), ← List.drop_drop, List.take_append_drop]
        refine ⟨hF, Or.inr ⟨min m k', by omega, by omega, by simp; omega, rfl, ⟨i + k', min m k', k', _, cnt', lb', lr', hSt', by omega, by omega, ?_⟩, ?_⟩⟩
        · have h1 := rem_drop (p := p) (i := i + k') (r := 0) (wd := k') (k := min m k') (buf := (p.S.drop i).take k' ++ buf.drop k') (Nat.zero_le _) (by omega) (by omega)
          rw [hrem, Nat.zero_add] at h1; exact h1
        · have h1 := rem_take (p := p) (i := i + k') (r := 0) (wd := k') (k := min m k') (buf := (p.S.drop i).take k' ++ buf.drop k') (Nat.zero_le _) (by omega) (by omega)
          rw [hrem] at h1; rw [h1]; exact hE
      · refine (read_direct ok hSt hin pb po m pc hap hmK hmm hmc hth _ rfl).mono ?_
        obtain ⟨k', hk'⟩ : ∃ k', k' = min (min m p.st) (p.n - i) := ⟨_, rfl⟩
        rw [← hk']
        rintro e w' ⟨rfl, hF, ⟨cnt', lb', lr', hSt'⟩, hE⟩
        exact ⟨hF, Or.inr ⟨k', by omega, by omega, by simp; omega, rfl, ⟨i + k', r, r, buf, cnt', lb', lr', hSt', Nat.le_refl _, hw, by rw [rem_empty, List.drop_drop]⟩, hE⟩⟩
    · have hd : p.S.drop i = [] := List.drop_eq_nil_of_le (by omega)
      rcases Nat.lt_or_ge m p.K with hmK | hmK
      · refine (read_eof_buf ok hSt hin pb po m pc hap hm1 hmK hmm hmc hth).mono ?_
        rintro e w' ⟨rfl, hF, cnt', lb', lr', hSt'⟩
        exact ⟨hF.mono (fun k hk => Or.inl hk), Or.inl ⟨hd, rfl, ⟨i, 0, 0, buf, cnt', lb', lr', hSt', Nat.le_refl _, Nat.zero_le _, by rw [rem_empty, hd]⟩, hF.block pb hpl hno⟩⟩
      · refine (read_eof_direct ok hSt hin pb po m pc hap hmK hmm hmc hth).mono ?_
        rintro e w' ⟨rfl, hF, cnt', lb', lr', hSt'⟩
        exact ⟨hF.mono (fun k hk => Or.inl hk), Or.inl ⟨hd, rfl, ⟨i, r, r, buf, cnt', lb', lr', hSt', Nat.le_refl _, hw, by rw [rem_empty, hd]⟩, hF.block pb hpl hno⟩⟩
end Go.Proofs.YbulkbmlcFmt
