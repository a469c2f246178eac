/-
  LawS3161CHello: the buffered reader's fill.
-/
import Derived.Test.YbulkbmlcFmtH2
namespace Go.Proofs.YbulkbmlcFmt
open Go.RowKit Go.Lib
set_option linter.unusedVariables false
set_option linter.unusedSimpArgs false

theorem quiet_copy_none {P : Program} {C : World → Prop} {a : Act} {o : Oper} {K : Act → Prop} (d s : Operand) (t e : TypeId) (ho : o.op = .call { callee := .builtin .copy, args := #[d, s], argTypes := #[t, t] }) (da aa : Option Addr) (dl dc sl sc : Nat)
    (hd : a.eval d = .slice da dl dc) (hs : a.eval s = .slice aa sl sc) (hu : P.underlying t = some (.slice e)) (hsz : (P.info? e).map (·.size) = some 1) (hn : Nat.min sl dl = 0) (hk : K (a.put o.dst (.int .i64 0))) : o.quiet P a C K :=
  ⟨_, fun w hw => by
    have hr := run_copy_none (P := P) w t t o.type e da aa dl dc sl sc hu hsz hn
    have : (execOp a.eval o).run P w = .ok (.value (.int .i64 0)) w := by
      unfold execOp
      simp only [ho, resolve, invoke, builtin, Sem.run_bind, Sem.run_pure, Result.andThen_ok, List.map_toArray, List.map_cons, List.map_nil, hd, hs, hr]
      rfl
    unfold Oper.quietAt; rw [this]; exact ⟨rfl, rfl⟩, hk⟩

set_option maxHeartbeats 4000000 in
set_option maxRecDepth 100000 in
theorem fill_any {p : Par} (ok : p.Ok) {w : World} {i r : Nat} {buf : Bytes} {cnt lb lr : Int} (h : St p w i r r buf .nilIface cnt lb lr) (hrK : r ≤ p.K) (k : Nat) (hk : k = min (min p.K p.st) (p.n - i)) :
    Calls Ybaf.prog 15 #[.pointer (some ⟨p.rb, 0, none⟩)] w fun x w' => x = .returned (.tuple #[]) ∧ Fr (own p) w w' ∧ ((i = p.n ∧ ∃ cnt', St p w' i 0 0 buf p.eof cnt' lb lr) ∨ (i < p.n ∧ ∃ cnt', St p w' (i + k) 0 k ((p.S.drop i).take k ++ buf.drop k) .nilIface cnt' lb lr)) := by
  have H := hide h
  have c2 : w.cell? ⟨p.rb, 2, none⟩ = some (.int .i64 (r : Int)) := by rw [cell_of_row _ _ 2 _ _ (0, 0) h.rd]; rfl
  clear h
  go_enter Ybaf.func15, Ybaf.ntmps15
  go_upto_if 9 with fail
  go_cut [0] (fun s0 wy => s0 = .pointer (some ⟨p.rb, 0, none⟩) ∧ St p wy i 0 0 buf .nilIface cnt lb lr ∧ Fr (own p) w wy)
  case first =>
    by_cases hr0 : r = 0
    · subst hr0
      go_wp2
      go_meet
      case rel => exact ⟨rfl, H.out, Fr.refl _ _⟩
    · have c0 : w.cell? ⟨p.rb, 0, none⟩ = some (.slice (some ⟨p.bb, 0, none⟩) p.K p.K) := by rw [cell_of_row _ _ 0 _ _ (0, 0) H.out.rd]; rfl
      have c3 : w.cell? ⟨p.rb, 3, none⟩ = some (.int .i64 (r : Int)) := by rw [cell_of_row _ _ 3 _ _ (0, 0) H.out.rd]; rfl
      have hrp : 0 < r := by omega
      have hrp' : (0 : Int) < (r : Int) := by omega
      have l5 := ok.l5
      go_upto_region 1 with fail
      by_cases hKr : p.K = r
      · have e1 : (if p.K = r then (some (⟨p.bb, 0, none⟩ : Addr)) else some ⟨p.bb, r, none⟩) = some ⟨p.bb, 0, none⟩ := if_pos hKr
        refine wp_region_quiet_lit (by kernel_rfl) (by kernel_rfl) ?_
        repeat (first
          | go_big_quiet_skip
          | (go_big_quiet_want
             first
             | (refine quiet_copy_none (.tmp 13) (.tmp 26) 23 5 rfl _ _ _ _ _ _ rfl rfl Ybaf.underlying23 size1 (by simp) ?_; simp only [Act.put, List.setIfInBounds_toArray, List.set_cons_zero, List.set_cons_succ]; go_big_quiet_on)
             | (go_big_quiet_op; go_big_quiet_on)))
        refine wpQuiet_nil ?_
        intro _ hw'
        obtain ⟨nq, hw''⟩ := hw'
        subst hw''
        have c2' : (w.drewN nq).cell? ⟨p.rb, 2, none⟩ = some (.int .i64 (r : Int)) := c2
        have c3' : (w.drewN nq).cell? ⟨p.rb, 3, none⟩ = some (.int .i64 (r : Int)) := c3
        have f3 : (w.drewN nq).frozen? ⟨p.rb, 3, none⟩ = false := frozen_block H.out.rd
        have HQ := hide (H.out.ahead nq)
        have HF : Hid (Fr (own p) w (w.drewN nq)) := (Fr.refl _ _).drewN nq
        clear c2 c3 c0
        generalize w.drewN nq = W1 at c2' c3' f3 HQ HF ⊢
        go_upto_region 2 with fail
        go_region
        have HQ2 : Hid (St p (W1.setCell ⟨p.rb, 3, none⟩ (.int .i64 0)).drew i r 0 buf .nilIface cnt lb lr) := (HQ.out.setR ok 3 (.int .i64 0) (r' := r) (wd' := 0) (e' := .nilIface) (lb' := lb) (lr' := lr) rfl).ahead 1
        have HF2 : Hid (Fr (own p) w (W1.setCell ⟨p.rb, 3, none⟩ (.int .i64 0)).drew) := (HF.out.set (Or.inr (Or.inr (Or.inl rfl))) _).drewN 1
        have d2 : (W1.setCell ⟨p.rb, 3, none⟩ (.int .i64 0)).drew.cell? ⟨p.rb, 2, none⟩ = some (.int .i64 (r : Int)) := by rw [cell_of_row _ _ 2 _ _ (0, 0) HQ2.out.rd]; rfl
        have f2 : (W1.setCell ⟨p.rb, 3, none⟩ (.int .i64 0)).drew.frozen? ⟨p.rb, 2, none⟩ = false := frozen_block HQ2.out.rd
        clear c2' c3' f3
        generalize (W1.setCell ⟨p.rb, 3, none⟩ (.int .i64 0)).drew = W2 at HQ2 HF2 d2 f2 ⊢
        go_wp2
        go_meet
        case rel => exact ⟨rfl, HQ2.out.setR ok 2 (.int .i64 0) (r' := 0) (wd' := 0) (e' := .nilIface) (lb' := lb) (lr' := lr) rfl, HF2.out.set (Or.inr (Or.inr (Or.inl rfl))) _⟩
      · have e1 : (if p.K = r then (some (⟨p.bb, 0, none⟩ : Addr)) else some ⟨p.bb, r, none⟩) = some ⟨p.bb, r, none⟩ := if_neg hKr
        refine wp_region_quiet_lit (by kernel_rfl) (by kernel_rfl) ?_
        repeat (first
          | go_big_quiet_skip
          | (go_big_quiet_want
             first
             | (refine quiet_copy_none (.tmp 13) (.tmp 26) 23 5 rfl _ _ _ _ _ _ rfl rfl Ybaf.underlying23 size1 (by simp) ?_; simp only [Act.put, List.setIfInBounds_toArray, List.set_cons_zero, List.set_cons_succ]; go_big_quiet_on)
             | (go_big_quiet_op; go_big_quiet_on)))
        refine wpQuiet_nil ?_
        intro _ hw'
        obtain ⟨nq, hw''⟩ := hw'
        subst hw''
        have c2' : (w.drewN nq).cell? ⟨p.rb, 2, none⟩ = some (.int .i64 (r : Int)) := c2
        have c3' : (w.drewN nq).cell? ⟨p.rb, 3, none⟩ = some (.int .i64 (r : Int)) := c3
        have f3 : (w.drewN nq).frozen? ⟨p.rb, 3, none⟩ = false := frozen_block H.out.rd
        have HQ := hide (H.out.ahead nq)
        have HF : Hid (Fr (own p) w (w.drewN nq)) := (Fr.refl _ _).drewN nq
        clear c2 c3 c0
        generalize w.drewN nq = W1 at c2' c3' f3 HQ HF ⊢
        go_upto_region 2 with fail
        go_region
        have HQ2 : Hid (St p (W1.setCell ⟨p.rb, 3, none⟩ (.int .i64 0)).drew i r 0 buf .nilIface cnt lb lr) := (HQ.out.setR ok 3 (.int .i64 0) (r' := r) (wd' := 0) (e' := .nilIface) (lb' := lb) (lr' := lr) rfl).ahead 1
        have HF2 : Hid (Fr (own p) w (W1.setCell ⟨p.rb, 3, none⟩ (.int .i64 0)).drew) := (HF.out.set (Or.inr (Or.inr (Or.inl rfl))) _).drewN 1
        have d2 : (W1.setCell ⟨p.rb, 3, none⟩ (.int .i64 0)).drew.cell? ⟨p.rb, 2, none⟩ = some (.int .i64 (r : Int)) := by rw [cell_of_row _ _ 2 _ _ (0, 0) HQ2.out.rd]; rfl
        have f2 : (W1.setCell ⟨p.rb, 3, none⟩ (.int .i64 0)).drew.frozen? ⟨p.rb, 2, none⟩ = false := frozen_block HQ2.out.rd
        clear c2' c3' f3
        generalize (W1.setCell ⟨p.rb, 3, none⟩ (.int .i64 0)).drew = W2 at HQ2 HF2 d2 f2 ⊢
        go_wp2
        go_meet
        case rel => exact ⟨rfl, HQ2.out.setR ok 2 (.int .i64 0) (r' := 0) (wd' := 0) (e' := .nilIface) (lb' := lb) (lr' := lr) rfl, HF2.out.set (Or.inr (Or.inr (Or.inl rfl))) _⟩
  case rest =>
    obtain ⟨rfl, hSt, hFr⟩ := hcut
    obtain ⟨W, hW⟩ : ∃ x, x = wc := ⟨_, rfl⟩
    subst hW
    clear c2
    have c0 : W.cell? ⟨p.rb, 0, none⟩ = some (.slice (some ⟨p.bb, 0, none⟩) p.K p.K) := by rw [cell_of_row _ _ 0 _ _ (0, 0) hSt.rd]; rfl
    have c3 : W.cell? ⟨p.rb, 3, none⟩ = some (.int .i64 0) := by rw [cell_of_row _ _ 3 _ _ (0, 0) hSt.rd]; rfl
    have HS := hide hSt; have HFR := hide hFr
    clear hSt hFr
    have l5 := ok.l5
    have lK : 0 < p.K := by omega
    go_upto_region 4 with fail
    go_quiet (fail)
    have HS1 := hide (HS.out.ahead nq)
    have HF1 := hide (HFR.out.drewN nq)
    clear c0 c3 HS HFR
    generalize W.drewN nq = W1 at HS1 HF1 ⊢
    go_wp2
    go_loopw [2] (fun v wx => v = .int .i64 100 ∧ wx = W1) (fun _ _ => 0)
    case atStart => exact ⟨rfl, rfl⟩
    case round =>
      obtain ⟨rfl, hwr⟩ := hrel
      subst hwr
      have c0 : wr.cell? ⟨p.rb, 0, none⟩ = some (.slice (some ⟨p.bb, 0, none⟩) p.K p.K) := by rw [cell_of_row _ _ 0 _ _ (0, 0) HS1.out.rd]; rfl
      have c1 : wr.cell? ⟨p.rb, 1, none⟩ = some (.iface 37 (.pointer (some ⟨p.cb, 0, none⟩))) := by rw [cell_of_row _ _ 1 _ _ (0, 0) HS1.out.rd]; rfl
      have c3 : wr.cell? ⟨p.rb, 3, none⟩ = some (.int .i64 0) := by rw [cell_of_row _ _ 3 _ _ (0, 0) HS1.out.rd]; rfl
      go_upto_region 9 with fail
      refine wp_region_held (S := fun w' => w'.cell? ⟨p.rb, 0, none⟩ = some (.slice (some ⟨p.bb, 0, none⟩) p.K p.K) ∧ w'.cell? ⟨p.rb, 1, none⟩ = some (.iface 37 (.pointer (some ⟨p.cb, 0, none⟩))) ∧ w'.cell? ⟨p.rb, 3, none⟩ = some (.int .i64 0)) (by kernel_rfl) ?_
      try (change wpAnyH _ _ _ _ _ _ _ _ (World.drew _))
      have S0 : wr.drew.cell? ⟨p.rb, 0, none⟩ = some (.slice (some ⟨p.bb, 0, none⟩) p.K p.K) ∧ wr.drew.cell? ⟨p.rb, 1, none⟩ = some (.iface 37 (.pointer (some ⟨p.cb, 0, none⟩))) ∧ wr.drew.cell? ⟨p.rb, 3, none⟩ = some (.int .i64 0) := ⟨c0, c1, c3⟩
      refine wpAnyH_take (i := 0) (v := .pointer (some ⟨p.rb, 0, none⟩)) rfl (by kernel_rfl) (by kernel_rfl) (by kernel_rfl) (fun _ _ _ h => h) (Or.inl ⟨by kernel_rfl, fun w hS => by obtain ⟨q0, q1, q3⟩ := hS; go_simp⟩) S0 ?_
      simp only [Act.put, List.getElem_toArray, List.getElem_cons_succ, List.getElem_cons_zero, List.setIfInBounds_toArray, List.set_cons_zero, List.set_cons_succ]
      refine wpAnyH_take (i := 1) (v := .pointer (some ⟨p.rb, 0, none⟩)) rfl (by kernel_rfl) (by kernel_rfl) (by kernel_rfl) (fun _ _ _ h => h) (Or.inl ⟨by kernel_rfl, fun w hS => by obtain ⟨q0, q1, q3⟩ := hS; go_simp⟩) S0 ?_
      simp only [Act.put, List.getElem_toArray, List.getElem_cons_succ, List.getElem_cons_zero, List.setIfInBounds_toArray, List.set_cons_zero, List.set_cons_succ]
      refine wpAnyH_take (i := 2) (v := .pointer (some ⟨p.rb, 1, none⟩)) rfl (by kernel_rfl) (by kernel_rfl) (by kernel_rfl) (fun _ _ _ h => h) (Or.inl ⟨by kernel_rfl, fun w hS => by obtain ⟨q0, q1, q3⟩ := hS; go_simp⟩) S0 ?_
      simp only [Act.put, List.getElem_toArray, List.getElem_cons_succ, List.getElem_cons_zero, List.setIfInBounds_toArray, List.set_cons_zero, List.set_cons_succ]
      refine wpAnyH_take (i := 3) (v := .iface 37 (.pointer (some ⟨p.cb, 0, none⟩))) rfl (by kernel_rfl) (by kernel_rfl) (by kernel_rfl) (fun _ _ _ h => h) (Or.inl ⟨by kernel_rfl, fun w hS => by obtain ⟨q0, q1, q3⟩ := hS; go_simp⟩) S0 ?_
      simp only [Act.put, List.getElem_toArray, List.getElem_cons_succ, List.getElem_cons_zero, List.setIfInBounds_toArray, List.set_cons_zero, List.set_cons_succ]
      refine wpAnyH_take (i := 4) (v := .pointer (some ⟨p.rb, 0, none⟩)) rfl (by kernel_rfl) (by kernel_rfl) (by kernel_rfl) (fun _ _ _ h => h) (Or.inl ⟨by kernel_rfl, fun w hS => by obtain ⟨q0, q1, q3⟩ := hS; go_simp⟩) S0 ?_
      simp only [Act.put, List.getElem_toArray, List.getElem_cons_succ, List.getElem_cons_zero, List.setIfInBounds_toArray, List.set_cons_zero, List.set_cons_succ]
      refine wpAnyH_take (i := 5) (v := .pointer (some ⟨p.rb, 0, none⟩)) rfl (by kernel_rfl) (by kernel_rfl) (by kernel_rfl) (fun _ _ _ h => h) (Or.inl ⟨by kernel_rfl, fun w hS => by obtain ⟨q0, q1, q3⟩ := hS; go_simp⟩) S0 ?_
      simp only [Act.put, List.getElem_toArray, List.getElem_cons_succ, List.getElem_cons_zero, List.setIfInBounds_toArray, List.set_cons_zero, List.set_cons_succ]
      refine wpAnyH_take (i := 6) (v := .pointer (some ⟨p.rb, 0, none⟩)) rfl (by kernel_rfl) (by kernel_rfl) (by kernel_rfl) (fun _ _ _ h => h) (Or.inl ⟨by kernel_rfl, fun w hS => by obtain ⟨q0, q1, q3⟩ := hS; go_simp⟩) S0 ?_
      simp only [Act.put, List.getElem_toArray, List.getElem_cons_succ, List.getElem_cons_zero, List.setIfInBounds_toArray, List.set_cons_zero, List.set_cons_succ]
      refine wpAnyH_take (i := 7) (v := .slice (some ⟨p.bb, 0, none⟩) p.K p.K) rfl (by kernel_rfl) (by kernel_rfl) (by kernel_rfl) (fun _ _ _ h => h) (Or.inl ⟨by kernel_rfl, fun w hS => by obtain ⟨q0, q1, q3⟩ := hS; go_simp⟩) S0 ?_
      simp only [Act.put, List.getElem_toArray, List.getElem_cons_succ, List.getElem_cons_zero, List.setIfInBounds_toArray, List.set_cons_zero, List.set_cons_succ]
      refine wpAnyH_take (i := 8) (v := .pointer (some ⟨p.rb, 0, none⟩)) rfl (by kernel_rfl) (by kernel_rfl) (by kernel_rfl) (fun _ _ _ h => h) (Or.inl ⟨by kernel_rfl, fun w hS => by obtain ⟨q0, q1, q3⟩ := hS; go_simp⟩) S0 ?_
      simp only [Act.put, List.getElem_toArray, List.getElem_cons_succ, List.getElem_cons_zero, List.setIfInBounds_toArray, List.set_cons_zero, List.set_cons_succ]
      refine wpAnyH_take (i := 9) (v := .pointer (some ⟨p.rb, 0, none⟩)) rfl (by kernel_rfl) (by kernel_rfl) (by kernel_rfl) (fun _ _ _ h => h) (Or.inl ⟨by kernel_rfl, fun w hS => by obtain ⟨q0, q1, q3⟩ := hS; go_simp⟩) S0 ?_
      simp only [Act.put, List.getElem_toArray, List.getElem_cons_succ, List.getElem_cons_zero, List.setIfInBounds_toArray, List.set_cons_zero, List.set_cons_succ]
      refine wpAnyH_take (i := 10) (v := .pointer (some ⟨p.rb, 3, none⟩)) rfl (by kernel_rfl) (by kernel_rfl) (by kernel_rfl) (fun _ _ _ h => h) (Or.inl ⟨by kernel_rfl, fun w hS => by obtain ⟨q0, q1, q3⟩ := hS; go_simp⟩) S0 ?_
      simp only [Act.put, List.getElem_toArray, List.getElem_cons_succ, List.getElem_cons_zero, List.setIfInBounds_toArray, List.set_cons_zero, List.set_cons_succ]
      refine wpAnyH_take (i := 11) (v := .int .i64 0) rfl (by kernel_rfl) (by kernel_rfl) (by kernel_rfl) (fun _ _ _ h => h) (Or.inl ⟨by kernel_rfl, fun w hS => by obtain ⟨q0, q1, q3⟩ := hS; go_simp⟩) S0 ?_
      simp only [Act.put, List.getElem_toArray, List.getElem_cons_succ, List.getElem_cons_zero, List.setIfInBounds_toArray, List.set_cons_zero, List.set_cons_succ]
      refine wpAnyH_take (i := 12) (v := .slice (some ⟨p.bb, 0, none⟩) p.K p.K) rfl (by kernel_rfl) (by kernel_rfl) (by kernel_rfl) (fun _ _ _ h => h) (Or.inl ⟨by kernel_rfl, fun w hS => by obtain ⟨q0, q1, q3⟩ := hS; go_simp⟩) S0 ?_
      simp only [Act.put, List.getElem_toArray, List.getElem_cons_succ, List.getElem_cons_zero, List.setIfInBounds_toArray, List.set_cons_zero, List.set_cons_succ]
      refine wpAnyH_take (i := 13) (v := .iface 37 (.pointer (some ⟨p.cb, 0, none⟩))) rfl (by kernel_rfl) (by kernel_rfl) (by kernel_rfl) (fun _ _ _ h => h) (Or.inl ⟨by kernel_rfl, fun w hS => by obtain ⟨q0, q1, q3⟩ := hS; go_simp⟩) S0 ?_
      simp only [Act.put, List.getElem_toArray, List.getElem_cons_succ, List.getElem_cons_zero, List.setIfInBounds_toArray, List.set_cons_zero, List.set_cons_succ]
      refine wpAnyH_take (i := 14) (v := .iface 37 (.pointer (some ⟨p.cb, 0, none⟩))) rfl (by kernel_rfl) (by kernel_rfl) (by kernel_rfl) (fun _ _ _ h => h) (Or.inl ⟨by kernel_rfl, fun w hS => by obtain ⟨q0, q1, q3⟩ := hS; go_simp⟩) S0 ?_
      simp only [Act.put, List.getElem_toArray, List.getElem_cons_succ, List.getElem_cons_zero, List.setIfInBounds_toArray, List.set_cons_zero, List.set_cons_succ]
      refine wpAnyH_ready (rs := [15]) (by kernel_rfl) (by simp) ?_
      refine AllReadyH.cons rfl (fun K hK => ?_) AllReadyH.nil
      rw [if_pos (by kernel_rfl)]
      have mR := mRead37
      go_simp
      rcases Nat.lt_or_ge i p.n with hin | hin
      · have hkl : ((p.S.drop i).take k).length = k := by have := ok.l3; simp; omega
        have hk1 : 1 ≤ k := by have := ok.l4; omega
        have hkK : k ≤ p.K := by omega
        have hkn : i + k ≤ p.n := by omega
        have HS2 : Hid (∀ q c', St p ((((wr.drew.setCells p.bb 0 (byteCells ((p.S.drop i).take k))).setCell ⟨p.zb, 1, none⟩ (.int .i64 ((i + k : Nat) : Int))).setCell ⟨p.cb, 1, none⟩ (.int .i64 c')).drewN q) (i + k) 0 0 ((p.S.drop i).take k ++ buf.drop k) .nilIface c' lb lr) := fun q c' => by
          have := ((((HS1.out.ahead 1).setB ok 0 ((p.S.drop i).take k) (by omega)).setZ ok (i + k) hkn).setC ok c').ahead q
          rw [hkl, Nat.zero_add, List.take_zero, List.nil_append] at this
          exact this
        have HF2 : Hid (∀ q c', Fr (own p) w ((((wr.drew.setCells p.bb 0 (byteCells ((p.S.drop i).take k))).setCell ⟨p.zb, 1, none⟩ (.int .i64 ((i + k : Nat) : Int))).setCell ⟨p.cb, 1, none⟩ (.int .i64 c')).drewN q)) := fun q c' =>
          ((((HF1.out.drewN 1).sets (Or.inr (Or.inr (Or.inr rfl))) _ _).set (Or.inl rfl) _).set (Or.inr (Or.inl rfl)) _).drewN q
        refine (cr_some p.cb p.zb p.sb p.n p.sc i p.st k p.bb 0 p.K p.K cnt ((p.S.drop i).take k) wr.drew HS1.out.c HS1.out.z hin ok.l1 ok.l2 (by omega) (Nat.le_refl _) ok.l4 (by omega) hk hkl (src_range HS1.out.s) (fun j hj => ⟨by
            rw [Nat.zero_add]; show (wr.cell? ⟨p.bb, j, none⟩).isSome = true
            have hbl : (byteCells buf).length = p.K := by rw [len_byteCells]; exact HS1.out.hb
            rw [cell_of_row _ _ j _ _ (0, 0) HS1.out.b, List.getElem?_toArray, List.getElem?_eq_getElem (by omega)]; rfl, frozen_block HS1.out.b⟩) ok.n3 (fun e => ok.n1 e.symm) ok.n6).mono ?_
        rintro x w1 ⟨rfl, q, c', rfl⟩
        have HS3 := hide (HS2.out q c'); have HF3 := hide (HF2.out q c')
        clear HS2 HF2 c0 c1 c3 S0
        generalize (((wr.drew.setCells p.bb 0 (byteCells ((p.S.drop i).take k))).setCell ⟨p.zb, 1, none⟩ (.int .i64 ((i + k : Nat) : Int))).setCell ⟨p.cb, 1, none⟩ (.int .i64 c')).drewN q = W3 at HS3 HF3 ⊢
        have d0 : W3.cell? ⟨p.rb, 0, none⟩ = some (.slice (some ⟨p.bb, 0, none⟩) p.K p.K) := by rw [cell_of_row _ _ 0 _ _ (0, 0) HS3.out.rd]; rfl
        have d1 : W3.cell? ⟨p.rb, 1, none⟩ = some (.iface 37 (.pointer (some ⟨p.cb, 0, none⟩))) := by rw [cell_of_row _ _ 1 _ _ (0, 0) HS3.out.rd]; rfl
        have d3 : W3.cell? ⟨p.rb, 3, none⟩ = some (.int .i64 0) := by rw [cell_of_row _ _ 3 _ _ (0, 0) HS3.out.rd]; rfl
        have S1 := And.intro d0 (And.intro d1 d3)
        refine hK.out _ _ S1 (fun _ => ?_)
        clear hK K mR
        refine wpAnyH_take (i := 16) (v := .tuple #[.int .i64 (k : Int), .nilIface]) rfl (by kernel_rfl) (by kernel_rfl) (by kernel_rfl) (fun _ _ _ h => h) (Or.inl ⟨by kernel_rfl, fun w hS => by go_simp⟩) S1 ?_
        simp only [Act.put, List.getElem_toArray, List.getElem_cons_succ, List.getElem_cons_zero, List.setIfInBounds_toArray, List.set_cons_zero, List.set_cons_succ]
        refine wpAnyH_take (i := 17) (v := .int .i64 (k : Int)) rfl (by kernel_rfl) (by kernel_rfl) (by kernel_rfl) (fun _ _ _ h => h) (Or.inl ⟨by kernel_rfl, fun w hS => by go_simp⟩) S1 ?_
        simp only [Act.put, List.getElem_toArray, List.getElem_cons_succ, List.getElem_cons_zero, List.setIfInBounds_toArray, List.set_cons_zero, List.set_cons_succ]
        refine wpAnyH_take (i := 18) (v := .nilIface) rfl (by kernel_rfl) (by kernel_rfl) (by kernel_rfl) (fun _ _ _ h => h) (Or.inl ⟨by kernel_rfl, fun w hS => by go_simp⟩) S1 ?_
        simp only [Act.put, List.getElem_toArray, List.getElem_cons_succ, List.getElem_cons_zero, List.setIfInBounds_toArray, List.set_cons_zero, List.set_cons_succ]
        refine wpAnyH_take (i := 19) (v := .int .i64 (k : Int)) rfl (by kernel_rfl) (by kernel_rfl) (by kernel_rfl) (fun _ _ _ h => h) (Or.inl ⟨by kernel_rfl, fun w hS => by go_simp⟩) S1 ?_
        simp only [Act.put, List.getElem_toArray, List.getElem_cons_succ, List.getElem_cons_zero, List.setIfInBounds_toArray, List.set_cons_zero, List.set_cons_succ]
        refine wpAnyH_take (i := 20) (v := .nilIface) rfl (by kernel_rfl) (by kernel_rfl) (by kernel_rfl) (fun _ _ _ h => h) (Or.inl ⟨by kernel_rfl, fun w hS => by go_simp⟩) S1 ?_
        simp only [Act.put, List.getElem_toArray, List.getElem_cons_succ, List.getElem_cons_zero, List.setIfInBounds_toArray, List.set_cons_zero, List.set_cons_succ]
        refine wpAnyH_done (by kernel_rfl) ?_ _
        clear S1 d0 d1
        have f3 : W3.frozen? ⟨p.rb, 3, none⟩ = false := frozen_block HS3.out.rd
        have hk0 : ¬ (k : Int) < 0 := by omega
        have hkp : (0 : Int) < (k : Int) := by omega
        have HKE := hide hk; have HIN := hide hin
        clear hk hin
        go_wp2
        (try simp only [Exit.inBlock, Exit.then])
        refine bodyPost_ret (results_none rfl _ _ _) rfl ?_
        exact ⟨rfl, HF3.out.set (Or.inr (Or.inr (Or.inl rfl))) _, Or.inr ⟨HIN.out, c', HS3.out.setR ok 3 (.int .i64 (k : Int)) (r' := 0) (wd' := k) (e' := .nilIface) (lb' := lb) (lr' := lr) rfl⟩⟩
      · have hie : i = p.n := Nat.le_antisymm HS1.out.hi hin
        refine (cr_eof p.cb p.zb p.sb p.n p.sc i p.st cnt p.eof _ wr.drew HS1.out.c HS1.out.z HS1.out.g hin).mono ?_
        rintro x w1 ⟨rfl, q, c', rfl⟩
        have HS3 : Hid (St p ((wr.drew.setCell ⟨p.cb, 1, none⟩ (.int .i64 c')).drewN q) i 0 0 buf .nilIface c' lb lr) := ((HS1.out.ahead 1).setC ok c').ahead q
        have HF3 : Hid (Fr (own p) w ((wr.drew.setCell ⟨p.cb, 1, none⟩ (.int .i64 c')).drewN q)) := ((HF1.out.drewN 1).set (Or.inr (Or.inl rfl)) _).drewN q
        clear c0 c1 c3 S0
        generalize (wr.drew.setCell ⟨p.cb, 1, none⟩ (.int .i64 c')).drewN q = W3 at HS3 HF3 ⊢
        have d0 : W3.cell? ⟨p.rb, 0, none⟩ = some (.slice (some ⟨p.bb, 0, none⟩) p.K p.K) := by rw [cell_of_row _ _ 0 _ _ (0, 0) HS3.out.rd]; rfl
        have d1 : W3.cell? ⟨p.rb, 1, none⟩ = some (.iface 37 (.pointer (some ⟨p.cb, 0, none⟩))) := by rw [cell_of_row _ _ 1 _ _ (0, 0) HS3.out.rd]; rfl
        have d3 : W3.cell? ⟨p.rb, 3, none⟩ = some (.int .i64 0) := by rw [cell_of_row _ _ 3 _ _ (0, 0) HS3.out.rd]; rfl
        have S1 := And.intro d0 (And.intro d1 d3)
        refine hK.out _ _ S1 (fun _ => ?_)
        clear hK K mR
        refine wpAnyH_take (i := 16) (v := .tuple #[.int .i64 0, p.eof]) rfl (by kernel_rfl) (by kernel_rfl) (by kernel_rfl) (fun _ _ _ h => h) (Or.inl ⟨by kernel_rfl, fun w hS => by go_simp⟩) S1 ?_
        simp only [Act.put, List.getElem_toArray, List.getElem_cons_succ, List.getElem_cons_zero, List.setIfInBounds_toArray, List.set_cons_zero, List.set_cons_succ]
        refine wpAnyH_take (i := 17) (v := .int .i64 0) rfl (by kernel_rfl) (by kernel_rfl) (by kernel_rfl) (fun _ _ _ h => h) (Or.inl ⟨by kernel_rfl, fun w hS => by go_simp⟩) S1 ?_
        simp only [Act.put, List.getElem_toArray, List.getElem_cons_succ, List.getElem_cons_zero, List.setIfInBounds_toArray, List.set_cons_zero, List.set_cons_succ]
        refine wpAnyH_take (i := 18) (v := p.eof) rfl (by kernel_rfl) (by kernel_rfl) (by kernel_rfl) (fun _ _ _ h => h) (Or.inl ⟨by kernel_rfl, fun w hS => by go_simp⟩) S1 ?_
        simp only [Act.put, List.getElem_toArray, List.getElem_cons_succ, List.getElem_cons_zero, List.setIfInBounds_toArray, List.set_cons_zero, List.set_cons_succ]
        refine wpAnyH_take (i := 19) (v := .int .i64 0) rfl (by kernel_rfl) (by kernel_rfl) (by kernel_rfl) (fun _ _ _ h => h) (Or.inl ⟨by kernel_rfl, fun w hS => by go_simp⟩) S1 ?_
        simp only [Act.put, List.getElem_toArray, List.getElem_cons_succ, List.getElem_cons_zero, List.setIfInBounds_toArray, List.set_cons_zero, List.set_cons_succ]
        refine wpAnyH_take (i := 20) (v := p.eof) rfl (by kernel_rfl) (by kernel_rfl) (by kernel_rfl) (fun _ _ _ h => h) (Or.inl ⟨by kernel_rfl, fun w hS => by go_simp⟩) S1 ?_
        simp only [Act.put, List.getElem_toArray, List.getElem_cons_succ, List.getElem_cons_zero, List.setIfInBounds_toArray, List.set_cons_zero, List.set_cons_succ]
        refine wpAnyH_done (by kernel_rfl) ?_ _
        clear S1 d0 d1
        have f3 : W3.frozen? ⟨p.rb, 3, none⟩ = false := frozen_block HS3.out.rd
        have HS4 : Hid (St p (W3.setCell ⟨p.rb, 3, none⟩ (.int .i64 0)) i 0 0 buf .nilIface c' lb lr) := HS3.out.setR ok 3 (.int .i64 0) (r' := 0) (wd' := 0) (e' := .nilIface) (lb' := lb) (lr' := lr) rfl
        have d4 : (W3.setCell ⟨p.rb, 3, none⟩ (.int .i64 0)).cell? ⟨p.rb, 4, none⟩ = some .nilIface := by rw [cell_of_row _ _ 4 _ _ (0, 0) HS4.out.rd]; rfl
        have f4 : (W3.setCell ⟨p.rb, 3, none⟩ (.int .i64 0)).frozen? ⟨p.rb, 4, none⟩ = false := frozen_block HS4.out.rd
        simp only [Par.eof]
        have HIE := hide hie
        clear hie
        go_wp2
        (try simp only [Exit.inBlock, Exit.then])
        refine bodyPost_ret (results_none rfl _ _ _) rfl ?_
        exact ⟨rfl, (HF3.out.set (Or.inr (Or.inr (Or.inl rfl))) _).set (Or.inr (Or.inr (Or.inl rfl))) _, Or.inl ⟨HIE.out, c', HS4.out.setR ok 4 p.eof (r' := 0) (wd' := 0) (e' := p.eof) (lb' := lb) (lr' := lr) rfl⟩⟩
end Go.Proofs.YbulkbmlcFmt
