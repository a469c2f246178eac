/-
  LawS3161CHello: the buffered reader's ReadByte.
-/
import Derived.Test.YbulkbmlcFmtH3
import Derived.LoopN
namespace Go.Proofs.YbulkbmlcFmt
open Go.RowKit Go.Lib
set_option linter.unusedVariables false
set_option linter.unusedSimpArgs false

/-- The stream: the bytes that are still to come. -/
def RS (p : Par) (w : World) (rm : Bytes) : Prop := ∃ i r wd buf cnt lb lr, St p w i r wd buf .nilIface cnt lb lr ∧ r ≤ wd ∧ wd ≤ p.K ∧ rm = rem p i r wd buf
theorem rem_step {p : Par} {i r wd : Nat} {buf : Bytes} (hr : r < wd) (hb : wd ≤ buf.length) : rem p i r wd buf = buf[r] :: rem p i (r + 1) wd buf := by
  unfold rem
  rw [List.drop_eq_getElem_cons (by omega), show wd - r = (wd - (r + 1)) + 1 by omega, List.take_succ_cons]; rfl
theorem rem_empty {p : Par} {i r : Nat} {buf : Bytes} : rem p i r r buf = p.S.drop i := by unfold rem; simp
theorem buf_cell {p : Par} {w : World} {i r wd : Nat} {buf : Bytes} {e : Value} {cnt lb lr : Int} (h : St p w i r wd buf e cnt lb lr) {j : Nat} (hj : j < buf.length) : w.cell? ⟨p.bb, j, none⟩ = some (.int .u8 (buf[j].toNat : Int)) := by
  rw [cell_of_row _ _ j _ _ (0, 0) h.b, List.getElem?_toArray]
  simp [byteCells, hj]

set_option maxHeartbeats 2000000 in
set_option maxRecDepth 100000 in
theorem byte_have {p : Par} (ok : p.Ok) {w : World} {i r wd : Nat} {buf : Bytes} {cnt lb lr : Int} (h : St p w i r wd buf .nilIface cnt lb lr) (hr : r < wd) (hw : wd ≤ p.K) (x : UInt8) (hx : buf[r]? = some x) :
    Calls Ybaf.prog 7 #[.pointer (some ⟨p.rb, 0, none⟩)] w fun e w' => e = .returned (.tuple #[.int .u8 (x.toNat : Int), .nilIface]) ∧ Fr (own p) w w' ∧ ∃ lb' lr', St p w' i (r + 1) wd buf .nilIface cnt lb' lr' := by
  have l5 := ok.l5
  have hb := h.hb
  have c6 : w.cell? ⟨p.rb, 6, none⟩ = some (.int .i64 lr) := by rw [cell_of_row _ _ 6 _ _ (0, 0) h.rd]; rfl
  have f6 : w.frozen? ⟨p.rb, 6, none⟩ = false := frozen_block h.rd
  have H1 : Hid (St p (w.setCell ⟨p.rb, 6, none⟩ (.int .i64 (-1))) i r wd buf .nilIface cnt lb (-1)) := h.setR ok 6 (.int .i64 (-1)) rfl
  have F1 : Hid (Fr (own p) w (w.setCell ⟨p.rb, 6, none⟩ (.int .i64 (-1)))) := (Fr.refl _ _).set (Or.inr (Or.inr (Or.inl rfl))) _
  clear h
  go_enter Ybaf.func7, Ybaf.ntmps7
  go_wp2
  clear c6 f6
  generalize w.setCell ⟨p.rb, 6, none⟩ (.int .i64 (-1)) = W at H1 F1 ⊢
  have c2 : W.cell? ⟨p.rb, 2, none⟩ = some (.int .i64 (r : Int)) := by rw [cell_of_row _ _ 2 _ _ (0, 0) H1.out.rd]; rfl
  have c3 : W.cell? ⟨p.rb, 3, none⟩ = some (.int .i64 (wd : Int)) := by rw [cell_of_row _ _ 3 _ _ (0, 0) H1.out.rd]; rfl
  have hbe : ((r : Int) == (wd : Int)) = false := by simp; omega
  have hne : ¬ r = wd := by omega
  refine wp_loop_rounds 1 ?_
  rw [rounds_succ]
  go_upto_region 2 with fail
  go_quiet (fail)
  go_upto_region 6 with fail
  have HV := hide (H1.out.ahead nq); have FV := hide (F1.out.drewN nq)
  generalize W.drewN nq = V at HV FV ⊢
  have e0 : V.cell? ⟨p.rb, 0, none⟩ = some (.slice (some ⟨p.bb, 0, none⟩) p.K p.K) := by rw [cell_of_row _ _ 0 _ _ (0, 0) HV.out.rd]; rfl
  have e2 : V.cell? ⟨p.rb, 2, none⟩ = some (.int .i64 ((r : Nat) : Int)) := by rw [cell_of_row _ _ 2 _ _ (0, 0) HV.out.rd]; rfl
  have eb : V.cell? ⟨p.bb, r, none⟩ = some (.int .u8 (x.toNat : Int)) := by
    obtain ⟨hlt, hex⟩ := List.getElem?_eq_some_iff.1 hx
    rw [buf_cell HV.out hlt, hex]
  have bi : ((r : Nat) : Int) < (p.K : Int) := by omega
  go_quiet (fail)
  have HV2 := hide (HV.out.ahead nq); have FV2 := hide (FV.out.drewN nq)
  clear e0 e2 eb HV FV
  generalize V.drewN nq = V2 at HV2 FV2 ⊢
  have e2 : V2.cell? ⟨p.rb, 2, none⟩ = some (.int .i64 ((r : Nat) : Int)) := by rw [cell_of_row _ _ 2 _ _ (0, 0) HV2.out.rd]; rfl
  have e5 : V2.cell? ⟨p.rb, 5, none⟩ = some (.int .i64 lb) := by rw [cell_of_row _ _ 5 _ _ (0, 0) HV2.out.rd]; rfl
  have f2 : V2.frozen? ⟨p.rb, 2, none⟩ = false := frozen_block HV2.out.rd
  have f5 : V2.frozen? ⟨p.rb, 5, none⟩ = false := frozen_block HV2.out.rd
  go_wp2
  go_ret2
  exact ⟨rfl, (FV2.out.set (Or.inr (Or.inr (Or.inl rfl))) _).set (Or.inr (Or.inr (Or.inl rfl))) _, _, _, (HV2.out.setR ok 2 (.int .i64 ((r : Int) + 1)) (r' := r + 1) (wd' := wd) (e' := .nilIface) (lb' := lb) (lr' := -1) rfl).setR ok 5 _ rfl⟩
set_option maxHeartbeats 2000000 in
set_option maxRecDepth 100000 in
theorem byte_fill {p : Par} (ok : p.Ok) {w : World} {i r : Nat} {buf : Bytes} {cnt lb lr : Int} (h : St p w i r r buf .nilIface cnt lb lr) (hrK : r ≤ p.K) (hin : i < p.n) (x : UInt8) (hx : p.S[i]? = some x) :
    Calls Ybaf.prog 7 #[.pointer (some ⟨p.rb, 0, none⟩)] w fun e w' => e = .returned (.tuple #[.int .u8 (x.toNat : Int), .nilIface]) ∧ Fr (own p) w w' ∧ ∃ k buf' cnt' lb' lr', 1 ≤ k ∧ k ≤ p.K ∧ St p w' (i + k) 1 k buf' .nilIface cnt' lb' lr' ∧ rem p (i + k) 0 k buf' = p.S.drop i := by
  have HIN := hide hin; have HXX := hide hx
  clear hin hx
  have l5 := ok.l5
  have hb := h.hb
  have c6 : w.cell? ⟨p.rb, 6, none⟩ = some (.int .i64 lr) := by rw [cell_of_row _ _ 6 _ _ (0, 0) h.rd]; rfl
  have f6 : w.frozen? ⟨p.rb, 6, none⟩ = false := frozen_block h.rd
  have H1 : Hid (St p (w.setCell ⟨p.rb, 6, none⟩ (.int .i64 (-1))) i r r buf .nilIface cnt lb (-1)) := h.setR ok 6 (.int .i64 (-1)) rfl
  have F1 : Hid (Fr (own p) w (w.setCell ⟨p.rb, 6, none⟩ (.int .i64 (-1)))) := (Fr.refl _ _).set (Or.inr (Or.inr (Or.inl rfl))) _
  clear h
  go_enter Ybaf.func7, Ybaf.ntmps7
  go_wp2
  clear c6 f6
  generalize w.setCell ⟨p.rb, 6, none⟩ (.int .i64 (-1)) = W at H1 F1 ⊢
  have c2 : W.cell? ⟨p.rb, 2, none⟩ = some (.int .i64 (r : Int)) := by rw [cell_of_row _ _ 2 _ _ (0, 0) H1.out.rd]; rfl
  have c3 : W.cell? ⟨p.rb, 3, none⟩ = some (.int .i64 (r : Int)) := by rw [cell_of_row _ _ 3 _ _ (0, 0) H1.out.rd]; rfl
  have c4 : W.cell? ⟨p.rb, 4, none⟩ = some .nilIface := by rw [cell_of_row _ _ 4 _ _ (0, 0) H1.out.rd]; rfl
  refine wp_loop_rounds 2 ?_
  rw [rounds_succ]
  go_upto_region 2 with fail
  go_quiet (fail)
  have HV := hide (H1.out.ahead nq); have FV := hide (F1.out.drewN nq)
  have c4' : (W.drewN nq).cell? ⟨p.rb, 4, none⟩ = some .nilIface := c4
  clear c2 c3 c4
  generalize W.drewN nq = V at HV FV c4' ⊢
  go_wp2_with fail
  refine (fill_any ok HV.out hrK _ rfl).mono ?_
  rintro e w1 ⟨rfl, hF, hcase⟩
  rcases hcase with ⟨he, _⟩ | ⟨_, c, hSt⟩
  · have := HIN.out; omega
  have HFR := hide (FV.out.trans hF)
  obtain ⟨k, hk⟩ : ∃ k, k = min (min p.K p.st) (p.n - i) := ⟨_, rfl⟩
  rw [← hk] at hSt
  have hk1 : 1 ≤ k := by have := ok.l4; have := HIN.out; omega
  have hkK : k ≤ p.K := by omega
  have hkl : ((p.S.drop i).take k).length = k := by have := ok.l3; simp; omega
  obtain ⟨b, hbE⟩ : ∃ b, b = (p.S.drop i).take k ++ buf.drop k := ⟨_, rfl⟩
  rw [← hbE] at hSt
  have hx : b[0]? = some x := by
    rw [hbE, List.getElem?_append_left (by omega), List.getElem?_take_of_lt (by omega), List.getElem?_drop]; exact HXX.out
  have HREM : Hid (rem p (i + k) 0 k b = p.S.drop i) := hide (by
    unfold rem
    rw [hbE, List.drop_zero, Nat.sub_zero, List.take_append_of_le_length (by omega), List.take_of_length_le (by omega)]
    rw [← List.drop_drop, List.take_append_drop])
  have HKE := hide hk; have HBE := hide hbE
  have H2 := hide hSt; have F2 := HFR
  clear hSt hF c4' HV FV hk hbE H1 F1
  obtain ⟨W2, hW2⟩ : ∃ z, z = w1 := ⟨_, rfl⟩
  subst hW2
  have c2 : W2.cell? ⟨p.rb, 2, none⟩ = some (.int .i64 0) := by rw [cell_of_row _ _ 2 _ _ (0, 0) H2.out.rd]; rfl
  have c3 : W2.cell? ⟨p.rb, 3, none⟩ = some (.int .i64 (k : Int)) := by rw [cell_of_row _ _ 3 _ _ (0, 0) H2.out.rd]; rfl
  have hbe : ((0 : Int) == (k : Int)) = false := by simp; omega
  have hk0 : ¬ 0 = k := by omega
  have hk0' : ¬ k = 0 := by omega
  go_wp2_with fail
  rw [rounds_succ]
  go_upto_region 2 with fail
  go_quiet (fail)
  go_upto_region 6 with fail
  have HV := hide (H2.out.ahead nq); have FV := hide (F2.out.drewN nq)
  generalize W2.drewN nq = V at HV FV ⊢
  have e0 : V.cell? ⟨p.rb, 0, none⟩ = some (.slice (some ⟨p.bb, 0, none⟩) p.K p.K) := by rw [cell_of_row _ _ 0 _ _ (0, 0) HV.out.rd]; rfl
  have e2 : V.cell? ⟨p.rb, 2, none⟩ = some (.int .i64 ((0 : Nat) : Int)) := by rw [cell_of_row _ _ 2 _ _ (0, 0) HV.out.rd]; rfl
  have eb : V.cell? ⟨p.bb, 0, none⟩ = some (.int .u8 (x.toNat : Int)) := by
    obtain ⟨hlt, hex⟩ := List.getElem?_eq_some_iff.1 hx
    rw [buf_cell HV.out hlt, hex]
  have bi : ((0 : Nat) : Int) < (p.K : Int) := by omega
  go_quiet (fail)
  have HV2 := hide (HV.out.ahead nq); have FV2 := hide (FV.out.drewN nq)
  clear e0 e2 eb HV FV
  generalize V.drewN nq = V2 at HV2 FV2 ⊢
  have e2 : V2.cell? ⟨p.rb, 2, none⟩ = some (.int .i64 ((0 : Nat) : Int)) := by rw [cell_of_row _ _ 2 _ _ (0, 0) HV2.out.rd]; rfl
  have e5 : V2.cell? ⟨p.rb, 5, none⟩ = some (.int .i64 lb) := by rw [cell_of_row _ _ 5 _ _ (0, 0) HV2.out.rd]; rfl
  have f2 : V2.frozen? ⟨p.rb, 2, none⟩ = false := frozen_block HV2.out.rd
  have f5 : V2.frozen? ⟨p.rb, 5, none⟩ = false := frozen_block HV2.out.rd
  go_wp2
  go_ret2
  exact ⟨rfl, (FV2.out.set (Or.inr (Or.inr (Or.inl rfl))) _).set (Or.inr (Or.inr (Or.inl rfl))) _, k, b, c, _, _, hk1, hkK, (HV2.out.setR ok 2 (.int .i64 1) (r' := 1) (wd' := k) (e' := .nilIface) (lb' := lb) (lr' := -1) rfl).setR ok 5 _ rfl, HREM.out⟩
set_option maxHeartbeats 2000000 in
set_option maxRecDepth 100000 in
theorem byte_eof {p : Par} (ok : p.Ok) {w : World} {i r : Nat} {buf : Bytes} {cnt lb lr : Int} (h : St p w i r r buf .nilIface cnt lb lr) (hrK : r ≤ p.K) (hin : i = p.n) :
    Calls Ybaf.prog 7 #[.pointer (some ⟨p.rb, 0, none⟩)] w fun e w' => e = .returned (.tuple #[.int .u8 0, p.eof]) ∧ Fr (own p) w w' ∧ ∃ cnt', St p w' i 0 0 buf .nilIface cnt' lb (-1) := by
  have HIN := hide hin
  clear hin
  have l5 := ok.l5
  have hb := h.hb
  have c6 : w.cell? ⟨p.rb, 6, none⟩ = some (.int .i64 lr) := by rw [cell_of_row _ _ 6 _ _ (0, 0) h.rd]; rfl
  have f6 : w.frozen? ⟨p.rb, 6, none⟩ = false := frozen_block h.rd
  have H1 : Hid (St p (w.setCell ⟨p.rb, 6, none⟩ (.int .i64 (-1))) i r r buf .nilIface cnt lb (-1)) := h.setR ok 6 (.int .i64 (-1)) rfl
  have F1 : Hid (Fr (own p) w (w.setCell ⟨p.rb, 6, none⟩ (.int .i64 (-1)))) := (Fr.refl _ _).set (Or.inr (Or.inr (Or.inl rfl))) _
  clear h
  go_enter Ybaf.func7, Ybaf.ntmps7
  go_wp2
  clear c6 f6
  generalize w.setCell ⟨p.rb, 6, none⟩ (.int .i64 (-1)) = W at H1 F1 ⊢
  have c2 : W.cell? ⟨p.rb, 2, none⟩ = some (.int .i64 (r : Int)) := by rw [cell_of_row _ _ 2 _ _ (0, 0) H1.out.rd]; rfl
  have c3 : W.cell? ⟨p.rb, 3, none⟩ = some (.int .i64 (r : Int)) := by rw [cell_of_row _ _ 3 _ _ (0, 0) H1.out.rd]; rfl
  have c4 : W.cell? ⟨p.rb, 4, none⟩ = some .nilIface := by rw [cell_of_row _ _ 4 _ _ (0, 0) H1.out.rd]; rfl
  refine wp_loop_rounds 2 ?_
  rw [rounds_succ]
  go_upto_region 2 with fail
  go_quiet (fail)
  have HV := hide (H1.out.ahead nq); have FV := hide (F1.out.drewN nq)
  have c4' : (W.drewN nq).cell? ⟨p.rb, 4, none⟩ = some .nilIface := c4
  clear c2 c3 c4
  generalize W.drewN nq = V at HV FV c4' ⊢
  go_wp2_with fail
  refine (fill_any ok HV.out hrK _ rfl).mono ?_
  rintro e w1 ⟨rfl, hF, hcase⟩
  rcases hcase with ⟨_, c, hSt⟩ | ⟨he, _⟩
  · have H2 := hide hSt; have F2 := hide (FV.out.trans hF)
    clear hSt hF c4' HV FV H1 F1
    obtain ⟨W2, hW2⟩ : ∃ z, z = w1 := ⟨_, rfl⟩
    subst hW2
    have c2 : W2.cell? ⟨p.rb, 2, none⟩ = some (.int .i64 0) := by rw [cell_of_row _ _ 2 _ _ (0, 0) H2.out.rd]; rfl
    have c3 : W2.cell? ⟨p.rb, 3, none⟩ = some (.int .i64 0) := by rw [cell_of_row _ _ 3 _ _ (0, 0) H2.out.rd]; rfl
    go_wp2_with fail
    rw [rounds_succ]
    go_upto_region 2 with fail
    go_quiet (fail)
    have HV := hide (H2.out.ahead nq); have FV := hide (F2.out.drewN nq)
    clear c2 c3
    generalize W2.drewN nq = V at HV FV ⊢
    have c4 : V.cell? ⟨p.rb, 4, none⟩ = some (.iface 63 (.pointer (some p.E))) := by rw [cell_of_row _ _ 4 _ _ (0, 0) HV.out.rd]; rfl
    go_wp2_with fail
    refine (readErr_any HV.out).mono ?_
    rintro e w3 ⟨rfl, rfl⟩
    have HE : Hid (St p (V.setCell ⟨p.rb, 4, none⟩ .nilIface) i 0 0 buf .nilIface c lb (-1)) := HV.out.setR ok 4 .nilIface rfl
    have FE : Hid (Fr (own p) w (V.setCell ⟨p.rb, 4, none⟩ .nilIface)) := FV.out.set (Or.inr (Or.inr (Or.inl rfl))) _
    clear c4
    generalize V.setCell ⟨p.rb, 4, none⟩ .nilIface = V3 at HE FE ⊢
    go_wp2
    go_ret2
    exact ⟨rfl, FE.out, c, HE.out⟩
  · have := HIN.out; omega
/-- ReadByte, by the stream. -/
theorem byte_any {p : Par} (ok : p.Ok) {w : World} {rm : Bytes} (h : RS p w rm) :
    Calls Ybaf.prog 7 #[.pointer (some ⟨p.rb, 0, none⟩)] w fun e w' => Fr (own p) w w' ∧ ((rm = [] ∧ e = .returned (.tuple #[.int .u8 0, p.eof]) ∧ RS p w' []) ∨ ∃ x t, rm = x :: t ∧ e = .returned (.tuple #[.int .u8 (x.toNat : Int), .nilIface]) ∧ RS p w' t) := by
  obtain ⟨i, r, wd, buf, cnt, lb, lr, hSt, hr, hw, rfl⟩ := h
  have hb := hSt.hb
  rcases Nat.lt_or_ge r wd with hlt | hge
  · have hrl : r < buf.length := by omega
    refine (byte_have ok hSt hlt hw buf[r] (List.getElem?_eq_getElem hrl)).mono ?_
    rintro e w' ⟨rfl, hF, lb', lr', hSt'⟩
    exact ⟨hF, Or.inr ⟨buf[r], rem p i (r + 1) wd buf, rem_step hlt (by omega), rfl, i, r + 1, wd, buf, cnt, lb', lr', hSt', by omega, hw, rfl⟩⟩
  · have e : r = wd := by omega
    subst e
    rw [rem_empty]
    have hl3 := ok.l3
    rcases Nat.lt_or_ge i p.n with hin | hin
    · have hi : i < p.S.length := by omega
      refine (byte_fill ok hSt hw hin p.S[i] (List.getElem?_eq_getElem hi)).mono ?_
      rintro e w' ⟨rfl, hF, k, buf', cnt', lb', lr', hk1, hkK, hSt', hrem⟩
      have hb' := hSt'.hb
      have e1 := rem_step (p := p) (i := i + k) (r := 0) (wd := k) (buf := buf') (by omega) (by omega)
      rw [hrem, List.drop_eq_getElem_cons hi] at e1
      obtain ⟨_, e2⟩ := List.cons.inj e1
      refine ⟨hF, Or.inr ⟨p.S[i], p.S.drop (i + 1), List.drop_eq_getElem_cons hi, rfl, i + k, 1, k, buf', cnt', lb', lr', hSt', hk1, hkK, e2⟩⟩
    · have hie : i = p.n := Nat.le_antisymm hSt.hi hin
      refine (byte_eof ok hSt hw hie).mono ?_
      rintro e w' ⟨rfl, hF, cnt', hSt'⟩
      have hd : p.S.drop i = [] := List.drop_eq_nil_of_le (by omega)
      exact ⟨hF, Or.inl ⟨hd, rfl, i, 0, 0, buf, cnt', lb, -1, hSt', Nat.le_refl _, Nat.zero_le _, by rw [rem_empty, hd]⟩⟩
end Go.Proofs.YbulkbmlcFmt
