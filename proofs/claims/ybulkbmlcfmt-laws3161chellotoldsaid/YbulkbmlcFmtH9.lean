/-
  LawS3161CHello: io.ReadAtLeast, io.ReadFull over the buffered reader.
-/
import Derived.Test.YbulkbmlcFmtH8
namespace Go.Proofs.YbulkbmlcFmt
open Go.RowKit Go.Lib
set_option linter.unusedVariables false
set_option linter.unusedSimpArgs false

theorem RS.ahead {p : Par} {w : World} {rm : Bytes} (h : RS p w rm) (q : Nat) : RS p (w.drewN q) rm := by
  obtain ⟨i, r, wd, buf, cnt, lb, lr, h1, h2⟩ := h
  exact ⟨i, r, wd, buf, cnt, lb, lr, h1.ahead q, h2⟩
theorem setCells_append (b : Nat) : ∀ (A B : List Value) (o : Nat) (w : World), w.setCells b o (A ++ B) = (w.setCells b o A).setCells b (o + A.length) B
  | [], B, o, w => rfl
  | v :: A, B, o, w => by
    show (w.setCell ⟨b, o, none⟩ v).setCells b (o + 1) (A ++ B) = ((w.setCell ⟨b, o, none⟩ v).setCells b (o + 1) A).setCells b (o + (v :: A).length) B
    rw [setCells_append b A B (o + 1)]
    congr 1
    simp; omega
theorem byteCells_append (A B : Bytes) : byteCells (A ++ B) = byteCells A ++ byteCells B := by simp [byteCells]
theorem there_block {w w' : World} {b o n : Nat} (h : w.there b o n) (hb : w'.heap[b]? = w.heap[b]?) : w'.there b o n := fun j hj => ⟨by
    obtain ⟨u, hu⟩ := Option.isSome_iff_exists.1 (h j hj).1
    rw [cell_kept hu hb]; rfl, by rw [World.frozen?_of_block hb]; exact (h j hj).2⟩
theorem isComp63 : (Ybaf.prog.info? 63).map (·.comparable) = some true := by kernel_rfl
theorem isSize65 : (Ybaf.prog.info? 65).map (·.size) = some 1 := by kernel_rfl
theorem eql_same (a : Addr) (w : World) : (binOp .eql 34 (.iface 63 (.pointer (some a))) (.iface 63 (.pointer (some a)))).run Ybaf.prog w = .ok (.bool true) w := by
  obtain ⟨i, hi, hcmp⟩ := Option.map_eq_some_iff.1 isComp63
  obtain ⟨j, hj, hjs⟩ := Option.map_eq_some_iff.1 isSize65
  exact run_eql_iface_ptr_same (P := Ybaf.prog) w a Ybaf.underlying34 Ybaf.underlying63 hi hcmp hj
/-- n bytes of the stream lie in the target. -/
def Took (p : Par) (w wx : World) (pb po m n : Nat) (rm : Bytes) (ev : Value) : Prop :=
  n ≤ m ∧ Fr (own2 p pb) w wx ∧ n ≤ rm.length ∧ wx.heap[pb]? = (w.setCells pb po (byteCells (rm.take n))).heap[pb]? ∧ RS p wx (rm.drop n) ∧ (ev = .nilIface ∨ (ev = .iface 63 (.pointer (some p.E)) ∧ n = rm.length ∧ n < m))
def nilN : Value → Nat
  | .nilIface => 1
  | _ => 0

set_option maxHeartbeats 4000000 in
set_option maxRecDepth 100000 in
theorem atLeast_any {p : Par} (ok : p.Ok) {w : World} {rm : Bytes} (h : RS p w rm) (pb po m pc : Nat) (hap : Apart p pb) (hp6 : 6 ≤ pb) (hm1 : 1 ≤ m) (hmm : m ≤ 1000000) (hmc : m ≤ pc) (hth : w.there pb po m) (U : Addr) (hU : w.cell? ⟨4, 0, none⟩ = some (.iface 63 (.pointer (some U)))) (hE : w.cell? ⟨3, 0, none⟩ = some p.eof) :
    Calls Ybaf.prog 17 #[.iface 38 (.pointer (some ⟨p.rb, 0, none⟩)), .slice (some ⟨pb, po, none⟩) m pc, .int .i64 (m : Int)] w fun e w' => Fr (own2 p pb) w w' ∧
      ((m ≤ rm.length ∧ e = .returned (.tuple #[.int .i64 (m : Int), .nilIface]) ∧ RS p w' (rm.drop m) ∧ w'.heap[pb]? = (w.setCells pb po (byteCells (rm.take m))).heap[pb]?) ∨
       (rm.length < m ∧ ∃ n : Nat, ∃ ev : Addr, (ev = p.E ∨ ev = U) ∧ e = .returned (.tuple #[.int .i64 (n : Int), .iface 63 (.pointer (some ev))]) ∧ RS p w' [] ∧ w'.heap[pb]? = (w.setCells pb po (byteCells rm)).heap[pb]?)) := by
  have HT := hide hth; have HAP := hide hap; have HR := hide h
  have HUU := hide hU; have HEE := hide hE
  clear hth hap h hU hE
  go_enter Ybaf.func17, Ybaf.ntmps17
  go_wp2
  go_loopw [6, 7] (fun s6 s7 wx => ∃ n : Nat, s6 = .int .i64 (n : Int) ∧ Took p w wx pb po m n rm s7) (fun s6 s7 _ => (m - (intOf s6).toNat) + nilN s7)
  case atStart => exact ⟨0, rfl, Nat.zero_le _, Fr.refl _ _, Nat.zero_le _, rfl, HR.out, Or.inl rfl⟩
  case round =>
    obtain ⟨n, rfl, hnm, hF, hnr, hB, hRS, hev⟩ := hrel
    rcases hev with rfl | ⟨rfl, hnl, hltm⟩
    · rcases Nat.lt_or_ge n m with hlt | hge
      · have bn : (n : Int) < (m : Int) := by omega
        have hnp : ¬ pc = n := by omega
        have hnp1 : n ≤ pc := by omega
        have hnp2 : n ≤ m := by omega
        have HF := hide hF; have HB := hide hB; have HRS := hide hRS
        clear hF hB hRS
        go_upto_region 5 with fail
        refine wp_region_held (S := fun _ => True) (by kernel_rfl) ?_
        try (change wpAnyH _ _ _ _ _ _ _ _ (World.drew _))
        have S0 : True := trivial
        refine wpAnyH_take (i := 0) (v := .iface 38 (.pointer (some ⟨p.rb, 0, none⟩))) rfl (by kernel_rfl) (by kernel_rfl) (by kernel_rfl) (fun _ _ _ h => h) (Or.inl ⟨by kernel_rfl, fun w hS => by go_simp⟩) S0 ?_
        simp only [Act.put, List.getElem_toArray, List.getElem_cons_succ, List.getElem_cons_zero, List.setIfInBounds_toArray, List.set_cons_zero, List.set_cons_succ]
        refine wpAnyH_take (i := 1) (v := .slice (some ⟨pb, po, none⟩) m pc) rfl (by kernel_rfl) (by kernel_rfl) (by kernel_rfl) (fun _ _ _ h => h) (Or.inl ⟨by kernel_rfl, fun w hS => by go_simp⟩) S0 ?_
        simp only [Act.put, List.getElem_toArray, List.getElem_cons_succ, List.getElem_cons_zero, List.setIfInBounds_toArray, List.set_cons_zero, List.set_cons_succ]
        refine wpAnyH_take (i := 2) (v := .int .i64 (n : Int)) rfl (by kernel_rfl) (by kernel_rfl) (by kernel_rfl) (fun _ _ _ h => h) (Or.inl ⟨by kernel_rfl, fun w hS => by go_simp⟩) S0 ?_
        simp only [Act.put, List.getElem_toArray, List.getElem_cons_succ, List.getElem_cons_zero, List.setIfInBounds_toArray, List.set_cons_zero, List.set_cons_succ]
        refine wpAnyH_take (i := 3) (v := .slice (some ⟨pb, po + n, none⟩) (m - n) (pc - n)) rfl (by kernel_rfl) (by kernel_rfl) (by kernel_rfl) (fun _ _ _ h => h) (Or.inl ⟨by kernel_rfl, fun w hS => by go_simp⟩) S0 ?_
        simp only [Act.put, List.getElem_toArray, List.getElem_cons_succ, List.getElem_cons_zero, List.setIfInBounds_toArray, List.set_cons_zero, List.set_cons_succ]
        refine wpAnyH_take (i := 4) (v := .func (.method "Read") #[.iface 38 (.pointer (some ⟨p.rb, 0, none⟩))] #[]) rfl (by kernel_rfl) (by kernel_rfl) (by kernel_rfl) (fun _ _ _ h => h) (Or.inl ⟨by kernel_rfl, fun w hS => by kernel_rfl⟩) S0 ?_
        simp only [Act.put, List.getElem_toArray, List.getElem_cons_succ, List.getElem_cons_zero, List.setIfInBounds_toArray, List.set_cons_zero, List.set_cons_succ]
        refine wpAnyH_take (i := 5) (v := .func (.method "Read") #[.iface 38 (.pointer (some ⟨p.rb, 0, none⟩))] #[]) rfl (by kernel_rfl) (by kernel_rfl) (by kernel_rfl) (fun _ _ _ h => h) (Or.inl ⟨by kernel_rfl, fun w hS => by kernel_rfl⟩) S0 ?_
        simp only [Act.put, List.getElem_toArray, List.getElem_cons_succ, List.getElem_cons_zero, List.setIfInBounds_toArray, List.set_cons_zero, List.set_cons_succ]
        refine wpAnyH_take (i := 6) (v := .iface 38 (.pointer (some ⟨p.rb, 0, none⟩))) rfl (by kernel_rfl) (by kernel_rfl) (by kernel_rfl) (fun _ _ _ h => h) (Or.inl ⟨by kernel_rfl, fun w hS => by go_simp⟩) S0 ?_
        simp only [Act.put, List.getElem_toArray, List.getElem_cons_succ, List.getElem_cons_zero, List.setIfInBounds_toArray, List.set_cons_zero, List.set_cons_succ]
        have TW : Hid (wr.drew.there pb (po + n) (m - n)) := fun j hj => by
          have := there_block (w := w.setCells pb po (byteCells (rm.take n))) (w' := wr.drew) (World.there_setCells HT.out pb po _) HB.out (n + j) (by omega)
          rwa [← Nat.add_assoc] at this
        have HRD : Hid (RS p wr.drew (rm.drop n)) := HRS.out.ahead 1
        have HFD : Hid (Fr (own2 p pb) w wr.drew) := HF.out.drewN 1
        have HBD : Hid (wr.drew.heap[pb]? = (w.setCells pb po (byteCells (rm.take n))).heap[pb]?) := HB.out
        have mR := mRead38
        refine wpAnyH_ready (rs := [7]) (by kernel_rfl) (by simp) ?_
        refine AllReadyH.cons rfl (fun K hK => ?_) AllReadyH.nil
        rw [if_pos (by kernel_rfl)]
        go_simp
        clear HRS HF HB mR
        generalize wr.drew = W at HRD HFD HBD TW ⊢
        refine (read_any ok HRD.out pb (po + n) (m - n) (pc - n) HAP.out (by omega) (by omega) (by omega) TW.out).mono ?_
        rintro e w1 ⟨hF1, hcase⟩
        rcases hcase with ⟨hnil, rfl, hRS1, hB1⟩ | ⟨k, hk1, hkm, hkl, rfl, hRS1, hB1⟩
        · have hnl : n = rm.length := by
            have := congrArg List.length hnil
            simp at this; omega
          have HF1 := hide (HFD.out.trans hF1); have HR1 := hide hRS1; have HB1 := hide (hB1.trans HBD.out)
          clear hF1 hRS1 hB1
          simp only [Par.eof]
          refine hK.out _ _ S0 (fun _ => ?_)
          clear hK K
          refine wpAnyH_take (i := 8) (v := .tuple #[.int .i64 0, .iface 63 (.pointer (some p.E))]) rfl (by kernel_rfl) (by kernel_rfl) (by kernel_rfl) (fun _ _ _ h => h) (Or.inl ⟨by kernel_rfl, fun w hS => by go_simp⟩) S0 ?_
          simp only [Act.put, List.getElem_toArray, List.getElem_cons_succ, List.getElem_cons_zero, List.setIfInBounds_toArray, List.set_cons_zero, List.set_cons_succ]
          refine wpAnyH_take (i := 9) (v := .int .i64 0) rfl (by kernel_rfl) (by kernel_rfl) (by kernel_rfl) (fun _ _ _ h => h) (Or.inl ⟨by kernel_rfl, fun w hS => by go_simp⟩) S0 ?_
          simp only [Act.put, List.getElem_toArray, List.getElem_cons_succ, List.getElem_cons_zero, List.setIfInBounds_toArray, List.set_cons_zero, List.set_cons_succ]
          refine wpAnyH_take (i := 10) (v := .iface 63 (.pointer (some p.E))) rfl (by kernel_rfl) (by kernel_rfl) (by kernel_rfl) (fun _ _ _ h => h) (Or.inl ⟨by kernel_rfl, fun w hS => by go_simp⟩) S0 ?_
          simp only [Act.put, List.getElem_toArray, List.getElem_cons_succ, List.getElem_cons_zero, List.setIfInBounds_toArray, List.set_cons_zero, List.set_cons_succ]
          refine wpAnyH_take (i := 11) (v := .int .i64 0) rfl (by kernel_rfl) (by kernel_rfl) (by kernel_rfl) (fun _ _ _ h => h) (Or.inl ⟨by kernel_rfl, fun w hS => by go_simp⟩) S0 ?_
          simp only [Act.put, List.getElem_toArray, List.getElem_cons_succ, List.getElem_cons_zero, List.setIfInBounds_toArray, List.set_cons_zero, List.set_cons_succ]
          refine wpAnyH_take (i := 12) (v := .iface 63 (.pointer (some p.E))) rfl (by kernel_rfl) (by kernel_rfl) (by kernel_rfl) (fun _ _ _ h => h) (Or.inl ⟨by kernel_rfl, fun w hS => by go_simp⟩) S0 ?_
          simp only [Act.put, List.getElem_toArray, List.getElem_cons_succ, List.getElem_cons_zero, List.setIfInBounds_toArray, List.set_cons_zero, List.set_cons_succ]
          refine wpAnyH_done (by kernel_rfl) ?_ _
          have HNL := hide hnl
          clear hnl hnil
          go_wp2
          go_roundw
          case rel => exact ⟨n, by go_num, hnm, HF1.out, hnr, HB1.out, by rw [List.drop_of_length_le (by have := HNL.out; omega)]; exact HR1.out, Or.inr ⟨rfl, HNL.out, hlt⟩⟩
          case measure => simp [intOf, nilN]
        · have hk2 : n + k ≤ rm.length := by simp at hkl; omega
          have HF1 := hide (HFD.out.trans hF1); have HR1 := hide hRS1
          have HB1 : Hid (w1.heap[pb]? = (w.setCells pb po (byteCells (rm.take (n + k)))).heap[pb]?) := hide (by
            rw [List.take_add, byteCells_append, setCells_append, len_byteCells, List.length_take, Nat.min_eq_left hnr]
            exact hB1.trans (setCells_same (W := W) (w := w) pb _ (po + n) _ _ HBD.out))
          clear hF1 hRS1 hB1
          refine hK.out _ _ S0 (fun _ => ?_)
          clear hK K
          refine wpAnyH_take (i := 8) (v := .tuple #[.int .i64 (k : Int), .nilIface]) rfl (by kernel_rfl) (by kernel_rfl) (by kernel_rfl) (fun _ _ _ h => h) (Or.inl ⟨by kernel_rfl, fun w hS => by go_simp⟩) S0 ?_
          simp only [Act.put, List.getElem_toArray, List.getElem_cons_succ, List.getElem_cons_zero, List.setIfInBounds_toArray, List.set_cons_zero, List.set_cons_succ]
          refine wpAnyH_take (i := 9) (v := .int .i64 (k : Int)) rfl (by kernel_rfl) (by kernel_rfl) (by kernel_rfl) (fun _ _ _ h => h) (Or.inl ⟨by kernel_rfl, fun w hS => by go_simp⟩) S0 ?_
          simp only [Act.put, List.getElem_toArray, List.getElem_cons_succ, List.getElem_cons_zero, List.setIfInBounds_toArray, List.set_cons_zero, List.set_cons_succ]
          refine wpAnyH_take (i := 10) (v := .nilIface) rfl (by kernel_rfl) (by kernel_rfl) (by kernel_rfl) (fun _ _ _ h => h) (Or.inl ⟨by kernel_rfl, fun w hS => by go_simp⟩) S0 ?_
          simp only [Act.put, List.getElem_toArray, List.getElem_cons_succ, List.getElem_cons_zero, List.setIfInBounds_toArray, List.set_cons_zero, List.set_cons_succ]
          refine wpAnyH_take (i := 11) (v := .int .i64 (k : Int)) rfl (by kernel_rfl) (by kernel_rfl) (by kernel_rfl) (fun _ _ _ h => h) (Or.inl ⟨by kernel_rfl, fun w hS => by go_simp⟩) S0 ?_
          simp only [Act.put, List.getElem_toArray, List.getElem_cons_succ, List.getElem_cons_zero, List.setIfInBounds_toArray, List.set_cons_zero, List.set_cons_succ]
          refine wpAnyH_take (i := 12) (v := .nilIface) rfl (by kernel_rfl) (by kernel_rfl) (by kernel_rfl) (fun _ _ _ h => h) (Or.inl ⟨by kernel_rfl, fun w hS => by go_simp⟩) S0 ?_
          simp only [Act.put, List.getElem_toArray, List.getElem_cons_succ, List.getElem_cons_zero, List.setIfInBounds_toArray, List.set_cons_zero, List.set_cons_succ]
          refine wpAnyH_done (by kernel_rfl) ?_ _
          go_wp2
          go_roundw
          case rel => exact ⟨n + k, by go_num, by omega, HF1.out, hk2, HB1.out, by rw [← List.drop_drop]; exact HR1.out, Or.inl rfl⟩
          case measure => simp [intOf, nilN]; omega
      · have hne : n = m := by omega
        subst hne
        have HF := hide hF; have HB := hide hB; have HRS := hide hRS
        clear hF hB hRS
        go_wp2
        go_ret2
        exact ⟨HF.out, Or.inl ⟨hnr, rfl, HRS.out, HB.out⟩⟩
    · have HF := hide hF; have HRS := hide hRS
      have HBF : Hid (wr.heap[pb]? = (w.setCells pb po (byteCells rm)).heap[pb]?) := hide (by rw [hB, hnl, List.take_length])
      have bn : (n : Int) < (m : Int) := by omega
      have g4 : wr.cell? ⟨4, 0, none⟩ = some (.iface 63 (.pointer (some U))) := cell_kept HUU.out (hF.block 4 (lt_of_cell HUU.out) (fun h => by
        have := ok.g1; have := ok.g2; have := ok.g3; have := ok.g4
        rcases h with (h | h | h | h) | h <;> omega))
      have g3 : wr.cell? ⟨3, 0, none⟩ = some (.iface 63 (.pointer (some p.E))) := cell_kept HEE.out (hF.block 3 (lt_of_cell HEE.out) (fun h => by
        have := ok.g1; have := ok.g2; have := ok.g3; have := ok.g4
        rcases h with (h | h | h | h) | h <;> omega))
      clear hF hB hRS
      have HNL := hide hnl
      clear hnl
      by_cases hn0 : 0 < n
      · have hn0' : (0 : Int) < (n : Int) := by omega
        have heq := eql_same p.E wr
        go_wp2
        go_ret2
        exact ⟨HF.out, Or.inr ⟨by have := HNL.out; omega, n, U, Or.inr rfl, rfl, by have := HRS.out; rwa [List.drop_of_length_le (by have := HNL.out; omega)] at this, HBF.out⟩⟩
      · have hnz : n = 0 := by omega
        subst hnz
        go_wp2
        go_ret2
        exact ⟨HF.out, Or.inr ⟨by have := HNL.out; omega, 0, p.E, Or.inl rfl, rfl, by have := HRS.out; rwa [List.drop_of_length_le (by have := HNL.out; omega)] at this, HBF.out⟩⟩
set_option maxHeartbeats 1000000 in
theorem full_any {p : Par} (ok : p.Ok) {w : World} {rm : Bytes} (h : RS p w rm) (pb po m pc : Nat) (hap : Apart p pb) (hp6 : 6 ≤ pb) (hm1 : 1 ≤ m) (hmm : m ≤ 1000000) (hmc : m ≤ pc) (hth : w.there pb po m) (U : Addr) (hU : w.cell? ⟨4, 0, none⟩ = some (.iface 63 (.pointer (some U)))) (hE : w.cell? ⟨3, 0, none⟩ = some p.eof) :
    Calls Ybaf.prog 9 #[.iface 38 (.pointer (some ⟨p.rb, 0, none⟩)), .slice (some ⟨pb, po, none⟩) m pc] w fun e w' => Fr (own2 p pb) w w' ∧
      ((m ≤ rm.length ∧ e = .returned (.tuple #[.int .i64 (m : Int), .nilIface]) ∧ RS p w' (rm.drop m) ∧ w'.heap[pb]? = (w.setCells pb po (byteCells (rm.take m))).heap[pb]?) ∨
       (rm.length < m ∧ ∃ n : Nat, ∃ ev : Addr, (ev = p.E ∨ ev = U) ∧ e = .returned (.tuple #[.int .i64 (n : Int), .iface 63 (.pointer (some ev))]) ∧ RS p w' [] ∧ w'.heap[pb]? = (w.setCells pb po (byteCells rm)).heap[pb]?)) := by
  have HC := hide (atLeast_any ok h pb po m pc hap hp6 hm1 hmm hmc hth U hU hE)
  clear h hap hth hU hE
  go_enter Ybaf.func9, Ybaf.ntmps9
  go_wp2_with fail
  refine HC.out.mono ?_
  rintro e w1 ⟨hF, hcase⟩
  have HF := hide hF
  clear hF HC
  rcases hcase with ⟨hm, rfl, hR, hB⟩ | ⟨hm, n, ev, hev, rfl, hR, hB⟩
  · have HR := hide hR; have HB := hide hB; have HM := hide hm
    clear hR hB hm
    go_wp2_with fail
    go_ret2
    exact ⟨HF.out, Or.inl ⟨HM.out, rfl, HR.out, HB.out⟩⟩
  · have HR := hide hR; have HM := hide hm; have HB := hide hB
    clear hR hm hB
    go_wp2_with fail
    go_ret2
    exact ⟨HF.out, Or.inr ⟨HM.out, n, ev, hev, rfl, HR.out, HB.out⟩⟩
end Go.Proofs.YbulkbmlcFmt
