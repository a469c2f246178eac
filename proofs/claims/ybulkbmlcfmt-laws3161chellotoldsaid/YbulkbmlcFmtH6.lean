/-
  LawS3161CHello: the buffered reader's Read, nothing buffered: straight into a large target.
-/
import Derived.Test.YbulkbmlcFmtH5
namespace Go.Proofs.YbulkbmlcFmt
open Go.RowKit Go.Lib
set_option linter.unusedVariables false
set_option linter.unusedSimpArgs false

set_option maxHeartbeats 4000000 in
set_option maxRecDepth 100000 in
theorem read_direct {p : Par} (ok : p.Ok) {w : World} {i r : Nat} {buf : Bytes} {cnt lb lr : Int} (h : St p w i r r buf .nilIface cnt lb lr) (hin : i < p.n) (pb po m pc : Nat) (hap : Apart p pb) (hm : p.K ≤ m) (hmm : m ≤ 1000000) (hmc : m ≤ pc) (hth : w.there pb po m)
    (k : Nat) (hk : k = min (min m p.st) (p.n - i)) :
    Calls Ybaf.prog 41 #[.pointer (some ⟨p.rb, 0, none⟩), .slice (some ⟨pb, po, none⟩) m pc] w fun e w' => e = .returned (.tuple #[.int .i64 (k : Int), .nilIface]) ∧ Fr (own2 p pb) w w' ∧
      (∃ cnt' lb' lr', St p w' (i + k) r r buf .nilIface cnt' lb' lr') ∧ w'.heap[pb]? = (w.setCells pb po (byteCells ((p.S.drop i).take k))).heap[pb]? := by
  have l5 := ok.l5; have l4 := ok.l4; have l3 := ok.l3
  have hk1 : 1 ≤ k := by omega
  have hkm : k ≤ m := by omega
  have hkn : i + k ≤ p.n := by omega
  have hkl : ((p.S.drop i).take k).length = k := by simp; omega
  have c2 : w.cell? ⟨p.rb, 2, none⟩ = some (.int .i64 (r : Int)) := by rw [cell_of_row _ _ 2 _ _ (0, 0) h.rd]; rfl
  have c3 : w.cell? ⟨p.rb, 3, none⟩ = some (.int .i64 (r : Int)) := by rw [cell_of_row _ _ 3 _ _ (0, 0) h.rd]; rfl
  have H1 := hide h; have HT := hide hth; have HAP := hide hap; have HK := hide hk; have HKL := hide hkl; have HIN := hide hin
  clear h hth hap hk hkl hin
  have m0 : ¬ m = 0 := by omega
  have mR := mRead37
  go_enter Ybaf.func41, Ybaf.ntmps41
  go_upto_region 6 with fail
  go_quiet (fail)
  have H2 := hide (H1.out.ahead nq); have F2 : Hid (Fr (own2 p pb) w (w.drewN nq)) := (Fr.refl _ _).drewN nq
  have T2 : Hid ((w.drewN nq).there pb po m) := HT.out
  have E2 : Hid ((w.drewN nq).heap[pb]? = w.heap[pb]?) := hide rfl
  clear c2 c3
  generalize w.drewN nq = W at H2 F2 T2 E2 ⊢
  have c0 : W.cell? ⟨p.rb, 0, none⟩ = some (.slice (some ⟨p.bb, 0, none⟩) p.K p.K) := by rw [cell_of_row _ _ 0 _ _ (0, 0) H2.out.rd]; rfl
  have c1 : W.cell? ⟨p.rb, 1, none⟩ = some (.iface 37 (.pointer (some ⟨p.cb, 0, none⟩))) := by rw [cell_of_row _ _ 1 _ _ (0, 0) H2.out.rd]; rfl
  have c4 : W.cell? ⟨p.rb, 4, none⟩ = some .nilIface := by rw [cell_of_row _ _ 4 _ _ (0, 0) H2.out.rd]; rfl
  have hge : (p.K : Int) ≤ (m : Int) := by omega
  have hrb : p.rb ≠ pb := fun e => HAP.out.2.2.2.1 e.symm
  go_wp2_with fail
  refine (cr_some p.cb p.zb p.sb p.n p.sc i p.st k pb po m pc cnt ((p.S.drop i).take k) W H2.out.c H2.out.z HIN.out ok.l1 ok.l2 hmm hmc ok.l4 (by omega) HK.out HKL.out (src_range H2.out.s) T2.out (fun e => HAP.out.2.1 e.symm) (fun e => ok.n1 e.symm) (fun e => HAP.out.2.2.1 e.symm)).mono ?_
  rintro x w1 ⟨rfl, q, c', rfl⟩
  have HX : Hid (St p ((((W.setCells pb po (byteCells ((p.S.drop i).take k))).setCell ⟨p.zb, 1, none⟩ (.int .i64 ((i + k : Nat) : Int))).setCell ⟨p.cb, 1, none⟩ (.int .i64 c')).drewN q) (i + k) r r buf .nilIface c' lb lr) := (((H2.out.setO ok HAP.out _ _).setZ ok (i + k) hkn).setC ok c').ahead q
  have FX : Hid (Fr (own2 p pb) w ((((W.setCells pb po (byteCells ((p.S.drop i).take k))).setCell ⟨p.zb, 1, none⟩ (.int .i64 ((i + k : Nat) : Int))).setCell ⟨p.cb, 1, none⟩ (.int .i64 c')).drewN q)) := (((F2.out.sets (Or.inr rfl) _ _).set (Or.inl (Or.inl rfl)) _).set (Or.inl (Or.inr (Or.inl rfl))) _).drewN q
  have EX : Hid (((((W.setCells pb po (byteCells ((p.S.drop i).take k))).setCell ⟨p.zb, 1, none⟩ (.int .i64 ((i + k : Nat) : Int))).setCell ⟨p.cb, 1, none⟩ (.int .i64 c')).drewN q).heap[pb]? = (w.setCells pb po (byteCells ((p.S.drop i).take k))).heap[pb]?) :=
    hide (((heap_setCell_other _ _ _ _ HAP.out.2.2.1).trans (heap_setCell_other _ _ _ _ HAP.out.2.1)).trans (setCells_same (W := W) (w := w) pb _ po W w E2.out))
  have hl1 : k - 1 < ((p.S.drop i).take k).length := by have := HKL.out; omega
  have EP : Hid (((((W.setCells pb po (byteCells ((p.S.drop i).take k))).setCell ⟨p.zb, 1, none⟩ (.int .i64 ((i + k : Nat) : Int))).setCell ⟨p.cb, 1, none⟩ (.int .i64 c')).drewN q).cell? ⟨pb, po + (k - 1), none⟩ = some (.int .u8 (((p.S.drop i).take k)[k - 1].toNat : Int))) := hide (by
    show (((W.setCells pb po (byteCells ((p.S.drop i).take k))).setCell ⟨p.zb, 1, none⟩ (.int .i64 ((i + k : Nat) : Int))).setCell ⟨p.cb, 1, none⟩ (.int .i64 c')).cell? _ = _
    rw [World.cell?_setCell_other _ _ _ _ (by intro e; exact HAP.out.2.2.1 (congrArg Addr.block e).symm), World.cell?_setCell_other _ _ _ _ (by intro e; exact HAP.out.2.1 (congrArg Addr.block e).symm)]
    rw [World.cell?_setCells_in pb _ po W (fun j hj => (T2.out j (by rw [len_byteCells, HKL.out] at hj; omega)).1) (k - 1) (by rw [len_byteCells]; exact hl1)]
    simp [byteCells])
  generalize ((p.S.drop i).take k)[k - 1] = y at EP
  clear c0 c1 c4
  generalize (((W.setCells pb po (byteCells ((p.S.drop i).take k))).setCell ⟨p.zb, 1, none⟩ (.int .i64 ((i + k : Nat) : Int))).setCell ⟨p.cb, 1, none⟩ (.int .i64 c')).drewN q = X at HX FX EX EP ⊢
  have d4 : X.cell? ⟨p.rb, 4, none⟩ = some .nilIface := by rw [cell_of_row _ _ 4 _ _ (0, 0) HX.out.rd]; rfl
  have f4 : X.frozen? ⟨p.rb, 4, none⟩ = false := frozen_block HX.out.rd
  go_upto_region 11 with fail
  have HY : Hid (St p (X.setCell ⟨p.rb, 4, none⟩ .nilIface) (i + k) r r buf .nilIface c' lb lr) := HX.out.setR ok 4 _ rfl
  have FY : Hid (Fr (own2 p pb) w (X.setCell ⟨p.rb, 4, none⟩ .nilIface)) := FX.out.set (Or.inl (Or.inr (Or.inr (Or.inl rfl)))) _
  have EY : Hid ((X.setCell ⟨p.rb, 4, none⟩ .nilIface).heap[pb]? = (w.setCells pb po (byteCells ((p.S.drop i).take k))).heap[pb]?) := hide ((heap_setCell_other _ _ _ _ (fun e => hrb e.symm)).trans EX.out)
  have gy : (X.setCell ⟨p.rb, 4, none⟩ .nilIface).cell? ⟨pb, po + (k - 1), none⟩ = some (.int .u8 (y.toNat : Int)) := by
    rw [World.cell?_setCell_other _ _ _ _ (by intro e; exact hrb (congrArg Addr.block e))]; exact EP.out
  clear d4 f4
  generalize X.setCell ⟨p.rb, 4, none⟩ .nilIface = Y at HY FY EY gy ⊢
  have g5 : Y.cell? ⟨p.rb, 5, none⟩ = some (.int .i64 lb) := by rw [cell_of_row _ _ 5 _ _ (0, 0) HY.out.rd]; rfl
  have g6 : Y.cell? ⟨p.rb, 6, none⟩ = some (.int .i64 lr) := by rw [cell_of_row _ _ 6 _ _ (0, 0) HY.out.rd]; rfl
  have gf5 : Y.frozen? ⟨p.rb, 5, none⟩ = false := frozen_block HY.out.rd
  have gf6 : Y.frozen? ⟨p.rb, 6, none⟩ = false := frozen_block HY.out.rd
  have hkz : ¬ (k : Int) < 0 := by omega
  have hkp : (0 : Int) < (k : Int) := by omega
  have hkp' : 0 < k := by omega
  have hw1 : IntKind.i64.wrap ((k : Int) - 1) = ((k - 1 : Nat) : Int) := by rw [IntKind.wrap_i64]; omega
  have hi1 : ((k - 1 : Nat) : Int) < (m : Int) := by omega
  have hi2 : k - 1 < m := by omega
  have hy := y.toNat_lt
  have hcv' : wrap64 (y.toNat : Int) = (y.toNat : Int) := by unfold wrap64; omega
  go_upto_region 16 with fail
  have HZ : Hid (St p ((Y.setCell ⟨p.rb, 5, none⟩ (.int .i64 (y.toNat : Int))).setCell ⟨p.rb, 6, none⟩ (.int .i64 (-1))) (i + k) r r buf .nilIface c' (y.toNat : Int) (-1)) := (HY.out.setR ok 5 (.int .i64 (y.toNat : Int)) (r' := r) (wd' := r) (e' := .nilIface) (lb' := (y.toNat : Int)) (lr' := lr) rfl).setR ok 6 _ rfl
  have FZ : Hid (Fr (own2 p pb) w ((Y.setCell ⟨p.rb, 5, none⟩ (.int .i64 (y.toNat : Int))).setCell ⟨p.rb, 6, none⟩ (.int .i64 (-1)))) := (FY.out.set (Or.inl (Or.inr (Or.inr (Or.inl rfl)))) _).set (Or.inl (Or.inr (Or.inr (Or.inl rfl)))) _
  have EZ : Hid (((Y.setCell ⟨p.rb, 5, none⟩ (.int .i64 (y.toNat : Int))).setCell ⟨p.rb, 6, none⟩ (.int .i64 (-1))).heap[pb]? = (w.setCells pb po (byteCells ((p.S.drop i).take k))).heap[pb]?) := hide (((heap_setCell_other _ _ _ _ (fun e => hrb e.symm)).trans (heap_setCell_other _ _ _ _ (fun e => hrb e.symm))).trans EY.out)
  clear g5 g6 gf5 gf6 gy hw1 hi1 hi2 hcv' hkz hkp hkp'
  generalize (Y.setCell ⟨p.rb, 5, none⟩ (.int .i64 (y.toNat : Int))).setCell ⟨p.rb, 6, none⟩ (.int .i64 (-1)) = Z at HZ FZ EZ ⊢
  go_wp2_with fail
  refine (readErr_any HZ.out).mono ?_
  rintro e w3 ⟨rfl, rfl⟩
  go_wp2_with fail
  go_ret2
  exact ⟨rfl, FZ.out.set (Or.inl (Or.inr (Or.inr (Or.inl rfl)))) _, ⟨c', _, _, HZ.out.setR ok 4 .nilIface rfl⟩, (heap_setCell_other _ _ _ _ (fun e => hrb e.symm)).trans EZ.out⟩
end Go.Proofs.YbulkbmlcFmt
