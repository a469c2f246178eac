/-
  LawS3161CHello: the decoder's fail and uvarint.
-/
import Derived.Test.YbulkbmlcFmtH10
namespace Go.Proofs.YbulkbmlcFmt
open Go.RowKit Go.Lib
set_option linter.unusedVariables false
set_option linter.unusedSimpArgs false

/-- An error: nil, or a pointer to an errorString. -/
def erV : Option Addr → Value
  | none => .nilIface
  | some a => .iface 63 (.pointer (some a))
def dcA (p : Par) (bv e : Value) : Array Value := #[.pointer (some ⟨p.cb, 0, none⟩), .pointer (some ⟨p.rb, 0, none⟩), bv, e]
/-- The decoder. -/
def DC (p : Par) (w : World) (db : Nat) (bv : Value) (e : Option Addr) : Prop := w.heap[db]? = some (.cells (dcA p bv (erV e)) 40)
def ownD (p : Par) (db k : Nat) : Prop := own p k ∨ k = db
theorem RS.keep {p : Par} (ok : p.Ok) {w w' : World} {rm : Bytes} (h : RS p w rm) (hk : ∀ k, k < w.heap.size → k = 3 ∨ k = p.zb ∨ k = p.cb ∨ k = p.rb ∨ k = p.bb ∨ k = p.sb → w'.heap[k]? = w.heap[k]?) : RS p w' rm := by
  obtain ⟨i, r, wd, buf, cnt, lb, lr, h1, h2⟩ := h
  exact ⟨i, r, wd, buf, cnt, lb, lr, h1.keep ok hk, h2⟩
theorem RS.set {p : Par} (ok : p.Ok) {w : World} {rm : Bytes} (h : RS p w rm) {b : Nat} (hap : Apart p b) (j : Nat) (v : Value) : RS p (w.setCell ⟨b, j, none⟩ v) rm :=
  h.keep ok (fun k _ hk => heap_setCell_other _ _ _ _ (by
    obtain ⟨a1, a2, a3, a4, a5, a6⟩ := hap
    intro e
    have e' : k = b := e
    subst e'
    rcases hk with h | h | h | h | h | h
    · exact a1 h
    · exact a2 h
    · exact a3 h
    · exact a4 h
    · exact a5 h
    · exact a6 h))

set_option maxHeartbeats 1000000 in
theorem fail_any {p : Par} {w : World} {db : Nat} {bv : Value} {e0 : Option Addr} (h : DC p w db bv e0) (o : Option Addr) :
    Calls Ybaf.prog 10 #[.pointer (some ⟨db, 0, none⟩), erV o] w fun e w' => e = .returned (.tuple #[]) ∧ DC p w' db bv (e0.or o) ∧ Fr (fun k => k = db) w w' ∧ (w' = w ∨ w' = w.setCell ⟨db, 3, none⟩ (erV o)) := by
  have c3 : w.cell? ⟨db, 3, none⟩ = some (erV e0) := by rw [cell_of_row _ _ 3 _ _ (0, 0) h]; rfl
  have f3 : w.frozen? ⟨db, 3, none⟩ = false := frozen_block h
  have H := hide h
  clear h
  cases e0 with
  | none =>
    have HS : Hid (DC p (w.setCell ⟨db, 3, none⟩ (erV o)) db bv o) := heap_setCell_same _ _ _ _ _ _ H.out
    have FRS : Hid (Fr (fun k => k = db) w (w.setCell ⟨db, 3, none⟩ (erV o))) := Fr.set (F := fun k => k = db) (Fr.refl _ _) rfl _
    simp only [erV] at c3
    cases o with
    | none =>
      simp only [erV] at HS FRS ⊢
      go_enter Ybaf.func10, Ybaf.ntmps10
      go_wp2
      go_end0
      exact ⟨rfl, HS.out, FRS.out, Or.inr rfl⟩
    | some a =>
      simp only [erV] at HS FRS ⊢
      go_enter Ybaf.func10, Ybaf.ntmps10
      go_wp2
      go_end0
      exact ⟨rfl, HS.out, FRS.out, Or.inr rfl⟩
  | some a =>
    simp only [erV] at c3
    go_enter Ybaf.func10, Ybaf.ntmps10
    go_wp2
    go_end0
    exact ⟨rfl, H.out, Fr.refl _ _, Or.inl rfl⟩
set_option maxHeartbeats 1000000 in
theorem uv_err {p : Par} {w : World} {db : Nat} {bv : Value} {a : Addr} (h : DC p w db bv (some a)) : Calls Ybaf.prog 20 #[.pointer (some ⟨db, 0, none⟩)] w fun e w' => e = .returned (.int .u64 0) ∧ w' = w := by
  have c3 : w.cell? ⟨db, 3, none⟩ = some (.iface 63 (.pointer (some a))) := by rw [cell_of_row _ _ 3 _ _ (0, 0) h]; rfl
  clear h
  go_enter Ybaf.func20, Ybaf.ntmps20
  go_wp2
  go_ret
  exact ⟨rfl, rfl⟩
set_option maxHeartbeats 2000000 in
theorem uv_any {p : Par} (ok : p.Ok) {w : World} {rm : Bytes} {db : Nat} {bv : Value} (hD : DC p w db bv none) (hap : Apart p db) (h6 : 6 ≤ db) (h : RS p w rm) (hg : Good 0 rm) (U : Addr) (hU : w.cell? ⟨4, 0, none⟩ = some (.iface 63 (.pointer (some U)))) (hE : w.cell? ⟨3, 0, none⟩ = some p.eof) :
    Calls Ybaf.prog 20 #[.pointer (some ⟨db, 0, none⟩)] w fun e w' => Fr (ownD p db) w w' ∧
      ((∃ x t, dec 0 0 rm = some (x, t) ∧ e = .returned (.int .u64 (x : Int)) ∧ RS p w' t ∧ DC p w' db bv none) ∨ (dec 0 0 rm = none ∧ ∃ v : Nat, ∃ ev : Addr, (ev = p.E ∨ ev = U) ∧ e = .returned (.int .u64 (v : Int)) ∧ RS p w' [] ∧ DC p w' db bv (some ev))) := by
  have c3 : w.cell? ⟨db, 3, none⟩ = some .nilIface := by rw [cell_of_row _ _ 3 _ _ (0, 0) hD]; rfl
  have c1 : w.cell? ⟨db, 1, none⟩ = some (.pointer (some ⟨p.rb, 0, none⟩)) := by rw [cell_of_row _ _ 1 _ _ (0, 0) hD]; rfl
  have HC := hide (uvarint_any ok h hg U hU hE)
  have HD := hide hD; have HAP := hide hap
  have hno : ¬ own p db := fun h => by
    obtain ⟨a1, a2, a3, a4, a5, a6⟩ := hap
    rcases h with e | e | e | e
    · exact a2 e
    · exact a3 e
    · exact a4 e
    · exact a5 e
  have HNO := hide hno
  clear h hg hU hE hD hap hno
  go_enter Ybaf.func20, Ybaf.ntmps20
  go_wp2_with fail
  refine HC.out.mono ?_
  rintro e w1 ⟨hF, hcase⟩
  have HD1 : Hid (DC p w1 db bv none) := (hF.block db (lt_of_heap HD.out) HNO.out).trans HD.out
  have HF := hide (hF.mono (G := ownD p db) (fun k hk => Or.inl hk))
  clear hF HC
  rcases hcase with ⟨x, t, hd, rfl, hR⟩ | ⟨hd, v, ev, hev, rfl, hR⟩
  · have HR := hide hR; have HDC := hide hd
    clear hR hd
    go_wp2_with fail
    refine (fail_any HD1.out none).mono ?_
    rintro e w2 ⟨rfl, hD2, hF2, hw2⟩
    have HD2 := hide hD2; have HF2 := hide (HF.out.trans (hF2.mono (G := ownD p db) (fun k hk => Or.inr hk)))
    have HR2 : Hid (RS p w2 t) := hide (by rcases hw2 with rfl | rfl; exact HR.out; exact HR.out.set ok HAP.out _ _)
    clear hD2 hF2 hw2
    go_wp2_with fail
    go_ret
    exact ⟨HF2.out, Or.inl ⟨x, t, HDC.out, rfl, HR2.out, HD2.out⟩⟩
  · have HR := hide hR; have HDC := hide hd
    clear hR hd
    go_wp2_with fail
    refine (fail_any HD1.out (some ev)).mono ?_
    rintro e w2 ⟨rfl, hD2, hF2, hw2⟩
    have HD2 := hide hD2; have HF2 := hide (HF.out.trans (hF2.mono (G := ownD p db) (fun k hk => Or.inr hk)))
    have HR2 : Hid (RS p w2 []) := hide (by rcases hw2 with rfl | rfl; exact HR.out; exact HR.out.set ok HAP.out _ _)
    clear hD2 hF2 hw2
    go_wp2_with fail
    go_ret
    exact ⟨HF2.out, Or.inr ⟨HDC.out, v, ev, hev, rfl, HR2.out, HD2.out⟩⟩
set_option maxHeartbeats 1000000 in
theorem size_any {p : Par} {w : World} {i r wd : Nat} {buf : Bytes} {e : Value} {cnt lb lr : Int} (h : St p w i r wd buf e cnt lb lr) :
    Calls Ybaf.prog 21 #[.pointer (some ⟨p.rb, 0, none⟩)] w fun x w' => x = .returned (.int .i64 (p.K : Int)) ∧ w' = w := by
  have c0 : w.cell? ⟨p.rb, 0, none⟩ = some (.slice (some ⟨p.bb, 0, none⟩) p.K p.K) := by rw [cell_of_row _ _ 0 _ _ (0, 0) h.rd]; rfl
  clear h
  go_enter Ybaf.func21, Ybaf.ntmps21
  go_wp2
  go_ret
  exact ⟨rfl, rfl⟩
end Go.Proofs.YbulkbmlcFmt
