/-
  LawS3161CHello: the decoder's text.
-/
import Derived.Test.YbulkbmlcFmtH13
import Derived.Laws.BytesString
namespace Go.Proofs.YbulkbmlcFmt
open Go.RowKit Go.Lib
set_option linter.unusedVariables false
set_option linter.unusedSimpArgs false

theorem fold_push : ∀ (B : Bytes) (r : ByteArray), (B.map fun b => ((b.toNat : Nat) : Int)).foldl (fun r n => r.push (UInt8.ofNat n.toNat)) r = ⟨r.data ++ B.toArray⟩
  | [], r => by simp
  | b :: B, r => by
    simp only [List.map_cons, List.foldl_cons]
    rw [fold_push B]
    have : UInt8.ofNat ((b.toNat : Nat) : Int).toNat = b := by simp
    rw [this]
    simp [ByteArray.push]
theorem conv_own {w : World} {base L : Nat} {v : Value} {B : Bytes} (h : w.ownsRow base 5 1 v L (byteCells B)) : (convert 23 9 v).run Ybaf.prog w = .ok (.string ⟨B.toArray⟩) w := by
  have hx := h.1
  rw [Nat.mul_one, len_byteCells] at hx
  rcases h.2 with ⟨rfl, rfl⟩ | ⟨g, cap, cur, rfl, h2, h3, h4, h5, h6, h7⟩
  · have : B = [] := List.eq_nil_of_length_eq_zero hx
    subst this
    rw [run_convert_bytes_string w 23 9 5 none 0 0 Ybaf.underlying23 Ybaf.underlying5 Ybaf.underlying9]
    simp [Conv.bytesToString]
    rfl
  · rw [run_convert_bytes_string w 23 9 5 _ L cap Ybaf.underlying23 Ybaf.underlying5 Ybaf.underlying9]
    have hl := run_loadCells_list (P := Ybaf.prog) w ⟨g, 0, none⟩ (byteCells B) (fun j u hu => h.cells (g := g) rfl j u hu)
    rw [len_byteCells, hx] at hl
    have e : byteCells B = (B.map fun b => ((b.toNat : Nat) : Int)).map (Value.int .u8) := by simp [byteCells]
    rw [e] at hl
    rw [run_bytesToString w ⟨g, 0, none⟩ L cap _ hl, fold_push]
    simp
set_option maxHeartbeats 2000000 in
theorem bytes_none {p : Par} (ok : p.Ok) {w : World} {rm : Bytes} {db base : Nat} {bv : Value} (hb : Bs p db base) (hD : DC p w db bv none) (h : RS p w rm) (hg : Good 0 rm) (hdec : dec 0 0 rm = none)
    (U : Addr) (hU : w.cell? ⟨4, 0, none⟩ = some (.iface 63 (.pointer (some U)))) (hE : w.cell? ⟨3, 0, none⟩ = some p.eof) :
    Calls Ybaf.prog 19 #[.pointer (some ⟨db, 0, none⟩), .int .u64 1048576] w fun e w' => e = .returned (.slice none 0 0) ∧ Fr (ownD p db) w w' ∧ ∃ ev, (ev = p.E ∨ ev = U) ∧ DC p w' db bv (some ev) ∧ RS p w' [] := by
  have HC := hide (uv_any ok hD hb.ap hb.h6 h hg U hU hE)
  have HDEC := hide hdec
  clear h hg hU hE hD hdec
  go_enter Ybaf.func19, Ybaf.ntmps19
  go_wp2_with fail
  refine HC.out.mono ?_
  rintro e w1 ⟨hF, hcase⟩
  rcases hcase with ⟨x', t', hd, _⟩ | ⟨hd, v, ev, hev, rfl, hR, hD1⟩
  · have := HDEC.out.symm.trans hd; cases this
  · have c3 : w1.cell? ⟨db, 3, none⟩ = some (.iface 63 (.pointer (some ev))) := by rw [cell_of_row _ _ 3 _ _ (0, 0) hD1]; rfl
    have HF := hide hF; have HR := hide hR; have HD1 := hide hD1
    clear hF hR hD1 hd HC
    go_wp2
    go_ret
    exact ⟨rfl, HF.out, ev, hev, HD1.out, HR.out⟩
set_option maxHeartbeats 2000000 in
theorem bytes_err {p : Par} {w : World} {db : Nat} {bv : Value} {a : Addr} (h : DC p w db bv (some a)) :
    Calls Ybaf.prog 19 #[.pointer (some ⟨db, 0, none⟩), .int .u64 1048576] w fun e w' => e = .returned (.slice none 0 0) ∧ w' = w := by
  have c3 : w.cell? ⟨db, 3, none⟩ = some (.iface 63 (.pointer (some a))) := by rw [cell_of_row _ _ 3 _ _ (0, 0) h]; rfl
  have HC := hide (uv_err h)
  clear h
  go_enter Ybaf.func19, Ybaf.ntmps19
  go_wp2_with fail
  refine HC.out.mono ?_
  rintro e w1 ⟨rfl, rfl⟩
  go_wp2
  go_ret
  exact ⟨rfl, rfl⟩
set_option maxHeartbeats 2000000 in
theorem text_err {p : Par} {w : World} {db : Nat} {bv : Value} {a : Addr} (h : DC p w db bv (some a)) :
    Calls Ybaf.prog 13 #[.pointer (some ⟨db, 0, none⟩), .int .u64 1048576] w fun e w' => (∃ s, e = .returned (.string s)) ∧ w' = w := by
  have HC := hide (bytes_err h)
  have hcv := conv_own (B := []) (World.ownsRow_nil w 0 5 1)
  clear h
  go_enter Ybaf.func13, Ybaf.ntmps13
  go_wp2_with fail
  refine HC.out.mono ?_
  rintro e w1 ⟨rfl, rfl⟩
  go_wp2
  go_ret
  exact ⟨⟨_, rfl⟩, rfl⟩
/-- text, by the stream. -/
theorem text_any {p : Par} (ok : p.Ok) {w : World} {rm : Bytes} {db base L0 : Nat} {bv : Value} {B0 : Bytes} (hb : Bs p db base) (hD : DC p w db bv none) (h : RS p w rm) (hg : Good 0 rm) (hx : ∀ x t, dec 0 0 rm = some (x, t) → x ≤ 65536)
    (hown : w.ownsRow base 5 1 bv L0 (byteCells B0)) (hbase : base ≤ w.heap.size) (U : Addr) (hU : w.cell? ⟨4, 0, none⟩ = some (.iface 63 (.pointer (some U)))) (hE : w.cell? ⟨3, 0, none⟩ = some p.eof) :
    Calls Ybaf.prog 13 #[.pointer (some ⟨db, 0, none⟩), .int .u64 1048576] w fun e w' => Fr (ownB p db base) w w' ∧ base ≤ w'.heap.size ∧
      ((∃ x t, dec 0 0 rm = some (x, t) ∧ x ≤ t.length ∧ e = .returned (.string ⟨(t.take x).toArray⟩) ∧ (∃ v', DC p w' db v' none ∧ w'.ownsRow base 5 1 v' x (byteCells (t.take x))) ∧ RS p w' (t.drop x)) ∨
       ((dec 0 0 rm = none ∨ ∃ x t, dec 0 0 rm = some (x, t) ∧ t.length < x) ∧ ∃ s v' ev, (ev = p.E ∨ ev = U) ∧ e = .returned (.string s) ∧ DC p w' db v' (some ev))) := by
  cases hq : dec 0 0 rm with
  | none =>
    have HC := hide (bytes_none ok hb hD h hg hq U hU hE)
    clear h hg hU hE hD hown
    go_enter Ybaf.func13, Ybaf.ntmps13
    go_wp2_with fail
    refine HC.out.mono ?_
    rintro e w1 ⟨rfl, hF, ev, hev, hD1, hR⟩
    have hcv := conv_own (B := []) (World.ownsRow_nil w1 0 5 1)
    have HF := hide hF; have HD1 := hide hD1
    have hs := Nat.le_trans hbase hF.size
    clear hF hD1 hR HC
    go_wp2
    go_ret
    exact ⟨HF.out.mono (fun k hk => by rcases hk with h | h; exact Or.inl h; exact Or.inr (Or.inl h)), hs, Or.inr ⟨by first | exact Or.inl rfl | exact Or.inl trivial | trivial, _, _, ev, hev, rfl, HD1.out⟩⟩
  | some xt =>
    obtain ⟨x, t⟩ := xt
    have HC := hide (bytes_some ok hb hD h hg hq (hx x t hq) hown hbase U hU hE)
    clear h hg hU hE hD hown hx
    go_enter Ybaf.func13, Ybaf.ntmps13
    go_wp2_with fail
    refine HC.out.mono ?_
    rintro e w1 ⟨v', rfl, hF, hs, hcase⟩
    have HF := hide hF
    clear hF HC
    rcases hcase with ⟨hxl, hD1, hO1, hR1⟩ | ⟨hxl, ev, L, B, hev, hD1, hBL, hO1, hR1⟩
    · have hcv := conv_own hO1
      have HD1 := hide hD1; have HO1 := hide hO1; have HR1 := hide hR1; have HX := hide hxl
      clear hD1 hO1 hR1 hxl
      go_wp2
      go_ret
      exact ⟨HF.out, hs, Or.inl ⟨x, t, rfl, HX.out, rfl, ⟨v', HD1.out, HO1.out⟩, HR1.out⟩⟩
    · have hcv := conv_own hO1
      have HD1 := hide hD1; have HX := hide hxl
      clear hD1 hO1 hR1 hxl
      go_wp2
      go_ret
      exact ⟨HF.out, hs, Or.inr ⟨Or.inr ⟨x, t, rfl, HX.out⟩, _, v', ev, hev, rfl, HD1.out⟩⟩
end Go.Proofs.YbulkbmlcFmt
