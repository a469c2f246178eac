/-
  LawS3161CHello: the row, told and tied.
-/
import Derived.Test.YbulkbmlcFmtH21
namespace Go.Proofs.YbulkbmlcFmt
open Go.ChangeShapes Go.WideShapes Go.ChangeAt Go.RowKit Go.Lib
open Go.Extern.Stop Go.Stop Go.Extern
set_option linter.unusedVariables false

/-! ### a world in which the six variables are laid -/
def textOf : DataW Unit → List UInt8
  | .iface _ (.ptr (.agg [.lit (.string l)])) => l
  | _ => []
def errB (d : DataW Unit) : Obj := .cells #[.string ⟨(textOf d).toArray⟩] 65
def laidAt (n : Nat) : Obj → Obj
  | .cells _ t frozen => .cells #[.iface 63 (.pointer (some ⟨n, 0, none⟩))] t frozen
  | o => o
def errBs : Array Obj := #[errB Rows.laid_bufio_errNegativeRead, errB Rows.laid_io_ErrNoProgress, errB Rows.laid_io_ErrShortBuffer, errB Rows.laid_io_EOF, errB Rows.laid_io_ErrUnexpectedEOF, errB Rows.laid_encoding_binary_errOverflow]
theorem laid_met (os : Os) (args : Array Value) : laidMet Ybaf.prog Rows.lawS3161CHelloRow.laid
    (({ World.holding Ybaf.prog os ⟨errBs, #[], []⟩ with
      heap := ((((((World.holding Ybaf.prog os ⟨errBs, #[], []⟩).heap.modify 0 (laidAt (World.holding Ybaf.prog default ⟨#[], #[], []⟩).heap.size)).modify 1 (laidAt ((World.holding Ybaf.prog default ⟨#[], #[], []⟩).heap.size + 1))).modify 2 (laidAt ((World.holding Ybaf.prog default ⟨#[], #[], []⟩).heap.size + 2))).modify 3 (laidAt ((World.holding Ybaf.prog default ⟨#[], #[], []⟩).heap.size + 3))).modify 4 (laidAt ((World.holding Ybaf.prog default ⟨#[], #[], []⟩).heap.size + 4))).modify 5 (laidAt ((World.holding Ybaf.prog default ⟨#[], #[], []⟩).heap.size + 5)) }).forCall (fun _ _ => 0) ⟨#[], args, []⟩).memory :=
  laidMet_of_run (ps := [.cell 2 0, .cell ((World.holding Ybaf.prog default ⟨#[], #[], []⟩).heap.size + 2) 0, .cell 3 0, .cell ((World.holding Ybaf.prog default ⟨#[], #[], []⟩).heap.size + 3) 0, .cell 4 0, .cell ((World.holding Ybaf.prog default ⟨#[], #[], []⟩).heap.size + 4) 0, .cell 1 0, .cell ((World.holding Ybaf.prog default ⟨#[], #[], []⟩).heap.size + 1) 0,
    .cell 5 0, .cell ((World.holding Ybaf.prog default ⟨#[], #[], []⟩).heap.size + 5) 0, .cell 0 0, .cell (World.holding Ybaf.prog default ⟨#[], #[], []⟩).heap.size 0]) 8 (by kernel_rfl) (by kernel_rfl) (by kernel_rfl)

set_option maxRecDepth 100000 in
theorem lifted (os : Os) (started : os.Started) (H : Type) (enc : TypeId × Value → H) :
    ReturnsInTold none {} Ybaf.checked os 3 .any Input.okWide ((OpenSpec.ofChange Rows.lawS3161CHelloSpec).preRow enc Ybaf.prog Ybaf.f3 [] false Rows.lawS3161CHelloRow.laid)
      (fun F => ((OpenSpec.ofChange Rows.lawS3161CHelloSpec).at F).post enc Ybaf.prog Ybaf.f3 false true false false) (aloneAtReturn Ybaf.prog) nothingAlways := by
  refine returnsInTold_of_row (C := Ybaf.checked) (s := OpenSpec.ofChange Rows.lawS3161CHelloSpec) (by kernel_rfl) knob started (by kernel_rfl) Ybaf.func3
    (OpenSpec.witness_stopped_at (enc := enc) (C := Ybaf.checked) false _ #[.agg (pA 0 0 0 0 0 0 ⟨#[]⟩ ⟨#[]⟩ none 0 0)] rfl (by kernel_rfl) (by kernel_rfl) (by kernel_rfl)
      (OpenSpec.preRow_of_B rfl 8 (by kernel_rfl) (by kernel_rfl) (laid_met os _))) ?_
  intro F W base args ds gs before _ hF hval0 hW _ _ hsz0 hL _
  have hval : ∀ (j : Nat) t v, Ybaf.f3.params[j]? = some t → args[j]? = some v → Value.okWide Ybaf.prog W .any base t v := hval0
  have hW' := hW
  obtain ⟨p, q, hA0, hV0, rfl, hfz, hnd⟩ := hW
  have hA : DataW.TrodAll enc Ybaf.prog W 0 (fun _ => true) true Ybaf.f3.params.toList args.toList ds p := hA0
  have hV : DataW.TrodVars enc Ybaf.prog W (fun _ => true) [] gs q := hV0
  rw [Ybaf.params3] at hA hval
  obtain ⟨v0, vs0, d0, ds0, p0, q0, hargs, rfl, rfl, h0, r0⟩ := trodAll_cons hA
  obtain ⟨rfl, rfl, rfl⟩ := trodAll_nil r0
  obtain rfl : args = #[v0] := by cases args; simp_all
  obtain ⟨rfl, rfl⟩ := trodVars_none hV
  obtain ⟨E, sE, hv3, hsE, _, _⟩ := laid_sentinel (n := "io.EOF") (nm := nmE) hL.tail g3 g3Type Ybaf.underlying34 row63 Ybaf.underlying63 Ybaf.underlying65 rfl rfl Ybaf.underlying9 cells65 cells9
  obtain ⟨U, sU, hv4, hsU, _, _⟩ := laid_sentinel (n := "io.ErrUnexpectedEOF") (nm := nmE) hL.tail.tail g4 g4Type Ybaf.underlying34 row63 Ybaf.underlying63 Ybaf.underlying65 rfl rfl Ybaf.underlying9 cells65 cells9
  obtain ⟨O, sO, hv5, _, _, _⟩ := laid_sentinel (n := nm5) (nm := nmE) hL.tail.tail.tail.tail g5 g5Type Ybaf.underlying34 row63 Ybaf.underlying63 Ybaf.underlying65 rfl rfl Ybaf.underlying9 cells65 cells9
  have hE : W.cell? ⟨3, 0, none⟩ = some (.iface 63 (.pointer (some E))) := by simpa using World.var?_cell g3 hv3 0
  have hU : W.cell? ⟨4, 0, none⟩ = some (.iface 63 (.pointer (some U))) := by simpa using World.var?_cell g4 hv4 0
  have hO : W.cell? ⟨5, 0, none⟩ = some (.iface 63 (.pointer (some O))) := by simpa using World.var?_cell g5 hv5 0
  have h6 : 5 < W.heap.size := lt_of_cell hO
  have lt0 : ∀ x ∈ p0, x.block < W.heap.size := by obtain ⟨m, hm⟩ := h0; exact DataW.trod_lt m _ _ _ hm
  obtain ⟨m0, pos, fl, cut, st, sz, T, D, ad, len, cap, tl, rfl, b0, b1, b2, b3, b4, b5, hT, hD, hl, hTL⟩ := open_law (hval 0 25 v0 rfl rfl) h0
  have e1 : ((OpenSpec.ofChange Rows.lawS3161CHelloSpec).at F.told).fn H ([d0] ++ []) = { results := [.lit (.bool true)], args := [d0] } := rfl
  have fin : ∀ (e : Ending) (W' : World), (e = .returned (.bool true) ∧ Below W.heap.size W W') →
      ∃ v, e = .returned v ∧ ((OpenSpec.ofChange Rows.lawS3161CHelloSpec).at F.told).post enc Ybaf.checked.prog Ybaf.f3 false true false false W #[.agg (pA m0 pos fl cut st sz T D ad len cap)] v W' := by
    rintro e W' ⟨rfl, bel⟩
    refine ⟨_, rfl, _, _, _, [], p0 ++ [], [], hW', ?_, ?_, ?_, bel.frame _, fun h => by cases h⟩
    · rw [e1]; exact trodAll_mk1 (shut_bool Ybaf.underlying4 true)
    · rw [e1]
      exact trodAll_cons_mk (Below.trod laidOut (by kernel_rfl) (of_decide_eq_true (by kernel_rfl)) h0 bel lt0) trodAll_mk0
    · rw [e1]; rfl
  clear hA0 hV0 hval0 hsz0
  by_cases k0 : 65536 < T.size
  · exact (law_long0 m0 pos fl cut st sz T D ad len cap W hT k0).mono fin
  by_cases k1 : 65536 < D.size
  · exact (law_long1 m0 pos fl cut st sz T D ad len cap W (by omega) hD k1).mono fin
  by_cases k2 : 65536 < len
  · exact (law_long2 m0 pos fl cut st sz T D ad len cap W (by omega) (by omega) hl k2).mono fin
  · exact (law_any F.told m0 pos fl cut st sz T D ad len cap tl W b0 b1 b2 b3 b4 b5 (by omega) (by omega) (by omega) hTL h6 hF E U hU hE sE sU hsE hsU).mono fin

theorem proved : Rows.LawS3161CHelloToldSaid :=
  Claim7.holds_of_told_tied_any_at .later 3 Ybaf.f3 "fmt.errorf" [] [] _ _ _ _ _ (by kernel_rfl) rfl rfl rfl laidOut (by kernel_rfl) rfl ⟨rfl, rfl, rfl, rfl, rfl, rfl, rfl⟩ rfl rfl (by kernel_rfl) (by kernel_rfl) Ybaf.func3 (by kernel_rfl)
    (of_decide_eq_true (by kernel_rfl)) (of_decide_eq_true (by kernel_rfl)) stops.symm rfl stopKnobs.symm (by kernel_rfl)
    (by kernel_rfl) (by kernel_rfl) (by kernel_rfl) (by kernel_rfl) (by kernel_rfl) (by kernel_rfl) (by kernel_rfl) (by kernel_rfl) (by kernel_rfl) rfl (by kernel_rfl) rfl rfl
    rfl rfl
    rfl (by kernel_rfl) (by kernel_rfl) (by kernel_rfl) (by decide) (by kernel_rfl) lawS3161CHello_row_tie
    (OpenClaim.moreEntering_of (by kernel_rfl) (by kernel_rfl) (by kernel_rfl) (by kernel_rfl) (by kernel_rfl) (by kernel_rfl) (by kernel_rfl) (by kernel_rfl) (by kernel_rfl) (by kernel_rfl))
    ⟨_, WideRow.started_initial, quiet _⟩
    (fun os started _ H enc _ => lifted os started H enc)
end Go.Proofs.YbulkbmlcFmt
