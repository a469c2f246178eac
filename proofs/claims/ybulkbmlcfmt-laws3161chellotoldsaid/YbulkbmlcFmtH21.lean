/-
  LawS3161CHello: the input opened; the laid variables; the early returns.
-/
import Derived.Test.YbulkbmlcFmtH20
import Derived.Test.YbulkbmlcFmtTie
import Derived.Test.YbulkbmlcFmtCards
import Derived.ProofKit
import Derived.OpenShut
import Derived.ChangeOld
import Derived.ChangeSlices
import Derived.SizedLaws
import Derived.SliceStrings
import Derived.Stop.JoinedAt
import Derived.Stop.JoinedTold
import Derived.Stop.Texts
import Derived.Stop.LaidErr
import Derived.Stop.LaidTwo
import Derived.SevenTiedAt
import Derived.WalkSmall
namespace Go.Proofs.YbulkbmlcFmt
open Go.ChangeShapes Go.WideShapes Go.ChangeAt Go.RowKit Go.Lib
open Go.Extern.Stop Go.Stop Go.Extern
set_option linter.unusedVariables false

theorem knob : ownKnob Ybaf.prog.godebug = none := by kernel_rfl
theorem laidOut : laidOutB Ybaf.pinned.checked.prog = true := by kernel_rfl
theorem stops : Ybaf.pinned.checked.prog.stops = ["fmt.errorf"] := by kernel_rfl
theorem stopKnobs : Ybaf.pinned.checked.prog.stopKnobs = [] := by kernel_rfl
theorem quiet (os : Os) : Stop.quiet Ybaf.pinned.checked.prog os := by
  intro k hk
  rw [stopKnobs] at hk
  cases hk
def nm5 : String := Rows.lawS3161CHelloRow.named.getD 3 "none"
theorem g3 : Ybaf.prog.globalNamed "io.EOF" = some 3 := by kernel_rfl
theorem g4 : Ybaf.prog.globalNamed "io.ErrUnexpectedEOF" = some 4 := by kernel_rfl
theorem g5 : Ybaf.prog.globalNamed nm5 = some 5 := by kernel_rfl
theorem g3Type : (Ybaf.prog.globals[3]?).map (·.type) = some 34 := by kernel_rfl
theorem g4Type : (Ybaf.prog.globals[4]?).map (·.type) = some 34 := by kernel_rfl
theorem g5Type : (Ybaf.prog.globals[5]?).map (·.type) = some 34 := by kernel_rfl
theorem cells65 : Ybaf.prog.cellsOf 65 = 1 := by kernel_rfl
theorem cells9 : Ybaf.prog.cellsOf 9 = 1 := by kernel_rfl
theorem cells5 : Ybaf.prog.cellsOf 5 = 1 := by kernel_rfl
theorem cells23 : Ybaf.prog.cellsOf 23 = 1 := by kernel_rfl
theorem cells25 : Ybaf.prog.cellsOf 25 = 9 := by kernel_rfl
theorem types25 : Ybaf.prog.cellTypes Ybaf.prog.depth 25 = some [5, 5, 5, 22, 5, 5, 9, 9, 23] := by kernel_rfl
theorem row63 (u : TypeId) (h : Ybaf.prog.typeName? 3 u = some nmE) : u = 63 := by
  have e : ∀ x : String, x ++ "errors.errorString" = nmE → ((List.range Ybaf.prog.types.size).all fun u => Ybaf.prog.typeName? 3 u != some (x ++ "errors.errorString") || u == 63) = true := by
    intro x hx
    rw [hx]; kernel_rfl
  exact typeName_ptr_named (nm := "errors.errorString") (tp := 63) (e _ (by decide +kernel)) (by kernel_rfl) (by decide +kernel) u (h.trans (congrArg some (by decide +kernel)))

theorem array9 {α : Type} {cs : Array α} (h : cs.size = 9) : ∃ c0 c1 c2 c3 c4 c5 c6 c7 c8, cs = #[c0, c1, c2, c3, c4, c5, c6, c7, c8] := by
  obtain ⟨l⟩ := cs
  match l, h with
  | [c0, c1, c2, c3, c4, c5, c6, c7, c8], _ => exact ⟨c0, c1, c2, c3, c4, c5, c6, c7, c8, rfl⟩
theorem cell_u8 {W : World} {base : Nat} {v : Value} (h : Cell.okWide Ybaf.prog W .any base 5 v) : ∃ n : Int, v = .int .u8 n ∧ 0 ≤ n ∧ n < 256 := by
  simp only [Cell.okWide, Ybaf.underlying5] at h
  cases v <;> simp [Cell.ok, Ybaf.underlying5] at h
  obtain ⟨rfl, h⟩ := h
  simp [IntKind.has, IntKind.min, IntKind.max, IntKind.signed, IntKind.bits] at h
  exact ⟨_, rfl, by omega, by omega⟩
theorem cell_u16 {W : World} {base : Nat} {v : Value} (h : Cell.okWide Ybaf.prog W .any base 22 v) : ∃ n : Int, v = .int .u16 n ∧ 0 ≤ n ∧ n < 65536 := by
  simp only [Cell.okWide, Ybaf.underlying22] at h
  cases v <;> simp [Cell.ok, Ybaf.underlying22] at h
  obtain ⟨rfl, h⟩ := h
  simp [IntKind.has, IntKind.min, IntKind.max, IntKind.signed, IntKind.bits] at h
  exact ⟨_, rfl, by omega, by omega⟩
theorem cell_string {W : World} {base : Nat} {v : Value} (h : Cell.okWide Ybaf.prog W .any base 9 v) : ∃ s : ByteArray, v = .string s ∧ s.size ≤ 9223372036854775807 := by
  simp only [Cell.okWide, Ybaf.underlying9] at h
  cases v <;> simp [Cell.ok, Ybaf.underlying9] at h
  exact ⟨_, rfl, by omega⟩
theorem open_law {H : Type} {enc : TypeId × Value → H} {W : World} {base : Nat} {v : Value} {d : DataW H} {p : List MemPlace} (hv : Value.okWide Ybaf.prog W .any base 25 v) (h : DataW.Trod enc Ybaf.prog W 0 (fun _ => true) true 25 v d p) :
    ∃ (m0 pos fl cut st sz : Int) (T D : ByteArray) (ad : Option Addr) (len cap : Nat) (tl : Bytes), v = .agg (pA m0 pos fl cut st sz T D ad len cap) ∧
      (0 ≤ m0 ∧ m0 < 256) ∧ (0 ≤ pos ∧ pos < 256) ∧ (0 ≤ fl ∧ fl < 256) ∧ (0 ≤ cut ∧ cut < 65536) ∧ (0 ≤ st ∧ st < 256) ∧ (0 ≤ sz ∧ sz < 256) ∧
      T.size ≤ 9223372036854775807 ∧ D.size ≤ 9223372036854775807 ∧ len ≤ 9223372036854775807 ∧ TL W ad len cap tl := by
  simp only [Value.okWide, Ybaf.underlying25] at hv
  obtain ⟨cs, rfl, hsz, ts, hts, _, hr⟩ := hv
  rw [types25] at hts; cases hts
  obtain ⟨c0, c1, c2, c3, c4, c5, c6, c7, c8, rfl⟩ := array9 (hsz.trans cells25)
  have get : ∀ (i : Nat) (v : Value) (u : TypeId), #[c0, c1, c2, c3, c4, c5, c6, c7, c8][i]? = some v → [5, 5, 5, 22, 5, 5, 9, 9, 23][i % 9]? = some u → Cell.okWide Ybaf.prog W .any base u v := by
    intro i v u hv hu
    obtain ⟨u', hu', hc⟩ := hr i v hv
    have e : some u' = some u := hu'.symm.trans hu
    cases e; exact hc
  obtain ⟨m0, rfl, b0⟩ := cell_u8 (get 0 c0 5 rfl rfl)
  obtain ⟨pos, rfl, b1⟩ := cell_u8 (get 1 c1 5 rfl rfl)
  obtain ⟨fl, rfl, b2⟩ := cell_u8 (get 2 c2 5 rfl rfl)
  obtain ⟨cut, rfl, b3⟩ := cell_u16 (get 3 c3 22 rfl rfl)
  obtain ⟨st, rfl, b4⟩ := cell_u8 (get 4 c4 5 rfl rfl)
  obtain ⟨sz, rfl, b5⟩ := cell_u8 (get 5 c5 5 rfl rfl)
  obtain ⟨T, rfl, hT⟩ := cell_string (get 6 c6 9 rfl rfl)
  obtain ⟨D, rfl, hD⟩ := cell_string (get 7 c7 9 rfl rfl)
  obtain ⟨fuel, hf⟩ := h
  obtain ⟨xs, n, _, _, _, hxl, hx⟩ := DataW.trod_struct Ybaf.underlying25 hf
  have h8 := hx 8 _ rfl
  obtain ⟨x8, hx8⟩ : ∃ x, xs[8]? = some x := ⟨_, List.getElem?_eq_getElem (by rw [hxl]; decide)⟩
  rw [hx8] at h8
  have h8' : DataW.trod enc Ybaf.prog W 0 (fun _ => true) true n 23 [c8] = some x8 := by
    rw [← h8]; congr 1
  rcases open_ints Ybaf.underlying23 Ybaf.underlying5 cells5 h8' with ⟨hcs, _⟩ | ⟨a, len, cap, zs, hcs, _, hl, hm, hz, hx', hcell, hwz⟩
  · obtain rfl : c8 = .slice none 0 0 := by simpa using hcs
    exact ⟨m0, pos, fl, cut, st, sz, T, D, none, 0, 0, [], rfl, b0, b1, b2, b3, b4, b5, hT, hD, by omega, rfl, Or.inl ⟨rfl, rfl, rfl⟩⟩
  · obtain rfl : c8 = .slice (some a) len cap := by simpa using hcs
    simp only [if_true] at hz
    refine ⟨m0, pos, fl, cut, st, sz, T, D, some a, len, cap, (zs.take len).map fun n => UInt8.ofNat n.toNat, rfl, b0, b1, b2, b3, b4, b5, hT, hD, by unfold maxLen at hm; omega, by simp; omega, Or.inr ⟨a, rfl, fun j u hu => ?_⟩⟩
    simp only [byteCells, List.map_map, List.getElem?_map] at hu
    obtain ⟨q, hq, rfl⟩ := Option.map_eq_some_iff.1 hu
    have hj : j < len := by have := (List.getElem?_eq_some_iff.1 hq).1; simp at this; omega
    rw [List.getElem?_take_of_lt hj] at hq
    have hb := range_u8 hwz j
    have e : zs.getD j 0 = q := by rw [List.getD_eq_getElem?_getD, hq]; rfl
    rw [hcell j (by omega), e]
    rw [hq, Option.getD_some] at hb
    simp only [Function.comp, UInt8.toNat_ofNat']
    congr 2
    omega

set_option maxRecDepth 100000 in
set_option maxHeartbeats 1000000 in
theorem law_long0 (m0 pos fl cut st sz : Int) (T D : ByteArray) (ad : Option Addr) (len cap : Nat) (w : World) (hm : T.size ≤ 9223372036854775807) (h : 65536 < T.size) :
    Calls Ybaf.prog 3 #[.agg (pA m0 pos fl cut st sz T D ad len cap)] w fun e w' => e = .returned (.bool true) ∧ Below w.heap.size w w' := by
  go_enter Ybaf.func3, Ybaf.ntmps3
  unfold pA
  go_wp2
  go_ret
  exact ⟨rfl, (Below.refl _ _).alloc (Nat.le_refl _) _⟩
set_option maxRecDepth 100000 in
set_option maxHeartbeats 1000000 in
theorem law_long1 (m0 pos fl cut st sz : Int) (T D : ByteArray) (ad : Option Addr) (len cap : Nat) (w : World) (hm0 : T.size ≤ 65536) (hm : D.size ≤ 9223372036854775807) (h : 65536 < D.size) :
    Calls Ybaf.prog 3 #[.agg (pA m0 pos fl cut st sz T D ad len cap)] w fun e w' => e = .returned (.bool true) ∧ Below w.heap.size w w' := by
  go_enter Ybaf.func3, Ybaf.ntmps3
  unfold pA
  go_wp2
  go_ret
  exact ⟨rfl, (Below.refl _ _).alloc (Nat.le_refl _) _⟩
set_option maxRecDepth 100000 in
set_option maxHeartbeats 1000000 in
theorem law_long2 (m0 pos fl cut st sz : Int) (T D : ByteArray) (ad : Option Addr) (len cap : Nat) (w : World) (hm0 : T.size ≤ 65536) (hm1 : D.size ≤ 65536) (hm : len ≤ 9223372036854775807) (h : 65536 < len) :
    Calls Ybaf.prog 3 #[.agg (pA m0 pos fl cut st sz T D ad len cap)] w fun e w' => e = .returned (.bool true) ∧ Below w.heap.size w w' := by
  go_enter Ybaf.func3, Ybaf.ntmps3
  unfold pA
  go_wp2
  go_ret
  exact ⟨rfl, (Below.refl _ _).alloc (Nat.le_refl _) _⟩
end Go.Proofs.YbulkbmlcFmt
