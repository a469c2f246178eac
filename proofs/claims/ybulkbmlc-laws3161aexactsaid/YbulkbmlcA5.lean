/-
  LawS3161AExact: the row.
-/
import Derived.Test.YbulkbmlcA4
import Derived.ProofKit
import Derived.OpenShut
import Derived.ChangeOld
namespace Go.Proofs.Ybulkbmlc.lawS3161AExact
open Go.ChangeShapes Go.WideShapes Go.ChangeAt Go.RowKit

theorem own : ownKnob Yba.prog.godebug = none := by kernel_rfl
theorem laidOut : laidOutB Yba.prog = true := by kernel_rfl
theorem cells24 : Yba.prog.cellsOf 24 = 9 := by kernel_rfl
theorem types24 : Yba.prog.cellTypes Yba.prog.depth 24 = some [22, 5, 5, 5, 5, 5, 4, 4, 4] := by kernel_rfl

theorem array9 {α : Type} {cs : Array α} (h : cs.size = 9) : ∃ c0 c1 c2 c3 c4 c5 c6 c7 c8, cs = #[c0, c1, c2, c3, c4, c5, c6, c7, c8] := by
  obtain ⟨l⟩ := cs
  match l, h with
  | [c0, c1, c2, c3, c4, c5, c6, c7, c8], _ => exact ⟨c0, c1, c2, c3, c4, c5, c6, c7, c8, rfl⟩

theorem cell_u8 {W : World} {base : Nat} {v : Value} (h : Cell.okWide Yba.prog W .any base 5 v) : ∃ n : Int, v = .int .u8 n ∧ 0 ≤ n ∧ n ≤ 255 := by
  simp only [Cell.okWide, Yba.underlying5] at h
  cases v <;> simp [Cell.ok, Yba.underlying5] at h
  obtain ⟨rfl, h⟩ := h
  simp [IntKind.has, IntKind.min, IntKind.max, IntKind.signed, IntKind.bits] at h
  exact ⟨_, rfl, by omega, by omega⟩
theorem cell_u16 {W : World} {base : Nat} {v : Value} (h : Cell.okWide Yba.prog W .any base 22 v) : ∃ n : Int, v = .int .u16 n ∧ 0 ≤ n ∧ n ≤ 65535 := by
  simp only [Cell.okWide, Yba.underlying22] at h
  cases v <;> simp [Cell.ok, Yba.underlying22] at h
  obtain ⟨rfl, h⟩ := h
  simp [IntKind.has, IntKind.min, IntKind.max, IntKind.signed, IntKind.bits] at h
  exact ⟨_, rfl, by omega, by omega⟩
theorem cell_bool {W : World} {base : Nat} {v : Value} (h : Cell.okWide Yba.prog W .any base 4 v) : ∃ b : Bool, v = .bool b := by
  simp only [Cell.okWide, Yba.underlying4] at h
  cases v <;> simp [Cell.ok, Yba.underlying4] at h
  exact ⟨_, rfl⟩

theorem open_stamp {W : World} {base : Nat} {v : Value} (h : Value.okWide Yba.prog W .any base 24 v) :
    ∃ (Y M D H I S : Int) (Wd Sx Z : Bool), v = .agg #[.int .u16 Y, .int .u8 M, .int .u8 D, .int .u8 H, .int .u8 I, .int .u8 S, .bool Wd, .bool Sx, .bool Z] ∧
      (0 ≤ Y ∧ Y ≤ 65535) ∧ (0 ≤ M ∧ M ≤ 255) ∧ (0 ≤ D ∧ D ≤ 255) ∧ (0 ≤ H ∧ H ≤ 255) ∧ (0 ≤ I ∧ I ≤ 255) ∧ (0 ≤ S ∧ S ≤ 255) := by
  simp only [Value.okWide, Yba.underlying24] at h
  obtain ⟨cs, rfl, hsz, ts, hts, _, hr⟩ := h
  rw [types24] at hts; cases hts
  obtain ⟨c0, c1, c2, c3, c4, c5, c6, c7, c8, rfl⟩ := array9 (hsz.trans cells24)
  have get : ∀ (i : Nat) (v : Value) (u : TypeId), #[c0, c1, c2, c3, c4, c5, c6, c7, c8][i]? = some v → [22, 5, 5, 5, 5, 5, 4, 4, 4][i % 9]? = some u → Cell.okWide Yba.prog W .any base u v := by
    intro i v u hv hu
    obtain ⟨u', hu', hc⟩ := hr i v hv
    have e : some u' = some u := hu'.symm.trans hu
    cases e; exact hc
  obtain ⟨Y, rfl, hY⟩ := cell_u16 (get 0 c0 22 rfl rfl)
  obtain ⟨M, rfl, hM⟩ := cell_u8 (get 1 c1 5 rfl rfl)
  obtain ⟨D, rfl, hD⟩ := cell_u8 (get 2 c2 5 rfl rfl)
  obtain ⟨H, rfl, hH⟩ := cell_u8 (get 3 c3 5 rfl rfl)
  obtain ⟨I, rfl, hI⟩ := cell_u8 (get 4 c4 5 rfl rfl)
  obtain ⟨S, rfl, hS⟩ := cell_u8 (get 5 c5 5 rfl rfl)
  obtain ⟨Wd, rfl⟩ := cell_bool (get 6 c6 4 rfl rfl)
  obtain ⟨Sx, rfl⟩ := cell_bool (get 7 c7 4 rfl rfl)
  obtain ⟨Z, rfl⟩ := cell_bool (get 8 c8 4 rfl rfl)
  exact ⟨Y, M, D, H, I, S, Wd, Sx, Z, rfl, hY, hM, hD, hH, hI, hS⟩

set_option maxRecDepth 100000 in
theorem lifted (os : Os) (started : os.Started) (H : Type) (enc : TypeId × Value → H) :
    ReturnsInHanded {} Yba.checked os 3 .any (Rows.lawS3161AExactSpec.pre6 enc Yba.prog Yba.f3 Rows.lawS3161AExactRow.domain false) (Rows.lawS3161AExactSpec.post enc Yba.prog Yba.f3 false true false false) := by
  refine returnsInHanded_of_change (C := Yba.checked) own started (by kernel_rfl) Yba.func3
    (ChangeSpec.witness6 (enc := enc) (C := Yba.checked) false ⟨#[], #[.agg #[.int .u16 0, .int .u8 0, .int .u8 0, .int .u8 0, .int .u8 0, .int .u8 0, .bool false, .bool false, .bool false]], []⟩ 8 (by kernel_rfl) (by kernel_rfl) (by kernel_rfl) (by kernel_rfl)) ?_
  intro W base args ds gs before hval0 hW hcnd _
  have hval : ∀ (j : Nat) t v, Yba.f3.params[j]? = some t → args[j]? = some v → Value.okWide Yba.prog W .any base t v := hval0
  have hW' := hW
  obtain ⟨p, q, hA0, hV, rfl, hfz, hnd⟩ := hW
  have hA : DataW.TrodAll enc Yba.prog W 0 (fun _ => true) true Yba.f3.params.toList args.toList ds p := hA0
  rw [Yba.params3] at hA hval
  obtain ⟨v0, vs0, d0, ds0, p0, q0, hargs, rfl, rfl, h0, r0⟩ := trodAll_cons hA
  obtain ⟨rfl, rfl, rfl⟩ := trodAll_nil r0
  obtain rfl : args = #[v0] := by cases args; simp_all
  obtain ⟨rfl, rfl⟩ := trodVars_none hV
  have lt0 : ∀ x ∈ p0, x.block < W.heap.size := by obtain ⟨m, hm⟩ := h0; exact DataW.trod_lt m _ _ _ hm
  obtain ⟨Y, M, D, Hh, I, S, Wd, Sx, Z, rfl, hY, hM, hD, hH, hI, hS⟩ := open_stamp (hval 0 24 v0 rfl rfl)
  clear hA0 hval0
  refine (law_walk Y M D Hh I S Wd Sx Z W hY.1 hY.2 hM.1 hM.2 hD.1 hD.2 hH.1 hH.2 hI.1 hI.2 hS.1 hS.2).mono fun e W' ⟨he, bel⟩ => ?_
  subst he
  exact ⟨_, rfl, _, _, _, [], _, [], hW', trodAll_mk1 (shut_bool Yba.underlying4 _), (trodAll_cons_mk (Below.trod laidOut (by kernel_rfl) (of_decide_eq_true (by kernel_rfl)) h0 bel lt0) trodAll_mk0), rfl, bel.frame _, fun h => by cases h⟩

theorem over : Rows.lawS3161AExactRow.holds Yba.pinned (OpenSpec.ofChange Rows.lawS3161AExactSpec) :=
  OpenClaim.holds_of_wide 3 Yba.f3 rfl rfl rfl rfl rfl rfl rfl ⟨rfl, rfl, rfl, rfl, rfl⟩ rfl rfl rfl rfl rfl (by kernel_rfl) Yba.func3 (by kernel_rfl)
    (of_decide_eq_true (by kernel_rfl)) (by unfold Func.isWrapper; first | (rw [if_pos (by decide +kernel)]; kernel_rfl) | (rw [if_neg (by decide +kernel)]; exact ⟨rfl, rfl⟩))
    (fun os started H enc _ => lifted os started H enc)

/-- THE STATEMENT -/
theorem proved : Rows.LawS3161AExactSaid := over
#print axioms proved
end Go.Proofs.Ybulkbmlc.lawS3161AExact
