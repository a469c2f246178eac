/-
  LawS3162BLeave: the row.
-/
import Derived.Test.YbulkbmlqM5
import Derived.ProofKit
import Derived.OpenShut
import Derived.ChangeOld
import Derived.Deep.Slices
import Derived.WalkSmall
namespace Go.Proofs.Ybulkbmlq.lawS3162BLeave
open Go.ChangeShapes Go.WideShapes Go.ChangeAt Go.RowKit Go.Proofs.Ybulkbmlq
set_option linter.unusedVariables false

theorem own : ownKnob Yba.prog.godebug = none := by kernel_rfl
theorem laidOut : laidOutB Yba.prog = true := by kernel_rfl
theorem cells25 : Yba.prog.cellsOf 25 = 3 := by kernel_rfl
theorem cells5 : Yba.prog.cellsOf 5 = 1 := by kernel_rfl

theorem wf_u8 {n : Int} (h : (Lit.int .u8 n).wf = true) : 0 ≤ n ∧ n ≤ 255 := by
  simp [Lit.wf, IntKind.min, IntKind.max, IntKind.signed, IntKind.bits] at h; omega

section
variable {H : Type} {enc : TypeId × Value → H} {w : World} {base : Nat} {spare : Nat → Bool} {held : Bool}
set_option maxRecDepth 100000 in
theorem open_three {fuel : Nat} {cs : List Value} {x : DataW H × List MemPlace} (h : DataW.trod enc Yba.prog w base spare held fuel 25 cs = some x) :
    ∃ c g i : Int, cs = [.int .u8 c, .int .u8 g, .int .u8 i] ∧ (0 ≤ c ∧ c ≤ 255) ∧ (0 ≤ g ∧ g ≤ 255) ∧ 0 ≤ i ∧ i ≤ 255 := by
  obtain ⟨xs, k, _, _, hcl, hxl, hf⟩ := DataW.trod_struct Yba.underlying25 h
  rw [cells25] at hcl
  match xs, hxl, cs, hcl with
  | [y0, y1, y2], _, [v0, v1, v2], _ =>
    have g0 := hf 0 _ rfl
    have g1 := hf 1 _ rfl
    have g2 := hf 2 _ rfl
    simp [cells5] at g0 g1 g2
    obtain ⟨c, e0, _, w0⟩ := DataW.trod_int Yba.underlying5 g0
    obtain ⟨g, e1, _, w1⟩ := DataW.trod_int Yba.underlying5 g1
    obtain ⟨i, e2, _, w2⟩ := DataW.trod_int Yba.underlying5 g2
    cases e0; cases e1; cases e2
    exact ⟨c, g, i, rfl, wf_u8 w0, wf_u8 w1, wf_u8 w2⟩

set_option maxRecDepth 100000 in
theorem open_ms {b0 : Nat} {v : Value} {d : DataW H} {p : List MemPlace} (hv : Value.okWide Yba.prog w .any b0 22 v)
    (h : DataW.Trod enc Yba.prog w base spare held 22 v d p) : ∃ ad len cap M, v = .slice ad len cap ∧ MS w ad len M ∧ len ≤ 9223372036854775807 := by
  obtain ⟨ad, len, cap, rfl⟩ := okWide_slice Yba.underlying22 hv
  obtain ⟨fuel, hf⟩ := h
  rcases Deep.open_slice Yba.underlying22 hf with ⟨hcs, _⟩ | ⟨a, l, c, m, n, D, Pl, hcs, hb, hl, hm, hmm, hx, hel⟩
  · simp [Value.cells] at hcs
    obtain ⟨rfl, rfl, rfl⟩ := hcs
    exact ⟨none, 0, 0, [], rfl, ⟨rfl, fun j hj => (by cases hj), Or.inl rfl⟩, by omega⟩
  · simp [Value.cells] at hcs
    obtain ⟨rfl, rfl, rfl⟩ := hcs
    have hlm : len ≤ m := by rw [hmm]; split <;> omega
    have each : ∀ i, i < len → ∃ t : Tr, ((0 ≤ t.c ∧ t.c ≤ 255) ∧ (0 ≤ t.g ∧ t.g ≤ 255) ∧ 0 ≤ t.i ∧ t.i ≤ 255) ∧ w.cell? (a.add (i * 3)) = some (.int .u8 t.c) ∧ w.cell? (a.add (i * 3 + 1)) = some (.int .u8 t.g) ∧ w.cell? (a.add (i * 3 + 2)) = some (.int .u8 t.i) := by
      intro i hi
      obtain ⟨cs', h1, h2⟩ := hel i (by omega)
      rw [cells25] at h1
      obtain ⟨_, hlen, hcell⟩ := World.cells?_some h1
      obtain ⟨cc, gg, ii, rfl, b1, b2, b3⟩ := open_three h2
      have e0 := hcell 0 (by omega)
      have e1 := hcell 1 (by omega)
      have e2 := hcell 2 (by omega)
      rw [Deep.add_add] at e0 e1 e2
      exact ⟨⟨cc, gg, ii⟩, ⟨b1, b2, b3⟩, by simpa using e0, by simpa using e1, by simpa using e2⟩
    haveI : Inhabited Tr := ⟨⟨0, 0, 0⟩⟩
    obtain ⟨f, hq⟩ := Deep.choose_lt each
    refine ⟨some a, len, cap, (List.range len).map f, rfl, ⟨by simp, fun j hj => ?_, ?_⟩, by unfold maxLen at hm; omega⟩
    · have hj' : j < len := by simpa using hj
      simpa using (hq j hj').1
    · by_cases h0 : len = 0
      · exact Or.inl h0
      · right
        obtain ⟨b, off, spot⟩ := a
        have hspot : spot = none := by simpa [Addr.add] using World.cell?_spot (hq 0 (by omega)).2.1
        subst hspot
        refine ⟨b, off, rfl, fun j hj => ?_⟩
        have hj' : j < len := by simpa using hj
        obtain ⟨_, c0, c1, c2⟩ := hq j hj'
        have ad : ∀ k, (Addr.add ⟨b, off, none⟩ k : Addr) = ⟨b, off + k, none⟩ := by
          intro k; unfold Addr.add; split <;> simp_all
        rw [ad] at c0 c1 c2
        simp only [List.getElem_map, List.getElem_range]
        exact ⟨c0, c1, c2⟩
end

set_option maxRecDepth 100000 in
set_option maxHeartbeats 1000000 in
theorem law_long (ad : Option Addr) (len cap : Nat) (lc lg li role : Int) (w : World) (h : 1024 < len) (hm : len ≤ 9223372036854775807) :
    Calls Yba.prog 3 #[.slice ad len cap, .int .u8 lc, .int .u8 lg, .int .u8 li, .int .i64 role] w fun e w' => e = .returned (.bool true) ∧ Below w.heap.size w w' := by
  go_enter Yba.func3, Yba.ntmps3
  go_wp2
  go_ret
  exact ⟨rfl, Below.refl _ _⟩

theorem law_all (ad : Option Addr) (len cap : Nat) (M : List Tr) (lc lg li role : Int) (w : World) (hM : MS w ad len M) (hm : len ≤ 9223372036854775807)
    (c0 : 0 ≤ lc ∧ lc ≤ 255) (g0 : 0 ≤ lg ∧ lg ≤ 255) (i0 : 0 ≤ li ∧ li ≤ 255) :
    Calls Yba.prog 3 #[.slice ad len cap, .int .u8 lc, .int .u8 lg, .int .u8 li, .int .i64 role] w fun e w' => e = .returned (.bool true) ∧ Below w.heap.size w w' := by
  by_cases hl : len ≤ 1024
  · obtain ⟨kl, hkl⟩ := keys_ex
    exact law_walk kl hkl ad len cap M lc lg li role w hM hl c0.1 c0.2 g0.1 g0.2 i0.1 i0.2
  · exact law_long ad len cap lc lg li role w (by omega) hm

set_option maxRecDepth 100000 in
theorem lifted (os : Os) (started : os.Started) (H : Type) (enc : TypeId × Value → H) :
    ReturnsInHanded {} Yba.checked os 3 .any (Rows.lawS3162BLeaveSpec.pre6 enc Yba.prog Yba.f3 Rows.lawS3162BLeaveRow.domain false) (Rows.lawS3162BLeaveSpec.post enc Yba.prog Yba.f3 false true false false) := by
  refine returnsInHanded_of_change (C := Yba.checked) own started (by kernel_rfl) Yba.func3
    (ChangeSpec.witness6 (enc := enc) (C := Yba.checked) false ⟨#[], #[.slice none 0 0, .int .u8 0, .int .u8 0, .int .u8 0, .int .i64 0], []⟩ 8 (by kernel_rfl) (by kernel_rfl) (by kernel_rfl) (by kernel_rfl)) ?_
  intro W base args ds gs before hval0 hW hcnd _
  have hval : ∀ (j : Nat) t v, Yba.f3.params[j]? = some t → args[j]? = some v → Value.okWide Yba.prog W .any base t v := hval0
  have hW' := hW
  obtain ⟨p, q, hA0, hV, rfl, hfz, hnd⟩ := hW
  have hA : DataW.TrodAll enc Yba.prog W 0 (fun _ => true) true Yba.f3.params.toList args.toList ds p := hA0
  rw [Yba.params3] at hA hval
  obtain ⟨v0, vs0, d0, ds0, p0, q0, hargs, rfl, rfl, h0, r0⟩ := trodAll_cons hA
  obtain ⟨v1, vs1, d1, ds1, p1, q1, rfl, rfl, rfl, h1, r1⟩ := trodAll_cons r0
  obtain ⟨v2, vs2, d2, ds2, p2, q2, rfl, rfl, rfl, h2, r2⟩ := trodAll_cons r1
  obtain ⟨v3, vs3, d3, ds3, p3, q3, rfl, rfl, rfl, h3, r3⟩ := trodAll_cons r2
  obtain ⟨v4, vs4, d4, ds4, p4, q4, rfl, rfl, rfl, h4, r4⟩ := trodAll_cons r3
  obtain ⟨rfl, rfl, rfl⟩ := trodAll_nil r4
  obtain rfl : args = #[v0, v1, v2, v3, v4] := by cases args; simp_all
  obtain ⟨rfl, rfl⟩ := trodVars_none hV
  have lt0 : ∀ x ∈ p0, x.block < W.heap.size := by obtain ⟨m, hm⟩ := h0; exact DataW.trod_lt m _ _ _ hm
  obtain ⟨ad, len, cap, M, rfl, hM, hlen⟩ := open_ms (hval 0 22 v0 rfl rfl) h0
  obtain ⟨a1, rfl, rfl, rfl, w1⟩ := open_int Yba.underlying5 (hval 1 5 v1 rfl rfl) h1
  obtain ⟨a2, rfl, rfl, rfl, w2⟩ := open_int Yba.underlying5 (hval 2 5 v2 rfl rfl) h2
  obtain ⟨a3, rfl, rfl, rfl, w3⟩ := open_int Yba.underlying5 (hval 3 5 v3 rfl rfl) h3
  obtain ⟨a4, rfl, rfl, rfl, w4⟩ := open_int Yba.underlying3 (hval 4 3 v4 rfl rfl) h4
  clear hA0 hval0
  refine (law_all ad len cap M a1 a2 a3 a4 W hM hlen (wf_u8 w1) (wf_u8 w2) (wf_u8 w3)).mono fun e W' ⟨he, bel⟩ => ?_
  subst he
  exact ⟨_, rfl, _, _, _, [], _, [], hW', trodAll_mk1 (shut_bool Yba.underlying4 _), (trodAll_cons_mk (Below.trod laidOut (by kernel_rfl) (of_decide_eq_true (by kernel_rfl)) h0 bel lt0) (trodAll_cons_mk (shut_int Yba.underlying5 w1) (trodAll_cons_mk (shut_int Yba.underlying5 w2) (trodAll_cons_mk (shut_int Yba.underlying5 w3) (trodAll_cons_mk (shut_int Yba.underlying3 w4) trodAll_mk0))))), rfl, bel.frame _, fun h => by cases h⟩

theorem over : Rows.lawS3162BLeaveRow.holds Yba.pinned (OpenSpec.ofChange Rows.lawS3162BLeaveSpec) :=
  OpenClaim.holds_of_wide 3 Yba.f3 rfl rfl rfl rfl rfl rfl rfl ⟨rfl, rfl, rfl, rfl, rfl⟩ rfl rfl rfl rfl rfl (by kernel_rfl) Yba.func3 (by kernel_rfl)
    (of_decide_eq_true (by kernel_rfl)) (by unfold Func.isWrapper; first | (rw [if_pos (by decide +kernel)]; kernel_rfl) | (rw [if_neg (by decide +kernel)]; exact ⟨rfl, rfl⟩))
    (fun os started H enc _ => lifted os started H enc)

/-- THE STATEMENT -/
theorem proved : Rows.LawS3162BLeaveSaid := over
#print axioms proved
end Go.Proofs.Ybulkbmlq.lawS3162BLeave
