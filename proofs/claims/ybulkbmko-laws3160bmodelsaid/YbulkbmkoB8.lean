/-
  LawS3160BModel: the row.
-/
import Derived.Test.YbulkbmkoB7
import Derived.ProofKit
import Derived.OpenShut
import Derived.ChangeOld
import Derived.Deep.Slices
import Derived.WalkSmall
import Derived.SizedLaws
namespace Go.Proofs.Ybulkbmko.lawS3160BModel
open Go.ChangeShapes Go.WideShapes Go.ChangeAt Go.RowKit Go.Proofs.Ybulkbmko
set_option linter.unusedVariables false

theorem own : ownKnob Yba.prog.godebug = none := by kernel_rfl
theorem laidOut : laidOutB Yba.prog = true := by kernel_rfl
theorem cells25 : Yba.prog.cellsOf 25 = 5 := by kernel_rfl
theorem cells23 : Yba.prog.cellsOf 23 = 1 := by kernel_rfl
theorem cells5 : Yba.prog.cellsOf 5 = 1 := by kernel_rfl
theorem cells4 : Yba.prog.cellsOf 4 = 1 := by kernel_rfl
theorem bytes5 : Yba.prog.bytesOf 5 = 1 := by kernel_rfl

theorem wf_u8 {n : Int} (h : (Lit.int .u8 n).wf = true) : ∃ x : B, n = (x.val : Int) := by
  simp [Lit.wf, IntKind.min, IntKind.max, IntKind.signed, IntKind.bits] at h
  exact ⟨⟨n.toNat, by omega⟩, by simp; omega⟩
theorem weightsAll_mem {H : Type} {P : Program} {e : TypeId} {d : DataW H} : ∀ {ds : List (DataW H)}, d ∈ ds → ∀ n ∈ d.weights P e, n ∈ DataW.weightsAll P e ds
  | x :: ds, hd, n, hn => by
    simp only [DataW.weightsAll, List.mem_append]
    rcases List.mem_cons.1 hd with rfl | h
    · exact Or.inl hn
    · exact Or.inr (weightsAll_mem h n hn)

section
variable {H : Type} {enc : TypeId × Value → H} {w : World} {base : Nat} {spare : Nat → Bool} {held : Bool}
set_option maxRecDepth 100000 in
theorem open_mem {fuel : Nat} {v : Value} {x : DataW H × List MemPlace} (h : DataW.trod enc Yba.prog w base spare held fuel 23 [v] = some x) :
    ∃ ad cap, ∃ ms : List B, v = .slice ad ms.length cap ∧ MB w ad ms ∧ (ms = [] ∨ ∃ n ∈ x.1.weights Yba.prog 23, ms.length ≤ n) := by
  rcases Deep.open_slice1 Yba.underlying23 cells5 h with ⟨hcs, _⟩ | ⟨a, len, cap, m, n, V, D, Pl, hcs, hb, hl, hm, hmm, rfl, hx⟩
  · cases hcs
    exact ⟨none, 0, [], rfl, Or.inl rfl, Or.inl rfl⟩
  · cases hcs
    have hlm : len ≤ m := by rw [hmm]; split <;> omega
    have each : ∀ i, i < len → ∃ y : B, w.cell? (a.add i) = some (.int .u8 (y.val : Int)) := by
      intro i hi
      obtain ⟨h1, h2⟩ := hx i (by omega)
      obtain ⟨c, e0, _, w0⟩ := DataW.trod_int Yba.underlying5 h2
      obtain ⟨y, rfl⟩ := wf_u8 w0
      simp at e0
      exact ⟨y, by rw [h1, e0]⟩
    obtain ⟨f, hq⟩ := Deep.choose_lt each
    refine ⟨some a, cap, (List.range len).map f, by simp, ?_, Or.inr ⟨(len + (m - len)) * Yba.prog.bytesOf 5, ?_, ?_⟩⟩
    · by_cases h0 : len = 0
      · left; rw [h0]; rfl
      · right
        obtain ⟨b, off, spot⟩ := a
        have hspot : spot = none := by simpa [Addr.add] using World.cell?_spot (hq 0 (by omega))
        subst hspot
        refine ⟨b, off, rfl, fun j hj => ?_⟩
        have hj' : j < len := by simpa using hj
        have := hq j hj'
        rw [Addr.add_mid] at this
        simpa using this
    · simp [DataW.weights, Yba.underlying23]
    · rw [bytes5]; simp

set_option maxRecDepth 100000 in
theorem open_link {fuel : Nat} {cs : List Value} {x : DataW H × List MemPlace} (h : DataW.trod enc Yba.prog w base spare held fuel 25 cs = some x) :
    ∃ z : Zl, cs = [.int .u8 (z.id.val : Int), .bool z.told, .bool z.parent, .bool z.same, .slice z.ad z.ms.length z.cap] ∧ MB w z.ad z.ms ∧ (z.ms = [] ∨ ∃ n ∈ x.1.weights Yba.prog 25, z.ms.length ≤ n) := by
  obtain ⟨xs, k, _, hxe, hcl, hxl, hf⟩ := DataW.trod_struct Yba.underlying25 h
  rw [cells25] at hcl
  match xs, hxl, cs, hcl with
  | [y0, y1, y2, y3, y4], _, [v0, v1, v2, v3, v4], _ =>
    have g0 := hf 0 _ rfl
    have g1 := hf 1 _ rfl
    have g2 := hf 2 _ rfl
    have g3 := hf 3 _ rfl
    have g4 := hf 4 _ rfl
    simp [cells5, cells4, cells23] at g0 g1 g2 g3 g4
    obtain ⟨c, e0, _, w0⟩ := DataW.trod_int Yba.underlying5 g0
    obtain ⟨b1, e1, _⟩ := DataW.trod_bool Yba.underlying4 g1
    obtain ⟨b2, e2, _⟩ := DataW.trod_bool Yba.underlying4 g2
    obtain ⟨b3, e3, _⟩ := DataW.trod_bool Yba.underlying4 g3
    obtain ⟨ad, cap, ms, e4, hmb, hw⟩ := open_mem g4
    obtain ⟨i, rfl⟩ := wf_u8 w0
    cases e0; cases e1; cases e2; cases e3; subst e4
    refine ⟨⟨i, b1, b2, b3, ms, ad, cap⟩, rfl, hmb, ?_⟩
    rcases hw with h0 | ⟨n, hn, hle⟩
    · exact Or.inl h0
    · refine Or.inr ⟨n, ?_, hle⟩
      rw [hxe]
      simp only [DataW.weights, Yba.underlying25, List.map_cons, List.map_nil]
      simp [DataW.weightsEach]
      simp [hn]

set_option maxRecDepth 100000 in
theorem open_ls {b0 : Nat} {v : Value} {d : DataW H} {p : List MemPlace} (hv : Value.okWide Yba.prog w .any b0 22 v)
    (h : DataW.Trod enc Yba.prog w base spare held 22 v d p) (hwt : ∀ n ∈ d.weights Yba.prog 22, n ≤ reachBytes) : ∃ ad len cap Z, v = .slice ad len cap ∧ LS w ad len Z ∧ len ≤ 9223372036854775807 := by
  obtain ⟨ad, len, cap, rfl⟩ := okWide_slice Yba.underlying22 hv
  obtain ⟨fuel, hf⟩ := h
  rcases Deep.open_slice Yba.underlying22 hf with ⟨hcs, _⟩ | ⟨a, l, c, m, n, D, Pl, hcs, hb, hl, hm, hmm, hx, hel⟩
  · simp [Value.cells] at hcs
    obtain ⟨rfl, rfl, rfl⟩ := hcs
    exact ⟨none, 0, 0, [], rfl, ⟨rfl, fun j hj => (by cases hj), Or.inl rfl⟩, by omega⟩
  · simp [Value.cells] at hcs
    obtain ⟨rfl, rfl, rfl⟩ := hcs
    have hlm : len ≤ m := by rw [hmm]; split <;> omega
    have hd : d = .slice ((List.range len).map D) ((List.range (m - len)).map fun j => D (len + j)) := congrArg Prod.fst hx
    have each : ∀ i, i < len → ∃ z : Zl, (w.cell? (a.add (i * 5)) = some (.int .u8 (z.id.val : Int)) ∧ w.cell? (a.add (i * 5 + 1)) = some (.bool z.told) ∧ w.cell? (a.add (i * 5 + 2)) = some (.bool z.parent) ∧ w.cell? (a.add (i * 5 + 3)) = some (.bool z.same) ∧ w.cell? (a.add (i * 5 + 4)) = some (.slice z.ad z.ms.length z.cap)) ∧ MB w z.ad z.ms ∧ z.ms.length ≤ 140737488351232 := by
      intro i hi
      obtain ⟨cs', h1, h2⟩ := hel i (by omega)
      rw [cells25] at h1
      obtain ⟨_, hlen, hcell⟩ := World.cells?_some h1
      obtain ⟨z, rfl, hmb, hw⟩ := open_link h2
      have e0 := hcell 0 (by omega)
      have e1 := hcell 1 (by omega)
      have e2 := hcell 2 (by omega)
      have e3 := hcell 3 (by omega)
      have e4 := hcell 4 (by omega)
      rw [Deep.add_add] at e0 e1 e2 e3 e4
      refine ⟨z, ⟨by simpa using e0, by simpa using e1, by simpa using e2, by simpa using e3, by simpa using e4⟩, hmb, ?_⟩
      rcases hw with h0 | ⟨n', hn, hle⟩
      · rw [h0]; simp
      · have : n' ≤ reachBytes := hwt n' (by
          rw [hd]
          simp only [DataW.weights, Yba.underlying22, List.mem_cons, List.mem_append]
          exact Or.inr (Or.inl (weightsAll_mem (List.mem_map.2 ⟨i, by simpa using hi, rfl⟩) _ hn)))
        simp only [reachBytes] at this; omega
    haveI : Inhabited Zl := ⟨⟨0, false, false, false, [], none, 0⟩⟩
    obtain ⟨f, hq⟩ := Deep.choose_lt each
    refine ⟨some a, len, cap, (List.range len).map f, rfl, ⟨by simp, fun j hj => ?_, ?_⟩, by unfold maxLen at hm; omega⟩
    · have hj' : j < len := by simpa using hj
      have := hq j hj'
      simp only [List.getElem_map, List.getElem_range]
      exact ⟨this.2.2, this.2.1⟩
    · by_cases h0 : len = 0
      · exact Or.inl h0
      · right
        obtain ⟨b, off, spot⟩ := a
        have hspot : spot = none := by simpa [Addr.add] using World.cell?_spot (hq 0 (by omega)).1.1
        subst hspot
        refine ⟨b, off, rfl, fun j hj => ?_⟩
        have hj' : j < len := by simpa using hj
        obtain ⟨⟨c0, c1, c2, c3, c4⟩, _⟩ := hq j hj'
        rw [Addr.add_mid] at c0 c1 c2 c3 c4
        simp only [List.getElem_map, List.getElem_range]
        exact ⟨c0, c1, c2, c3, c4⟩
end

set_option maxRecDepth 100000 in
set_option maxHeartbeats 1000000 in
theorem law_long (least : B) (ad : Option Addr) (len cap : Nat) (w : World) (h : 512 < len) (hm : len ≤ 9223372036854775807) :
    Calls Yba.prog 3 #[.int .u8 (least.val : Int), .slice ad len cap] w fun e w' => e = .returned (.bool true) ∧ RowKit.Below w.heap.size w w' := by
  go_enter Yba.func3, Yba.ntmps3
  go_wp2
  go_ret
  exact ⟨rfl, Below.refl _ _⟩

theorem law_all (least : B) (ad : Option Addr) (len cap : Nat) (Z : List Zl) (w : World) (hZ : LS w ad len Z) (hm : len ≤ 9223372036854775807) :
    Calls Yba.prog 3 #[.int .u8 (least.val : Int), .slice ad len cap] w fun e w' => e = .returned (.bool true) ∧ RowKit.Below w.heap.size w w' := by
  by_cases hl : len ≤ 512
  · exact law_walk least ad len cap Z w hZ hl
  · exact law_long least ad len cap w (by omega) hm

set_option maxRecDepth 100000 in
theorem lifted (os : Os) (started : os.Started) (H : Type) (enc : TypeId × Value → H) :
    ReturnsInHanded {} Yba.checked os 3 .any (Rows.lawS3160BModelSpec.pre6 enc Yba.prog Yba.f3 Rows.lawS3160BModelRow.domain false) (Rows.lawS3160BModelSpec.post enc Yba.prog Yba.f3 false true false false) := by
  refine returnsInHanded_of_change_sized (C := Yba.checked) own started (by kernel_rfl) Yba.func3
    (ChangeSpec.witness6 (enc := enc) (C := Yba.checked) false ⟨#[], #[.int .u8 0, .slice none 0 0], []⟩ 8 (by kernel_rfl) (by kernel_rfl) (by kernel_rfl) (by kernel_rfl)) ?_
  intro W base args ds gs before hval0 hW hcnd hsz0 _
  have hval : ∀ (j : Nat) t v, Yba.f3.params[j]? = some t → args[j]? = some v → Value.okWide Yba.prog W .any base t v := hval0
  have hsz : (DataW.weightsEach Yba.prog (Yba.f3.params.toList ++ Rows.lawS3160BModelSpec.plain.varTypes Yba.prog) (ds ++ gs)).all (· ≤ reachBytes) = true := hsz0
  have hW' := hW
  obtain ⟨p, q, hA0, hV, rfl, hfz, hnd⟩ := hW
  have hA : DataW.TrodAll enc Yba.prog W 0 (fun _ => true) true Yba.f3.params.toList args.toList ds p := hA0
  rw [Yba.params3] at hA hval hsz
  obtain ⟨v0, vs0, d0, ds0, p0, q0, hargs, rfl, rfl, h0, r0⟩ := trodAll_cons hA
  obtain ⟨v1, vs1, d1, ds1, p1, q1, rfl, rfl, rfl, h1, r1⟩ := trodAll_cons r0
  obtain ⟨rfl, rfl, rfl⟩ := trodAll_nil r1
  obtain rfl : args = #[v0, v1] := by cases args; simp_all
  obtain ⟨rfl, rfl⟩ := trodVars_none hV
  have lt1 : ∀ x ∈ p1, x.block < W.heap.size := by obtain ⟨m, hm⟩ := h1; exact DataW.trod_lt m _ _ _ hm
  obtain ⟨a0, rfl, rfl, rfl, w0⟩ := open_int Yba.underlying5 (hval 0 5 v0 rfl rfl) h0
  have hwt : ∀ n ∈ d1.weights Yba.prog 22, n ≤ reachBytes := fun n hn => of_decide_eq_true (List.all_eq_true.1 hsz n (DataW.weights_mem_each (j := 1) (t := 22) rfl rfl n hn))
  obtain ⟨ad, len, cap, Z, rfl, hZ, hlen⟩ := open_ls (hval 1 22 v1 rfl rfl) h1 hwt
  have w0' := w0
  obtain ⟨x0, rfl⟩ := wf_u8 w0'
  clear hA0 hval0
  refine (law_all x0 ad len cap Z W hZ hlen).mono fun e W' ⟨he, bel⟩ => ?_
  subst he
  exact ⟨_, rfl, _, _, _, [], _, [], hW', trodAll_mk1 (shut_bool Yba.underlying4 _), (trodAll_cons_mk (shut_int Yba.underlying5 w0) (trodAll_cons_mk (Below.trod laidOut (by kernel_rfl) (of_decide_eq_true (by kernel_rfl)) h1 bel lt1) trodAll_mk0)), rfl, bel.frame _, fun h => by cases h⟩

theorem over : Rows.lawS3160BModelRow.holds Yba.pinned (OpenSpec.ofChange Rows.lawS3160BModelSpec) :=
  OpenClaim.holds_of_wide 3 Yba.f3 rfl rfl rfl rfl rfl rfl rfl ⟨rfl, rfl, rfl, rfl, rfl⟩ rfl rfl rfl rfl rfl (by kernel_rfl) Yba.func3 (by kernel_rfl)
    (of_decide_eq_true (by kernel_rfl)) (by unfold Func.isWrapper; first | (rw [if_pos (by decide +kernel)]; kernel_rfl) | (rw [if_neg (by decide +kernel)]; exact ⟨rfl, rfl⟩))
    (fun os started H enc _ => lifted os started H enc)

/-- THE STATEMENT -/
theorem proved : Rows.LawS3160BModelSaid := over
#print axioms proved
end Go.Proofs.Ybulkbmko.lawS3160BModel
