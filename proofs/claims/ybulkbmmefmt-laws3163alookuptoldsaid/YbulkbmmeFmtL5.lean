/-
  LawS3163ALookup: the row, told and tied.
-/
import Derived.Test.YbulkbmmeFmtL4
import Derived.Test.YbulkbmmeFmtTie
import Derived.Test.YbulkbmmeFmtCards
import Derived.ProofKit
import Derived.OpenShut
import Derived.ChangeOld
import Derived.SizedLaws
import Derived.SliceStrings
import Derived.Stop.JoinedAt
import Derived.Stop.JoinedTold
import Derived.Stop.Texts
import Derived.Stop.LaidErr
import Derived.Stop.LaidTwo
import Derived.SevenTiedAt
import Derived.WalkSmall
namespace Go.Proofs.YbulkbmmeFmt
open Go.ChangeShapes Go.WideShapes Go.ChangeAt Go.RowKit
open Go.Extern.Stop Go.Stop Go.Extern
open Go.ChangeMaps (open_string shut_string)
set_option linter.unusedVariables false

def nm0 : String := Rows.lawS3163ALookupSpec.vars.getD 0 "none"
def nm1 : String := Rows.lawS3163ALookupSpec.vars.getD 1 "none"
theorem own : ownKnob Ybaf.prog.godebug = none := by kernel_rfl
theorem laidOut : laidOutB Ybaf.pinned.checked.prog = true := by kernel_rfl
theorem stops : Ybaf.pinned.checked.prog.stops = ["fmt.errorf"] := by kernel_rfl
theorem stopKnobs : Ybaf.pinned.checked.prog.stopKnobs = [] := by kernel_rfl
theorem quiet (os : Os) : Stop.quiet Ybaf.pinned.checked.prog os := by
  intro k hk
  rw [stopKnobs] at hk
  cases hk
theorem g0 : Ybaf.prog.globalNamed nm0 = some 0 := by kernel_rfl
theorem g1 : Ybaf.prog.globalNamed nm1 = some 1 := by kernel_rfl
theorem g0Type : (Ybaf.prog.globals[0]?).map (·.type) = some 29 := by kernel_rfl
theorem g1Type : (Ybaf.prog.globals[1]?).map (·.type) = some 29 := by kernel_rfl
theorem cells57 : Ybaf.prog.cellsOf 57 = 1 := by kernel_rfl
theorem cells9 : Ybaf.prog.cellsOf 9 = 1 := by kernel_rfl
theorem row55 (u : TypeId) (h : Ybaf.prog.typeName? 3 u = some nmE) : u = 55 := by
  have e : ∀ x : String, x ++ "errors.errorString" = nmE → ((List.range Ybaf.prog.types.size).all fun u => Ybaf.prog.typeName? 3 u != some (x ++ "errors.errorString") || u == 55) = true := by
    intro x hx
    rw [hx]; kernel_rfl
  exact typeName_ptr_named (nm := "errors.errorString") (tp := 55) (e _ (by decide +kernel)) (by kernel_rfl) (by decide +kernel) u (h.trans (congrArg some (by decide +kernel)))

theorem laid_met (os : Os) (args : Array Value) : laidMet Ybaf.prog Rows.lawS3163ALookupRow.laid
    (({ World.holding Ybaf.prog os ⟨#[.cells #[.string ⟨#[114, 101, 102, 117, 115, 101, 100]⟩] 57, .cells #[.string ⟨#[115, 116, 111, 112, 112, 101, 100]⟩] 57], #[], []⟩ with
      heap := ((World.holding Ybaf.prog os ⟨#[.cells #[.string ⟨#[114, 101, 102, 117, 115, 101, 100]⟩] 57, .cells #[.string ⟨#[115, 116, 111, 112, 112, 101, 100]⟩] 57], #[], []⟩).heap.modify 0 fun
        | .cells _ t frozen => .cells #[.iface 55 (.pointer (some ⟨(World.holding Ybaf.prog default ⟨#[], #[], []⟩).heap.size, 0, none⟩))] t frozen
        | o => o).modify 1 fun
        | .cells _ t frozen => .cells #[.iface 55 (.pointer (some ⟨(World.holding Ybaf.prog default ⟨#[], #[], []⟩).heap.size + 1, 0, none⟩))] t frozen
        | o => o }).forCall (fun _ _ => 0) ⟨#[], args, []⟩).memory :=
  laidMet_of_run (ps := [.cell 0 0, .cell (World.holding Ybaf.prog default ⟨#[], #[], []⟩).heap.size 0, .cell 1 0, .cell ((World.holding Ybaf.prog default ⟨#[], #[], []⟩).heap.size + 1) 0]) 8 (by kernel_rfl) (by kernel_rfl) (by kernel_rfl)

theorem ebs_size : ebs.size = 0 := rfl
theorem weightsAll_mem {H : Type} {P : Program} {e : TypeId} {d : DataW H} {n : Nat} (hn : n ∈ d.weights P e) : ∀ {l : List (DataW H)}, d ∈ l → n ∈ DataW.weightsAll P e l
  | [], h => by cases h
  | x :: r, h => by
    simp only [DataW.weightsAll, List.mem_append]
    rcases List.mem_cons.1 h with rfl | h
    · exact Or.inl hn
    · exact Or.inr (weightsAll_mem hn h)

theorem open_ss {H : Type} {enc : TypeId × Value → H} {W : World} {base : Nat} {v : Value} {d : DataW H} {p : List MemPlace} (hv : Value.okWide Ybaf.prog W .any base 22 v)
    (h : DataW.Trod enc Ybaf.prog W 0 (fun _ => true) true 22 v d p) (hz : ∀ n ∈ d.weights Ybaf.prog 22, n ≤ reachBytes) :
    ∃ ad len cap ss, v = .slice ad len cap ∧ SS W ad len ss ∧ len ≤ 9223372036854775807 ∧ ∀ i, (ss.getD i ebs).size ≤ 140737488351232 := by
  obtain ⟨ad, len, cap, rfl⟩ := okWide_slice Ybaf.underlying22 hv
  obtain ⟨fuel, hf⟩ := h
  rcases open_strings Ybaf.underlying22 Ybaf.underlying9 cells9 hf with ⟨hcs, _⟩ | ⟨x, l, c, ss, hcs, _, hl, hm, hlen, hx, hcell, hws⟩
  · simp [Value.cells] at hcs
    obtain ⟨rfl, rfl, rfl⟩ := hcs
    exact ⟨none, 0, 0, [], rfl, ⟨rfl, Or.inl rfl⟩, by omega, fun i => by rw [List.getD_nil, ebs_size]; omega⟩
  · simp [Value.cells] at hcs
    obtain ⟨rfl, rfl, rfl⟩ := hcs
    have hlen' : ss.length = cap := by simpa using hlen
    have hd : d = .slice (strs (ss.take len)) (strs (ss.drop len)) := (Prod.mk.inj hx).1
    refine ⟨some x, len, cap, ss.take len, rfl, ⟨by simp; omega, ?_⟩, by unfold maxLen at hm; omega, fun i => ?_⟩
    · by_cases h0 : len = 0
      · exact Or.inl h0
      · right
        obtain ⟨b, off, spot⟩ := x
        have hc := hcell 0 (by omega)
        have hspot : spot = none := by simpa [Addr.add] using World.cell?_spot hc
        subst hspot
        refine ⟨b, off, rfl, fun i hi => ?_⟩
        have hc := hcell i (by omega)
        have e : (ss.take len).getD i ebs = ss.getD i ByteArray.empty := by
          simp only [List.getD_eq_getElem?_getD, List.getElem?_take_of_lt hi]; rfl
        rw [e, ← hc]
        by_cases hi0 : i = 0
        · subst hi0; simp [Addr.add]
        · simp [Addr.add, hi0]
    · by_cases hi : i < len
      · have hi' : i < (ss.take len).length := by simp; omega
        have hmem : (ss.take len)[i] ∈ ss.take len := List.getElem_mem hi'
        rw [List.getD_eq_getElem?_getD, List.getElem?_eq_getElem hi', Option.getD_some]
        generalize (ss.take len)[i] = s at hmem
        have := hz s.data.toList.length (by
          rw [hd]
          simp only [DataW.weights, Ybaf.underlying22]
          refine List.mem_cons_of_mem _ (List.mem_append_left _ (weightsAll_mem (d := .lit (.string s.data.toList)) (by simp [DataW.weights]) ?_))
          exact List.mem_map_of_mem hmem)
        have e : s.data.toList.length = s.size := by rw [Array.length_toList]; rfl
        rw [e] at this
        exact this
      · rw [List.getD_eq_getElem?_getD, List.getElem?_eq_none (by simp; omega)]
        show ebs.size ≤ _
        rw [ebs_size]; omega

set_option maxHeartbeats 1000000 in
theorem law_long0 (ad0 ad1 : Option Addr) (len0 cap0 len1 cap1 : Nat) (o : ByteArray) (sel : Int) (w : World) (h : 1024 < len0) (hm : len0 ≤ 9223372036854775807) :
    Calls Ybaf.prog 3 #[.slice ad0 len0 cap0, .slice ad1 len1 cap1, .string o, .int .u8 sel] w fun e w' => e = .returned (.bool true) ∧ Below w.heap.size w w' := by
  go_enter Ybaf.func3, Ybaf.ntmps3
  go_wp2
  go_ret
  exact ⟨rfl, Below.refl _ _⟩
set_option maxHeartbeats 1000000 in
theorem law_long1 (ad0 ad1 : Option Addr) (len0 cap0 len1 cap1 : Nat) (o : ByteArray) (sel : Int) (w : World) (h0 : len0 ≤ 1024) (h : 1024 < len1) (hm : len1 ≤ 9223372036854775807) :
    Calls Ybaf.prog 3 #[.slice ad0 len0 cap0, .slice ad1 len1 cap1, .string o, .int .u8 sel] w fun e w' => e = .returned (.bool true) ∧ Below w.heap.size w w' := by
  go_enter Ybaf.func3, Ybaf.ntmps3
  go_wp2
  go_ret
  exact ⟨rfl, Below.refl _ _⟩

set_option maxRecDepth 100000 in
theorem lifted (os : Os) (started : os.Started) (H : Type) (enc : TypeId × Value → H) :
    ReturnsInTold none {} Ybaf.checked os 3 .any Input.okWide ((OpenSpec.ofChange Rows.lawS3163ALookupSpec).preRow enc Ybaf.prog Ybaf.f3 [] false Rows.lawS3163ALookupRow.laid)
      (fun F => ((OpenSpec.ofChange Rows.lawS3163ALookupSpec).at F).post enc Ybaf.prog Ybaf.f3 false true false false) (aloneAtReturn Ybaf.prog) nothingAlways := by
  refine returnsInTold_of_row (C := Ybaf.checked) (s := OpenSpec.ofChange Rows.lawS3163ALookupSpec) (by kernel_rfl) own started (by kernel_rfl) Ybaf.func3
    (OpenSpec.witness_stopped_at (enc := enc) (C := Ybaf.checked) false _ #[.slice none 0 0, .slice none 0 0, .string ⟨#[]⟩, .int .u8 0] rfl (by kernel_rfl) (by kernel_rfl) (by kernel_rfl)
      (OpenSpec.preRow_of_B rfl 8 (by kernel_rfl) (by kernel_rfl) (laid_met os _))) ?_
  intro F W base args ds gs before _ hF hval0 hW _ _ hsz0 hL _
  have hval : ∀ (j : Nat) t v, Ybaf.f3.params[j]? = some t → args[j]? = some v → Value.okWide Ybaf.prog W .any base t v := hval0
  have hW' := hW
  obtain ⟨p, q, hA0, hV0, rfl, hfz, hnd⟩ := hW
  have hA : DataW.TrodAll enc Ybaf.prog W 0 (fun _ => true) true Ybaf.f3.params.toList args.toList ds p := hA0
  have hV : DataW.TrodVars enc Ybaf.prog W (fun _ => true) [nm0, nm1] gs q := hV0
  have hsz : (DataW.weightsEach Ybaf.prog (Ybaf.f3.params.toList ++ (OpenSpec.ofChange Rows.lawS3163ALookupSpec).bare.plain.varTypes Ybaf.prog) (ds ++ gs)).all (· ≤ reachBytes) = true := hsz0
  rw [Ybaf.params3] at hA hval hsz
  obtain ⟨v0, v1, v2, v3, d0, d1, d2, d3, p0, p1, p2, p3, rfl, rfl, rfl, h0, h1, h2, h3⟩ := trodAll_four hA
  obtain ⟨a0, a1, s0, s1, c0, c1, t0, t1, hv0, hv1, hc0, hs0, hz0, hc1, hs1, hz1, hne, hb0, hb1⟩ := laid_sentinels2 (n0 := nm0) (n1 := nm1) (nm := nmE) hL g0 g0Type g1 g1Type Ybaf.underlying29 row55 Ybaf.underlying55 Ybaf.underlying57 rfl rfl Ybaf.underlying9 cells57 cells9
  have vr : ∀ {X : World}, X.var? Ybaf.prog nm0 = some #[.iface 55 (.pointer (some a0))] → X.var? Ybaf.prog nm1 = some #[.iface 55 (.pointer (some a1))] → ∀ sp : Nat → Bool,
      DataW.TrodVars enc Ybaf.prog X sp [nm0, nm1] [tok enc (.iface 55 (.pointer (some a0))), tok enc (.iface 55 (.pointer (some a1)))] [.cell 0 0, .cell 1 0] :=
    fun x0 x1 sp => vars_read2 enc g0 g0Type Ybaf.underlying29 x0 trivial g1 g1Type Ybaf.underlying29 x1 trivial sp
  obtain ⟨rfl, rfl⟩ := hV.unique (vr hv0 hv1 _)
  have hg0 : W.cell? ⟨0, 0, none⟩ = some (.iface 55 (.pointer (some a0))) := by simpa using World.var?_cell g0 hv0 0
  have hg1 : W.cell? ⟨1, 0, none⟩ = some (.iface 55 (.pointer (some a1))) := by simpa using World.var?_cell g1 hv1 0
  have lt0 : ∀ x ∈ p0, x.block < W.heap.size := by obtain ⟨m, hm⟩ := h0; exact DataW.trod_lt m _ _ _ hm
  have lt1 : ∀ x ∈ p1, x.block < W.heap.size := by obtain ⟨m, hm⟩ := h1; exact DataW.trod_lt m _ _ _ hm
  obtain ⟨o, rfl, rfl, rfl, wo⟩ := open_string Ybaf.underlying9 (hval 2 9 v2 rfl rfl) h2
  obtain ⟨sel, rfl, rfl, rfl, w3⟩ := open_int Ybaf.underlying5 (hval 3 5 v3 rfl rfl) h3
  have hw0 : ∀ n ∈ d0.weights Ybaf.prog 22, n ≤ reachBytes := fun n hn => by
    have := List.all_eq_true.1 hsz n (DataW.weights_mem_each (j := 0) (t := 22) (d := d0) rfl rfl n hn)
    simpa using this
  have hw1 : ∀ n ∈ d1.weights Ybaf.prog 22, n ≤ reachBytes := fun n hn => by
    have := List.all_eq_true.1 hsz n (DataW.weights_mem_each (j := 1) (t := 22) (d := d1) rfl rfl n hn)
    simpa using this
  have ho : o.size ≤ 140737488351232 := by
    have := sized_string hsz (j := 2) (t := 9) rfl rfl
    rw [show o.data.toList.length = o.size by rw [Array.length_toList]; rfl] at this
    exact this
  obtain ⟨ad0, len0, cap0, ss, rfl, hS0, hM0, hB0⟩ := open_ss (hval 0 22 v0 rfl rfl) h0 hw0
  obtain ⟨ad1, len1, cap1, cs, rfl, hS1, hM1, hB1⟩ := open_ss (hval 1 22 v1 rfl rfl) h1 hw1
  have hsel : 0 ≤ sel ∧ sel ≤ 255 := by
    simp [Lit.wf, IntKind.min, IntKind.max, IntKind.signed, IntKind.bits] at w3; omega
  have e1 : ((OpenSpec.ofChange Rows.lawS3163ALookupSpec).at F.told).fn H ([d0, d1, .lit (.string o.data.toList), .lit (.int .u8 sel)] ++ [tok enc (.iface 55 (.pointer (some a0))), tok enc (.iface 55 (.pointer (some a1)))]) =
    { results := [.lit (.bool true)], args := [d0, d1, .lit (.string o.data.toList), .lit (.int .u8 sel)], vars := [tok enc (.iface 55 (.pointer (some a0))), tok enc (.iface 55 (.pointer (some a1)))] } := rfl
  have lz0 : 0 < W.heap.size := World.block_lt_of_cell? _ _ hg0
  have lz1 : 1 < W.heap.size := World.block_lt_of_cell? _ _ hg1
  have fin : ∀ (e : Ending) (W' : World), (e = .returned (.bool true) ∧ Below W.heap.size W W') →
      ∃ v, e = .returned v ∧ ((OpenSpec.ofChange Rows.lawS3163ALookupSpec).at F.told).post enc Ybaf.checked.prog Ybaf.f3 false true false false W #[.slice ad0 len0 cap0, .slice ad1 len1 cap1, .string o, .int .u8 sel] v W' := by
    rintro e W' ⟨rfl, bel⟩
    refine ⟨_, rfl, _, _, _, [], p0 ++ (p1 ++ ([] ++ ([] ++ []))), [.cell 0 0, .cell 1 0], hW', ?_, ?_, ?_, bel.frame _, fun h => by cases h⟩
    · rw [e1]; exact trodAll_mk1 (shut_bool Ybaf.underlying4 true)
    · rw [e1]
      exact trodAll_cons_mk (Below.trod laidOut (by kernel_rfl) (of_decide_eq_true (by kernel_rfl)) h0 bel lt0) (trodAll_cons_mk (Below.trod laidOut (by kernel_rfl) (of_decide_eq_true (by kernel_rfl)) h1 bel lt1) (trodAll_cons_mk (shut_string Ybaf.underlying9 wo) (trodAll_cons_mk (shut_int Ybaf.underlying5 w3) trodAll_mk0)))
    · rw [e1]; exact vr (var?_below bel g0 lz0 hv0) (var?_below bel g1 lz1 hv1) _
  clear hA0 hV0 hval0 hsz0
  by_cases q0 : 1024 < len0
  · exact (law_long0 ad0 ad1 len0 cap0 len1 cap1 o sel W q0 hM0).mono fin
  by_cases q1 : 1024 < len1
  · exact (law_long1 ad0 ad1 len0 cap0 len1 cap1 o sel W (by omega) q1 hM1).mono fin
  · exact (law_walk F.told ad0 ad1 len0 cap0 len1 cap1 ss cs o sel a0 a1 s0 c0 c1 t0 t1 W hS0 hS1 hB0 hB1 ho hsel.1 hsel.2 hF hg0 hg1 hc0 hne hb0 hb1 (by omega) (by omega)).mono fin

theorem proved : Rows.LawS3163ALookupToldSaid :=
  Claim7.holds_of_told_tied_any_at .later 3 Ybaf.f3 "fmt.errorf" [] [] _ _ _ _ _ (by kernel_rfl) rfl rfl rfl laidOut (by kernel_rfl) rfl ⟨rfl, rfl, rfl, rfl, rfl, rfl, rfl⟩ rfl rfl (by kernel_rfl) (by kernel_rfl) Ybaf.func3 (by kernel_rfl)
    (of_decide_eq_true (by kernel_rfl)) (of_decide_eq_true (by kernel_rfl)) stops.symm rfl stopKnobs.symm (by kernel_rfl)
    (by kernel_rfl) (by kernel_rfl) (by kernel_rfl) (by kernel_rfl) (by kernel_rfl) (by kernel_rfl) (by kernel_rfl) (by kernel_rfl) (by kernel_rfl) rfl (by kernel_rfl) rfl rfl
    rfl rfl
    rfl (by kernel_rfl) (by kernel_rfl) (by kernel_rfl) (by decide) (by kernel_rfl) lawS3163ALookup_row_tie
    (OpenClaim.moreEntering_of (by kernel_rfl) (by kernel_rfl) (by kernel_rfl) (by kernel_rfl) (by kernel_rfl) (by kernel_rfl) (by kernel_rfl) (by kernel_rfl) (by kernel_rfl) (by kernel_rfl))
    ⟨_, WideRow.started_initial, quiet _⟩
    (fun os started _ H enc _ => lifted os started H enc)
#print axioms proved
end Go.Proofs.YbulkbmmeFmt
