/-
  LawS3161CHello: the decoder's hello.
-/
import Derived.Test.YbulkbmlcFmtH17
namespace Go.Proofs.YbulkbmlcFmt
open Go.RowKit Go.Lib Go.Extern.Stop Go.Stop Go.Extern
set_option linter.unusedVariables false
set_option linter.unusedSimpArgs false

def magic : Bytes := [109, 105, 108, 108, 114, 97, 99, 101]
def hd0 : Array Value := (byteCells (List.replicate 9 0)).toArray
theorem own2_ownB {p : Par} {db base g : Nat} (hg : base ≤ g) : ∀ k, own2 p g k → ownB p db base k := fun k hk => by
  rcases hk with h | h
  · exact Or.inl h
  · exact Or.inr (Or.inr (by omega))
theorem conv_cells {w : World} {g L cap : Nat} {B : Bytes} (hL : B.length = L) (h : ∀ j u, (byteCells B)[j]? = some u → w.cell? ⟨g, j, none⟩ = some u) : (convert 23 9 (.slice (some ⟨g, 0, none⟩) L cap)).run Ybaf.prog w = .ok (.string ⟨B.toArray⟩) w := by
  rw [run_convert_bytes_string w 23 9 5 _ L cap Ybaf.underlying23 Ybaf.underlying5 Ybaf.underlying9]
  have hl := run_loadCells_list (P := Ybaf.prog) w ⟨g, 0, none⟩ (byteCells B) (fun j u hu => by rw [Addr.add_mid, Nat.zero_add]; exact h j u hu)
  rw [len_byteCells, hL] at hl
  have e : byteCells B = (B.map fun b => ((b.toNat : Nat) : Int)).map (Value.int .u8) := by simp [byteCells]
  rw [e] at hl
  rw [run_bytesToString w ⟨g, 0, none⟩ L cap _ hl, fold_push]
  simp
/-- What hello leaves. -/
def Hello (p : Par) (U : Addr) (db base : Nat) (rm : Bytes) (e : Ending) (w' : World) : Prop :=
  -- refused ahead of the texts, the connection being well
  ((9 ≤ rm.length ∧ (rm.take 8 ≠ magic ∨ rm[8]? ≠ some 5)) ∧ (∃ a, e = .returned (.tuple #[.string ⟨#[]⟩, .string ⟨#[]⟩, .iface 63 (.pointer (some a))])) ∧ ∃ bv, DC p w' db bv none) ∨
  -- the connection failed
  ((∃ a, e = .returned (.tuple #[.string ⟨#[]⟩, .string ⟨#[]⟩, .iface 63 (.pointer (some a))])) ∧ ∃ bv ev, DC p w' db bv (some ev)) ∧
    (rm.length < 9 ∨ (rm.take 8 = magic ∧ rm[8]? = some 5 ∧ ∀ x t, dec 0 0 (rm.drop 9) = some (x, t) → x ≤ t.length → ∀ y s, dec 0 0 (t.drop x) = some (y, s) → s.length < y)) ∨
  -- both texts
  ∃ x t y s, 9 ≤ rm.length ∧ rm.take 8 = magic ∧ rm[8]? = some 5 ∧ dec 0 0 (rm.drop 9) = some (x, t) ∧ x ≤ t.length ∧ dec 0 0 (t.drop x) = some (y, s) ∧ y ≤ s.length ∧
    e = .returned (.tuple #[.string ⟨(t.take x).toArray⟩, .string ⟨(s.take y).toArray⟩, .nilIface]) ∧ (∃ bv, DC p w' db bv none) ∧ RS p w' (s.drop y)

set_option maxHeartbeats 4000000 in
set_option maxRecDepth 100000 in
theorem hello_any (F : Interp) {p : Par} (ok : p.Ok) {w : World} {rm : Bytes} {db base : Nat} (hb : Bs p db base) (hD : DC p w db (.slice none 0 0) none) (h : RS p w rm) (hbase : base ≤ w.heap.size) (hF : F.answers w.tape)
    (hg1 : rm.length ≥ 9 → Good 0 (rm.drop 9)) (hx1 : ∀ x t, dec 0 0 (rm.drop 9) = some (x, t) → x ≤ 65536 ∧ Good 0 (t.drop x) ∧ ∀ y s, dec 0 0 (t.drop x) = some (y, s) → y ≤ 65536)
    (U : Addr) (hU : w.cell? ⟨4, 0, none⟩ = some (.iface 63 (.pointer (some U)))) (hE : w.cell? ⟨3, 0, none⟩ = some p.eof) (sE sU : ByteArray) (hsE : w.cell? p.E = some (.string sE)) (hsU : w.cell? U = some (.string sU)) (hEb : p.E.block < base ∧ ¬ ownB p db base p.E.block) (hUb : U.block < base ∧ ¬ ownB p db base U.block) :
    Calls Ybaf.prog 6 #[.pointer (some ⟨db, 0, none⟩)] w fun e w' => Fr (ownB p db base) w w' ∧ Hello p U db base rm e w' := by
  have HB := hide hb; have HD := hide hD; have HR := hide h; have HU := hide hU; have HE := hide hE; have HSE := hide hsE; have HSU := hide hsU; have HG1 := hide hg1; have HX1 := hide hx1; have HFF := hide hF
  have hno := hb.not_own
  clear hb hD h hU hE hsE hsU hg1 hx1 hF
  have hdw : db < w.heap.size := lt_of_heap HD.out
  go_enter Ybaf.func6, Ybaf.ntmps6
  go_upto_region 2 with fail
  change Code.wp _ _ _ _ (w.alloc (.cells hd0 50))
  have HBL : Hid (RowKit.Below w.heap.size w (w.alloc (.cells hd0 50))) := (Below.refl _ _).alloc (Nat.le_refl _) _
  have HH : Hid ((w.alloc (.cells hd0 50)).heap[w.heap.size]? = some (.cells hd0 50)) := heap_alloc_new _ _
  generalize w.alloc (.cells hd0 50) = A at HBL HH ⊢
  have HDA : Hid (DC p A db (.slice none 0 0) none) := (HBL.out.block db hdw).trans HD.out
  have HRA : Hid (RS p A rm) := HR.out.keep ok (fun k hk _ => HBL.out.block k hk)
  have HFA : Hid (Fr (ownB p db base) w A) := ⟨HBL.out.os, HBL.out.tape, HBL.out.output, HBL.out.size, fun k hk _ => HBL.out.block k hk⟩
  have u4 : A.drew.cell? ⟨4, 0, none⟩ = some (.iface 63 (.pointer (some U))) := (HBL.out.cell (lt_of_cell HU.out)).trans HU.out
  have u3 : A.drew.cell? ⟨3, 0, none⟩ = some p.eof := (HBL.out.cell (lt_of_cell HE.out)).trans HE.out
  have th : (A.drewN 1).there w.heap.size 0 9 := fun j hj => ⟨by rw [Nat.zero_add]; show (A.cell? ⟨w.heap.size, j, none⟩).isSome = true; rw [cell_of_row _ _ j _ _ (0, 0) HH.out, Array.getElem?_eq_getElem (by show j < 9; exact hj)]; rfl, frozen_block HH.out⟩
  have HFULL := hide (full_any ok (HRA.out.ahead 1) w.heap.size 0 9 9 (HB.out.apart hbase) (by have := HB.out.h6; have := HB.out.d; omega) (by omega) (by omega) (by omega) th U u4 u3)
  clear u4 u3 th
  have c1 : A.cell? ⟨db, 1, none⟩ = some (.pointer (some ⟨p.rb, 0, none⟩)) := by rw [cell_of_row _ _ 1 _ _ (0, 0) HDA.out]; rfl
  refine wp_region_held (S := fun w' => w'.cell? ⟨db, 1, none⟩ = some (.pointer (some ⟨p.rb, 0, none⟩))) (by kernel_rfl) ?_
  try (change wpAnyH _ _ _ _ _ _ _ _ (World.drew _))
  have S0 : A.drew.cell? ⟨db, 1, none⟩ = some (.pointer (some ⟨p.rb, 0, none⟩)) := c1
  refine wpAnyH_take (i := 0) (v := .pointer (some ⟨db, 0, none⟩)) rfl (by kernel_rfl) (by kernel_rfl) (by kernel_rfl) (fun _ _ _ h => h) (Or.inl ⟨by kernel_rfl, fun w hS => by go_simp⟩) S0 ?_
  simp only [Act.put, List.getElem_toArray, List.getElem_cons_succ, List.getElem_cons_zero, List.setIfInBounds_toArray, List.set_cons_zero, List.set_cons_succ]
  refine wpAnyH_take (i := 1) (v := .pointer (some ⟨db, 0, none⟩)) rfl (by kernel_rfl) (by kernel_rfl) (by kernel_rfl) (fun _ _ _ h => h) (Or.inl ⟨by kernel_rfl, fun w hS => by go_simp⟩) S0 ?_
  simp only [Act.put, List.getElem_toArray, List.getElem_cons_succ, List.getElem_cons_zero, List.setIfInBounds_toArray, List.set_cons_zero, List.set_cons_succ]
  refine wpAnyH_take (i := 2) (v := .pointer (some ⟨db, 1, none⟩)) rfl (by kernel_rfl) (by kernel_rfl) (by kernel_rfl) (fun _ _ _ h => h) (Or.inl ⟨by kernel_rfl, fun w hS => by go_simp⟩) S0 ?_
  simp only [Act.put, List.getElem_toArray, List.getElem_cons_succ, List.getElem_cons_zero, List.setIfInBounds_toArray, List.set_cons_zero, List.set_cons_succ]
  refine wpAnyH_take (i := 3) (v := .pointer (some ⟨p.rb, 0, none⟩)) rfl (by kernel_rfl) (by kernel_rfl) (by kernel_rfl) (fun _ _ _ h => h) (Or.inl ⟨by kernel_rfl, fun w' hS => by have q1 := hS; go_simp⟩) S0 ?_
  simp only [Act.put, List.getElem_toArray, List.getElem_cons_succ, List.getElem_cons_zero, List.setIfInBounds_toArray, List.set_cons_zero, List.set_cons_succ]
  refine wpAnyH_take (i := 4) (v := .iface 38 (.pointer (some ⟨p.rb, 0, none⟩))) rfl (by kernel_rfl) (by kernel_rfl) (by kernel_rfl) (fun _ _ _ h => h) (Or.inl ⟨by kernel_rfl, fun w hS => by go_simp⟩) S0 ?_
  simp only [Act.put, List.getElem_toArray, List.getElem_cons_succ, List.getElem_cons_zero, List.setIfInBounds_toArray, List.set_cons_zero, List.set_cons_succ]
  refine wpAnyH_take (i := 5) (v := .slice (some ⟨w.heap.size, 0, none⟩) 9 9) rfl (by kernel_rfl) (by kernel_rfl) (by kernel_rfl) (fun _ _ _ h => h) (Or.inl ⟨by kernel_rfl, fun w hS => by go_simp⟩) S0 ?_
  simp only [Act.put, List.getElem_toArray, List.getElem_cons_succ, List.getElem_cons_zero, List.setIfInBounds_toArray, List.set_cons_zero, List.set_cons_succ]
  refine wpAnyH_ready (rs := [6]) (by kernel_rfl) (by simp) ?_
  refine AllReadyH.cons rfl (fun K hK => ?_) AllReadyH.nil
  rw [if_pos (by kernel_rfl)]
  go_simp
  refine HFULL.out.mono ?_
  rintro e w1 ⟨hF1, hcase⟩
  have HD1 : Hid (DC p w1 db (.slice none 0 0) none) := (hF1.block db (lt_of_heap HDA.out) (fun h => by
    rcases h with h | h
    · exact hno h
    · omega)).trans HDA.out
  have HF1 : Hid (Fr (ownB p db base) w w1) := (HFA.out.drewN 1).trans (hF1.mono (own2_ownB hbase))
  have hs1 : base ≤ w1.heap.size := Nat.le_trans hbase (Nat.le_trans HBL.out.size hF1.size)
  have S1 : w1.cell? ⟨db, 1, none⟩ = some (.pointer (some ⟨p.rb, 0, none⟩)) := by rw [cell_of_row _ _ 1 _ _ (0, 0) HD1.out]; rfl
  clear hF1 HFULL c1 S0
  rcases hcase with ⟨hl, rfl, hR1, hB1⟩ | ⟨hl, n5, ev, hev, rfl, hR1, hB1⟩
  · have HRM := hide hR1
    have hcl : (byteCells (rm.take 9)).length = 9 := by rw [len_byteCells, List.length_take]; omega
    have hblk : w1.heap[w.heap.size]? = some (.cells (byteCells (rm.take 9)).toArray 50) := by
      rw [hB1, setCells_block w.heap.size 50 (byteCells (rm.take 9)) 0 (A.drewN 1) (byteCells (List.replicate 9 0)) HH.out (by rw [hcl, len_byteCells]; simp)]
      rw [hcl, List.take_zero, List.nil_append, List.drop_eq_nil_of_le (by rw [len_byteCells]; simp), List.append_nil]
    have hcell : ∀ j u, (byteCells (rm.take 9))[j]? = some u → w1.cell? ⟨w.heap.size, j, none⟩ = some u := fun j u hu => by rw [cell_of_row _ _ j _ _ (0, 0) hblk]; simpa using hu
    have hcv := conv_cells (w := w1) (g := w.heap.size) (L := 8) (cap := 9) (B := rm.take 8) (by simp; omega) (fun j u hu => hcell j u (by
      have hj : j < 8 := by have := (List.getElem?_eq_some_iff.1 hu).1; rw [len_byteCells] at this; simp at this; omega
      have e : (rm.take 8)[j]? = (rm.take 9)[j]? := by rw [List.getElem?_take_of_lt hj, List.getElem?_take_of_lt (by omega)]
      simp only [byteCells, List.getElem?_map] at hu ⊢
      rw [← e]; exact hu))
    obtain ⟨v8, hv8⟩ : ∃ v8, rm[8]? = some v8 := ⟨rm[8], List.getElem?_eq_getElem (by omega)⟩
    have c8 : w1.cell? ⟨w.heap.size, 8, none⟩ = some (.int .u8 (v8.toNat : Int)) := hcell 8 _ (by
      simp only [byteCells, List.getElem?_map]
      rw [List.getElem?_take_of_lt (by omega), hv8]; rfl)
    refine hK.out _ _ S1 (fun _ => ?_)
    have HV8 := hide hv8; have HL := hide hl
    clear hK K hB1 hblk hcell hcl hR1 HH hv8 hl
    refine wpAnyH_take (i := 7) (v := .tuple #[.int .i64 9, .nilIface]) rfl (by kernel_rfl) (by kernel_rfl) (by kernel_rfl) (fun _ _ _ h => h) (Or.inl ⟨by kernel_rfl, fun w hS => by go_simp⟩) S1 ?_
    simp only [Act.put, List.getElem_toArray, List.getElem_cons_succ, List.getElem_cons_zero, List.setIfInBounds_toArray, List.set_cons_zero, List.set_cons_succ]
    refine wpAnyH_take (i := 8) (v := .int .i64 9) rfl (by kernel_rfl) (by kernel_rfl) (by kernel_rfl) (fun _ _ _ h => h) (Or.inl ⟨by kernel_rfl, fun w hS => by go_simp⟩) S1 ?_
    simp only [Act.put, List.getElem_toArray, List.getElem_cons_succ, List.getElem_cons_zero, List.setIfInBounds_toArray, List.set_cons_zero, List.set_cons_succ]
    refine wpAnyH_take (i := 9) (v := .nilIface) rfl (by kernel_rfl) (by kernel_rfl) (by kernel_rfl) (fun _ _ _ h => h) (Or.inl ⟨by kernel_rfl, fun w hS => by go_simp⟩) S1 ?_
    simp only [Act.put, List.getElem_toArray, List.getElem_cons_succ, List.getElem_cons_zero, List.setIfInBounds_toArray, List.set_cons_zero, List.set_cons_succ]
    refine wpAnyH_take (i := 10) (v := .int .i64 9) rfl (by kernel_rfl) (by kernel_rfl) (by kernel_rfl) (fun _ _ _ h => h) (Or.inl ⟨by kernel_rfl, fun w hS => by go_simp⟩) S1 ?_
    simp only [Act.put, List.getElem_toArray, List.getElem_cons_succ, List.getElem_cons_zero, List.setIfInBounds_toArray, List.set_cons_zero, List.set_cons_succ]
    refine wpAnyH_take (i := 11) (v := .nilIface) rfl (by kernel_rfl) (by kernel_rfl) (by kernel_rfl) (fun _ _ _ h => h) (Or.inl ⟨by kernel_rfl, fun w hS => by go_simp⟩) S1 ?_
    simp only [Act.put, List.getElem_toArray, List.getElem_cons_succ, List.getElem_cons_zero, List.setIfInBounds_toArray, List.set_cons_zero, List.set_cons_succ]
    refine wpAnyH_done (by kernel_rfl) ?_ _
    clear S1
    have hl8 : (⟨(rm.take 8).toArray⟩ : ByteArray).toList = rm.take 8 := by rw [ByteArray.toList_eq]
    have hlm : (⟨#[109, 105, 108, 108, 114, 97, 99, 101]⟩ : ByteArray).toList = magic := by rw [ByteArray.toList_eq]; rfl
    generalize (⟨(rm.take 8).toArray⟩ : ByteArray) = s8 at hcv hl8
    have htp : w1.tape = w.tape := HF1.out.tape
    by_cases hm : rm.take 8 = magic
    · have hq : (rm.take 8 == magic) = true := by simp [hm]
      have HM := hide hm
      clear hm
      by_cases h5 : v8 = 5
      · subst h5
        have hlt34 : ∀ k, k < 6 → ¬ ownB p db base k := fun k hk h => by
          have := HB.out.h6; have := HB.out.d
          rcases h with h | h | h
          · have := own_lt ok h; omega
          · omega
          · omega
        have HLT := hide hlt34
        have HT1 := hide (text_any ok HB.out HD1.out HRM.out (HG1.out HL.out) (fun x t h => (HX1.out x t h).1) (B0 := []) (World.ownsRow_nil _ _ _ _) hs1 U (cell_kept HU.out (HF1.out.block 4 (lt_of_cell HU.out) (hlt34 4 (by omega)))) (cell_kept HE.out (HF1.out.block 3 (lt_of_cell HE.out) (hlt34 3 (by omega)))))
        clear hlt34 htp
        go_wp2_with fail
        refine HT1.out.mono ?_
        rintro e w3 ⟨hF3, hs3, hcase3⟩
        have HF3 := hide (HF1.out.trans hF3)
        clear hF3 HT1
        rcases hcase3 with ⟨x, t, hdx, hxl, rfl, ⟨v', hD3, hO3⟩, hR3⟩ | ⟨hbad, s0, v', ev, hev, rfl, hD3⟩
        · have HDX := hide hdx; have HXL := hide hxl; have HD3 := hide hD3
          have HT2 := hide (text_any ok HB.out hD3 hR3 (HX1.out x t hdx).2.1 (fun y s h => (HX1.out x t hdx).2.2 y s h) hO3 hs3 U (cell_kept HU.out (HF3.out.block 4 (lt_of_cell HU.out) (HLT.out 4 (by omega)))) (cell_kept HE.out (HF3.out.block 3 (lt_of_cell HE.out) (HLT.out 3 (by omega)))))
          clear hdx hxl hD3 hO3 hR3
          go_wp2_with fail
          refine HT2.out.mono ?_
          rintro e w4 ⟨hF4, hs4, hcase4⟩
          have HF4 := hide (HF3.out.trans hF4)
          clear hF4 HT2
          rcases hcase4 with ⟨y, s, hdy, hyl, rfl, ⟨v4, hD4, hO4⟩, hR4⟩ | ⟨hbad, s0, v4, ev, hev, rfl, hD4⟩
          · have HDY := hide hdy; have HYL := hide hyl; have HD4 := hide hD4; have HR4 := hide hR4
            have q3 : w4.cell? ⟨db, 3, none⟩ = some .nilIface := by rw [cell_of_row _ _ 3 _ _ (0, 0) hD4]; rfl
            clear hdy hyl hD4 hO4 hR4
            go_wp2_with fail
            go_ret3
            exact ⟨HF4.out, Or.inr (Or.inr ⟨x, t, y, s, HL.out, HM.out, HV8.out, HDX.out, HXL.out, HDY.out, HYL.out, rfl, ⟨_, HD4.out⟩, HR4.out⟩)⟩
          · have HD4 := hide hD4; have HBAD := hide hbad
            clear hD4 hbad
            have q3 : w4.cell? ⟨db, 3, none⟩ = some (.iface 63 (.pointer (some ev))) := by rw [cell_of_row _ _ 3 _ _ (0, 0) HD4.out]; rfl
            obtain ⟨sv, hsv⟩ : ∃ sv, w4.cell? ev = some (.string sv) := by
              rcases hev with rfl | rfl
              · exact ⟨sE, cell_kept HSE.out (HF4.out.block _ (lt_of_cell HSE.out) hEb.2)⟩
              · exact ⟨sU, cell_kept HSU.out (HF4.out.block _ (lt_of_cell HSU.out) hUb.2)⟩
            have HER := hide (errorf_brk F ev sv w4 (by rw [show w4.tape = w.tape from HF4.out.tape]; exact HFF.out) hsv)
            clear hsv
            go_wp2_with fail
            refine HER.out.mono ?_
            rintro e w9 ⟨rfl, hB9⟩
            have HD9 := hide ((hB9.block db (lt_of_heap HD4.out)).trans HD4.out)
            have HF9 : Hid (Fr (ownB p db base) w w9) := HF4.out.trans ⟨hB9.os, hB9.tape, hB9.output, hB9.size, fun k hk _ => hB9.block k hk⟩
            clear hB9 HER
            go_wp2_with fail
            go_ret3
            exact ⟨HF9.out, Or.inr (Or.inl ⟨⟨⟨_, rfl⟩, _, ev, HD9.out⟩, Or.inr ⟨HM.out, HV8.out, fun x' t' h' _ y' s' hy' => by
                  have e := HDX.out.symm.trans h'; cases e
                  rcases HBAD.out with h0 | ⟨a, b, h1, h2⟩
                  · rw [h0] at hy'; cases hy'
                  · rw [h1] at hy'; cases hy'; exact h2⟩⟩)⟩
        · have HD3 := hide hD3; have HBAD := hide hbad
          have HT2 := hide (text_err hD3)
          clear hD3 hbad
          go_wp2_with fail
          refine HT2.out.mono ?_
          rintro e w4 ⟨⟨s1, rfl⟩, rfl⟩
          clear HT2
          have q3 : w4.cell? ⟨db, 3, none⟩ = some (.iface 63 (.pointer (some ev))) := by rw [cell_of_row _ _ 3 _ _ (0, 0) HD3.out]; rfl
          obtain ⟨sv, hsv⟩ : ∃ sv, w4.cell? ev = some (.string sv) := by
            rcases hev with rfl | rfl
            · exact ⟨sE, cell_kept HSE.out (HF3.out.block _ (lt_of_cell HSE.out) hEb.2)⟩
            · exact ⟨sU, cell_kept HSU.out (HF3.out.block _ (lt_of_cell HSU.out) hUb.2)⟩
          have HER := hide (errorf_brk F ev sv w4 (by rw [show w4.tape = w.tape from HF3.out.tape]; exact HFF.out) hsv)
          clear hsv
          go_wp2_with fail
          refine HER.out.mono ?_
          rintro e w9 ⟨rfl, hB9⟩
          have HD9 := hide ((hB9.block db (lt_of_heap HD3.out)).trans HD3.out)
          have HF9 : Hid (Fr (ownB p db base) w w9) := HF3.out.trans ⟨hB9.os, hB9.tape, hB9.output, hB9.size, fun k hk _ => hB9.block k hk⟩
          clear hB9 HER
          go_wp2_with fail
          go_ret3
          exact ⟨HF9.out, Or.inr (Or.inl ⟨⟨⟨_, rfl⟩, _, ev, HD9.out⟩, Or.inr ⟨HM.out, HV8.out, fun x' t' h' hle y' s' _ => by
                rcases HBAD.out with h0 | ⟨a, b, h1, h2⟩
                · rw [h0] at h'; cases h'
                · rw [h1] at h'; cases h'; omega⟩⟩)⟩
      · have hv5 : ¬ (v8.toNat : Int) = 5 := by
          intro e; apply h5
          apply UInt8.toNat_inj.1
          show v8.toNat = 5
          omega
        have hv5' : ((v8.toNat : Int) == 5) = false := by simpa using hv5
        have HV5 := hide h5
        clear h5
        have HER := hide (errorf_ver F (v8.toNat : Int) w1 (by rw [htp]; exact HFF.out))
        clear htp
        go_wp2_with fail
        refine HER.out.mono ?_
        rintro e w3 ⟨rfl, hB3⟩
        have HD3 : Hid (DC p w3 db (.slice none 0 0) none) := (hB3.block db (lt_of_heap HD1.out)).trans HD1.out
        have HF3 : Hid (Fr (ownB p db base) w w3) := HF1.out.trans ⟨hB3.os, hB3.tape, hB3.output, hB3.size, fun k hk _ => hB3.block k hk⟩
        clear hB3 HER
        go_wp2_with fail
        go_ret3
        exact ⟨HF3.out, Or.inl ⟨⟨HL.out, Or.inr (by rw [HV8.out]; intro e; exact HV5.out (Option.some.inj e))⟩, ⟨_, rfl⟩, _, HD3.out⟩⟩
    · have hq : (rm.take 8 == magic) = false := by simpa using hm
      have HM := hide hm
      clear hm htp
      go_wp2_with fail
      refine (new_any _ _).mono ?_
      rintro e w3 ⟨rfl, hB3⟩
      have HD3 : Hid (DC p w3 db (.slice none 0 0) none) := (hB3.block db (lt_of_heap HD1.out)).trans HD1.out
      have HF3 : Hid (Fr (ownB p db base) w w3) := HF1.out.trans ⟨hB3.os, hB3.tape, hB3.output, hB3.size, fun k hk _ => hB3.block k hk⟩
      clear hB3
      go_wp2_with fail
      go_ret3
      exact ⟨HF3.out, Or.inl ⟨⟨HL.out, Or.inl HM.out⟩, ⟨_, rfl⟩, _, HD3.out⟩⟩
  · refine hK.out _ _ S1 (fun _ => ?_)
    clear hK K hR1 hB1
    refine wpAnyH_take (i := 7) (v := .tuple #[.int .i64 (n5 : Int), .iface 63 (.pointer (some ev))]) rfl (by kernel_rfl) (by kernel_rfl) (by kernel_rfl) (fun _ _ _ h => h) (Or.inl ⟨by kernel_rfl, fun w hS => by go_simp⟩) S1 ?_
    simp only [Act.put, List.getElem_toArray, List.getElem_cons_succ, List.getElem_cons_zero, List.setIfInBounds_toArray, List.set_cons_zero, List.set_cons_succ]
    refine wpAnyH_take (i := 8) (v := .int .i64 (n5 : Int)) rfl (by kernel_rfl) (by kernel_rfl) (by kernel_rfl) (fun _ _ _ h => h) (Or.inl ⟨by kernel_rfl, fun w hS => by go_simp⟩) S1 ?_
    simp only [Act.put, List.getElem_toArray, List.getElem_cons_succ, List.getElem_cons_zero, List.setIfInBounds_toArray, List.set_cons_zero, List.set_cons_succ]
    refine wpAnyH_take (i := 9) (v := .iface 63 (.pointer (some ev))) rfl (by kernel_rfl) (by kernel_rfl) (by kernel_rfl) (fun _ _ _ h => h) (Or.inl ⟨by kernel_rfl, fun w hS => by go_simp⟩) S1 ?_
    simp only [Act.put, List.getElem_toArray, List.getElem_cons_succ, List.getElem_cons_zero, List.setIfInBounds_toArray, List.set_cons_zero, List.set_cons_succ]
    refine wpAnyH_take (i := 10) (v := .int .i64 (n5 : Int)) rfl (by kernel_rfl) (by kernel_rfl) (by kernel_rfl) (fun _ _ _ h => h) (Or.inl ⟨by kernel_rfl, fun w hS => by go_simp⟩) S1 ?_
    simp only [Act.put, List.getElem_toArray, List.getElem_cons_succ, List.getElem_cons_zero, List.setIfInBounds_toArray, List.set_cons_zero, List.set_cons_succ]
    refine wpAnyH_take (i := 11) (v := .iface 63 (.pointer (some ev))) rfl (by kernel_rfl) (by kernel_rfl) (by kernel_rfl) (fun _ _ _ h => h) (Or.inl ⟨by kernel_rfl, fun w hS => by go_simp⟩) S1 ?_
    simp only [Act.put, List.getElem_toArray, List.getElem_cons_succ, List.getElem_cons_zero, List.setIfInBounds_toArray, List.set_cons_zero, List.set_cons_succ]
    refine wpAnyH_done (by kernel_rfl) ?_ _
    clear S1
    go_wp2_with fail
    refine (fail_any HD1.out (some ev)).mono ?_
    rintro e w2 ⟨rfl, hD2, hF2, hw2⟩
    have HD2 := hide hD2
    have HF2 := hide (HF1.out.trans (hF2.mono (G := ownB p db base) (fun k hk => Or.inr (Or.inl hk))))
    clear hD2 hF2 hw2
    go_wp2_with fail
    refine (new_any _ _).mono ?_
    rintro e w3 ⟨rfl, hB3⟩
    have HD3 : Hid (DC p w3 db (.slice none 0 0) (some ev)) := (hB3.block db (lt_of_heap HD2.out)).trans HD2.out
    have HF3 : Hid (Fr (ownB p db base) w w3) := HF2.out.trans ⟨hB3.os, hB3.tape, hB3.output, hB3.size, fun k hk _ => hB3.block k hk⟩
    have HL := hide hl
    clear hB3 hl
    go_wp2_with fail
    go_ret3
    exact ⟨HF3.out, Or.inr (Or.inl ⟨⟨⟨_, rfl⟩, _, ev, HD3.out⟩, Or.inl HL.out⟩)⟩
end Go.Proofs.YbulkbmlcFmt
