/-
  LawS3163ALookup: the law's own walk.
-/
import Derived.Test.YbulkbmmeFmtL3
import Derived.Deep.DeepCutAuto
namespace Go.Proofs.YbulkbmmeFmt
open Go.RowKit Go.Extern.Stop Go.Stop Go.Extern Go.Maps
set_option linter.unusedVariables false
theorem hide {p : Prop} (h : p) : Hid p := h

theorem run_makeMap_sized (n : Int) (w : World) : (Instr.makeMap 23 (some (.int .i64 n))).run Ybaf.prog w = .ok (.map (some w.heap.size)) (w.alloc (.map #[] 0)) := by
  simp [Instr.makeMap, run_underlying Ybaf.underlying23, asInt, asIntOf]

/-- The map so far stands to the model so far. -/
def MapIs (wr : World) (B k : Nat) (ss cs : List ByteArray) (t : ByteArray) : Prop :=
  ∃ D, wr.ownsMap Ybaf.prog 9 brElem B k D ∧ Maps.has D (.string t.data.toList) = (mdlTo ss cs t k).2 ∧ ((mdlTo ss cs t k).2 = true → D.atKey (.string t.data.toList) (.held ebs) = .held (mdlTo ss cs t k).1)

theorem MapIs.start (w : World) (ss cs : List ByteArray) (t : ByteArray) : MapIs (w.alloc (.map #[] 0)) w.heap.size 0 ss cs t :=
  ⟨_, World.ownsMap_made _ _ _ _, rfl, fun h => by cases h⟩

theorem keyLit (l : List UInt8) : WideAt.IsKeyLit (.string l) := by simp [WideAt.IsKeyLit]
theorem MapIs.step {wr w' : World} {B k : Nat} {ss cs : List ByteArray} {t s c : ByteArray} {D : DataW ByteArray} (hown : wr.ownsMap Ybaf.prog 9 brElem B k D)
    (hh : Maps.has D (.string t.data.toList) = (mdlTo ss cs t k).2) (ha : (mdlTo ss cs t k).2 = true → D.atKey (.string t.data.toList) (.held ebs) = .held (mdlTo ss cs t k).1)
    (hs : s = ss.getD k ebs) (hc : c = cs.getD k ebs) (hown' : w'.ownsMap Ybaf.prog 9 brElem B (k + 1) (D.put (.string s.data.toList) (.held c))) : MapIs w' B (k + 1) ss cs t := by
  refine ⟨_, hown', ?_⟩
  cases hq : (s.toList == t.toList)
  · have hne : (Lit.string t.data.toList) ≠ .string s.data.toList := by
      intro e
      have e' : t.data.toList = s.data.toList := Lit.string.inj e
      rw [Lib.toList_data, Lib.toList_data, e'] at hq
      simp at hq
    rw [mdl_miss hs hq]
    exact ⟨(has_put_other hne _).trans hh, fun h => (atKey_put_other hne _ _).trans (ha h)⟩
  · have e : s.data.toList = t.data.toList := by
      rw [Lib.toList_data, Lib.toList_data] at hq
      exact eq_of_beq hq
    rw [mdl_hit hs hq, e]
    exact ⟨has_put_same hown.isMap (keyLit _) _, fun _ => (atKey_put_same hown.isMap (keyLit _) _ _).trans (by rw [hc])⟩

set_option maxRecDepth 100000 in
set_option maxHeartbeats 4000000 in
theorem law_walk (F : Interp) (ad0 ad1 : Option Addr) (len0 cap0 len1 cap1 : Nat) (ss cs : List ByteArray) (o : ByteArray) (sel : Int) (a0 a1 : Addr) (s0 : ByteArray) (c0 c1 : Array Value) (t0 t1 : TypeId) (w : World)
    (h0 : SS w ad0 len0 ss) (h1 : SS w ad1 len1 cs) (hss : ∀ i, (ss.getD i ebs).size ≤ 140737488351232) (hcs : ∀ i, (cs.getD i ebs).size ≤ 140737488351232) (ho : o.size ≤ 140737488351232) (z0 : 0 ≤ sel) (z1 : sel ≤ 255)
    (hF : F.answers w.tape) (hg0 : w.cell? ⟨0, 0, none⟩ = some (.iface 55 (.pointer (some a0)))) (hg1 : w.cell? ⟨1, 0, none⟩ = some (.iface 55 (.pointer (some a1)))) (hs0 : w.cell? a0 = some (.string s0)) (hne : a0 ≠ a1)
    (hb0 : w.heap[a0.block]? = some (.cells c0 t0 (0, 0))) (hb1 : w.heap[a1.block]? = some (.cells c1 t1 (0, 0))) (l0 : len0 ≤ 1024) (l1 : len1 ≤ 1024) :
    Calls Ybaf.prog 3 #[.slice ad0 len0 cap0, .slice ad1 len1 cap1, .string o, .int .u8 sel] w fun e w' => e = .returned (.bool true) ∧ Below w.heap.size w w' := by
  have H0 := hide h0; have H1 := hide h1; have HSS := hide hss; have HCS := hide hcs
  have HF := hide hF; have HG0 := hide hg0; have HG1 := hide hg1; have HS0 := hide hs0; have HB0 := hide hb0; have HB1 := hide hb1
  clear h0 h1 hss hcs hF hg0 hg1 hs0 hb0 hb1
  go_enter Ybaf.func3, Ybaf.ntmps3
  go_upto_region 4 with fail
  go_cut [33] (fun s33 wx => ∃ b : Bool, s33 = .bool b ∧ Hid (b = true → 0 < len0) ∧ wx = w)
  case first =>
    by_cases q1 : sel % 2 = 0
    · by_cases q2 : 0 < len0
      · go_wp2
        go_meet
        case rel => exact ⟨_, rfl, hide fun _ => q2, rfl⟩
      · go_wp2
        go_meet
        case rel => exact ⟨_, rfl, hide fun h => absurd h (by simp), rfl⟩
    · go_wp2
      go_meet
      case rel => exact ⟨_, rfl, hide fun h => absurd h (by simp), rfl⟩
  case rest =>
    obtain ⟨b, rfl, HB, hwc⟩ := hcut
    subst hwc
    go_upto_if 33 with fail
    go_cut [9] (fun s9 wx => ∃ t : ByteArray, s9 = .string t ∧ t.size ≤ 140737488351232 ∧ wx = wc)
    case first =>
      cases b
      · go_wp2
        go_meet
        case rel => exact ⟨_, rfl, ho, rfl⟩
      · have q2 := HB.out rfl
        obtain ⟨e0, h0⟩ := H0.out
        rcases h0 with rfl | ⟨b0, o0, rfl, hc0⟩
        · omega
        have hi : (sel / 2 % (len0 : Int)).toNat < len0 := by
          have := Int.emod_nonneg (sel / 2) (show (len0 : Int) ≠ 0 by omega)
          have := Int.emod_lt_of_pos (sel / 2) (show (0 : Int) < len0 by omega)
          omega
        have hi0 := Int.emod_nonneg (sel / 2) (show (len0 : Int) ≠ 0 by omega)
        have hi1 := Int.emod_lt_of_pos (sel / 2) (show (0 : Int) < len0 by omega)
        have hcell := hc0 _ hi
        have hsz := HSS.out (sel / 2 % (len0 : Int)).toNat
        obtain ⟨s, hs⟩ : ∃ s, s = ss.getD (sel / 2 % (len0 : Int)).toNat ebs := ⟨_, rfl⟩
        rw [← hs] at hcell hsz
        clear hs hc0
        go_wp2
        go_meet
        case rel => exact ⟨_, rfl, hsz, rfl⟩
    case rest =>
      obtain ⟨t, rfl, ht, rfl⟩ := hcut
      have hmm := run_makeMap_sized
      go_wp2
      clear hmm
      go_loopw [11] (fun i wr => ∃ k : Nat, k ≤ len0 ∧ i = .int .i64 k ∧ MapIs wr wc.heap.size k ss cs t ∧ Below wc.heap.size wc wr) (fun i _ => len0 - (intOf i).toNat)
      case atStart => exact ⟨0, Nat.zero_le _, rfl, MapIs.start _ _ _ _, (Below.refl _ _).alloc (Nat.le_refl _) _⟩
      case round =>
        obtain ⟨k, hk, rfl, ⟨D, hown, hh, ha⟩, hb⟩ := hrel
        have HH := hide hh; have HA := hide ha; have HBW := hide hb
        clear hh ha hb
        by_cases hlt : k < len0
        · obtain ⟨e0, h0⟩ := (SS.below H0.out HBW.out)
          rcases h0 with e | ⟨b0, o0, e, hc0⟩
          · omega
          subst e
          clear e0
          have hcell := hc0 k hlt
          have hsz := HSS.out k
          obtain ⟨s, hs⟩ : ∃ s, s = ss.getD k ebs := ⟨_, rfl⟩
          rw [← hs] at hcell hsz
          have HS := hide hs
          clear hs hc0
          by_cases hl1 : k < len1
          · obtain ⟨e1, h1⟩ := (SS.below H1.out HBW.out)
            rcases h1 with e | ⟨b1, o1, e, hc1⟩
            · omega
            subst e
            clear e1
            have hcellc := hc1 k hl1
            have hcz := HCS.out k
            obtain ⟨c, hc⟩ : ∃ c, c = cs.getD k ebs := ⟨_, rfl⟩
            rw [← hc] at hcellc hcz
            have HC := hide hc
            clear hc hc1
            go_wp2_with (at_mapUpdate; refine wpList_mapUpdate_own _ rfl _ _ _ 23 rfl 9 25 law9 Ybaf.underlying23 brElem wc.heap.size k D rfl hown (by unfold maxLen; omega) (.string s) _ _ rfl rfl (WideMaps.keyOf_string_mk Ybaf.underlying9 (by unfold maxLen; omega)) (.held c) [] rfl ?_; intro w1 hown1 hgrow1)
            go_roundw
            case rel => exact ⟨k + 1, by omega, by go_num, MapIs.step hown HH.out HA.out HS.out HC.out hown1, HBW.out.grown hgrow1 HBW.out.size (fun j hj => by cases hj; exact Nat.le_refl _)⟩
            case measure => simp [intOf]; omega
          · have HC : Hid (ebs = cs.getD k ebs) := (getD_past (by rw [H1.out.1]; omega)).symm
            go_wp2_with (at_mapUpdate; refine wpList_mapUpdate_own _ rfl _ _ _ 23 rfl 9 25 law9 Ybaf.underlying23 brElem wc.heap.size k D rfl hown (by unfold maxLen; omega) (.string s) _ _ rfl rfl (WideMaps.keyOf_string_mk Ybaf.underlying9 (by unfold maxLen; omega)) (.held ebs) [] rfl ?_; intro w1 hown1 hgrow1)
            go_roundw
            case rel => exact ⟨k + 1, by omega, by go_num, MapIs.step hown HH.out HA.out HS.out HC.out hown1, HBW.out.grown hgrow1 HBW.out.size (fun j hj => by cases hj; exact Nat.le_refl _)⟩
            case measure => simp [intOf]; omega
        · have HK : Hid (k = len0) := (by omega : k = len0)
          have HM0 := hide (model_any ad0 ad1 len0 cap0 len1 cap1 ss cs t wr (SS.below H0.out HBW.out) (SS.below H1.out HBW.out) l0 l1)
          have ht' : t.size ≤ maxLen := by unfold maxLen; omega
          have HH' : Hid (Maps.has D (.string t.data.toList) = (mdlTo ss cs t len0).2) := by rw [← HK.out]; exact HH.out
          have HA' : Hid ((mdlTo ss cs t len0).2 = true → D.atKey (.string t.data.toList) (.held ebs) = .held (mdlTo ss cs t len0).1) := by rw [← HK.out]; exact HA.out
          clear HH HA HK
          generalize mdlTo ss cs t len0 = q at HM0 HH' HA'
          obtain ⟨mc, mf⟩ := q
          have lt0 : 0 < wc.heap.size := by
            rcases Nat.lt_or_ge 0 wc.heap.size with h | h
            · exact h
            · have := HG0.out; simp [World.cell?, Array.getElem?_eq_none h] at this
          have lt1 : 1 < wc.heap.size := by
            rcases Nat.lt_or_ge 1 wc.heap.size with h | h
            · exact h
            · have := HG1.out; simp [World.cell?, Array.getElem?_eq_none h] at this
          have lta : a0.block < wc.heap.size := by
            rcases Nat.lt_or_ge a0.block wc.heap.size with h | h
            · exact h
            · have := HS0.out; simp [World.cell?, Array.getElem?_eq_none h] at this
          have ltb : a1.block < wc.heap.size := by
            rcases Nat.lt_or_ge a1.block wc.heap.size with h | h
            · exact h
            · have := HB1.out; rw [Array.getElem?_eq_none h] at this; cases this
          have HG0' := hide ((HBW.out.cell (p := ⟨0, 0, none⟩) lt0).trans HG0.out)
          have HS0' := hide ((HBW.out.cell (p := a0) lta).trans HS0.out)
          have HF' : Hid (F.answers wr.tape) := by rw [HBW.out.tape]; exact HF.out
          have LT0 := hide lt0; have LT1 := hide lt1; have LTA := hide lta; have LTB := hide ltb
          clear lt0 lt1 lta ltb
          cases mf
          · have HTip := hide (tip_none F wc.heap.size k D t a0 s0 wr hown ht' HH'.out HF'.out HG0'.out HS0'.out)
            clear ht' hown HH' HA'
            go_wp2_with fail
            refine HM0.out.mono ?_
            rintro e w2 ⟨rfl, rfl⟩
            go_wp2_with fail
            refine HTip.out.mono ?_
            rintro e w3 ⟨rfl, hce, hb3⟩
            have HBE := hide (HBW.out.trans (hb3.mono HBW.out.size))
            have g0 : w3.cell? ⟨0, 0, none⟩ = some (.iface 55 (.pointer (some a0))) := (HBE.out.cell (p := ⟨0, 0, none⟩) LT0.out).trans HG0.out
            have g1 : w3.cell? ⟨1, 0, none⟩ = some (.iface 55 (.pointer (some a1))) := (HBE.out.cell (p := ⟨1, 0, none⟩) LT1.out).trans HG1.out
            have x0 := hide ((HBE.out.block _ LTA.out).trans HB0.out)
            have x1 := hide ((HBE.out.block _ LTB.out).trans HB1.out)
            have HCE := hide hce
            clear hb3 hce HTip HM0
            go_wp2_with fail
            refine (is_wrap_same _ 0 a0 _ HCE.out).mono ?_
            rintro e w4 ⟨rfl, rfl⟩
            go_wp2_with fail
            refine (is_wrap_other _ 0 a1 a0 c0 c1 t0 t1 _ HCE.out hne x0.out x1.out).mono ?_
            rintro e w5 ⟨rfl, rfl⟩
            go_wp2
            go_ret
            exact ⟨rfl, HBE.out⟩
          · have HTip := hide (tip_found wc.heap.size k D t mc wr hown ht' HH'.out (HA'.out rfl))
            clear ht' hown HH' HA'
            go_wp2_with fail
            refine HM0.out.mono ?_
            rintro e w2 ⟨rfl, rfl⟩
            go_wp2_with fail
            refine HTip.out.mono ?_
            rintro e w3 ⟨rfl, hb3⟩
            have HBE := hide (HBW.out.trans (hb3.mono HBW.out.size))
            clear hb3 HTip HM0
            go_wp2
            go_ret
            exact ⟨rfl, HBE.out⟩
end Go.Proofs.YbulkbmmeFmt
