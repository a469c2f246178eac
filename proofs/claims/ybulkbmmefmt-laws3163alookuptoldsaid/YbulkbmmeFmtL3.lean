/-
  LawS3163ALookup: the model's walk.
-/
import Derived.Test.YbulkbmmeFmtL2
import Derived.Lib.Strings
namespace Go.Proofs.YbulkbmmeFmt
open Go.RowKit Go.Maps

/-- A slice of strings that came in. -/
def SS (w : World) (ad : Option Addr) (len : Nat) (ss : List ByteArray) : Prop :=
  ss.length = len ∧ (len = 0 ∨ ∃ b off, ad = some ⟨b, off, none⟩ ∧ ∀ i, i < len → w.cell? ⟨b, off + i, none⟩ = some (.string (ss.getD i ebs)))
theorem SS.below {w w' : World} {ad : Option Addr} {len : Nat} {ss : List ByteArray} (h : SS w ad len ss) (hb : Below w.heap.size w w') : SS w' ad len ss := by
  obtain ⟨hl, h0 | ⟨b, off, e, hc⟩⟩ := h
  · exact ⟨hl, Or.inl h0⟩
  refine ⟨hl, Or.inr ⟨b, off, e, fun i hi => ?_⟩⟩
  have hlt : b < w.heap.size := by
    rcases Nat.lt_or_ge b w.heap.size with h | h
    · exact h
    · have := hc i hi; simp [World.cell?, Array.getElem?_eq_none h] at this
  exact (hb.cell (p := ⟨b, off + i, none⟩) hlt).trans (hc i hi)

def mdlTo (ss cs : List ByteArray) (t : ByteArray) : Nat → ByteArray × Bool
  | 0 => (ebs, false)
  | k + 1 => if ((ss.getD k ebs).toList == t.toList) = true then (cs.getD k ebs, true) else mdlTo ss cs t k
theorem mdl_hit {ss cs : List ByteArray} {t s : ByteArray} {k : Nat} (hs : s = ss.getD k ebs) (h : (s.toList == t.toList) = true) : mdlTo ss cs t (k + 1) = (cs.getD k ebs, true) := by
  subst hs; rw [mdlTo, if_pos h]
theorem mdl_miss {ss cs : List ByteArray} {t s : ByteArray} {k : Nat} (hs : s = ss.getD k ebs) (h : (s.toList == t.toList) = false) : mdlTo ss cs t (k + 1) = mdlTo ss cs t k := by
  subst hs; rw [mdlTo, h]; simp
theorem getD_past {cs : List ByteArray} {k : Nat} (h : cs.length ≤ k) : cs.getD k ebs = ebs := by
  rw [List.getD_eq_getElem?_getD, List.getElem?_eq_none h]; rfl
theorem ret_sb {a b : ByteArray} {x y : Bool} (h : a = b) (h' : x = y) : Ending.returned (.tuple #[.string a, .bool x]) = .returned (.tuple #[.string b, .bool y]) := by rw [h, h']
theorem val_s {a b : ByteArray} (h : a = b) : Value.string a = .string b := by rw [h]
theorem val_b {a b : Bool} (h : a = b) : Value.bool a = .bool b := by rw [h]

set_option maxHeartbeats 2000000 in
theorem model_any (ad0 ad1 : Option Addr) (len0 cap0 len1 cap1 : Nat) (ss cs : List ByteArray) (t : ByteArray) (w : World) (h0 : SS w ad0 len0 ss) (h1 : SS w ad1 len1 cs) (l0 : len0 ≤ 1024) (l1 : len1 ≤ 1024) :
    Calls Ybaf.prog 4 #[.slice ad0 len0 cap0, .slice ad1 len1 cap1, .string t] w fun e w' => e = .returned (.tuple #[.string (mdlTo ss cs t len0).1, .bool (mdlTo ss cs t len0).2]) ∧ w' = w := by
  obtain ⟨e0, h0⟩ := h0
  obtain ⟨e1, h1⟩ := h1
  have E1 : Hid (cs.length = len1) := e1
  clear e0 e1
  rcases h0 with rfl | ⟨b0, o0, rfl, hc0⟩
  · go_enter Ybaf.func4, Ybaf.ntmps4
    go_wp2
    refine wp_loop_rounds 1 ?_
    rw [rounds_succ]
    go_wp2
    go_ret2
    exact ⟨rfl, rfl⟩
  rcases h1 with rfl | ⟨b1, o1, rfl, hc1⟩
  · go_enter Ybaf.func4, Ybaf.ntmps4
    go_wp2
    go_loop [8, 9, 10] (fun f c i => ∃ k : Nat, k ≤ len0 ∧ i = .int .i64 k ∧ f = .bool (mdlTo ss cs t k).2 ∧ c = .string (mdlTo ss cs t k).1) (fun _ _ i => len0 - (intOf i).toNat)
    case atStart => exact ⟨0, Nat.zero_le _, rfl, rfl, rfl⟩
    case round =>
      obtain ⟨k, hk, rfl, rfl, rfl⟩ := hrel
      by_cases hlt : k < len0
      · obtain ⟨s, hs⟩ : ∃ s, s = ss.getD k ebs := ⟨_, rfl⟩
        have hcell := hc0 k hlt
        rw [← hs] at hcell
        have HS : Hid (s = ss.getD k ebs) := hs
        clear hs hc0
        cases hq : (s.toList == t.toList)
        · have HM : Hid (mdlTo ss cs t (k + 1) = mdlTo ss cs t k) := mdl_miss HS.out hq
          go_wp2
          go_round
          case rel => exact ⟨k + 1, by omega, by go_num, val_b (by rw [HM.out]), val_s (by rw [HM.out])⟩
          case measure => simp [intOf]; omega
        · have HM : Hid (mdlTo ss cs t (k + 1) = (cs.getD k ebs, true)) := mdl_hit HS.out hq
          go_wp2
          go_round
          case rel => exact ⟨k + 1, by omega, by go_num, val_b (by rw [HM.out]), val_s (by rw [HM.out, getD_past (by rw [E1.out]; omega)]; rfl)⟩
          case measure => simp [intOf]; omega
      · have HK : Hid (k = len0) := (by omega : k = len0)
        go_wp2
        go_ret2
        exact ⟨ret_sb (by rw [HK.out]) (by rw [HK.out]), rfl⟩
  · go_enter Ybaf.func4, Ybaf.ntmps4
    go_wp2
    go_loop [8, 9, 10] (fun f c i => ∃ k : Nat, k ≤ len0 ∧ i = .int .i64 k ∧ f = .bool (mdlTo ss cs t k).2 ∧ c = .string (mdlTo ss cs t k).1) (fun _ _ i => len0 - (intOf i).toNat)
    case atStart => exact ⟨0, Nat.zero_le _, rfl, rfl, rfl⟩
    case round =>
      obtain ⟨k, hk, rfl, rfl, rfl⟩ := hrel
      by_cases hlt : k < len0
      · obtain ⟨s, hs⟩ : ∃ s, s = ss.getD k ebs := ⟨_, rfl⟩
        have hcell := hc0 k hlt
        rw [← hs] at hcell
        have HS : Hid (s = ss.getD k ebs) := hs
        clear hs hc0
        cases hq : (s.toList == t.toList)
        · have HM : Hid (mdlTo ss cs t (k + 1) = mdlTo ss cs t k) := mdl_miss HS.out hq
          clear hc1
          go_wp2
          go_round
          case rel => exact ⟨k + 1, by omega, by go_num, val_b (by rw [HM.out]), val_s (by rw [HM.out])⟩
          case measure => simp [intOf]; omega
        · have HM : Hid (mdlTo ss cs t (k + 1) = (cs.getD k ebs, true)) := mdl_hit HS.out hq
          by_cases hl1 : k < len1
          · obtain ⟨c, hc⟩ : ∃ c, c = cs.getD k ebs := ⟨_, rfl⟩
            have hcellc := hc1 k hl1
            rw [← hc] at hcellc
            have HC : Hid (c = cs.getD k ebs) := hc
            clear hc hc1
            go_wp2
            go_round
            case rel => exact ⟨k + 1, by omega, by go_num, val_b (by rw [HM.out]), val_s (by rw [HM.out, ← HC.out])⟩
            case measure => simp [intOf]; omega
          · clear hc1
            go_wp2
            go_round
            case rel => exact ⟨k + 1, by omega, by go_num, val_b (by rw [HM.out]), val_s (by rw [HM.out, getD_past (by rw [E1.out]; omega)]; rfl)⟩
            case measure => simp [intOf]; omega
      · have HK : Hid (k = len0) := (by omega : k = len0)
        clear hc0 hc1
        go_wp2
        go_ret2
        exact ⟨ret_sb (by rw [HK.out]) (by rw [HK.out]), rfl⟩
end Go.Proofs.YbulkbmmeFmt
