/-
  LawS3163ALookup: tipOf; the model.
-/
import Derived.Test.YbulkbmmeFmtL1
import Derived.Maps.OwnSet
import Derived.Maps.StringElems
namespace Go.Proofs.YbulkbmmeFmt
open Go.RowKit Go.Extern.Stop Go.Stop Go.Extern Go.Maps Go.WideMaps Go.WideElems

def ebs : ByteArray := ⟨#[]⟩
/-- HOW AN ELEMENT OF THE MAP READS: a branch, by its Commit. -/
def brElem : Value → Option (DataW ByteArray × List MemPlace)
  | .agg cs => match cs.toList with
    | [.string c, .string _] => some (.held c, [])
    | _ => none
  | _ => none
theorem brElem_mk (c d : ByteArray) : brElem (.agg #[.string c, .string d]) = some (.held c, []) := rfl
theorem brElem_inv {v : Value} {z : DataW ByteArray × List MemPlace} (h : brElem v = some z) : ∃ c d : ByteArray, v = .agg #[.string c, .string d] ∧ z = (.held c, []) := by
  unfold brElem at h
  split at h
  · rename_i cs
    split at h
    · rename_i c d hc
      obtain ⟨l⟩ := cs
      simp at hc; subst hc
      exact ⟨c, d, rfl, (Option.some.inj h).symm⟩
    · cases h
  · cases h
theorem law9 : Keyed Ybaf.prog 9 := string_keyed Ybaf.underlying9
theorem zero25 (w : World) : (zeroValue 25).run Ybaf.prog w = .ok (.agg #[.string ⟨#[]⟩, .string ⟨#[]⟩]) w := by kernel_rfl

theorem wpList_lookup_br {w : World} {ops : Array Oper} {rest : List Oper} {o : Oper} {a : Act} {Q : Exit → Act → World → Prop}
    (hg : o.guard = none) (m x : Operand) (hop : o.op = Op.lookup 23 m x true) (b n : Nat) (D : DataW ByteArray)
    (hm : a.eval m = .map (some b)) (hown : w.ownsMap Ybaf.prog 9 brElem b n D) (t : ByteArray) (hx : a.eval x = .string t) (ht : t.size ≤ maxLen)
    (hK : ∀ c d : ByteArray, D.atKey (.string t.data.toList) (.held ebs) = .held c → wpList Ybaf.prog ops Q rest (a.put o.dst (.tuple #[.agg #[.string c, .string d], .bool (Maps.has D (.string t.data.toList))])) w) :
    wpList Ybaf.prog ops Q (o :: rest) a w :=
  wpList_lookup_own_ok w hg m x 23 hop 9 25 law9 Ybaf.underlying23 brElem (zero25 w) (.held ebs) [] rfl b n D hm hown (.string t) _ hx (keyOf_string_mk Ybaf.underlying9 ht) (fun v ps hv => by
    obtain ⟨c, d, rfl, hz⟩ := brElem_inv hv
    exact hK c d (Prod.mk.inj hz).1)

set_option maxHeartbeats 1000000 in
theorem tip_found (B n : Nat) (D : DataW ByteArray) (t c : ByteArray) (w : World) (hown : w.ownsMap Ybaf.prog 9 brElem B n D) (ht : t.size ≤ maxLen)
    (hh : Maps.has D (.string t.data.toList) = true) (hc : D.atKey (.string t.data.toList) (.held ebs) = .held c) :
    Calls Ybaf.prog 5 #[.map (some B), .string t] w fun e w' => e = .returned (.tuple #[.string c, .nilIface]) ∧ Below w.heap.size w w' := by
  go_enter Ybaf.func5, Ybaf.ntmps5
  go_wp2_with (at_lookup; refine wpList_lookup_br rfl _ _ rfl B n D rfl hown t rfl ht ?_; intro c' d' hc'; (obtain rfl : c' = c := DataW.held.inj (hc'.symm.trans hc)))
  go_ret2
  exact ⟨rfl, (Below.refl _ _).alloc (Nat.le_refl _) _⟩

set_option maxHeartbeats 1000000 in
theorem tip_none (F : Interp) (B n : Nat) (D : DataW ByteArray) (t : ByteArray) (a : Addr) (s : ByteArray) (w : World) (hown : w.ownsMap Ybaf.prog 9 brElem B n D) (ht : t.size ≤ maxLen)
    (hh : Maps.has D (.string t.data.toList) = false) (hF : F.answers w.tape) (hg : w.cell? ⟨0, 0, none⟩ = some (.iface 55 (.pointer (some a)))) (hs : w.cell? a = some (.string s)) :
    Calls Ybaf.prog 5 #[.map (some B), .string t] w fun e w' => e = .returned (.tuple #[.string ⟨#[]⟩, .iface 43 (.pointer (some ⟨w.heap.size + 2, 0, none⟩))]) ∧
      w'.cell? ⟨w.heap.size + 2, 0 + 1, none⟩ = some (.iface 55 (.pointer (some a))) ∧ Below w.heap.size w w' := by
  have hlt : a.block < w.heap.size := by
    rcases Nat.lt_or_ge a.block w.heap.size with h | h
    · exact h
    · simp [World.cell?, Array.getElem?_eq_none h] at hs
  have HE : Hid (∀ o : Obj, Calls Ybaf.prog 7 #[.string ⟨#[37, 119, 58, 32, 116, 104, 101, 32, 116, 97, 114, 103, 101, 116, 32, 98, 114, 97, 110, 99, 104, 32, 37, 115, 32, 100, 111, 101, 115, 32, 110, 111, 116, 32, 101, 120, 105, 115, 116]⟩, .slice (some ⟨w.heap.size + 1, 0, none⟩) 2 2]
      ((w.alloc o).alloc (.cells #[.iface 55 (.pointer (some a)), .iface 9 (.string t)] 20)) fun e w' => e = .returned (.iface 43 (.pointer (some ⟨w.heap.size + 2, 0, none⟩))) ∧ ∃ x : ByteArray,
      w' = (((w.alloc o).alloc (.cells #[.iface 55 (.pointer (some a)), .iface 9 (.string t)] 20)).alloc (.cells #[.string x, .iface 55 (.pointer (some a))] 82)).drew) := by
    intro o
    have h := errorf_any F t a s (w.alloc o) hF ((((Below.refl _ w).alloc (Nat.le_refl _) _).cell hlt).trans hs)
    rw [show (w.alloc o).heap.size = w.heap.size + 1 by simp] at h
    exact h
  have h0 : 0 < w.heap.size := by
    rcases Nat.lt_or_ge 0 w.heap.size with h | h
    · exact h
    · simp [World.cell?, Array.getElem?_eq_none h] at hg
  go_enter Ybaf.func5, Ybaf.ntmps5
  go_wp2_with (at_lookup; refine wpList_lookup_br rfl _ _ rfl B n D rfl hown t rfl ht ?_; intro c' d' hc'; clear hc')
  refine (HE.out _).mono ?_
  rintro e w1 ⟨rfl, x, rfl⟩
  go_wp2
  go_ret2
  exact ⟨rfl, by simp [go_sem], (((((Below.refl _ _).alloc (Nat.le_refl _) _).alloc (by simp) _).alloc (by simp; omega) _).drew)⟩
end Go.Proofs.YbulkbmmeFmt
