/-
  LawS3163ALookup: errors.Is at two sentinels and at a wrapped one (after the guide's worked SentryIs), fmt.Errorf's closed facts.
-/
import Derived.Test.YbulkbmmeFmtRows
import Derived.WalkKit
import Derived.WalkSpells
import Derived.LaidEql
import Derived.Stop.Asserts
import Derived.Stop.CallBack
import Derived.Stop.IfaceNil
import Derived.RowKitTokens
namespace Go.Proofs.YbulkbmmeFmt
open Go.RowKit Go.Extern.Stop Go.Stop Go.Extern

/-! ### closed facts: 'reflectlite.TypeOf(target).Comparable()' at such a target -/
theorem isTypeOf (v : Value) (w : World) : (Extern.ReflectliteType.typeOf #[.iface 55 v]).run Ybaf.prog w = .ok (.iface 45 (.agg #[.pointer (some ⟨2, 55, none⟩)])) w := by kernel_rfl
theorem callComparable (v : Value) (w : World) (hv : v = .agg #[.pointer (some ⟨2, 55, none⟩)]) : (callFunc 32 #[v]).run Ybaf.prog w = .ok (.value (.bool true)) w := by
  subst hv; kernel_rfl
theorem methodComparable (v : Value) (w : World) : (Go.method 197 45 v "Comparable").run Ybaf.prog w = .ok (32, v) w := by kernel_rfl
theorem methodUnwrap (v : Value) (w : World) : (Go.method 197 43 v "Unwrap").run Ybaf.prog w = .ok (28, v) w := by kernel_rfl
theorem isComp : (Ybaf.prog.info? 55).map (·.comparable) = some true := by kernel_rfl
theorem isSize : (Ybaf.prog.info? 57).map (·.size) = some 1 := by kernel_rfl
/-! ### closed facts on the method sets -/
theorem noIsE (v : Value) (xT : TypeId) (w : World) : (Instr.typeAssert (.iface 55 v) xT 47 true).run Ybaf.prog w = .ok (.tuple #[.nilIface, .bool false]) w := run_typeAssert_lacksB Ybaf.underlying47 (by kernel_rfl) (by kernel_rfl) v xT w
theorem noUnwrapE (v : Value) (xT : TypeId) (w : World) : (Instr.typeAssert (.iface 55 v) xT 50 true).run Ybaf.prog w = .ok (.tuple #[.nilIface, .bool false]) w := run_typeAssert_lacksB Ybaf.underlying50 (by kernel_rfl) (by kernel_rfl) v xT w
theorem noUnwrapsE (v : Value) (xT : TypeId) (w : World) : (Instr.typeAssert (.iface 55 v) xT 52 true).run Ybaf.prog w = .ok (.tuple #[.nilIface, .bool false]) w := run_typeAssert_lacksB Ybaf.underlying52 (by kernel_rfl) (by kernel_rfl) v xT w
theorem noIsW (v : Value) (xT : TypeId) (w : World) : (Instr.typeAssert (.iface 43 v) xT 47 true).run Ybaf.prog w = .ok (.tuple #[.nilIface, .bool false]) w := run_typeAssert_lacksB Ybaf.underlying47 (by kernel_rfl) (by kernel_rfl) v xT w
theorem hasUnwrapW (v : Value) (xT : TypeId) (w : World) : (Instr.typeAssert (.iface 43 v) xT 50 true).run Ybaf.prog w = .ok (.tuple #[.iface 43 v, .bool true]) w := run_typeAssert_hasB Ybaf.underlying50 (by kernel_rfl) v xT w

set_option maxHeartbeats 1000000 in
/-- errors.Is(e, x), e a wrapError that wraps x itself. -/
theorem is_wrap_same (pb po : Nat) (b : Addr) (w : World) (h1 : w.cell? ⟨pb, po + 1, none⟩ = some (.iface 55 (.pointer (some b)))) :
    Calls Ybaf.prog 6 #[.iface 43 (.pointer (some ⟨pb, po, none⟩)), .iface 55 (.pointer (some b))] w fun e w' => e = .returned (.bool true) ∧ w' = w := by
  obtain ⟨i, hi, hcmp⟩ := Option.map_eq_some_iff.1 isComp
  obtain ⟨j, hj, hjs⟩ := Option.map_eq_some_iff.1 isSize
  have h8 := @run_callFunc_extern Ybaf.prog 8 _ Extern.ReflectliteType.typeOf Ybaf.func8 (by kernel_rfl) (by kernel_rfl) (by kernel_rfl) (by kernel_rfl)
  have h32 := fun w => callComparable _ w rfl
  have tT := isTypeOf
  have cT := methodComparable
  have mU := methodUnwrap
  have nE := noIsE
  have uE := noUnwrapE
  have vE := noUnwrapsE
  have nW := noIsW
  have uW := hasUnwrapW
  have heq := run_eql_iface_ptr_same (P := Ybaf.prog) w b Ybaf.underlying29 Ybaf.underlying55 hi hcmp hj
  have hty := run_eql_iface_types (P := Ybaf.prog) 43 55 (.pointer (some ⟨pb, po, none⟩)) (.pointer (some b)) Ybaf.underlying29 (by decide) w
  go_enter Ybaf.func6, Ybaf.ntmps6
  go_wp2
  refine wp_loop_rounds 2 ?_
  rw [rounds_succ]
  go_wp2
  rw [rounds_succ]
  go_wp2
  go_ret
  exact ⟨rfl, rfl⟩

set_option maxHeartbeats 1000000 in
/-- errors.Is(e, x), e a wrapError that wraps another error of errors.New's make. -/
theorem is_wrap_other (pb po : Nat) (b a : Addr) (ca cb : Array Value) (ta tb : TypeId) (w : World) (h1 : w.cell? ⟨pb, po + 1, none⟩ = some (.iface 55 (.pointer (some a)))) (hne : a ≠ b) (ha : w.heap[a.block]? = some (.cells ca ta (0, 0))) (hb : w.heap[b.block]? = some (.cells cb tb (0, 0))) :
    Calls Ybaf.prog 6 #[.iface 43 (.pointer (some ⟨pb, po, none⟩)), .iface 55 (.pointer (some b))] w fun e w' => e = .returned (.bool false) ∧ w' = w := by
  obtain ⟨i, hi, hcmp⟩ := Option.map_eq_some_iff.1 isComp
  obtain ⟨j, hj, hjs⟩ := Option.map_eq_some_iff.1 isSize
  have h8 := @run_callFunc_extern Ybaf.prog 8 _ Extern.ReflectliteType.typeOf Ybaf.func8 (by kernel_rfl) (by kernel_rfl) (by kernel_rfl) (by kernel_rfl)
  have h32 := fun w => callComparable _ w rfl
  have tT := isTypeOf
  have cT := methodComparable
  have mU := methodUnwrap
  have nE := noIsE
  have uE := noUnwrapE
  have vE := noUnwrapsE
  have nW := noIsW
  have uW := hasUnwrapW
  have heq := run_eql_iface_ptr_other (P := Ybaf.prog) w Ybaf.underlying29 Ybaf.underlying55 hi hcmp hj (by rw [hjs]; decide) hne ha hb
  have hty := run_eql_iface_types (P := Ybaf.prog) 43 55 (.pointer (some ⟨pb, po, none⟩)) (.pointer (some b)) Ybaf.underlying29 (by decide) w
  go_enter Ybaf.func6, Ybaf.ntmps6
  go_wp2
  refine wp_loop_rounds 2 ?_
  rw [rounds_succ]
  go_wp2
  rw [rounds_succ]
  go_wp2
  go_ret
  exact ⟨rfl, rfl⟩

/-! ### fmt.errorf, the stop: closed facts -/
def nmE : String := match (Rows.laid_example_com_branchwright_branchwright_internal_flow_ErrRefused (H := Unit)) with
  | .iface n _ => n
  | _ => "none"
def shape9 : List UInt8 := [12, 6, 0, 0, 0, 0, 0, 0, 0, 115, 116, 114, 105, 110, 103]
def plain55 : List UInt8 := 14 :: FmtStop.pack nmE.toUTF8.data.toList
theorem call10 (args : Array Value) (w : World) : (callFunc 10 args).run Ybaf.prog w = ((FmtStop.errorf #[9, 41] #[29] args).run Ybaf.prog w).andThen fun v w' => .ok (.value v) w' :=
  run_callFunc_extern Ybaf.func10 (by kernel_rfl) (by kernel_rfl) (by kernel_rfl) (by kernel_rfl) args w
theorem fguard (name : String) (w : World) : (FmtStop.guard name).run Ybaf.prog w = .ok () w := by kernel_rfl
theorem fmt0r (w : World) : (FmtDoors.printed ⟨#[37, 119, 58, 32, 116, 104, 101, 32, 116, 97, 114, 103, 101, 116, 32, 98, 114, 97, 110, 99, 104, 32, 37, 115, 32, 100, 111, 101, 115, 32, 110, 111, 116, 32, 101, 120, 105, 115, 116]⟩ 2).run Ybaf.prog w = .ok [(0, 119, false), (1, 115, false)] w := by kernel_rfl
theorem op9_115w (name : String) (x : ByteArray) (w : World) : (FmtStop.operand name true 115 false (.iface 9 (.string x))).run Ybaf.prog w = .ok (shape9, FmtStop.pack x.data.toList) w := by kernel_rfl
theorem ptr43 (w : World) : (FmtStop.ptrTo "fmt.wrapError").run Ybaf.prog w = .ok 43 w := by kernel_rfl
theorem elem43 (w : World) : (elemOf 43).run Ybaf.prog w = .ok 82 w := by kernel_rfl
theorem isError55 (w : World) : (FmtDoors.textMethod 55 "Error").run Ybaf.prog w = .ok true w := by kernel_rfl
theorem opPlain55_119w (name : String) (a : Addr) (s : ByteArray) (w : World) (hc : w.cell? a = some (.string s)) :
    (FmtStop.operand name true 119 false (.iface 55 (.pointer (some a)))).run Ybaf.prog w = .ok (plain55, s.data.toList) w := by
  have h1 : (typeStr 55).run Ybaf.prog w = .ok nmE w := by kernel_rfl
  have d2 : Ybaf.t55.desc = .pointer 57 := rfl
  have d3 : Ybaf.t57.desc = .named "errors.errorString" 56 := rfl
  simp [FmtStop.operand, h1, d2, d3, run_load, hc, plain55]


set_option maxHeartbeats 1000000 in
theorem errorf_any (F : Interp) (t : ByteArray) (a : Addr) (s : ByteArray) (w : World) (hF : F.answers w.tape)
    (hs : w.cell? a = some (.string s)) :
    Calls Ybaf.prog 7 #[.string ⟨#[37, 119, 58, 32, 116, 104, 101, 32, 116, 97, 114, 103, 101, 116, 32, 98, 114, 97, 110, 99, 104, 32, 37, 115, 32, 100, 111, 101, 115, 32, 110, 111, 116, 32, 101, 120, 105, 115, 116]⟩, .slice (some ⟨w.heap.size, 0, none⟩) 2 2]
      (w.alloc (.cells #[.iface 55 (.pointer (some a)), .iface 9 (.string t)] 20)) fun e w' => e = .returned (.iface 43 (.pointer (some ⟨w.heap.size + 1, 0, none⟩))) ∧ ∃ x : ByteArray,
      w' = ((w.alloc (.cells #[.iface 55 (.pointer (some a)), .iface 9 (.string t)] 20)).alloc (.cells #[.string x, .iface 55 (.pointer (some a))] 82)).drew := by
  have hF' := hF
  unfold Interp.answers at hF'
  have hlt : a.block < w.heap.size := by
    rcases Nat.lt_or_ge a.block w.heap.size with h | h
    · exact h
    · simp [World.cell?, Array.getElem?_eq_none h] at hs
  have hs' : (w.alloc (.cells #[.iface 55 (.pointer (some a)), .iface 9 (.string t)] 20)).cell? a = some (.string s) := by
    exact (((Below.refl _ w).alloc (Nat.le_refl _) _).cell hlt).trans hs
  have f1 := call10
  have f2 := fguard
  have f3 := fmt0r
  have f4 := op9_115w
  have f5 := opPlain55_119w "fmt.errorf" a s _ hs'
  have f6 := ptr43
  have f7 := elem43
  have f8 := isError55
  go_enter Ybaf.func7, Ybaf.ntmps7
  go_wp2
  go_ret
  exact ⟨rfl, _, rfl⟩

end Go.Proofs.YbulkbmmeFmt
