/-
  LawS3161CHello: fmt.Errorf's closed facts; errors.New; newDecoder.
-/
import Derived.Test.YbulkbmlcFmtH14
import Derived.Laws.MakeOwn
namespace Go.Proofs.YbulkbmlcFmt
open Go.RowKit Go.Lib Go.Extern.Stop Go.Stop Go.Extern
set_option linter.unusedVariables false
set_option linter.unusedSimpArgs false

def nmE : String := match (Rows.laid_io_EOF (H := Unit)) with
  | .iface n _ => n
  | _ => "none"
def fmtA : ByteArray := ⟨#[112, 114, 111, 116, 111, 99, 111, 108, 32, 118, 101, 114, 115, 105, 111, 110, 32, 37, 100, 59, 32, 116, 104, 105, 115, 32, 112, 114, 111, 99, 101, 115, 115, 111, 114, 32, 115, 112, 101, 97, 107, 115, 32, 37, 100]⟩
def shape5 : List UInt8 := [6, 5, 0, 0, 0, 0, 0, 0, 0, 117, 105, 110, 116, 56]
def shape3 : List UInt8 := [5, 3, 0, 0, 0, 0, 0, 0, 0, 105, 110, 116]
def plain63 : List UInt8 := 14 :: FmtStop.pack nmE.toUTF8.data.toList
theorem call18 (args : Array Value) (w : World) : (callFunc 18 args).run Ybaf.prog w = ((FmtStop.errorf #[9, 66] #[34] args).run Ybaf.prog w).andThen fun v w' => .ok (.value v) w' :=
  run_callFunc_extern Ybaf.func18 (by kernel_rfl) (by kernel_rfl) (by kernel_rfl) (by kernel_rfl) args w
theorem fguard (name : String) (w : World) : (FmtStop.guard name).run Ybaf.prog w = .ok () w := by kernel_rfl
theorem fmtAr (w : World) : (FmtDoors.printed ⟨#[112, 114, 111, 116, 111, 99, 111, 108, 32, 118, 101, 114, 115, 105, 111, 110, 32, 37, 100, 59, 32, 116, 104, 105, 115, 32, 112, 114, 111, 99, 101, 115, 115, 111, 114, 32, 115, 112, 101, 97, 107, 115, 32, 37, 100]⟩ 2).run Ybaf.prog w = .ok [(0, 100, false), (1, 100, false)] w := by kernel_rfl
theorem fmtBr (w : World) : (FmtDoors.printed ⟨#[97, 32, 98, 114, 111, 107, 101, 110, 32, 104, 101, 108, 108, 111, 58, 32, 37, 118]⟩ 1).run Ybaf.prog w = .ok [(0, 118, false)] w := by kernel_rfl
theorem op5_100w (name : String) (x : Int) (w : World) : (FmtStop.operand name true 100 false (.iface 5 (.int .u8 x))).run Ybaf.prog w = .ok (shape5, Go.Extern.Stop.digits 8 (x % 2 ^ 64).toNat) w := by kernel_rfl
theorem op3_100w (name : String) (x : Int) (w : World) : (FmtStop.operand name true 100 false (.iface 3 (.int .i64 x))).run Ybaf.prog w = .ok (shape3, Go.Extern.Stop.digits 8 (x % 2 ^ 64).toNat) w := by kernel_rfl
theorem ptr63 (w : World) : (FmtStop.ptrTo "errors.errorString").run Ybaf.prog w = .ok 63 w := by kernel_rfl
theorem elem63 (w : World) : (elemOf 63).run Ybaf.prog w = .ok 65 w := by kernel_rfl
theorem op63_118w (name : String) (a : Addr) (s : ByteArray) (w : World) (hc : w.cell? a = some (.string s)) :
    (FmtStop.operand name true 118 false (.iface 63 (.pointer (some a)))).run Ybaf.prog w = .ok (plain63, s.data.toList) w := by
  have h1 : (typeStr 63).run Ybaf.prog w = .ok nmE w := by kernel_rfl
  have d2 : Ybaf.t63.desc = .pointer 65 := rfl
  have d3 : ∃ u, Ybaf.t65.desc = .named "errors.errorString" u := ⟨_, rfl⟩
  obtain ⟨u, d3⟩ := d3
  simp [FmtStop.operand, h1, d2, d3, run_load, hc, plain63]
set_option maxHeartbeats 1000000 in
theorem errorf_ver (F : Interp) (v : Int) (w : World) (hF : F.answers w.tape) :
    Calls Ybaf.prog 12 #[.string ⟨#[112, 114, 111, 116, 111, 99, 111, 108, 32, 118, 101, 114, 115, 105, 111, 110, 32, 37, 100, 59, 32, 116, 104, 105, 115, 32, 112, 114, 111, 99, 101, 115, 115, 111, 114, 32, 115, 112, 101, 97, 107, 115, 32, 37, 100]⟩, .slice (some ⟨w.heap.size, 0, none⟩) 2 2]
      (w.alloc (.cells #[.iface 5 (.int .u8 v), .iface 3 (.int .i64 5)] 20)) fun e w' => e = .returned (.iface 63 (.pointer (some ⟨w.heap.size + 1, 0, none⟩))) ∧ Below w.heap.size w w' := by
  have hF' := hF
  unfold Interp.answers at hF'
  have f1 := call18
  have f2 := fguard
  have f3 := fmtAr
  have f4 := op5_100w
  have f5 := op3_100w
  have f6 := ptr63
  have f7 := elem63
  go_enter Ybaf.func12, Ybaf.ntmps12
  go_wp2
  go_ret
  exact ⟨rfl, (((Below.refl _ _).alloc (Nat.le_refl _) _).alloc (by simp) _).drew⟩
set_option maxHeartbeats 1000000 in
theorem errorf_brk (F : Interp) (a : Addr) (s : ByteArray) (w : World) (hF : F.answers w.tape) (hs : w.cell? a = some (.string s)) :
    Calls Ybaf.prog 12 #[.string ⟨#[97, 32, 98, 114, 111, 107, 101, 110, 32, 104, 101, 108, 108, 111, 58, 32, 37, 118]⟩, .slice (some ⟨w.heap.size, 0, none⟩) 1 1]
      (w.alloc (.cells #[.iface 63 (.pointer (some a))] 20)) fun e w' => e = .returned (.iface 63 (.pointer (some ⟨w.heap.size + 1, 0, none⟩))) ∧ Below w.heap.size w w' := by
  have hF' := hF
  unfold Interp.answers at hF'
  have hs' : (w.alloc (.cells #[.iface 63 (.pointer (some a))] 20)).cell? a = some (.string s) := (((Below.refl _ w).alloc (Nat.le_refl _) _).cell (lt_of_cell hs)).trans hs
  have f1 := call18
  have f2 := fguard
  have f3 := fmtBr
  have f5 := op63_118w "fmt.errorf" a s _ hs'
  have f6 := ptr63
  have f7 := elem63
  go_enter Ybaf.func12, Ybaf.ntmps12
  go_wp2
  go_ret
  exact ⟨rfl, (((Below.refl _ _).alloc (Nat.le_refl _) _).alloc (by simp) _).drew⟩
set_option maxHeartbeats 1000000 in
theorem new_any (s : ByteArray) (w : World) : Calls Ybaf.prog 11 #[.string s] w fun e w' => e = .returned (.iface 63 (.pointer (some ⟨w.heap.size, 0, none⟩))) ∧ Below w.heap.size w w' := by
  go_enter Ybaf.func11, Ybaf.ntmps11
  go_wp2
  go_ret
  exact ⟨rfl, (Below.refl _ _).alloc (Nat.le_refl _) _⟩
/-! ### newDecoder -/
/-- A store over the whole of a block. -/
theorem wp_store_row {P : Program} {o : Oper} {a : Act} {w : World} {K : Act → World → Prop} {Q : Exit → Act → World → Prop} (ty : TypeId) (x y : Operand) (ho : o.op = .store ty x y)
    (g : Nat) (hx : a.eval x = .pointer (some ⟨g, 0, none⟩)) (cs : Array Value) (hy : a.eval y = .agg cs) (old : Array Value) (t : TypeId) (hg : w.heap[g]? = some (.cells old t)) (hs : old.size = cs.size)
    (h1 : ∀ v ∈ cs.toList, v.oneCell' = true) (hi : (P.info? ty).map (·.size) = some cs.size) (h : K (a.put o.dst undef) (w.setRow g cs)) : o.wp P a w K Q := by
  have hst := run_storeCells_from (P := P) g t cs.toList 0 old w hg (by simpa using hs.symm) h1
  have hv : (storeVar ty ⟨g, 0, none⟩ (.agg cs)).run P w = .ok () (w.setRow g cs) := by
    cases hq : P.info? ty with
    | none => simp [hq] at hi
    | some i =>
      have hs : i.size = cs.size := by simpa [hq] using hi
      simpa [storeVar, sizeOf, typeInfo, hq, hs, Value.cells] using hst
  unfold Oper.wp execOp
  simp only [ho, hx, hy, Instr.storeAt, Instr.sureAddr, Sem.run_bind, Sem.run_pure, Result.andThen_ok, hv]
  exact h
theorem wpList_store_row {P : Program} {ops : Array Oper} {rest : List Oper} {o : Oper} {a : Act} {w : World} {Q : Exit → Act → World → Prop} (hgd : o.guard = none) (ty : TypeId) (x y : Operand) (ho : o.op = .store ty x y)
    (g : Nat) (hx : a.eval x = .pointer (some ⟨g, 0, none⟩)) (cs : Array Value) (hy : a.eval y = .agg cs) (old : Array Value) (t : TypeId) (hg : w.heap[g]? = some (.cells old t)) (hs : old.size = cs.size)
    (h1 : ∀ v ∈ cs.toList, v.oneCell' = true) (hi : (P.info? ty).map (·.size) = some cs.size)
    (h : wpList P ops Q rest (a.put o.dst undef) (w.setRow g cs)) : wpList P ops Q (o :: rest) a w :=
  wpList_plain hgd fun _ hK => wp_store_row ty x y ho g hx cs hy old t hg hs h1 hi (hK _ _ h)
section
variable {P : Program} {ops : Array Oper} {rest : List Oper} {o : Oper} {a : Act} {w w' : World} {Q : Exit → Act → World → Prop}
theorem wpList_make (hgd : o.guard = none) (t : TypeId) (x y : Operand) (ho : o.op = .makeSlice t x y) (l c : Nat) (hx : a.eval x = .int .i64 (l : Int)) (hy : a.eval y = .int .i64 (c : Int)) (e : TypeId) (i : TypeInfo) (z : Value) (size bytes : Nat)
    (ht : P.underlying t = some (.slice e)) (hi : P.info? e = some i) (hz : i.zero = some z) (hs : i.size = size) (hb : i.bytes = bytes) (hlc : l ≤ c) (hbytes : bytes * c ≤ 281474976710656) (h63 : c ≤ 9223372036854775807)
    (h : ∀ cur : Array Value, cur = madeCells z.cells (c * size) → wpList P ops Q rest (a.put o.dst (.slice (some ⟨w.heap.size, 0, none⟩) l c)) (w.alloc (.cells cur e))) : wpList P ops Q (o :: rest) a w :=
  wpList_plain hgd fun _ hK => by
    subst hs hb
    have hb' : (i.bytes : Int) * (c : Int) ≤ 281474976710656 := by
      have : ((i.bytes * c : Nat) : Int) ≤ 281474976710656 := by omega
      rwa [Int.natCast_mul] at this
    have hr := run_make (P := P) w t e i z ht hi hz .i64 .i64 l c (by omega) (by omega) hb' (by omega)
    simp only [Int.toNat_natCast] at hr
    unfold Oper.wp execOp
    simp only [ho, hx, hy, Sem.run_bind, Sem.run_pure, Result.andThen_ok, hr]
    exact hK _ _ (h _ rfl)
end
def rd0 (bb cb K : Nat) : Array Value := #[.slice (some ⟨bb, 0, none⟩) K K, .iface 37 (.pointer (some ⟨cb, 0, none⟩)), .int .i64 0, .int .i64 0, .nilIface, .int .i64 (-1), .int .i64 (-1)]
theorem size58 : (Ybaf.prog.info? 58).map (·.size) = some 7 := by kernel_rfl
theorem one_rd0 {bb cb K : Nat} : ∀ v ∈ (rd0 bb cb K).toList, v.oneCell' = true := by
  intro v hv; simp [rd0] at hv; rcases hv with rfl | rfl | rfl | rfl | rfl <;> rfl
set_option maxHeartbeats 1000000 in
theorem reset_any (rb bb cb K : Nat) (old : Array Value) (w : World) (h : w.heap[rb]? = some (.cells old 58)) (hs : old.size = 7) :
    Calls Ybaf.prog 16 #[.pointer (some ⟨rb, 0, none⟩), .slice (some ⟨bb, 0, none⟩) K K, .iface 37 (.pointer (some ⟨cb, 0, none⟩))] w fun e w' => e = .returned (.tuple #[]) ∧ w'.heap[rb]? = some (.cells (rd0 bb cb K) 58) ∧ Fr (fun k => k = rb) w w' ∧ w'.heap.size = w.heap.size := by
  have H := hide h
  have hth : ∀ j, j < 7 → (w.cell? ⟨rb, j, none⟩).isSome = true := fun j hj => by rw [cell_of_row _ _ j _ _ (0, 0) h, Array.getElem?_eq_getElem (by omega)]; rfl
  go_enter Ybaf.func16, Ybaf.ntmps16
  clear hth h
  go_wp2_with (refine wpList_store_row rfl 58 _ _ rfl rb rfl (rd0 bb cb K) rfl old 58 H.out hs one_rd0 size58 ?_)
  go_end0
  exact ⟨rfl, setRow_heap _ _ _ _ _ _ H.out, ⟨rfl, rfl, rfl, by simp, fun k _ hk => setRow_other _ _ _ _ hk⟩, by simp⟩
theorem noReader (v : Value) (w : World) : (Instr.typeAssert (.iface 37 v) 46 38 true).run Ybaf.prog w = .ok (.tuple #[.pointer none, .bool false]) w := by kernel_rfl
theorem made_bytes (n : Nat) : madeCells #[Value.int .u8 0] n = (byteCells (List.replicate n 0)).toArray := by
  apply Array.ext
  · simp [madeCells, byteCells]
  · intro j h1 h2; simp [madeCells, byteCells, Nat.mod_one]
set_option maxHeartbeats 2000000 in
theorem newReader_any (cb K : Nat) (hK : 16 ≤ K) (hK2 : K ≤ 79) (w : World) :
    Calls Ybaf.prog 8 #[.iface 37 (.pointer (some ⟨cb, 0, none⟩)), .int .i64 (K : Int)] w fun e w' => e = .returned (.pointer (some ⟨w.heap.size, 0, none⟩)) ∧ w'.heap[w.heap.size]? = some (.cells (rd0 (w.heap.size + 1) cb K) 58) ∧ w'.heap[w.heap.size + 1]? = some (.cells (byteCells (List.replicate K 0)).toArray 5) ∧ w'.heap.size = w.heap.size + 2 ∧ Below w.heap.size w w' := by
  obtain ⟨i5, hi, hz0, hz1, hz2⟩ := info_parts info5
  have f1 := noReader
  have hmx : max (K : Int) 16 = (K : Int) := by omega
  have hmx' : ¬ K < 16 := by omega
  have hmx2 : ¬ (K : Int) < 16 := by omega
  go_enter Ybaf.func8, Ybaf.ntmps8
  go_upto_region 5 with fail
  go_wp2_with (refine wpList_make rfl 23 _ _ rfl K K rfl rfl 5 i5 _ 1 1 Ybaf.underlying23 hi hz0 hz1 hz2 (Nat.le_refl _) (by omega) (by omega) ?_; intro cur hcur)
  rw [made_bytes]
  refine (reset_any w.heap.size (w.heap.size + 1) cb K _ _ (heap_alloc2_old _ _ _) rfl).mono ?_
  rintro e w1 ⟨rfl, hr, hF, hsz⟩
  have hb : w1.heap[w.heap.size + 1]? = some (.cells (byteCells (List.replicate K 0)).toArray 5) := (hF.block _ (by simp) (by intro e; have e' : w.heap.size + 1 = w.heap.size := e; omega)).trans (heap_alloc2_new _ _ _)
  have hs2 : w1.heap.size = w.heap.size + 2 := by rw [hsz]; simp
  have hbel : Below w.heap.size w w1 := ⟨hF.os, hF.tape, hF.output, by omega, fun k hk => (hF.block k (by simp; omega) (by intro e; have e' : k = w.heap.size := e; omega)).trans ((((Below.refl _ _).alloc (Nat.le_refl _) _).alloc (by simp) _).block k hk)⟩
  have HR := hide hr; have HB := hide hb; have HS := hide hs2; have HBL := hide hbel
  clear hr hb hs2 hbel hF hsz f1
  go_wp2
  go_ret
  exact ⟨rfl, HR.out, HB.out, HS.out, HBL.out⟩
theorem build48 (zb : Nat) (w : World) : (Instr.build 48 #[(0, .iface 28 (.pointer (some ⟨zb, 0, none⟩)))]).run Ybaf.prog w = .ok (.agg (crA zb 0)) w := by kernel_rfl
set_option maxHeartbeats 2000000 in
theorem newDecoder_any (zb K : Nat) (hK : 16 ≤ K) (hK2 : K ≤ 79) (w : World) :
    Calls Ybaf.prog 5 #[.iface 28 (.pointer (some ⟨zb, 0, none⟩)), .int .i64 (K : Int)] w fun e w' => e = .returned (.pointer (some ⟨w.heap.size + 3, 0, none⟩)) ∧ w'.heap[w.heap.size]? = some (.cells (crA zb 0) 48) ∧ w'.heap[w.heap.size + 1]? = some (.cells (rd0 (w.heap.size + 2) w.heap.size K) 58) ∧
      w'.heap[w.heap.size + 2]? = some (.cells (byteCells (List.replicate K 0)).toArray 5) ∧ w'.heap[w.heap.size + 3]? = some (.cells #[.pointer (some ⟨w.heap.size, 0, none⟩), .pointer (some ⟨w.heap.size + 1, 0, none⟩), .slice none 0 0, .nilIface] 40) ∧ w'.heap.size = w.heap.size + 4 ∧ Below w.heap.size w w' := by
  have HC : Hid (∀ o : Obj, Calls Ybaf.prog 8 #[.iface 37 (.pointer (some ⟨w.heap.size, 0, none⟩)), .int .i64 (K : Int)] (w.alloc o) fun e w' => e = .returned (.pointer (some ⟨w.heap.size + 1, 0, none⟩)) ∧ w'.heap[w.heap.size + 1]? = some (.cells (rd0 (w.heap.size + 2) w.heap.size K) 58) ∧ w'.heap[w.heap.size + 2]? = some (.cells (byteCells (List.replicate K 0)).toArray 5) ∧ w'.heap.size = w.heap.size + 3 ∧ Below (w.heap.size + 1) (w.alloc o) w') := fun o => by
    have h := newReader_any w.heap.size K hK hK2 (w.alloc o)
    rw [show (w.alloc o).heap.size = w.heap.size + 1 by simp] at h
    exact h
  go_enter Ybaf.func5, Ybaf.ntmps5
  go_wp2_with fail
  refine (HC.out _).mono ?_
  rintro e w1 ⟨rfl, hr, hb, hs, hbl⟩
  have h0 := (hbl.block w.heap.size (by omega)).trans (heap_alloc_new w _)
  have hbel : Below w.heap.size w w1 := ((Below.refl _ w).alloc (Nat.le_refl _) _).trans (hbl.mono (by omega))
  have H0 := hide h0; have HR := hide hr; have HB := hide hb; have HS := hide hs; have HBL := hide hbel
  clear h0 hr hb hs hbl hbel HC
  go_wp2_with fail
  go_ret
  have hs := HS.out
  have hn : ∀ (o : Obj) k, k < w1.heap.size → (w1.alloc o).heap[k]? = w1.heap[k]? := fun o k hk => Below.heap_alloc w1 o k hk
  refine ⟨?_, (hn _ _ (by omega)).trans H0.out, (hn _ _ (by omega)).trans HR.out, (hn _ _ (by omega)).trans HB.out, ?_, ?_, HBL.out.alloc HBL.out.size _⟩
  · show Ending.returned (.pointer (some ⟨w1.heap.size, 0, none⟩)) = _
    rw [hs]
  · rw [← hs]; exact heap_alloc_new w1 _
  · show (w1.heap.push _).size = _
    simp; omega
end Go.Proofs.YbulkbmlcFmt
