/-
  LawS3161CHello: the buffered reader: readErr, fill.
-/
import Derived.Test.YbulkbmlcFmtH1
namespace Go.Proofs.YbulkbmlcFmt
open Go.RowKit Go.Lib
set_option linter.unusedVariables false
set_option linter.unusedSimpArgs false

/-- What stays as it is while the stream is read. -/
structure Par where
  (zb cb rb bb sb n sc st K : Nat)
  S : Bytes
  E : Addr
def Par.eof (p : Par) : Value := .iface 63 (.pointer (some p.E))
structure Par.Ok (p : Par) : Prop where
  n1 : p.zb ≠ p.cb
  n2 : p.zb ≠ p.rb
  n3 : p.zb ≠ p.bb
  n4 : p.zb ≠ p.sb
  n5 : p.cb ≠ p.rb
  n6 : p.cb ≠ p.bb
  n7 : p.cb ≠ p.sb
  n8 : p.rb ≠ p.bb
  n9 : p.rb ≠ p.sb
  n10 : p.bb ≠ p.sb
  g1 : 6 ≤ p.zb
  g2 : 6 ≤ p.cb
  g3 : 6 ≤ p.rb
  g4 : 6 ≤ p.bb
  g5 : 6 ≤ p.sb
  l1 : p.n ≤ p.sc
  l2 : p.n ≤ 1000000
  l3 : p.S.length = p.n
  l4 : 1 ≤ p.st ∧ p.st ≤ 7
  l5 : 16 ≤ p.K ∧ p.K ≤ 79
def rdA (p : Par) (r wd : Nat) (e : Value) (lb lr : Int) : Array Value := #[.slice (some ⟨p.bb, 0, none⟩) p.K p.K, .iface 37 (.pointer (some ⟨p.cb, 0, none⟩)), .int .i64 (r : Int), .int .i64 (wd : Int), e, .int .i64 lb, .int .i64 lr]
structure St (p : Par) (w : World) (i r wd : Nat) (buf : Bytes) (e : Value) (cnt lb lr : Int) : Prop where
  z : w.heap[p.zb]? = some (.cells (zzA p.sb p.n p.sc i p.st) 30)
  c : w.heap[p.cb]? = some (.cells (crA p.zb cnt) 48)
  rd : w.heap[p.rb]? = some (.cells (rdA p r wd e lb lr) 58)
  b : w.heap[p.bb]? = some (.cells (byteCells buf).toArray 5)
  s : w.rangeAt p.sb 0 (byteCells p.S)
  g : w.cell? ⟨3, 0, none⟩ = some p.eof
  hb : buf.length = p.K
  hi : i ≤ p.n
def rem (p : Par) (i r wd : Nat) (buf : Bytes) : Bytes := (buf.drop r).take (wd - r) ++ p.S.drop i
/-- Nothing old turns but the blocks of F. -/
structure Fr (F : Nat → Prop) (w w' : World) : Prop where
  os : w'.os = w.os
  tape : w'.tape = w.tape
  output : w'.output = w.output
  size : w.heap.size ≤ w'.heap.size
  block : ∀ k, k < w.heap.size → ¬ F k → w'.heap[k]? = w.heap[k]?
theorem Fr.refl (F : Nat → Prop) (w : World) : Fr F w w := ⟨rfl, rfl, rfl, Nat.le_refl _, fun _ _ _ => rfl⟩
theorem Fr.trans {F : Nat → Prop} {a b c : World} (h : Fr F a b) (k : Fr F b c) : Fr F a c :=
  ⟨k.os.trans h.os, k.tape.trans h.tape, k.output.trans h.output, Nat.le_trans h.size k.size, fun i hi hn => (k.block i (Nat.lt_of_lt_of_le hi h.size) hn).trans (h.block i hi hn)⟩
theorem Fr.mono {F G : Nat → Prop} {a b : World} (h : Fr F a b) (hFG : ∀ k, F k → G k) : Fr G a b := ⟨h.os, h.tape, h.output, h.size, fun k hk hn => h.block k hk (fun hf => hn (hFG k hf))⟩
theorem Fr.set {F : Nat → Prop} {w w' : World} (h : Fr F w w') {b j : Nat} (hb : F b) (v : Value) : Fr F w (w'.setCell ⟨b, j, none⟩ v) :=
  ⟨h.os, h.tape, h.output, by simpa using h.size, fun k hk hn => (heap_setCell_other _ _ _ _ (fun e => hn (by rw [e]; exact hb))).trans (h.block k hk hn)⟩
theorem Fr.drewN {F : Nat → Prop} {w w' : World} (h : Fr F w w') (q : Nat) : Fr F w (w'.drewN q) := ⟨h.os, h.tape, h.output, h.size, h.block⟩
theorem heap_setCells_other (b : Nat) : ∀ (vs : List Value) (o : Nat) (w : World) (k : Nat), k ≠ b → (w.setCells b o vs).heap[k]? = w.heap[k]?
  | [], _, _, _, _ => rfl
  | v :: r, o, w, k, h => by rw [World.setCells, heap_setCells_other b r _ _ k h, heap_setCell_other _ _ _ _ h]
theorem size_setCells (b : Nat) : ∀ (vs : List Value) (o : Nat) (w : World), (w.setCells b o vs).heap.size = w.heap.size
  | [], _, _ => rfl
  | v :: r, o, w => by rw [World.setCells, size_setCells b r]; simp
theorem os_setCells (b : Nat) : ∀ (vs : List Value) (o : Nat) (w : World), (w.setCells b o vs).os = w.os ∧ (w.setCells b o vs).tape = w.tape ∧ (w.setCells b o vs).output = w.output
  | [], _, _ => ⟨rfl, rfl, rfl⟩
  | v :: r, o, w => by rw [World.setCells]; exact os_setCells b r _ _
theorem Fr.sets {F : Nat → Prop} {w w' : World} (h : Fr F w w') {b : Nat} (hb : F b) (o : Nat) (vs : List Value) : Fr F w (w'.setCells b o vs) :=
  have e := os_setCells b vs o w'
  ⟨e.1.trans h.os, e.2.1.trans h.tape, e.2.2.trans h.output, by rw [size_setCells]; exact h.size, fun k hk hn => (heap_setCells_other _ _ _ _ _ (fun e => hn (by rw [e]; exact hb))).trans (h.block k hk hn)⟩
theorem splice_step {α : Type} (cur r : List α) (v : α) (o : Nat) (ho : o < cur.length) :
    (cur.set o v).take (o + 1) ++ r ++ (cur.set o v).drop (o + 1 + r.length) = cur.take o ++ (v :: r) ++ cur.drop (o + (v :: r).length) := by
  obtain ⟨A, x, C, rfl, rfl⟩ : ∃ A x C, cur = A ++ x :: C ∧ A.length = o := ⟨cur.take o, cur[o], cur.drop (o + 1), by simp, by simp; omega⟩
  have e1 : (A ++ x :: C).set A.length v = A ++ v :: C := by rw [List.set_append_right _ _ (Nat.le_refl _)]; simp
  have e2 : (A ++ v :: C).take (A.length + 1) = A ++ [v] := by rw [List.take_append, List.take_of_length_le (by omega)]; simp
  have e3 : ∀ y : α, (A ++ y :: C).drop (A.length + 1 + r.length) = C.drop r.length := fun y => by
    rw [Nat.add_assoc, List.drop_append, List.drop_eq_nil_of_le (by omega), show A.length + (1 + r.length) - A.length = r.length + 1 by omega]; rfl
  have e4 : (A ++ x :: C).take A.length = A := by simp
  rw [e1, e2, e3, e4, show A.length + (v :: r).length = A.length + 1 + r.length by simp; omega, e3]
  simp
/-- A run of cells in a block that is known whole. -/
theorem setCells_block (b : Nat) (t : TypeId) : ∀ (vs : List Value) (o : Nat) (w : World) (cur : List Value), w.heap[b]? = some (.cells cur.toArray t) → o + vs.length ≤ cur.length → (w.setCells b o vs).heap[b]? = some (.cells (cur.take o ++ vs ++ cur.drop (o + vs.length)).toArray t)
  | [], o, w, cur, h, _ => by
    rw [World.setCells, h]; simp
  | v :: r, o, w, cur, h, hl => by
    rw [World.setCells]
    have h1 := heap_setCell_same w b o cur.toArray t v h
    rw [List.setIfInBounds_toArray] at h1
    have ho : o < cur.length := by simp at hl; omega
    rw [setCells_block b t r (o + 1) _ _ h1 (by simp at hl ⊢; omega), splice_step cur r v o ho]
section
variable {p : Par} {w : World} {i r wd : Nat} {buf : Bytes} {e : Value} {cnt lb lr : Int}
theorem St.ahead (h : St p w i r wd buf e cnt lb lr) (q : Nat) : St p (w.drewN q) i r wd buf e cnt lb lr := ⟨h.z, h.c, h.rd, h.b, h.s, h.g, h.hb, h.hi⟩
theorem cell_kept {w w' : World} {a : Addr} {v : Value} (h : w.cell? a = some v) (hb : w'.heap[a.block]? = w.heap[a.block]?) : w'.cell? a = some v := by
  unfold World.cell? at h ⊢; rw [hb]; exact h
theorem range_kept {w w' : World} {b o : Nat} {cs : List Value} (h : w.rangeAt b o cs) (hb : w'.heap[b]? = w.heap[b]?) : w'.rangeAt b o cs := fun j v hv => cell_kept (h j v hv) hb
/-- A state kept by a step that turns none of its blocks. -/
theorem St.keep (ok : p.Ok) (h : St p w i r wd buf e cnt lb lr) {w' : World} (hk : ∀ k, k < w.heap.size → k = 3 ∨ k = p.zb ∨ k = p.cb ∨ k = p.rb ∨ k = p.bb ∨ k = p.sb → w'.heap[k]? = w.heap[k]?) : St p w' i r wd buf e cnt lb lr :=
  ⟨(hk _ (lt_of_heap h.z) (by simp)).trans h.z, (hk _ (lt_of_heap h.c) (by simp)).trans h.c, (hk _ (lt_of_heap h.rd) (by simp)).trans h.rd, (hk _ (lt_of_heap h.b) (by simp)).trans h.b,
    fun j v hv => cell_kept (h.s j v hv) (hk _ (lt_of_cell (h.s j v hv)) (by simp)), cell_kept h.g (hk _ (lt_of_cell h.g) (by simp)), h.hb, h.hi⟩
theorem St.setR (ok : p.Ok) (h : St p w i r wd buf e cnt lb lr) (j : Nat) (v : Value) {r' wd' : Nat} {e' : Value} {lb' lr' : Int} (hA : (rdA p r wd e lb lr).setIfInBounds j v = rdA p r' wd' e' lb' lr') :
    St p (w.setCell ⟨p.rb, j, none⟩ v) i r' wd' buf e' cnt lb' lr' := by
  have o : ∀ k, k ≠ p.rb → (w.setCell ⟨p.rb, j, none⟩ v).heap[k]? = w.heap[k]? := fun k hk => heap_setCell_other _ _ _ _ hk
  refine ⟨(o _ ok.n2).trans h.z, (o _ ok.n5).trans h.c, ?_, (o _ (fun e => ok.n8 e.symm)).trans h.b, range_kept h.s (o _ (fun e => ok.n9 e.symm)), cell_kept h.g (o 3 (by have := ok.g3; omega)), h.hb, h.hi⟩
  rw [← hA]; exact heap_setCell_same _ _ _ _ _ _ h.rd
theorem St.setC (ok : p.Ok) (h : St p w i r wd buf e cnt lb lr) (c' : Int) : St p (w.setCell ⟨p.cb, 1, none⟩ (.int .i64 c')) i r wd buf e c' lb lr := by
  have o : ∀ k, k ≠ p.cb → (w.setCell ⟨p.cb, 1, none⟩ (.int .i64 c')).heap[k]? = w.heap[k]? := fun k hk => heap_setCell_other _ _ _ _ hk
  exact ⟨(o _ ok.n1).trans h.z, heap_setCell_same _ _ _ _ _ _ h.c, (o _ (fun e => ok.n5 e.symm)).trans h.rd, (o _ (fun e => ok.n6 e.symm)).trans h.b, range_kept h.s (o _ (fun e => ok.n7 e.symm)), cell_kept h.g (o 3 (by have := ok.g2; omega)), h.hb, h.hi⟩
theorem St.setZ (ok : p.Ok) (h : St p w i r wd buf e cnt lb lr) (i' : Nat) (hi : i' ≤ p.n) : St p (w.setCell ⟨p.zb, 1, none⟩ (.int .i64 (i' : Int))) i' r wd buf e cnt lb lr := by
  have o : ∀ k, k ≠ p.zb → (w.setCell ⟨p.zb, 1, none⟩ (.int .i64 (i' : Int))).heap[k]? = w.heap[k]? := fun k hk => heap_setCell_other _ _ _ _ hk
  exact ⟨heap_setCell_same _ _ _ _ _ _ h.z, (o _ (fun e => ok.n1 e.symm)).trans h.c, (o _ (fun e => ok.n2 e.symm)).trans h.rd, (o _ (fun e => ok.n3 e.symm)).trans h.b, range_kept h.s (o _ (fun e => ok.n4 e.symm)), cell_kept h.g (o 3 (by have := ok.g1; omega)), h.hb, hi⟩
theorem St.setB (ok : p.Ok) (h : St p w i r wd buf e cnt lb lr) (o : Nat) (l : Bytes) (hl : o + l.length ≤ p.K) : St p (w.setCells p.bb o (byteCells l)) i r wd (buf.take o ++ l ++ buf.drop (o + l.length)) e cnt lb lr := by
  have ot : ∀ k, k ≠ p.bb → (w.setCells p.bb o (byteCells l)).heap[k]? = w.heap[k]? := fun k hk => heap_setCells_other _ _ _ _ _ hk
  have hb := h.hb
  refine ⟨(ot _ ok.n3).trans h.z, (ot _ ok.n6).trans h.c, (ot _ ok.n8).trans h.rd, ?_, range_kept h.s (ot _ (fun e => ok.n10 e.symm)), cell_kept h.g (ot 3 (by have := ok.g4; omega)), by simp; omega, h.hi⟩
  rw [setCells_block p.bb 5 (byteCells l) o w (byteCells buf) h.b (by rw [len_byteCells, len_byteCells]; omega), len_byteCells]
  congr 3
  simp [byteCells]
theorem St.setO (ok : p.Ok) (h : St p w i r wd buf e cnt lb lr) {pb : Nat} (hp : pb ≠ 3 ∧ pb ≠ p.zb ∧ pb ≠ p.cb ∧ pb ≠ p.rb ∧ pb ≠ p.bb ∧ pb ≠ p.sb) (o : Nat) (vs : List Value) : St p (w.setCells pb o vs) i r wd buf e cnt lb lr :=
  h.keep ok (fun k _ hk => heap_setCells_other _ _ _ _ _ (by rcases hk with rfl | rfl | rfl | rfl | rfl | rfl <;> intro e <;> simp_all))
end
theorem src_range {p : Par} {w : World} {i k : Nat} (hs : w.rangeAt p.sb 0 (byteCells p.S)) : w.rangeAt p.sb i (byteCells ((p.S.drop i).take k)) := fun j v hv => by
  have e : (byteCells ((p.S.drop i).take k))[j]? = if j < k then (byteCells p.S)[i + j]? else none := by
    simp only [byteCells, List.getElem?_map, List.getElem?_take, List.getElem?_drop]
    split <;> simp
  rw [e] at hv
  split at hv
  · have := hs (i + j) v hv; rwa [Nat.zero_add] at this
  · cases hv
def own (p : Par) (k : Nat) : Prop := k = p.zb ∨ k = p.cb ∨ k = p.rb ∨ k = p.bb
set_option maxHeartbeats 1000000 in
theorem readErr_any {p : Par} {w : World} {i r wd : Nat} {buf : Bytes} {e : Value} {cnt lb lr : Int} (h : St p w i r wd buf e cnt lb lr) :
    Calls Ybaf.prog 14 #[.pointer (some ⟨p.rb, 0, none⟩)] w fun x w' => x = .returned e ∧ w' = w.setCell ⟨p.rb, 4, none⟩ .nilIface := by
  have c4 : w.cell? ⟨p.rb, 4, none⟩ = some e := by rw [cell_of_row _ _ 4 _ _ (0, 0) h.rd]; rfl
  have f4 : w.frozen? ⟨p.rb, 4, none⟩ = false := frozen_block h.rd
  clear h
  go_enter Ybaf.func14, Ybaf.ntmps14
  go_wp2
  go_ret
  exact ⟨rfl, rfl⟩
end Go.Proofs.YbulkbmlcFmt
