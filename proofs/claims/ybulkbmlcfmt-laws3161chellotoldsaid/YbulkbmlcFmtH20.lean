/-
  LawS3161CHello: the law.
-/
import Derived.Test.YbulkbmlcFmtH19
import Derived.Lib.AppendStr
import Derived.Laws.AppendOwnNone
import Derived.Laws.BitsAllLaws
import Derived.Deep.CutBlock
import Derived.Deep.DeepCutAuto
namespace Go.Proofs.YbulkbmlcFmt
open Go.RowKit Go.Lib Go.Extern.Stop Go.Stop Go.Extern
set_option linter.unusedVariables false
set_option linter.unusedSimpArgs false

/-- The parameter's cells. -/
def pA (m0 pos fl cut st sz : Int) (T D : ByteArray) (ad : Option Addr) (len cap : Nat) : Array Value :=
  #[.int .u8 m0, .int .u8 pos, .int .u8 fl, .int .u16 cut, .int .u8 st, .int .u8 sz, .string T, .string D, .slice ad len cap]
/-- The tail: nil, or a run of bytes. -/
def TL (w : World) (ad : Option Addr) (len cap : Nat) (tl : Bytes) : Prop :=
  tl.length = len ∧ ((ad = none ∧ len = 0 ∧ cap = 0) ∨ ∃ x : Addr, ad = some x ∧ ∀ j u, (byteCells tl)[j]? = some u → w.cell? (x.add j) = some u)
theorem TL.keep {w w' : World} {ad : Option Addr} {len cap : Nat} {tl : Bytes} (h : TL w ad len cap tl) (hb : Below w.heap.size w w') : TL w' ad len cap tl := by
  obtain ⟨hl, h | ⟨x, hx, hc⟩⟩ := h
  · exact ⟨hl, Or.inl h⟩
  · exact ⟨hl, Or.inr ⟨x, hx, fun j u hu => (hb.cell (lt_of_cell (hc j u hu))).trans (hc j u hu)⟩⟩
theorem wpList_append_tl {ops : Array Oper} {rest : List Oper} {o : Oper} {a : Act} {w : World} {Q : Exit → Act → World → Prop} (hgd : o.guard = none) (s x : Operand) (ho : o.op = .call { callee := .builtin .append, args := #[s, x], argTypes := #[23, 23] })
    (base : Nat) (v : Value) (n : Nat) (xs : List Value) (hs : a.eval s = v) (hown : w.ownsRow base 5 1 v n xs) (ad : Option Addr) (len cap : Nat) (tl : Bytes) (hx : a.eval x = .slice ad len cap) (hTL : TL w ad len cap tl) (hb : n + len ≤ 1000000) (hbase : base ≤ w.heap.size)
    (h : ∀ v' w', w'.ownsRow base 5 1 v' (n + len) (xs ++ byteCells tl) → w.grownBy w' v.ownBlock → wpList Ybaf.prog ops Q rest (a.put o.dst v') w') : wpList Ybaf.prog ops Q (o :: rest) a w := by
  obtain ⟨i5, hi, hz0, hz1, hz2⟩ := info_parts info5
  obtain ⟨hl, hT | ⟨y, rfl, hc⟩⟩ := hTL
  · obtain ⟨rfl, rfl, rfl⟩ := hT
    have e : tl = [] := List.eq_nil_of_length_eq_zero hl
    subst e
    refine wpList_append_own_none hgd s x 23 ho base 5 i5 1 Ybaf.underlying23 hi v n xs hs hown hx ?_
    exact h v w (by simpa [byteCells] using hown) ⟨rfl, rfl, rfl, Nat.le_refl _, fun _ _ _ => rfl⟩
  · refine wpList_append_own _ hgd s x 23 ho base 5 i5 (.int .u8 0) 1 1 Ybaf.underlying23 hi hz0 hz1 hz2 rfl (by decide) v n xs hs hown y len cap (byteCells tl) hx (by rw [len_byteCells]; omega) hc (one_byteCells _) (by unfold maxLen; omega) (by omega) hbase ?_
    intro v' w' h1 h2 _
    exact h v' w' h1 h2
theorem strCells_bytes (s : ByteArray) : strCells s = byteCells s.data.toList := rfl
theorem size_bytes (s : ByteArray) : s.data.toList.length = s.size := by rw [Array.length_toList]; rfl
theorem own_shape {w : World} {B n : Nat} {v : Value} {xs : List Value} (h : w.ownsRow B 5 1 v n xs) (hn : 0 < n) : ∃ g cap cur, v = .slice (some ⟨g, 0, none⟩) n cap ∧ B ≤ g ∧ n ≤ cap ∧ cap ≤ maxLen ∧ w.heap[g]? = some (.cells cur 5 (0, 0)) ∧ w.rangeAt g 0 xs := by
  obtain ⟨hl, ⟨_, rfl⟩ | ⟨g, cap, cur, rfl, hB, hg, h1, hm, h2, h3⟩⟩ := h
  · omega
  · refine ⟨g, cap, cur, rfl, hB, h1, hm, hg, fun j u hu => ?_⟩
    rw [Nat.zero_add, cell_of_row _ _ j _ _ (0, 0) hg, ← hu, ← h3]
    have hj : j < xs.length := (List.getElem?_eq_some_iff.1 hu).1
    rw [List.getElem?_take_of_lt (by omega)]; simp
theorem range_set {w : World} {g i : Nat} {S : Bytes} {cur : Array Value} (hg : w.heap[g]? = some (.cells cur 5 (0, 0))) (hr : w.rangeAt g 0 (byteCells S)) (hi : i < S.length) (u : UInt8) : (w.setCell ⟨g, i, none⟩ (.int .u8 (u.toNat : Int))).rangeAt g 0 (byteCells (S.set i u)) := fun j v hv => by
  rw [Nat.zero_add, cell_of_row _ _ j _ _ (0, 0) (heap_setCell_same _ _ _ _ _ _ hg)]
  have hj : j < S.length := by have := (List.getElem?_eq_some_iff.1 hv).1; rw [len_byteCells] at this; simpa using this
  have hs : ∀ k, k < S.length → k < cur.size := fun k hk => by
    have h1 := hr k ((byteCells S)[k]'(by rw [len_byteCells]; exact hk)) (List.getElem?_eq_getElem _)
    rw [Nat.zero_add, cell_of_row _ _ k _ _ (0, 0) hg] at h1
    exact (Array.getElem?_eq_some_iff.1 h1).1
  by_cases e : i = j
  · subst e
    rw [Array.getElem?_setIfInBounds_self_of_lt (hs _ hi)]
    simp only [byteCells, List.getElem?_map, List.getElem?_set_self hi] at hv
    exact hv
  · rw [Array.getElem?_setIfInBounds_ne e]
    simp only [byteCells, List.getElem?_map, List.getElem?_set_ne e] at hv
    have h1 := hr j v (by simp only [byteCells, List.getElem?_map]; exact hv)
    rwa [Nat.zero_add, cell_of_row _ _ j _ _ (0, 0) hg] at h1
theorem range_take {w : World} {g n : Nat} {S : Bytes} (hr : w.rangeAt g 0 (byteCells S)) : w.rangeAt g 0 (byteCells (S.take n)) := fun j v hv => hr j v (by
  have hj : j < (byteCells (S.take n)).length := (List.getElem?_eq_some_iff.1 hv).1
  rw [len_byteCells, List.length_take] at hj
  simp only [byteCells, List.getElem?_map] at hv ⊢
  rw [List.getElem?_take_of_lt (by omega)] at hv
  exact hv)
theorem xor_ne {a b : Nat} (hb : b ≠ 0) : a ^^^ b ≠ a := fun h => hb (by
  have h1 : a ^^^ (a ^^^ b) = a ^^^ a := by rw [h]
  rwa [← Nat.xor_assoc, Nat.xor_self, Nat.zero_xor] at h1)
/-- What hello leaves, by the law's mode. -/
theorem ends {p : Par} {U : Addr} {db base m : Nat} {T D tl S : Bytes} {e : Ending} {w' : World} (hT : T.length ≤ 65536) (hD : D.length ≤ 65536) (ht : Turned T D tl S m) (h : Hello p U db base S e w') :
    ((m = 1 ∨ m = 2) ∧ (∃ a, e = .returned (.tuple #[.string ⟨#[]⟩, .string ⟨#[]⟩, .iface 63 (.pointer (some a))])) ∧ ∃ bv, DC p w' db bv none) ∨
    (m = 3 ∧ (∃ a, e = .returned (.tuple #[.string ⟨#[]⟩, .string ⟨#[]⟩, .iface 63 (.pointer (some a))])) ∧ ∃ bv ev, DC p w' db bv (some ev)) ∨
    (m = 0 ∧ e = .returned (.tuple #[.string ⟨T.toArray⟩, .string ⟨D.toArray⟩, .nilIface]) ∧ (∃ bv, DC p w' db bv none) ∧ RS p w' tl) := by
  obtain ⟨q1, q2, q3, q4⟩ := msg_head T D tl
  rcases h with ⟨⟨hl, hbad⟩, he, hdc⟩ | ⟨⟨he, hdc⟩, hsh⟩ | ⟨x, t, y, s, hl, hm, h5, hdx, hx, hdy, hy, he, hdc, hrs⟩
  · rcases ht with ⟨rfl, rfl⟩ | ⟨rfl, _⟩ | ⟨rfl, _⟩ | ⟨rfl, c, hc, rfl⟩
    · exact absurd hbad (by rw [q1, q2]; simp)
    · exact Or.inl ⟨Or.inl rfl, he, hdc⟩
    · exact Or.inl ⟨Or.inr rfl, he, hdc⟩
    · rw [List.length_take] at hl
      have e1 : ((msg T D tl).take c).take 8 = magic := by rw [List.take_take, Nat.min_eq_left (by omega)]; exact q1
      have e2 : ((msg T D tl).take c)[8]? = some 5 := by rw [List.getElem?_take_of_lt (by omega)]; exact q2
      exact absurd hbad (by rw [e1, e2]; simp)
  · rcases ht with ⟨rfl, rfl⟩ | ⟨rfl, h1, h2, h3⟩ | ⟨rfl, h1, h2, h3⟩ | ⟨rfl, c, hc, rfl⟩
    · rcases hsh with hsh | ⟨_, _, hsh⟩
      · omega
      · rw [q3] at hsh
        obtain ⟨x, t, y, s, d1, d2⟩ := whole2 (T := T) (D := D) (tl := tl) hT hD
        obtain ⟨_, _, _, k1, k2⟩ := whole1 hT hD d1 d2
        have := hsh x t d1 k1 y s d2
        omega
    · rcases hsh with hsh | ⟨hsh, _⟩
      · omega
      · exact absurd hsh h2
    · rcases hsh with hsh | ⟨_, hsh, _⟩
      · omega
      · exact absurd hsh h2
    · exact Or.inr (Or.inl ⟨rfl, he, hdc⟩)
  · rcases ht with ⟨rfl, rfl⟩ | ⟨rfl, h1, h2, h3⟩ | ⟨rfl, h1, h2, h3⟩ | ⟨rfl, c, hc, rfl⟩
    · rw [q3] at hdx
      obtain ⟨k1, k2, k3, _, _⟩ := whole1 hT hD hdx hdy
      rw [k1, k2] at he
      rw [k3] at hrs
      exact Or.inr (Or.inr ⟨rfl, he, hdc, hrs⟩)
    · exact absurd hm h2
    · exact absurd h5 h2
    · rw [List.drop_take, q3] at hdx
      rw [List.length_take] at hl
      have := short1 hT hD (tl := tl) (k := c - 9) (by omega) x t hdx hx y s hdy
      omega
/-- The stream over the message, as the law lays it. -/
def parOf (zb g n kc sN K : Nat) (S : Bytes) (E : Addr) : Par := ⟨zb, zb + 1, zb + 2, zb + 3, g, n, kc, sN, K, S, E⟩
theorem start {zb g n kc sN K : Nat} {S : Bytes} {E : Addr} {w : World} (hz : w.heap[zb]? = some (.cells (zzA g n kc 0 sN) 30)) (hc : w.heap[zb + 1]? = some (.cells (crA zb 0) 48)) (hr : w.heap[zb + 2]? = some (.cells (rd0 (zb + 3) (zb + 1) K) 58))
    (hb : w.heap[zb + 3]? = some (.cells (byteCells (List.replicate K 0)).toArray 5)) (hd : w.heap[zb + 4]? = some (.cells #[.pointer (some ⟨zb + 1, 0, none⟩), .pointer (some ⟨zb + 2, 0, none⟩), .slice none 0 0, .nilIface] 40))
    (hs : w.rangeAt g 0 (byteCells S)) (h3 : w.cell? ⟨3, 0, none⟩ = some (.iface 63 (.pointer (some E)))) (hg : 6 ≤ g) (hgz : g < zb) (hn : n ≤ kc) (hn2 : n ≤ 1000000) (hS : S.length = n) (hsN : 1 ≤ sN ∧ sN ≤ 7) (hK : 16 ≤ K ∧ K ≤ 79) :
    (parOf zb g n kc sN K S E).Ok ∧ RS (parOf zb g n kc sN K S E) w S ∧ DC (parOf zb g n kc sN K S E) w (zb + 4) (.slice none 0 0) none ∧ Bs (parOf zb g n kc sN K S E) (zb + 4) (zb + 5) := by
  refine ⟨⟨?_, ?_, ?_, ?_, ?_, ?_, ?_, ?_, ?_, ?_, ?_, ?_, ?_, ?_, hg, hn, hn2, hS, hsN, hK⟩, ⟨0, 0, 0, List.replicate K 0, 0, -1, -1, ⟨hz, hc, hr, hb, hs, h3, by simp [parOf], Nat.zero_le _⟩, Nat.le_refl _, Nat.zero_le _, ?_⟩, hd, ⟨?_, ⟨?_, ?_, ?_, ?_, ?_, ?_⟩, ?_, ?_, ?_, ?_, ?_, ?_⟩⟩
  case refine_15 => rw [rem_empty]; rfl
  all_goals ((try simp only [parOf]); omega)
theorem own_from {zb g n kc sN K : Nat} {S : Bytes} {E : Addr} {k : Nat} (h : ownB (parOf zb g n kc sN K S E) (zb + 4) (zb + 5) k) : zb ≤ k := by
  rcases h with (h | h | h | h) | h | h <;> (try simp only [parOf] at h) <;> omega

set_option maxHeartbeats 8000000 in
set_option maxRecDepth 100000 in
theorem law_any (F : Interp) (m0 pos fl cut st sz : Int) (T D : ByteArray) (ad : Option Addr) (len cap : Nat) (tl : Bytes) (w : World) (b0 : 0 ≤ m0 ∧ m0 < 256) (b1 : 0 ≤ pos ∧ pos < 256) (b2 : 0 ≤ fl ∧ fl < 256) (b3 : 0 ≤ cut ∧ cut < 65536) (b4 : 0 ≤ st ∧ st < 256) (b5 : 0 ≤ sz ∧ sz < 256)
    (hT : T.size ≤ 65536) (hD : D.size ≤ 65536) (hlen : len ≤ 65536) (hTL : TL w ad len cap tl) (h6 : 6 ≤ w.heap.size) (hF : F.answers w.tape) (E U : Addr) (hU : w.cell? ⟨4, 0, none⟩ = some (.iface 63 (.pointer (some U)))) (hE : w.cell? ⟨3, 0, none⟩ = some (.iface 63 (.pointer (some E))))
    (sE sU : ByteArray) (hsE : w.cell? E = some (.string sE)) (hsU : w.cell? U = some (.string sU)) :
    Calls Ybaf.prog 3 #[.agg (pA m0 pos fl cut st sz T D ad len cap)] w fun e w' => e = .returned (.bool true) ∧ Below w.heap.size w w' := by
  obtain ⟨i5, hi, hz0, hz1, hz2⟩ := info_parts info5
  have HTL := hide hTL; have HFF := hide hF; have HU := hide hU; have HE := hide hE; have HSE := hide hsE; have HSU := hide hsU
  clear hTL hF hU hE hsE hsU
  go_enter Ybaf.func3, Ybaf.ntmps3
  go_upto_region 1 with fail
  change Code.wp _ _ _ _ (w.alloc (.cells (pA m0 pos fl cut st sz T D ad len cap) 25))
  have HBL : Hid (Below w.heap.size w (w.alloc (.cells (pA m0 pos fl cut st sz T D ad len cap) 25))) := (Below.refl _ _).alloc (Nat.le_refl _) _
  have HP : Hid ((w.alloc (.cells (pA m0 pos fl cut st sz T D ad len cap) 25)).heap[w.heap.size]? = some (.cells (pA m0 pos fl cut st sz T D ad len cap) 25)) := heap_alloc_new _ _
  have HS : Hid ((w.alloc (.cells (pA m0 pos fl cut st sz T D ad len cap) 25)).heap.size = w.heap.size + 1) := by simp [Hid]
  generalize w.alloc (.cells (pA m0 pos fl cut st sz T D ad len cap) 25) = A at HBL HP HS ⊢
  have HC : Hid (∀ W, Below (w.heap.size + 1) A W → ∀ k v, (pA m0 pos fl cut st sz T D ad len cap)[k]? = some v → W.cell? ⟨w.heap.size, k, none⟩ = some v) := fun W hW k v hv => by
    rw [hW.cell (by simp), cell_of_row _ _ k _ _ (0, 0) HP.out]; exact hv
  have p6 := HC.out A (Below.refl _ _) 6 (.string T) rfl
  have p7 := HC.out A (Below.refl _ _) 7 (.string D) rfl
  have p8 := HC.out A (Below.refl _ _) 8 (.slice ad len cap) rfl
  go_upto_region 3 with fail
  go_wp2_with (at_make; refine wpList_make_own _ rfl _ _ 23 rfl (w.heap.size + 1) 5 i5 (.int .u8 0) 1 Ybaf.underlying23 hi hz0 hz1 .i64 .i64 _ (32 + T.size + D.size + len) rfl rfl ?a1 ?a2 ?a3 ?a4 ?_)
  case a1 => omega
  case a2 => rw [hz2]; omega
  case a3 => unfold maxLen; omega
  case a4 => exact Nat.le_of_eq HS.out.symm
  intro w1 hown1 hgrow1
  have HB1 : Hid (Below (w.heap.size + 1) A w1) := (Below.refl _ _).grown hgrow1 (by rw [HS.out]; exact Nat.le_refl _) (by simp)
  have HO1 := hide hown1
  clear hown1 hgrow1 p6 p7 p8
  generalize (Value.slice (some ⟨A.heap.size, 0, none⟩) 0 (32 + T.size + D.size + len)) = v1 at HO1 ⊢
  have hs1 : w.heap.size + 1 ≤ w1.heap.size := by have := HB1.out.size; have := HS.out; omega
  go_wp2_with (at_builtin; refine wpList_append_own_string _ rfl _ _ 23 9 rfl (w.heap.size + 1) 5 i5 Ybaf.underlying23 Ybaf.underlying9 hi hz0 hz1 hz2 v1 0 [] rfl HO1.out ⟨#[109, 105, 108, 108, 114, 97, 99, 101]⟩ rfl ?b1 ?b2 hs1 ?_)
  case b1 => decide
  case b2 => decide
  intro v2 w2 hown2 hgrow2 hnx
  clear hnx
  have HB2 : Hid (Below (w.heap.size + 1) A w2) := HB1.out.grown hgrow2 hs1 (fun k hk => (HO1.out.lt k hk).1)
  have HO2 : Hid (w2.ownsRow (w.heap.size + 1) 5 1 v2 8 (byteCells magic)) := hown2
  clear hown2 hgrow2 HB1 HO1 hs1
  have hs2 : w.heap.size + 1 ≤ w2.heap.size := by have := HB2.out.size; have := HS.out; omega
  go_wp2_with (at_builtin; refine wpList_append_own _ rfl _ _ 23 rfl (w.heap.size + 1) 5 i5 (.int .u8 0) 1 1 Ybaf.underlying23 hi hz0 hz1 hz2 rfl (by decide) v2 8 _ rfl (HO2.out.alloc _) ⟨w2.heap.size, 0, none⟩ 1 1 [Value.int .u8 5] rfl rfl (cell_one_new _ _ _) ?d1 ?d2 ?d3 ?d4 ?_)
  case d1 => intro u hu; simp at hu; subst hu; rfl
  case d2 => decide
  case d3 => decide
  case d4 => simp; omega
  intro v3 w3 hown3 hgrow3 hnx
  clear hnx
  have HB3 : Hid (Below (w.heap.size + 1) A w3) := (HB2.out.alloc hs2 _).grown hgrow3 (by simp; omega) (fun k hk => (HO2.out.lt k hk).1)
  have HO3 : Hid (w3.ownsRow (w.heap.size + 1) 5 1 v3 9 (byteCells (magic ++ [5]))) := hown3
  clear hown3 hgrow3 HB2 HO2 hs2
  have p6 := HC.out w3 HB3.out 6 (.string T) rfl
  have hs3 : w.heap.size + 1 ≤ w3.heap.size := by have := HB3.out.size; have := HS.out; omega
  have C4 := hide (appendUvarint_any (w.heap.size + 1) 9 T.size (by omega) v3 _ w3 HO3.out hs3 (by omega))
  go_wp2_with fail
  refine C4.out.mono ?_
  rintro e w4 ⟨v4, rfl, hown4, hb4⟩
  have HB4 : Hid (Below (w.heap.size + 1) A w4) := HB3.out.trans hb4
  have HUT := hide (Lib.uvarint_length64 (x := T.size) (by omega))
  have HO4 : Hid (w4.ownsRow (w.heap.size + 1) 5 1 v4 (9 + (Lib.uvarint T.size).length) (byteCells (magic ++ [5]) ++ byteCells (Lib.uvarint T.size))) := hown4
  clear hown4 hb4 HB3 HO3 hs3 p6 C4
  have p6 := HC.out w4 HB4.out 6 (.string T) rfl
  have hs4 : w.heap.size + 1 ≤ w4.heap.size := by have := HB4.out.size; have := HS.out; omega
  go_wp2_with (at_builtin; refine wpList_append_own_string _ rfl _ _ 23 9 rfl (w.heap.size + 1) 5 i5 Ybaf.underlying23 Ybaf.underlying9 hi hz0 hz1 hz2 v4 _ _ rfl HO4.out T rfl ?e1 ?e2 hs4 ?_)
  case e1 => unfold maxLen; have := HUT.out; omega
  case e2 => have := HUT.out; omega
  intro v5 w5 hown5 hgrow5 hnx
  clear hnx
  have HB5 : Hid (Below (w.heap.size + 1) A w5) := HB4.out.grown hgrow5 hs4 (fun k hk => (HO4.out.lt k hk).1)
  have HO5 := hide hown5
  clear hown5 hgrow5 HB4 HO4 hs4 p6
  have p7 := HC.out w5 HB5.out 7 (.string D) rfl
  have hs5 : w.heap.size + 1 ≤ w5.heap.size := by have := HB5.out.size; have := HS.out; omega
  have C6 := hide (appendUvarint_any (w.heap.size + 1) _ D.size (by omega) v5 _ w5 HO5.out hs5 (by have := HUT.out; omega))
  go_wp2_with fail
  refine C6.out.mono ?_
  rintro e w6 ⟨v6, rfl, hown6, hb6⟩
  have HB6 : Hid (Below (w.heap.size + 1) A w6) := HB5.out.trans hb6
  have HUD := hide (Lib.uvarint_length64 (x := D.size) (by omega))
  have HO6 := hide hown6
  clear hown6 hb6 HB5 HO5 hs5 p7 C6
  have p7 := HC.out w6 HB6.out 7 (.string D) rfl
  have hs6 : w.heap.size + 1 ≤ w6.heap.size := by have := HB6.out.size; have := HS.out; omega
  go_wp2_with (at_builtin; refine wpList_append_own_string _ rfl _ _ 23 9 rfl (w.heap.size + 1) 5 i5 Ybaf.underlying23 Ybaf.underlying9 hi hz0 hz1 hz2 v6 _ _ rfl HO6.out D rfl ?f1 ?f2 hs6 ?_)
  case f1 => unfold maxLen; have := HUT.out; have := HUD.out; omega
  case f2 => have := HUT.out; have := HUD.out; omega
  intro v7 w7 hown7 hgrow7 hnx
  clear hnx
  have HB7 : Hid (Below (w.heap.size + 1) A w7) := HB6.out.grown hgrow7 hs6 (fun k hk => (HO6.out.lt k hk).1)
  obtain ⟨N, hN⟩ : ∃ N, N = 9 + ((Lib.uvarint T.size).length + T.size + (Lib.uvarint D.size).length + D.size) := ⟨_, rfl⟩
  have HN := hide hN
  have HO7 : Hid (w7.ownsRow (w.heap.size + 1) 5 1 v7 N (byteCells (magic ++ [5] ++ Lib.uvarint T.size ++ T.data.toList ++ Lib.uvarint D.size ++ D.data.toList))) := by
    have e1 : N = 9 + (Lib.uvarint T.size).length + T.size + (Lib.uvarint D.size).length + D.size := by omega
    have e2 : byteCells (magic ++ [5] ++ Lib.uvarint T.size ++ T.data.toList ++ Lib.uvarint D.size ++ D.data.toList) = byteCells (magic ++ [5]) ++ (byteCells (Lib.uvarint T.size) ++ (strCells T ++ (byteCells (Lib.uvarint D.size) ++ strCells D))) := by
      simp only [byteCells, List.map_append, List.append_assoc]; rfl
    rw [e1, e2]; exact hown7
  have hNb : 9 ≤ N ∧ N ≤ 131101 := by have := HUT.out; have := HUD.out; omega
  clear hN hown7 hgrow7 HB6 HO6 hs6 p7
  obtain ⟨g7, k7, cur7, rfl, hg7, hk7, hm7, hc7, hr7⟩ := own_shape HO7.out (by omega)
  clear hc7 hr7 cur7 hg7
  have hk7' : k7 ≤ 9223372036854775807 := hm7
  have p8 := HC.out w7 HB7.out 8 (.slice ad len cap) rfl
  have hs7 : w.heap.size + 1 ≤ w7.heap.size := by have := HB7.out.size; have := HS.out; omega
  have HTL7 : Hid (TL w7 ad len cap tl) := HTL.out.keep (HBL.out.trans (HB7.out.mono (by omega)))
  go_wp2_with (at_builtin; refine wpList_append_tl rfl _ _ rfl (w.heap.size + 1) _ N _ rfl HO7.out ad len cap tl rfl HTL7.out ?g1 hs7 ?_)
  case g1 => omega
  intro v8 w8 hown8 hgrow8
  have HB8 : Hid (Below (w.heap.size + 1) A w8) := HB7.out.grown hgrow8 hs7 (fun k hk => (HO7.out.lt k hk).1)
  clear HTL7 p8 hs7
  obtain ⟨g, kc, cur, rfl, hgB, hkN, hkm, hc8, hr8⟩ := own_shape hown8 (by omega)
  have HC8 := hide hc8
  have HML : Hid ((msg T.data.toList D.data.toList tl).length = N + len) := by
    show _ = _
    rw [len_msg, len_R1, size_bytes, size_bytes, HTL.out.1, HN.out]
    omega
  have HR8 : Hid (w8.rangeAt g 0 (byteCells (msg T.data.toList D.data.toList tl))) := by
    have e : byteCells (msg T.data.toList D.data.toList tl) = byteCells (magic ++ 5 :: (Lib.uvarint T.size ++ (T.data.toList ++ (Lib.uvarint D.size ++ D.data.toList)))) ++ byteCells tl := by
      simp only [msg, R1, R2, size_bytes, byteCells, List.map_append, List.map_cons, List.append_assoc, List.cons_append, List.nil_append, List.map_nil]
    show World.rangeAt _ _ _ _
    rw [e]; exact hr8
  have hkm' : kc ≤ 9223372036854775807 := hkm
  have hgw : g < w8.heap.size := lt_of_heap hc8
  clear hown8 hgrow8 hc8 hr8 HB7 HO7 hk7 hm7 hk7' hkm
  have p0 := HC.out w8 HB8.out 0 (.int .u8 m0) rfl
  go_upto_block 0 with fail
  generalize hm : m0 % 4 = m
  have hmb : 0 ≤ m ∧ m < 4 := by omega
  clear hm p0
  go_cut [3, 5, 78] (fun s3 s5 s78 wx => ∃ (n : Nat) (S : Bytes), s3 = .slice (some ⟨g, 0, none⟩) n kc ∧ s5 = .int .i64 m ∧ s78 = .int .i64 m ∧ Hid (S.length = n) ∧ n ≤ N + len ∧ Hid (Turned T.data.toList D.data.toList tl S m.toNat) ∧ Hid (wx.rangeAt g 0 (byteCells S)) ∧ Hid (Below (w.heap.size + 1) A wx) ∧ g < wx.heap.size)
  case first =>
    have hq : m = 0 ∨ m = 1 ∨ m = 2 ∨ m = 3 := by omega
    rcases hq with rfl | rfl | rfl | rfl
    · go_wp2_with fail
      go_meet
      case rel => exact ⟨N + len, _, rfl, rfl, rfl, HML.out, Nat.le_refl _, Or.inl ⟨rfl, rfl⟩, HR8.out, HB8.out, hgw⟩
    · -- one byte of the magic
      obtain ⟨i, hi0, hi8⟩ : ∃ i : Nat, pos % 8 = (i : Int) ∧ i < 8 := ⟨(pos % 8).toNat, by omega, by omega⟩
      obtain ⟨f, hf0, hf1⟩ : ∃ f : Nat, fl % 255 = (f : Int) ∧ f < 255 := ⟨(fl % 255).toNat, by omega, by omega⟩
      obtain ⟨v, hv⟩ : ∃ v, (msg T.data.toList D.data.toList tl)[i]? = some v := ⟨_, List.getElem?_eq_getElem (by rw [HML.out]; omega)⟩
      have HV := hide hv
      have ci : w8.cell? ⟨g, i, none⟩ = some (.int .u8 (v.toNat : Int)) := by
        have := HR8.out i (.int .u8 (v.toNat : Int)) (by simp only [byteCells, List.getElem?_map, hv]; rfl)
        rwa [Nat.zero_add] at this
      have fi : w8.frozen? ⟨g, i, none⟩ = false := frozen_block HC8.out
      have hvb : v.toNat < 256 := v.toNat_lt
      have hx : bits .xor .u8 (v.toNat : Int) (1 + (f : Int)) = ((v.toNat ^^^ (1 + f) : Nat) : Int) := by
        have h1 := u8_xor_nat v.toNat (1 + f) hvb (by omega)
        have h2 : ((1 + f : Nat) : Int) = 1 + (f : Int) := by omega
        rw [h2] at h1
        exact h1
      have q1 := HC.out w8 HB8.out 1 (.int .u8 pos) rfl
      have q2 := HC.out w8 HB8.out 2 (.int .u8 fl) rfl
      have hxb : v.toNat ^^^ (1 + f) < 256 := Nat.xor_lt_two_pow (n := 8) hvb (by omega)
      have HNE : Hid (v.toNat ^^^ (1 + f) ≠ v.toNat) := xor_ne (by omega)
      clear hv
      go_upto_region 16 with fail
      go_region
      clear ci fi q1 q2 hx hvb hi0 hf0
      generalize v.toNat ^^^ (1 + f) = u at hxb HNE ⊢
      go_wp2
      go_meet
      case rel =>
        have eu : u.toUInt8.toNat = u := by simp; omega
        have hne : u.toUInt8 ≠ v := fun e => HNE.out (by rw [← e, eu])
        obtain ⟨h1, h2, h3, h4⟩ := msg_head T.data.toList D.data.toList tl
        have hr := range_set HC8.out HR8.out (i := i) (by rw [HML.out]; omega) u.toUInt8
        rw [eu] at hr
        refine ⟨N + len, (msg T.data.toList D.data.toList tl).set i u.toUInt8, rfl, rfl, rfl, ?_, Nat.le_refl _, Or.inr (Or.inl ⟨rfl, ?_, flip_magic h1 h4 hi8 HV.out hne, ?_⟩), hr, ?_, ?_⟩
        · show List.length _ = _
          rw [List.length_set]; exact HML.out
        · rw [List.length_set]
        · rw [List.drop_set_of_lt (by omega), h3]
        · exact (HB8.out.setCell hgB _).drew
        · simpa using hgw
    · -- another version
      obtain ⟨f, hf0, hf1⟩ : ∃ f : Nat, fl % 250 = (f : Int) ∧ f < 250 := ⟨(fl % 250).toNat, by omega, by omega⟩
      have hlt : 8 < N + len := by omega
      have c8 : w8.cell? ⟨g, 8, none⟩ = some (.int .u8 5) := by
        have := HR8.out 8 (.int .u8 5) rfl
        rwa [Nat.zero_add] at this
      have f8 : w8.frozen? ⟨g, 8, none⟩ = false := frozen_block HC8.out
      have q2 := HC.out w8 HB8.out 2 (.int .u8 fl) rfl
      go_wp2_with fail
      go_meet
      case rel =>
        have eu : (6 + f).toUInt8.toNat = 6 + f := by simp; omega
        obtain ⟨h1, h2, h3, h4⟩ := msg_head T.data.toList D.data.toList tl
        have hr := range_set HC8.out HR8.out (i := 8) (by rw [HML.out]; omega) (6 + f).toUInt8
        rw [eu] at hr
        refine ⟨N + len, (msg T.data.toList D.data.toList tl).set 8 (6 + f).toUInt8, rfl, rfl, rfl, ?_, Nat.le_refl _, Or.inr (Or.inr (Or.inl ⟨rfl, ?_, ?_, ?_⟩)), ?_, ?_, ?_⟩
        · show List.length _ = _
          rw [List.length_set]; exact HML.out
        · rw [List.length_set]
        · rw [List.getElem?_set_self (by omega)]
          intro e
          have e2 : (6 + f).toUInt8 = 5 := Option.some.inj e
          have e3 : (6 + f).toUInt8.toNat = 5 := by rw [e2]; rfl
          omega
        · rw [List.drop_set_of_lt (by omega), h3]
        · have e6 : (6 + (f : Int)) = ((6 + f : Nat) : Int) := by omega
          show World.rangeAt _ _ _ _
          rw [e6]; exact hr
        · exact HB8.out.setCell hgB _
        · simpa using hgw
    · -- cut short
      obtain ⟨c, hc0, hc1⟩ : ∃ c : Nat, cut % (N : Int) = (c : Int) ∧ c < N := ⟨(cut % (N : Int)).toNat, by have := Int.emod_nonneg cut (b := (N : Int)) (by omega); omega, by have := Int.emod_nonneg cut (b := (N : Int)) (by omega); have := Int.emod_lt_of_pos cut (b := (N : Int)) (by omega); omega⟩
      have q3 := HC.out w8 HB8.out 3 (.int .u16 cut) rfl
      have htm : Int.tmod cut (N : Int) = (c : Int) := by rw [Int.tmod_eq_emod_of_nonneg (by omega)]; exact hc0
      have hn0 : ¬ ((N : Int) = 0) := by omega
      have hn0' : ¬ (N = 0) := by omega
      have hck : c ≤ kc := by omega
      go_wp2_with fail
      go_meet
      case rel =>
        refine ⟨c, (msg T.data.toList D.data.toList tl).take c, rfl, rfl, rfl, ?_, by omega, Or.inr (Or.inr (Or.inr ⟨rfl, c, ?_, rfl⟩)), range_take HR8.out, HB8.out, hgw⟩
        · show List.length _ = _
          rw [List.length_take, HML.out]; omega
        · rw [size_bytes, size_bytes, ← HN.out]; exact hc1
  case rest =>
    obtain ⟨n, S, rfl, rfl, rfl, HSN, hnN, HTU, HRG, HBC, hgc⟩ := hcut
    clear HR8 HC8 HB8 hgw HUT HUD HML
    obtain ⟨sN, hs0, hs1, hs7⟩ : ∃ sN : Nat, 1 + st % 7 = (sN : Int) ∧ 1 ≤ sN ∧ sN ≤ 7 := ⟨(1 + st % 7).toNat, by omega, by omega, by omega⟩
    obtain ⟨K, hK0, hK1, hK2⟩ : ∃ K : Nat, 16 + sz % 64 = (K : Int) ∧ 16 ≤ K ∧ K ≤ 79 := ⟨(16 + sz % 64).toNat, by omega, by omega, by omega⟩
    have hwc : w.heap.size + 1 ≤ wc.heap.size := by have := HBC.out.size; have := HS.out; omega
    have q4 := HC.out wc HBC.out 4 (.int .u8 st) rfl
    go_upto_region 22 with fail
    change Code.wp _ _ _ _ (wc.alloc (.cells (zzA g n kc 0 sN) 30))
    have HZ : Hid ((wc.alloc (.cells (zzA g n kc 0 sN) 30)).heap[wc.heap.size]? = some (.cells (zzA g n kc 0 sN) 30)) := heap_alloc_new _ _
    have HZB : Hid (Below wc.heap.size wc (wc.alloc (.cells (zzA g n kc 0 sN) 30))) := (Below.refl _ _).alloc (Nat.le_refl _) _
    have HZS : Hid ((wc.alloc (.cells (zzA g n kc 0 sN) 30)).heap.size = wc.heap.size + 1) := by simp [Hid]
    generalize wc.alloc (.cells (zzA g n kc 0 sN) 30) = Z at HZ HZB HZS ⊢
    have HBZ : Hid (Below (w.heap.size + 1) A Z) := HBC.out.trans (HZB.out.mono hwc)
    clear q4
    have q5 := HC.out Z HBZ.out 5 (.int .u8 sz) rfl
    have HND : Hid (Calls Ybaf.prog 5 #[.iface 28 (.pointer (some ⟨wc.heap.size, 0, none⟩)), .int .i64 (K : Int)] Z fun e w' => e = .returned (.pointer (some ⟨wc.heap.size + 4, 0, none⟩)) ∧ w'.heap[wc.heap.size + 1]? = some (.cells (crA wc.heap.size 0) 48) ∧ w'.heap[wc.heap.size + 2]? = some (.cells (rd0 (wc.heap.size + 3) (wc.heap.size + 1) K) 58) ∧
      w'.heap[wc.heap.size + 3]? = some (.cells (byteCells (List.replicate K 0)).toArray 5) ∧ w'.heap[wc.heap.size + 4]? = some (.cells #[.pointer (some ⟨wc.heap.size + 1, 0, none⟩), .pointer (some ⟨wc.heap.size + 2, 0, none⟩), .slice none 0 0, .nilIface] 40) ∧ w'.heap.size = wc.heap.size + 5 ∧ Below (wc.heap.size + 1) Z w') := by
      have h := newDecoder_any wc.heap.size K hK1 hK2 Z
      rw [HZS.out] at h
      exact h
    go_wp2_with fail
    refine HND.out.mono ?_
    rintro e w9 ⟨rfl, h9c, h9r, h9b, h9d, h9s, h9B⟩
    have HB9 : Hid (Below w.heap.size w w9) := HBL.out.trans ((HBZ.out.mono (by omega)).trans (h9B.mono (by omega)))
    have HBA9 : Hid (Below (w.heap.size + 1) A w9) := HBZ.out.trans (h9B.mono (by omega))
    have h9z : w9.heap[wc.heap.size]? = some (.cells (zzA g n kc 0 sN) 30) := (h9B.block _ (by omega)).trans HZ.out
    have h9g : w9.rangeAt g 0 (byteCells S) := range_kept HRG.out ((h9B.block g (by omega)).trans (HZB.out.block g hgc))
    have h93 := (HB9.out.cell (lt_of_cell HE.out)).trans HE.out
    have h94 := (HB9.out.cell (lt_of_cell HU.out)).trans HU.out
    have h9E := (HB9.out.cell (lt_of_cell HSE.out)).trans HSE.out
    have h9U := (HB9.out.cell (lt_of_cell HSU.out)).trans HSU.out
    have hElt := lt_of_cell HSE.out
    have hUlt := lt_of_cell HSU.out
    obtain ⟨ok, hRS, hDC, hBs⟩ := start h9z h9c h9r h9b h9d h9g h93 (by omega) hgc (by omega) (by omega) HSN.out ⟨hs1, hs7⟩ ⟨hK1, hK2⟩
    have hTl : T.data.toList.length ≤ 65536 := by rw [size_bytes]; exact hT
    have hDl : D.data.toList.length ≤ 65536 := by rw [size_bytes]; exact hD
    obtain ⟨k, hk, _⟩ := HTU.out.drop
    have HH := hide (hello_any F ok hBs hDC hRS (by omega) (by rw [HB9.out.tape]; exact HFF.out) (fun _ => by rw [hk]; exact good1 hTl hDl k) (by rw [hk]; exact bounds1 hTl hDl k) U h94 h93 sE sU h9E h9U ⟨Nat.lt_trans hElt (by omega), fun h => by have := own_from h; have : E.block < w.heap.size := hElt; have : wc.heap.size ≤ E.block := own_from h; omega⟩ ⟨by omega, fun h => by have : wc.heap.size ≤ U.block := own_from h; omega⟩)
    have HOK := hide ok; have HTl := hide hTl; have HDl := hide hDl; have HSZ := hide h9s
    clear h9c h9r h9b h9d h9s h9B h9z h9g h93 h94 h9E h9U hElt hUlt ok hRS hDC hBs hTl hDl hk q5 HND HZ HZB HZS HBZ HRG HBC hs0 hK0 HSN
    go_wp2_with fail
    refine HH.out.mono ?_
    rintro e w10 ⟨hF10, hHe⟩
    have hend := ends HTl.out HDl.out HTU.out hHe
    have hblk : ∀ k, k < wc.heap.size → w10.heap[k]? = w9.heap[k]? := fun k hk => hF10.block k (by have := HSZ.out; omega) (fun h => by have := own_from h; omega)
    have HB10 : Hid (Below w.heap.size w w10) := HB9.out.trans ⟨hF10.os, hF10.tape, hF10.output, hF10.size, fun k hk => hblk k (by omega)⟩
    have HBA10 : Hid (Below (w.heap.size + 1) A w10) := HBA9.out.trans ⟨hF10.os, hF10.tape, hF10.output, hF10.size, fun k hk => hblk k (by omega)⟩
    have hF10s := hide hF10.size
    clear hF10 hHe hblk HH HB9 HBA9 HTU
    rcases hend with ⟨hm12, ⟨a, rfl⟩, bv, hdc⟩ | ⟨hm3, ⟨a, rfl⟩, bv, ev, hdc⟩ | ⟨hm0, rfl, ⟨bv, hdc⟩, hrs⟩
    · have q3 : w10.cell? ⟨wc.heap.size + 4, 3, none⟩ = some .nilIface := by rw [cell_of_row _ _ 3 _ _ (0, 0) hdc]; rfl
      clear hdc
      have hm : m = 1 ∨ m = 2 := by omega
      clear hm12
      rcases hm with rfl | rfl
      · go_wp2_with fail
        go_ret
        exact ⟨rfl, HB10.out⟩
      · go_wp2_with fail
        go_ret
        exact ⟨rfl, HB10.out⟩
    · have q3 : w10.cell? ⟨wc.heap.size + 4, 3, none⟩ = some (.iface 63 (.pointer (some ev))) := by rw [cell_of_row _ _ 3 _ _ (0, 0) hdc]; rfl
      clear hdc
      obtain rfl : m = 3 := by omega
      clear hm3
      go_wp2_with fail
      go_ret
      exact ⟨rfl, HB10.out⟩
    · obtain rfl : m = 0 := by omega
      clear hm0
      have eT : (⟨T.data.toList.toArray⟩ : ByteArray) = T := by cases T; simp
      have eD : (⟨D.data.toList.toArray⟩ : ByteArray) = D := by cases D; simp
      rw [eT, eD]
      clear eT eD
      have q3 : w10.cell? ⟨wc.heap.size + 4, 3, none⟩ = some .nilIface := by rw [cell_of_row _ _ 3 _ _ (0, 0) hdc]; rfl
      have q1 : w10.cell? ⟨wc.heap.size + 4, 1, none⟩ = some (.pointer (some ⟨wc.heap.size + 2, 0, none⟩)) := by rw [cell_of_row _ _ 1 _ _ (0, 0) hdc]; rfl
      have q6 := HC.out w10 HBA10.out 6 (.string T) rfl
      have q7 := HC.out w10 HBA10.out 7 (.string D) rfl
      have q8 := HC.out w10 HBA10.out 8 (.slice ad len cap) rfl
      have HRS := hide hrs
      clear hdc hrs
      by_cases hl0 : len = 0
      · go_wp2_with fail
        go_ret
        exact ⟨rfl, HB10.out⟩
      · have hl1 : 0 < len := by omega
        have HBY : Hid (Calls Ybaf.prog 7 #[.pointer (some ⟨wc.heap.size + 2, 0, none⟩)] w10 _) := byte_any HOK.out HRS.out
        go_wp2_with fail
        refine HBY.out.mono ?_
        rintro e w11 ⟨hF11, hc⟩
        have hblk : ∀ k, k < wc.heap.size → w11.heap[k]? = w10.heap[k]? := fun k hk => hF11.block k (by have h1 := HBA10.out.size; have h2 := HSZ.out; have h3 := hF10s.out; omega) (fun h => by have : wc.heap.size ≤ k := own_from (Or.inl h); omega)
        have HB11 : Hid (Below w.heap.size w w11) := HB10.out.trans ⟨hF11.os, hF11.tape, hF11.output, hF11.size, fun k hk => hblk k (by omega)⟩
        have HBA11 : Hid (Below (w.heap.size + 1) A w11) := HBA10.out.trans ⟨hF11.os, hF11.tape, hF11.output, hF11.size, fun k hk => hblk k (by omega)⟩
        clear hF11 hblk HBY q1 q3 q6 q7 q8
        rcases hc with ⟨rfl, _⟩ | ⟨x, t, rfl, rfl, _⟩
        · have := HTL.out.1; simp at this; omega
        · have q8 := HC.out w11 HBA11.out 8 (.slice ad len cap) rfl
          obtain ⟨_, hh | ⟨y, rfl, hcy⟩⟩ := HTL.out.keep HB11.out
          · omega
          · have hy := hcy 0 (.int .u8 (x.toNat : Int)) rfl
            obtain ⟨yb, yo, ys⟩ := y
            have hspot : ys = none := by simpa [Addr.add] using World.cell?_spot hy
            subst hspot
            rw [Addr.add_lit, Nat.add_zero] at hy
            clear hcy
            go_wp2_with fail
            go_ret
            exact ⟨rfl, HB11.out⟩

end Go.Proofs.YbulkbmlcFmt
