/-
  LawS3161CHello: the decoder's bytes.
-/
import Derived.Test.YbulkbmlcFmtH12
import Derived.Lib.EndianBits
namespace Go.Proofs.YbulkbmlcFmt
open Go.RowKit Go.Lib
set_option linter.unusedVariables false
set_option linter.unusedSimpArgs false

/-- Where the blocks lie: what the call lays behind 'base' is none of the stream's. -/
structure Bs (p : Par) (db base : Nat) : Prop where
  h6 : 6 ≤ db
  ap : Apart p db
  z : p.zb < base
  c : p.cb < base
  r : p.rb < base
  b : p.bb < base
  s : p.sb < base
  d : db < base
theorem Bs.apart {p : Par} {db base : Nat} (h : Bs p db base) {g : Nat} (hg : base ≤ g) : Apart p g := by
  have := h.z; have := h.c; have := h.r; have := h.b; have := h.s; have := h.d; have := h.h6
  exact ⟨by omega, by omega, by omega, by omega, by omega, by omega⟩
theorem Bs.not_own {p : Par} {db base : Nat} (h : Bs p db base) : ¬ own p db := fun k => by
  obtain ⟨a1, a2, a3, a4, a5, a6⟩ := h.ap
  rcases k with e | e | e | e
  · exact a2 e
  · exact a3 e
  · exact a4 e
  · exact a5 e
/-- Below 'base' nothing turns but the stream's blocks and the decoder. -/
def ownB (p : Par) (db base k : Nat) : Prop := own p k ∨ k = db ∨ base ≤ k
theorem fr_grown {p : Par} {db base : Nat} {w w' : World} {row : Option Nat} (h : w.grownBy w' row) (hr : ∀ k, row = some k → base ≤ k) : Fr (ownB p db base) w w' :=
  ⟨h.os, h.tape, h.output, h.size, fun k hk hn => h.block k hk (fun e => hn (Or.inr (Or.inr (hr k e.symm))))⟩
theorem RS.fr {p : Par} (ok : p.Ok) {w w' : World} {rm : Bytes} (h : RS p w rm) {F : Nat → Prop} (hF : Fr F w w') (hn : ∀ k, k = 3 ∨ k = p.zb ∨ k = p.cb ∨ k = p.rb ∨ k = p.bb ∨ k = p.sb → ¬ F k) : RS p w' rm := h.keep ok (fun k hk hc => hF.block k hk (hn k hc))
theorem grown_of_fr {w w' : World} {F : Nat → Prop} (h : Fr F w w') {base e size n : Nat} {v : Value} {xs : List Value} (ho : w.ownsRow base e size v n xs) (hn : ∀ k, base ≤ k → ¬ F k) : w'.ownsRow base e size v n xs := by
  refine ⟨ho.1, ?_⟩
  rcases ho.2 with hh | ⟨g, cap, cur, rfl, hb, hgg, rest⟩
  · exact Or.inl hh
  · exact Or.inr ⟨g, cap, cur, rfl, hb, (h.block g (lt_of_heap hgg) (hn g hb)).trans hgg, rest⟩
theorem wpList_am {ops : Array Oper} {rest : List Oper} {o : Oper} {a : Act} {w : World} {Q : Exit → Act → World → Prop} (hgd : o.guard = none) (s x : Operand) (ho : o.op = .call { callee := .builtin .append, args := #[s, x], argTypes := #[23, 3] })
    (base : Nat) (v : Value) (n m : Nat) (xs : List Value) (hs : a.eval s = v) (hx : a.eval x = .int .i64 (m : Int)) (hown : w.ownsRow base 5 1 v n xs) (h1 : 1 ≤ m) (hm : n + m ≤ 1000000) (hbase : base ≤ w.heap.size)
    (h : ∀ w' g c, w'.ownsRow base 5 1 (.slice (some ⟨g, 0, none⟩) (n + m) c) (n + m) (xs ++ List.replicate m (.int .u8 0)) → w.grownBy w' v.ownBlock → (v.ownBlock = some g ∨ g = w.heap.size) → wpList Ybaf.prog ops Q rest (a.put o.dst (.slice (some ⟨g, 0, none⟩) (n + m) c)) w') : wpList Ybaf.prog ops Q (o :: rest) a w :=
  wpList_plain hgd fun _ hK => by
    obtain ⟨v', w', g, c, hr, rfl, h2, h3, h4⟩ := am_own w base o.type v n m xs hown h1 hm hbase
    unfold Oper.wp execOp
    simp only [ho, resolve, invoke, builtin, Sem.run_bind, Sem.run_pure, Result.andThen_ok, List.map_toArray, List.map_cons, List.map_nil, hs, hx, hr]
    exact hK _ _ (h w' g c h2 h3 h4)
theorem own_put {W w' : World} {base g N cc L : Nat} {xs B : List Value} (h : W.ownsRow base 5 1 (.slice (some ⟨g, 0, none⟩) N cc) N xs) (hl : L + B.length ≤ N) (hb : w'.heap[g]? = (W.setCells g L B).heap[g]?) : w'.ownsRow base 5 1 (.slice (some ⟨g, 0, none⟩) N cc) N (xs.take L ++ B ++ xs.drop (L + B.length)) := by
  have hx := h.1
  rw [Nat.mul_one] at hx
  rcases h.2 with ⟨h1, _⟩ | ⟨g', cap, cur, h1, h2, h3, h4, h5, h6, h7⟩
  · cases h1
  · cases h1
    rw [Nat.mul_one] at h6 h7
    have hcl : cur.toList.length = cc := by simpa using h6
    have hs := setCells_block g 5 B L W cur.toList (by simpa using h3) (by omega)
    refine ⟨by simp [hx]; omega, Or.inr ⟨g, cc, _, rfl, h2, hb.trans hs, h4, h5, by simp; omega, ?_⟩⟩
    rw [Nat.mul_one]
    subst h7
    rw [List.append_assoc, List.take_append, List.take_append, List.append_assoc]
    rw [List.take_take, List.take_take, List.drop_take]
    simp only [List.length_take, hcl]
    rw [Nat.min_eq_right (show L ≤ N by omega), Nat.min_eq_left (show L ≤ N by omega), Nat.min_eq_left (show L ≤ cc by omega), List.take_of_length_le (show B.length ≤ N - L by omega), show N - L - B.length = N - (L + B.length) by omega]
theorem own_there {W : World} {base g N cc L m : Nat} {xs : List Value} (h : W.ownsRow base 5 1 (.slice (some ⟨g, 0, none⟩) N cc) N xs) (hl : L + m ≤ N) : W.there g L m := fun j hj => by
  rcases h.2 with ⟨h1, _⟩ | ⟨g', cap, cur, h1, h2, h3, h4, h5, h6, h7⟩
  · cases h1
  · cases h1
    rw [Nat.mul_one] at h6
    exact ⟨by rw [cell_of_row _ _ _ _ _ (0, 0) h3, Array.getElem?_eq_getElem (by omega)]; rfl, by simp [World.frozen?, h3]⟩
theorem take_drop_full (t : Bytes) (L c : Nat) (hL : L ≤ t.length) (hc : c ≤ (t.drop L).length) :
    (byteCells (t.take L) ++ List.replicate c (Value.int .u8 0)).take L ++ byteCells ((t.drop L).take c) ++ (byteCells (t.take L) ++ List.replicate c (Value.int .u8 0)).drop (L + (byteCells ((t.drop L).take c)).length) = byteCells (t.take (L + c)) := by
  have h1 : (byteCells (t.take L)).length = L := by rw [len_byteCells, List.length_take]; omega
  have h2 : (byteCells ((t.drop L).take c)).length = c := by rw [len_byteCells, List.length_take]; omega
  generalize hA : byteCells (t.take L) = A at h1
  have e1 : (A ++ List.replicate c (Value.int .u8 0)).take L = A := by rw [List.take_append_of_le_length (by omega), List.take_of_length_le (by omega)]
  have e2 : (A ++ List.replicate c (Value.int .u8 0)).drop (L + c) = [] := List.drop_eq_nil_of_le (by simp; omega)
  rw [h2, e1, e2, List.append_nil, ← hA, ← byteCells_append, List.take_add]
theorem take_drop_part (t : Bytes) (L c : Nat) (hL : L ≤ t.length) (hc : (t.drop L).length < c) :
    ∃ B : Bytes, B.length = L + c ∧ (byteCells (t.take L) ++ List.replicate c (Value.int .u8 0)).take L ++ byteCells (t.drop L) ++ (byteCells (t.take L) ++ List.replicate c (Value.int .u8 0)).drop (L + (byteCells (t.drop L)).length) = byteCells B := by
  have h1 : (byteCells (t.take L)).length = L := by rw [len_byteCells, List.length_take]; omega
  have h2 : (byteCells (t.drop L)).length = (t.drop L).length := len_byteCells _
  refine ⟨t.take L ++ t.drop L ++ List.replicate (c - (t.drop L).length) 0, by simp at hc ⊢; omega, ?_⟩
  generalize hA : byteCells (t.take L) = A at h1
  generalize hd : (t.drop L).length = d at h2 hc
  have e1 : (A ++ List.replicate c (Value.int .u8 0)).take L = A := by rw [List.take_append_of_le_length (by omega), List.take_of_length_le (by omega)]
  have e2 : (A ++ List.replicate c (Value.int .u8 0)).drop (L + d) = List.replicate (c - d) (Value.int .u8 0) := by
    rw [List.drop_append, List.drop_eq_nil_of_le (show A.length ≤ L + d by omega), List.nil_append, List.drop_replicate, h1, Nat.add_sub_cancel_left]
  rw [h2, e1, e2, byteCells_append, byteCells_append, hA]
  congr 1
  simp [byteCells]
/-- How far the bytes have come. -/
def Part (p : Par) (U : Addr) (w wx : World) (db base x L : Nat) (t : Bytes) : Prop :=
  ∃ B bvx, ∃ e : Option Addr, B.length = L ∧ DC p wx db bvx e ∧ wx.ownsRow base 5 1 bvx L (byteCells B) ∧ Fr (ownB p db base) w wx ∧ base ≤ wx.heap.size ∧
    ((e = none ∧ B = t.take L ∧ L ≤ t.length ∧ RS p wx (t.drop L)) ∨ (∃ ev, e = some ev ∧ (ev = p.E ∨ ev = U) ∧ t.length < x ∧ RS p wx []))

set_option maxHeartbeats 8000000 in
set_option maxRecDepth 100000 in
theorem bytes_some {p : Par} (ok : p.Ok) {w : World} {rm t : Bytes} {db base x L0 : Nat} {bv : Value} {B0 : Bytes} (hb : Bs p db base) (hD : DC p w db bv none) (h : RS p w rm) (hg : Good 0 rm) (hdec : dec 0 0 rm = some (x, t)) (hx : x ≤ 65536)
    (hown : w.ownsRow base 5 1 bv L0 (byteCells B0)) (hbase : base ≤ w.heap.size) (U : Addr) (hU : w.cell? ⟨4, 0, none⟩ = some (.iface 63 (.pointer (some U)))) (hE : w.cell? ⟨3, 0, none⟩ = some p.eof) :
    Calls Ybaf.prog 19 #[.pointer (some ⟨db, 0, none⟩), .int .u64 1048576] w fun e w' => ∃ v', e = .returned v' ∧ Fr (ownB p db base) w w' ∧ base ≤ w'.heap.size ∧
      ((x ≤ t.length ∧ DC p w' db v' none ∧ w'.ownsRow base 5 1 v' x (byteCells (t.take x)) ∧ RS p w' (t.drop x)) ∨ (t.length < x ∧ ∃ ev L B, (ev = p.E ∨ ev = U) ∧ DC p w' db v' (some ev) ∧ B.length = L ∧ w'.ownsRow base 5 1 v' L (byteCells B) ∧ RS p w' [])) := by
  have HC := hide (uv_any ok hD hb.ap hb.h6 h hg U hU hE)
  have HB := hide hb; have HU := hide hU; have HE := hide hE; have HOWN := hide hown; have HDEC := hide hdec
  have hno := hb.not_own
  clear h hg hU hE hD hown hdec
  go_enter Ybaf.func19, Ybaf.ntmps19
  go_wp2_with fail
  refine HC.out.mono ?_
  rintro e w1 ⟨hF, hcase⟩
  rcases hcase with ⟨x', t', hd, rfl, hR, hD1⟩ | ⟨hd, _⟩
  · obtain ⟨rfl, rfl⟩ : x = x' ∧ t = t' := by have := HDEC.out.symm.trans hd; cases this; exact ⟨rfl, rfl⟩
    have HF1 : Hid (Fr (ownB p db base) w w1) := hF.mono (fun k hk => by rcases hk with h | h; exact Or.inl h; exact Or.inr (Or.inl h))
    have HO1 : Hid (w1.ownsRow base 5 1 bv L0 (byteCells B0)) := grown_of_fr hF HOWN.out (fun k hk h => by
      have := hb.z; have := hb.c; have := hb.r; have := hb.b; have := hb.d
      rcases h with (h | h | h | h) | h <;> omega)
    have HR1 := hide hR; have HD1 := hide hD1
    have hs1 : base ≤ w1.heap.size := Nat.le_trans hbase hF.size
    clear hF hR hD1 hd HC
    obtain ⟨sa, sc, hbv, hsc⟩ : ∃ sa sc, bv = .slice sa L0 sc ∧ (sa = none → L0 = 0 ∧ sc = 0) := by
      rcases HO1.out.2 with ⟨rfl, rfl⟩ | ⟨g, cap, cur, rfl, _⟩
      · exact ⟨none, 0, rfl, fun _ => ⟨rfl, rfl⟩⟩
      · exact ⟨_, cap, rfl, fun h => by cases h⟩
    have HP0 : Hid (w1.ownsRow base 5 1 (.slice sa 0 sc) 0 []) := hide (by
      refine ⟨rfl, ?_⟩
      rcases HO1.out.2 with ⟨h1, h2⟩ | ⟨g, cap, cur, h1, h2, h3, h4, h5, h6, _⟩
      · rw [hbv] at h1; cases h1; exact Or.inl ⟨rfl, rfl⟩
      · rw [hbv] at h1; cases h1; exact Or.inr ⟨g, sc, cur, rfl, h2, h3, Nat.zero_le _, h5, h6, by simp⟩)
    subst hbv
    have c2 : w1.cell? ⟨db, 2, none⟩ = some (.slice sa L0 sc) := by rw [cell_of_row _ _ 2 _ _ (0, 0) HD1.out]; rfl
    have c3 : w1.cell? ⟨db, 3, none⟩ = some .nilIface := by rw [cell_of_row _ _ 3 _ _ (0, 0) HD1.out]; rfl
    have f2 : w1.frozen? ⟨db, 2, none⟩ = false := frozen_block HD1.out
    have hxl : ¬ (1048576 : Int) < (x : Int) := by omega
    go_upto_region 7 with fail
    go_cut [0] (fun s0 wy => s0 = .pointer (some ⟨db, 0, none⟩) ∧ wy = w1.setCell ⟨db, 2, none⟩ (.slice sa 0 sc))
    case first =>
      cases sa with
      | none =>
        obtain ⟨rfl, rfl⟩ := hsc rfl
        go_wp2
        go_meet
        case rel => exact ⟨rfl, rfl⟩
      | some ad =>
        go_wp2
        go_meet
        case rel => exact ⟨rfl, rfl⟩
    case rest =>
      obtain ⟨rfl, hwc⟩ := hcut
      have HD2 : Hid (DC p wc db (.slice sa 0 sc) none) := hide (by rw [hwc]; exact heap_setCell_same _ _ _ _ _ _ HD1.out)
      have HF2 : Hid (Fr (ownB p db base) w wc) := hide (by rw [hwc]; exact HF1.out.set (Or.inr (Or.inl rfl)) _)
      have HR2 : Hid (RS p wc t) := hide (by rw [hwc]; exact HR1.out.set ok HB.out.ap _ _)
      have HO2 : Hid (wc.ownsRow base 5 1 (.slice sa 0 sc) 0 []) := hide (by
        rw [hwc]
        refine HP0.out.kept (row := some db) ⟨rfl, rfl, rfl, by simp, fun k _ hk => heap_setCell_other _ _ _ _ (fun e => hk (by rw [e]))⟩ ?_
        cases hv : (Value.slice sa 0 sc).ownBlock with
        | none => exact Or.inl rfl
        | some k => exact Or.inr (fun e => by have := (HP0.out.lt k hv).1; have := HB.out.d; cases e; omega))
      have hs2 : base ≤ wc.heap.size := by rw [hwc]; simpa using hs1
      clear hwc c2 c3 f2 HP0 HO1 HD1 HF1 HR1
      have HPT : Hid (Part p U w wc db base x 0 t) := ⟨[], _, none, rfl, HD2.out, HO2.out, HF2.out, hs2, Or.inl ⟨rfl, rfl, Nat.zero_le _, HR2.out⟩⟩
      clear HD2 HF2 HR2 HO2 hs2
      go_wp2
      go_loopw [5] (fun s5 wx => ∃ L n : Nat, s5 = .int .u64 (n : Int) ∧ n + L = x ∧ Part p U w wx db base x L t) (fun s5 _ => (intOf s5).toNat)
      case atStart => exact ⟨0, x, rfl, rfl, HPT.out⟩
      case round =>
        obtain ⟨L, n, rfl, hnx, B, bvx, e, hBL, hDx, hOx, hFx, hsx, hst⟩ := hrel
        clear HPT
        rcases hst with ⟨rfl, rfl, hLt, hRx⟩ | ⟨ev, rfl, hev, hlx, hRx⟩
        · rcases Nat.eq_zero_or_pos n with hn0 | hn0
          · subst hn0
            have hLx : L = x := by omega
            have c2 : wr.cell? ⟨db, 2, none⟩ = some bvx := by rw [cell_of_row _ _ 2 _ _ (0, 0) hDx]; rfl
            have c3 : wr.cell? ⟨db, 3, none⟩ = some .nilIface := by rw [cell_of_row _ _ 3 _ _ (0, 0) hDx]; rfl
            have HDx := hide hDx; have HOx := hide hOx; have HFx := hide hFx; have HRx := hide hRx; have HBL := hide hBL; have HLX := hide hLx
            clear hDx hOx hFx hRx hBL hLx
            go_wp2
            go_ret
            exact ⟨_, rfl, HFx.out, hsx, Or.inl ⟨by have := HLX.out; omega, HDx.out, by rw [← HLX.out]; exact HOx.out, by rw [← HLX.out]; exact HRx.out⟩⟩
          · have c1 : wr.cell? ⟨db, 1, none⟩ = some (.pointer (some ⟨p.rb, 0, none⟩)) := by rw [cell_of_row _ _ 1 _ _ (0, 0) hDx]; rfl
            have c2 : wr.cell? ⟨db, 2, none⟩ = some bvx := by rw [cell_of_row _ _ 2 _ _ (0, 0) hDx]; rfl
            have c3 : wr.cell? ⟨db, 3, none⟩ = some .nilIface := by rw [cell_of_row _ _ 3 _ _ (0, 0) hDx]; rfl
            have f2 : wr.frozen? ⟨db, 2, none⟩ = false := frozen_block hDx
            have HSZ : Hid (Calls Ybaf.prog 21 #[.pointer (some ⟨p.rb, 0, none⟩)] wr fun x w' => x = .returned (.int .i64 (p.K : Int)) ∧ w' = wr) := hide (by
              obtain ⟨i, r, wd, buf, cnt, lb, lr, hSt, _⟩ := hRx
              exact size_any hSt)
            have HDx := hide hDx; have HOx := hide hOx; have HFx := hide hFx; have HRx := hide hRx; have HBL := hide hBL
            clear hDx hOx hFx hRx hBL
            have l5 := ok.l5
            have hn0' : (0 : Int) < (n : Int) := by omega
            obtain ⟨c, hc⟩ : ∃ c, c = min n p.K := ⟨_, rfl⟩
            have hc1 : 1 ≤ c := by omega
            have hcn : c ≤ n := by omega
            have k1 : IntKind.u64.wrap (p.K : Int) = (p.K : Int) := u64_wrap_id _ (by omega) (by omega)
            have k2 : (if (p.K : Int) < (n : Int) then (p.K : Int) else (n : Int)) = (c : Int) := by rw [hc]; split <;> omega
            have k2' : (if p.K < n then (p.K : Int) else (n : Int)) = (c : Int) := by rw [hc]; split <;> omega
            have k3 : IntKind.i64.wrap (c : Int) = (c : Int) := by rw [IntKind.wrap_i64]; omega
            have k3' : wrap64 (c : Int) = (c : Int) := by unfold wrap64; omega
            have HCC := hide hc
            clear hc
            go_wp2_with fail
            refine HSZ.out.mono ?_
            rintro e w2 ⟨rfl, rfl⟩
            go_upto_region 10 with fail
            clear k1 k2 k2' k3 k3' HSZ
            have hdb : ∀ k, bvx.ownBlock = some k → base ≤ k := fun k hk => (HOx.out.lt k hk).1
            have hLc : L + c ≤ 1000000 := by omega
            have HDB := hide hdb
            clear hdb
            go_upto_region 11 with (refine wpList_am rfl (.tmp 57) (.tmp 58) rfl base bvx L c (byteCells (t.take L)) rfl rfl HOx.out hc1 hLc hsx ?_; intro w3 g cc hO3 hg3 hat; have d2 : w3.cell? ⟨db, 2, none⟩ = some bvx := hg3.cell c2 (fun e => by have := HDB.out _ e.symm; have := HB.out.d; dsimp only at *; omega); have e2 : w3.frozen? ⟨db, 2, none⟩ = false := (World.frozen?_of_block (hg3.block db (lt_of_heap HDx.out) (fun e => by have := HDB.out _ e.symm; have := HB.out.d; omega))).trans f2; have HO3 := hide hO3; have HG3 := hide hg3; have HAT := hide hat; clear hO3 hg3 hat)
            have hgb : base ≤ g := (HO3.out.lt g rfl).1
            have hdB := HB.out.d
            have hnb : ∀ k, k < base → k < w2.heap.size → w3.heap[k]? = w2.heap[k]? := fun k hk hl => HG3.out.block k hl (fun e => by have := HDB.out k e.symm; omega)
            have HD4 : Hid (DC p (w3.setCell ⟨db, 2, none⟩ (.slice (some ⟨g, 0, none⟩) (L + c) cc)) db (.slice (some ⟨g, 0, none⟩) (L + c) cc) none) := heap_setCell_same _ _ _ _ _ _ ((hnb db hdB (lt_of_heap HDx.out)).trans HDx.out)
            have HO4 : Hid ((w3.setCell ⟨db, 2, none⟩ (.slice (some ⟨g, 0, none⟩) (L + c) cc)).ownsRow base 5 1 (.slice (some ⟨g, 0, none⟩) (L + c) cc) (L + c) (byteCells (t.take L) ++ List.replicate c (.int .u8 0))) := HO3.out.kept (row := some db) ⟨rfl, rfl, rfl, by simp, fun k _ hk => heap_setCell_other _ _ _ _ (fun e => hk (by rw [e]))⟩ (Or.inr (fun e => by have : g = db := Option.some.inj e; omega))
            have HF4 : Hid (Fr (ownB p db base) w (w3.setCell ⟨db, 2, none⟩ (.slice (some ⟨g, 0, none⟩) (L + c) cc))) := (HFx.out.trans (fr_grown HG3.out (fun k hk => HDB.out k hk))).set (Or.inr (Or.inl rfl)) _
            have HR4 : Hid (RS p (w3.setCell ⟨db, 2, none⟩ (.slice (some ⟨g, 0, none⟩) (L + c) cc)) (t.drop L)) := (HRx.out.keep ok (fun k hl hk => hnb k (by
                have := HB.out.z; have := HB.out.c; have := HB.out.r; have := HB.out.b; have := HB.out.s; have := HB.out.h6
                rcases hk with h | h | h | h | h | h <;> omega) hl)).set ok HB.out.ap _ _
            have hs4 : base ≤ (w3.setCell ⟨db, 2, none⟩ (.slice (some ⟨g, 0, none⟩) (L + c) cc)).heap.size := by
              have := HG3.out.size
              show base ≤ (w3.setCell _ _).heap.size
              simp; omega
            clear d2 e2 c1 c2 c3 f2 HO3 HG3 HAT HDx HOx HFx HRx hnb
            generalize (w3.setCell ⟨db, 2, none⟩ (.slice (some ⟨g, 0, none⟩) (L + c) cc)) = W at HD4 HO4 HF4 HR4 hs4 ⊢
            have hcc : L + c ≤ cc := by
              rcases HO4.out.2 with ⟨h1, _⟩ | ⟨_, _, _, h1, _, _, h4, _⟩
              · cases h1
              · cases h1; exact h4
            have hlt34 : ∀ k, k < 6 → ¬ ownB p db base k := fun k hk h => by
              have := HB.out.h6; have := HB.out.d
              rcases h with h | h | h
              · have := own_lt ok h; omega
              · omega
              · omega
            have u4 : W.drew.cell? ⟨4, 0, none⟩ = some (.iface 63 (.pointer (some U))) := cell_kept HU.out (HF4.out.block 4 (lt_of_cell HU.out) (hlt34 4 (by omega)))
            have u3 : W.drew.cell? ⟨3, 0, none⟩ = some p.eof := cell_kept HE.out (HF4.out.block 3 (lt_of_cell HE.out) (hlt34 3 (by omega)))
            have HFULL := hide (full_any ok (HR4.out.ahead 1) g L c (cc - L) (HB.out.apart hgb) (by have := HB.out.h6; omega) hc1 (by omega) (by omega) (own_there (W := W.drewN 1) HO4.out (Nat.le_refl _)) U u4 u3)
            clear u4 u3 hlt34
            have c1 : W.cell? ⟨db, 1, none⟩ = some (.pointer (some ⟨p.rb, 0, none⟩)) := by rw [cell_of_row _ _ 1 _ _ (0, 0) HD4.out]; rfl
            have c2 : W.cell? ⟨db, 2, none⟩ = some (.slice (some ⟨g, 0, none⟩) (L + c) cc) := by rw [cell_of_row _ _ 2 _ _ (0, 0) HD4.out]; rfl
            have kL : IntKind.i64.wrap (L : Int) = (L : Int) := by rw [IntKind.wrap_i64]; omega
            have hcL : ¬ cc = L := by omega
            have hLc1 : L ≤ cc := by omega
            have hLL : ¬ (L : Int) + (c : Int) < (L : Int) := by omega
            have hLL' : ¬ L + c < L := by omega
            refine wp_region_held (S := fun w' => w'.cell? ⟨db, 1, none⟩ = some (.pointer (some ⟨p.rb, 0, none⟩)) ∧ w'.cell? ⟨db, 2, none⟩ = some (.slice (some ⟨g, 0, none⟩) (L + c) cc)) (by kernel_rfl) ?_
            try (change wpAnyH _ _ _ _ _ _ _ _ (World.drew _))
            have S0 : W.drew.cell? ⟨db, 1, none⟩ = some (.pointer (some ⟨p.rb, 0, none⟩)) ∧ W.drew.cell? ⟨db, 2, none⟩ = some (.slice (some ⟨g, 0, none⟩) (L + c) cc) := ⟨c1, c2⟩
            refine wpAnyH_take (i := 0) (v := .pointer (some ⟨db, 0, none⟩)) rfl (by kernel_rfl) (by kernel_rfl) (by kernel_rfl) (fun _ _ _ h => h) (Or.inl ⟨by kernel_rfl, fun w hS => by obtain ⟨q1, q2⟩ := hS; go_simp⟩) S0 ?_
            simp only [Act.put, List.getElem_toArray, List.getElem_cons_succ, List.getElem_cons_zero, List.setIfInBounds_toArray, List.set_cons_zero, List.set_cons_succ]
            refine wpAnyH_take (i := 1) (v := .pointer (some ⟨db, 0, none⟩)) rfl (by kernel_rfl) (by kernel_rfl) (by kernel_rfl) (fun _ _ _ h => h) (Or.inl ⟨by kernel_rfl, fun w hS => by obtain ⟨q1, q2⟩ := hS; go_simp⟩) S0 ?_
            simp only [Act.put, List.getElem_toArray, List.getElem_cons_succ, List.getElem_cons_zero, List.setIfInBounds_toArray, List.set_cons_zero, List.set_cons_succ]
            refine wpAnyH_take (i := 2) (v := .pointer (some ⟨db, 1, none⟩)) rfl (by kernel_rfl) (by kernel_rfl) (by kernel_rfl) (fun _ _ _ h => h) (Or.inl ⟨by kernel_rfl, fun w hS => by obtain ⟨q1, q2⟩ := hS; go_simp⟩) S0 ?_
            simp only [Act.put, List.getElem_toArray, List.getElem_cons_succ, List.getElem_cons_zero, List.setIfInBounds_toArray, List.set_cons_zero, List.set_cons_succ]
            refine wpAnyH_take (i := 3) (v := .pointer (some ⟨p.rb, 0, none⟩)) rfl (by kernel_rfl) (by kernel_rfl) (by kernel_rfl) (fun _ _ _ h => h) (Or.inl ⟨by kernel_rfl, fun w hS => by obtain ⟨q1, q2⟩ := hS; go_simp⟩) S0 ?_
            simp only [Act.put, List.getElem_toArray, List.getElem_cons_succ, List.getElem_cons_zero, List.setIfInBounds_toArray, List.set_cons_zero, List.set_cons_succ]
            refine wpAnyH_take (i := 4) (v := .iface 38 (.pointer (some ⟨p.rb, 0, none⟩))) rfl (by kernel_rfl) (by kernel_rfl) (by kernel_rfl) (fun _ _ _ h => h) (Or.inl ⟨by kernel_rfl, fun w hS => by obtain ⟨q1, q2⟩ := hS; go_simp⟩) S0 ?_
            simp only [Act.put, List.getElem_toArray, List.getElem_cons_succ, List.getElem_cons_zero, List.setIfInBounds_toArray, List.set_cons_zero, List.set_cons_succ]
            refine wpAnyH_take (i := 5) (v := .pointer (some ⟨db, 0, none⟩)) rfl (by kernel_rfl) (by kernel_rfl) (by kernel_rfl) (fun _ _ _ h => h) (Or.inl ⟨by kernel_rfl, fun w hS => by obtain ⟨q1, q2⟩ := hS; go_simp⟩) S0 ?_
            simp only [Act.put, List.getElem_toArray, List.getElem_cons_succ, List.getElem_cons_zero, List.setIfInBounds_toArray, List.set_cons_zero, List.set_cons_succ]
            refine wpAnyH_take (i := 6) (v := .pointer (some ⟨db, 0, none⟩)) rfl (by kernel_rfl) (by kernel_rfl) (by kernel_rfl) (fun _ _ _ h => h) (Or.inl ⟨by kernel_rfl, fun w hS => by obtain ⟨q1, q2⟩ := hS; go_simp⟩) S0 ?_
            simp only [Act.put, List.getElem_toArray, List.getElem_cons_succ, List.getElem_cons_zero, List.setIfInBounds_toArray, List.set_cons_zero, List.set_cons_succ]
            refine wpAnyH_take (i := 7) (v := .pointer (some ⟨db, 2, none⟩)) rfl (by kernel_rfl) (by kernel_rfl) (by kernel_rfl) (fun _ _ _ h => h) (Or.inl ⟨by kernel_rfl, fun w hS => by obtain ⟨q1, q2⟩ := hS; go_simp⟩) S0 ?_
            simp only [Act.put, List.getElem_toArray, List.getElem_cons_succ, List.getElem_cons_zero, List.setIfInBounds_toArray, List.set_cons_zero, List.set_cons_succ]
            refine wpAnyH_take (i := 8) (v := .slice (some ⟨g, 0, none⟩) (L + c) cc) rfl (by kernel_rfl) (by kernel_rfl) (by kernel_rfl) (fun _ _ _ h => h) (Or.inl ⟨by kernel_rfl, fun w hS => by obtain ⟨q1, q2⟩ := hS; go_simp⟩) S0 ?_
            simp only [Act.put, List.getElem_toArray, List.getElem_cons_succ, List.getElem_cons_zero, List.setIfInBounds_toArray, List.set_cons_zero, List.set_cons_succ]
            refine wpAnyH_take (i := 9) (v := .pointer (some ⟨db, 0, none⟩)) rfl (by kernel_rfl) (by kernel_rfl) (by kernel_rfl) (fun _ _ _ h => h) (Or.inl ⟨by kernel_rfl, fun w hS => by obtain ⟨q1, q2⟩ := hS; go_simp⟩) S0 ?_
            simp only [Act.put, List.getElem_toArray, List.getElem_cons_succ, List.getElem_cons_zero, List.setIfInBounds_toArray, List.set_cons_zero, List.set_cons_succ]
            refine wpAnyH_take (i := 10) (v := .pointer (some ⟨db, 0, none⟩)) rfl (by kernel_rfl) (by kernel_rfl) (by kernel_rfl) (fun _ _ _ h => h) (Or.inl ⟨by kernel_rfl, fun w hS => by obtain ⟨q1, q2⟩ := hS; go_simp⟩) S0 ?_
            simp only [Act.put, List.getElem_toArray, List.getElem_cons_succ, List.getElem_cons_zero, List.setIfInBounds_toArray, List.set_cons_zero, List.set_cons_succ]
            refine wpAnyH_take (i := 11) (v := .pointer (some ⟨db, 2, none⟩)) rfl (by kernel_rfl) (by kernel_rfl) (by kernel_rfl) (fun _ _ _ h => h) (Or.inl ⟨by kernel_rfl, fun w hS => by obtain ⟨q1, q2⟩ := hS; go_simp⟩) S0 ?_
            simp only [Act.put, List.getElem_toArray, List.getElem_cons_succ, List.getElem_cons_zero, List.setIfInBounds_toArray, List.set_cons_zero, List.set_cons_succ]
            refine wpAnyH_take (i := 12) (v := .slice (some ⟨g, 0, none⟩) (L + c) cc) rfl (by kernel_rfl) (by kernel_rfl) (by kernel_rfl) (fun _ _ _ h => h) (Or.inl ⟨by kernel_rfl, fun w hS => by obtain ⟨q1, q2⟩ := hS; go_simp⟩) S0 ?_
            simp only [Act.put, List.getElem_toArray, List.getElem_cons_succ, List.getElem_cons_zero, List.setIfInBounds_toArray, List.set_cons_zero, List.set_cons_succ]
            refine wpAnyH_take (i := 13) (v := .int .i64 ((L : Int) + (c : Int))) rfl (by kernel_rfl) (by kernel_rfl) (by kernel_rfl) (fun _ _ _ h => h) (Or.inl ⟨by kernel_rfl, fun w hS => by obtain ⟨q1, q2⟩ := hS; go_simp⟩) S0 ?_
            simp only [Act.put, List.getElem_toArray, List.getElem_cons_succ, List.getElem_cons_zero, List.setIfInBounds_toArray, List.set_cons_zero, List.set_cons_succ]
            refine wpAnyH_take (i := 14) (v := .int .i64 (c : Int)) rfl (by kernel_rfl) (by kernel_rfl) (by kernel_rfl) (fun _ _ _ h => h) (Or.inl ⟨by kernel_rfl, fun w hS => by obtain ⟨q1, q2⟩ := hS; go_simp⟩) S0 ?_
            simp only [Act.put, List.getElem_toArray, List.getElem_cons_succ, List.getElem_cons_zero, List.setIfInBounds_toArray, List.set_cons_zero, List.set_cons_succ]
            refine wpAnyH_take (i := 15) (v := .int .i64 (L : Int)) rfl (by kernel_rfl) (by kernel_rfl) (by kernel_rfl) (fun _ _ _ h => h) (Or.inl ⟨by kernel_rfl, fun w hS => by obtain ⟨q1, q2⟩ := hS; go_simp⟩) S0 ?_
            simp only [Act.put, List.getElem_toArray, List.getElem_cons_succ, List.getElem_cons_zero, List.setIfInBounds_toArray, List.set_cons_zero, List.set_cons_succ]
            refine wpAnyH_take (i := 16) (v := .slice (some ⟨g, L, none⟩) c (cc - L)) rfl (by kernel_rfl) (by kernel_rfl) (by kernel_rfl) (fun _ _ _ h => h) (Or.inl ⟨by kernel_rfl, fun w hS => by obtain ⟨q1, q2⟩ := hS; go_simp⟩) S0 ?_
            simp only [Act.put, List.getElem_toArray, List.getElem_cons_succ, List.getElem_cons_zero, List.setIfInBounds_toArray, List.set_cons_zero, List.set_cons_succ]
            clear kL
            refine wpAnyH_ready (rs := [17]) (by kernel_rfl) (by simp) ?_
            refine AllReadyH.cons rfl (fun K hK => ?_) AllReadyH.nil
            rw [if_pos (by kernel_rfl)]
            go_simp
            refine HFULL.out.mono ?_
            rintro e w5 ⟨hF5, hcase⟩
            rcases hcase with ⟨hcl, rfl, hR5, hB5⟩ | ⟨hcl, n5, ev, hev, rfl, hR5, hB5⟩
            · have HO5 : Hid (w5.ownsRow base 5 1 (.slice (some ⟨g, 0, none⟩) (L + c) cc) (L + c) (byteCells (t.take (L + c)))) := hide (by
                have := own_put (W := W.drewN 1) (L := L) (B := byteCells ((t.drop L).take c)) HO4.out (by rw [len_byteCells, List.length_take]; omega) hB5
                rw [take_drop_full t L c hLt hcl] at this; exact this)
              have HCL := hide hcl
              clear hcl
              have HD5 : Hid (DC p w5 db (.slice (some ⟨g, 0, none⟩) (L + c) cc) none) := (hF5.block db (lt_of_heap HD4.out) (fun h => by
                  rcases h with h | h
                  · exact hno h
                  · omega)).trans HD4.out
              have HF5 : Hid (Fr (ownB p db base) w w5) := (HF4.out.drewN 1).trans (hF5.mono (fun k hk => by
                  rcases hk with h | h
                  · exact Or.inl h
                  · exact Or.inr (Or.inr (by omega))))
              have hs5 : base ≤ w5.heap.size := Nat.le_trans hs4 hF5.size
              have HR5 := hide hR5
              have S1 : w5.cell? ⟨db, 1, none⟩ = some (.pointer (some ⟨p.rb, 0, none⟩)) ∧ w5.cell? ⟨db, 2, none⟩ = some (.slice (some ⟨g, 0, none⟩) (L + c) cc) := ⟨by rw [cell_of_row _ _ 1 _ _ (0, 0) HD5.out]; rfl, by rw [cell_of_row _ _ 2 _ _ (0, 0) HD5.out]; rfl⟩
              clear hF5 hR5 hB5
              refine hK.out _ _ S1 (fun _ => ?_)
              clear hK K S0
              refine wpAnyH_take (i := 18) (v := .tuple #[.int .i64 (c : Int), .nilIface]) rfl (by kernel_rfl) (by kernel_rfl) (by kernel_rfl) (fun _ _ _ h => h) (Or.inl ⟨by kernel_rfl, fun w hS => by go_simp⟩) S1 ?_
              simp only [Act.put, List.getElem_toArray, List.getElem_cons_succ, List.getElem_cons_zero, List.setIfInBounds_toArray, List.set_cons_zero, List.set_cons_succ]
              refine wpAnyH_take (i := 19) (v := .int .i64 (c : Int)) rfl (by kernel_rfl) (by kernel_rfl) (by kernel_rfl) (fun _ _ _ h => h) (Or.inl ⟨by kernel_rfl, fun w hS => by go_simp⟩) S1 ?_
              simp only [Act.put, List.getElem_toArray, List.getElem_cons_succ, List.getElem_cons_zero, List.setIfInBounds_toArray, List.set_cons_zero, List.set_cons_succ]
              refine wpAnyH_take (i := 20) (v := .nilIface) rfl (by kernel_rfl) (by kernel_rfl) (by kernel_rfl) (fun _ _ _ h => h) (Or.inl ⟨by kernel_rfl, fun w hS => by go_simp⟩) S1 ?_
              simp only [Act.put, List.getElem_toArray, List.getElem_cons_succ, List.getElem_cons_zero, List.setIfInBounds_toArray, List.set_cons_zero, List.set_cons_succ]
              refine wpAnyH_take (i := 21) (v := .int .i64 (c : Int)) rfl (by kernel_rfl) (by kernel_rfl) (by kernel_rfl) (fun _ _ _ h => h) (Or.inl ⟨by kernel_rfl, fun w hS => by go_simp⟩) S1 ?_
              simp only [Act.put, List.getElem_toArray, List.getElem_cons_succ, List.getElem_cons_zero, List.setIfInBounds_toArray, List.set_cons_zero, List.set_cons_succ]
              refine wpAnyH_take (i := 22) (v := .nilIface) rfl (by kernel_rfl) (by kernel_rfl) (by kernel_rfl) (fun _ _ _ h => h) (Or.inl ⟨by kernel_rfl, fun w hS => by go_simp⟩) S1 ?_
              simp only [Act.put, List.getElem_toArray, List.getElem_cons_succ, List.getElem_cons_zero, List.setIfInBounds_toArray, List.set_cons_zero, List.set_cons_succ]
              refine wpAnyH_done (by kernel_rfl) ?_ _
              clear S1 c1 c2
              go_wp2_with fail
              refine (fail_any HD5.out none).mono ?_
              rintro e w6 ⟨rfl, hD6, hF6, hw6⟩
              have HD6 := hide hD6
              have HF6 := hide (HF5.out.trans (hF6.mono (G := ownB p db base) (fun k hk => Or.inr (Or.inl hk))))
              have HO6 := hide (grown_of_fr hF6 HO5.out (fun k hk h => by have h' : k = db := h; omega))
              have HR6 := hide (show RS p w6 _ from by rcases hw6 with rfl | rfl; exact HR5.out; exact HR5.out.set ok HB.out.ap _ _)
              have hs6 : base ≤ w6.heap.size := Nat.le_trans hs5 hF6.size
              clear hD6 hF6 hw6
              have kw : IntKind.u64.wrap ((n : Int) - (c : Int)) = ((n - c : Nat) : Int) := by rw [u64_wrap_id _ (by omega) (by omega)]; omega
              have kw2 : IntKind.u64.wrap (c : Int) = (c : Int) := u64_wrap_id _ (by omega) (by omega)
              go_wp2
              go_roundw
              case rel => exact ⟨L + c, n - c, by first | rfl | (congr 1), by omega, t.take (L + c), _, none, by have := HCL.out; simp at this ⊢; omega, HD6.out, HO6.out, HF6.out, hs6, Or.inl ⟨rfl, rfl, by have := HCL.out; simp at this; omega, by rw [← List.drop_drop]; exact HR6.out⟩⟩
              case measure => simp [intOf]; omega
            · obtain ⟨B5, hB5l, hB5e⟩ := take_drop_part t L c hLt hcl
              have HO5 : Hid (w5.ownsRow base 5 1 (.slice (some ⟨g, 0, none⟩) (L + c) cc) (L + c) (byteCells B5)) := hide (by
                have := own_put (W := W.drewN 1) (L := L) (B := byteCells (t.drop L)) HO4.out (by rw [len_byteCells]; omega) hB5
                rw [hB5e] at this; exact this)
              have HCL := hide hcl; have HB5L := hide hB5l
              clear hcl hB5l hB5e
              have HD5 : Hid (DC p w5 db (.slice (some ⟨g, 0, none⟩) (L + c) cc) none) := (hF5.block db (lt_of_heap HD4.out) (fun h => by
                  rcases h with h | h
                  · exact hno h
                  · omega)).trans HD4.out
              have HF5 : Hid (Fr (ownB p db base) w w5) := (HF4.out.drewN 1).trans (hF5.mono (fun k hk => by
                  rcases hk with h | h
                  · exact Or.inl h
                  · exact Or.inr (Or.inr (by omega))))
              have hs5 : base ≤ w5.heap.size := Nat.le_trans hs4 hF5.size
              have HR5 := hide hR5
              have S1 : w5.cell? ⟨db, 1, none⟩ = some (.pointer (some ⟨p.rb, 0, none⟩)) ∧ w5.cell? ⟨db, 2, none⟩ = some (.slice (some ⟨g, 0, none⟩) (L + c) cc) := ⟨by rw [cell_of_row _ _ 1 _ _ (0, 0) HD5.out]; rfl, by rw [cell_of_row _ _ 2 _ _ (0, 0) HD5.out]; rfl⟩
              clear hF5 hR5 hB5
              refine hK.out _ _ S1 (fun _ => ?_)
              clear hK K S0
              refine wpAnyH_take (i := 18) (v := .tuple #[.int .i64 (n5 : Int), .iface 63 (.pointer (some ev))]) rfl (by kernel_rfl) (by kernel_rfl) (by kernel_rfl) (fun _ _ _ h => h) (Or.inl ⟨by kernel_rfl, fun w hS => by go_simp⟩) S1 ?_
              simp only [Act.put, List.getElem_toArray, List.getElem_cons_succ, List.getElem_cons_zero, List.setIfInBounds_toArray, List.set_cons_zero, List.set_cons_succ]
              refine wpAnyH_take (i := 19) (v := .int .i64 (n5 : Int)) rfl (by kernel_rfl) (by kernel_rfl) (by kernel_rfl) (fun _ _ _ h => h) (Or.inl ⟨by kernel_rfl, fun w hS => by go_simp⟩) S1 ?_
              simp only [Act.put, List.getElem_toArray, List.getElem_cons_succ, List.getElem_cons_zero, List.setIfInBounds_toArray, List.set_cons_zero, List.set_cons_succ]
              refine wpAnyH_take (i := 20) (v := .iface 63 (.pointer (some ev))) rfl (by kernel_rfl) (by kernel_rfl) (by kernel_rfl) (fun _ _ _ h => h) (Or.inl ⟨by kernel_rfl, fun w hS => by go_simp⟩) S1 ?_
              simp only [Act.put, List.getElem_toArray, List.getElem_cons_succ, List.getElem_cons_zero, List.setIfInBounds_toArray, List.set_cons_zero, List.set_cons_succ]
              refine wpAnyH_take (i := 21) (v := .int .i64 (n5 : Int)) rfl (by kernel_rfl) (by kernel_rfl) (by kernel_rfl) (fun _ _ _ h => h) (Or.inl ⟨by kernel_rfl, fun w hS => by go_simp⟩) S1 ?_
              simp only [Act.put, List.getElem_toArray, List.getElem_cons_succ, List.getElem_cons_zero, List.setIfInBounds_toArray, List.set_cons_zero, List.set_cons_succ]
              refine wpAnyH_take (i := 22) (v := .iface 63 (.pointer (some ev))) rfl (by kernel_rfl) (by kernel_rfl) (by kernel_rfl) (fun _ _ _ h => h) (Or.inl ⟨by kernel_rfl, fun w hS => by go_simp⟩) S1 ?_
              simp only [Act.put, List.getElem_toArray, List.getElem_cons_succ, List.getElem_cons_zero, List.setIfInBounds_toArray, List.set_cons_zero, List.set_cons_succ]
              refine wpAnyH_done (by kernel_rfl) ?_ _
              clear S1 c1 c2
              go_wp2_with fail
              refine (fail_any HD5.out (some ev)).mono ?_
              rintro e w6 ⟨rfl, hD6, hF6, hw6⟩
              have HD6 := hide hD6
              have HF6 := hide (HF5.out.trans (hF6.mono (G := ownB p db base) (fun k hk => Or.inr (Or.inl hk))))
              have HO6 := hide (grown_of_fr hF6 HO5.out (fun k hk h => by have h' : k = db := h; omega))
              have HR6 := hide (show RS p w6 _ from by rcases hw6 with rfl | rfl; exact HR5.out; exact HR5.out.set ok HB.out.ap _ _)
              have hs6 : base ≤ w6.heap.size := Nat.le_trans hs5 hF6.size
              clear hD6 hF6 hw6
              have kw : IntKind.u64.wrap ((n : Int) - (c : Int)) = ((n - c : Nat) : Int) := by rw [u64_wrap_id _ (by omega) (by omega)]; omega
              have kw2 : IntKind.u64.wrap (c : Int) = (c : Int) := u64_wrap_id _ (by omega) (by omega)
              go_wp2
              go_roundw
              case rel => exact ⟨L + c, n - c, by first | rfl | (congr 1), by omega, B5, _, some ev, HB5L.out, HD6.out, HO6.out, HF6.out, hs6, Or.inr ⟨ev, rfl, hev, by have := HCL.out; simp at this; omega, HR6.out⟩⟩
              case measure => simp [intOf]; omega
        · have c2 : wr.cell? ⟨db, 2, none⟩ = some bvx := by rw [cell_of_row _ _ 2 _ _ (0, 0) hDx]; rfl
          have c3 : wr.cell? ⟨db, 3, none⟩ = some (.iface 63 (.pointer (some ev))) := by rw [cell_of_row _ _ 3 _ _ (0, 0) hDx]; rfl
          have HDx := hide hDx; have HOx := hide hOx; have HFx := hide hFx; have HRx := hide hRx; have HBL := hide hBL; have HLX := hide hlx
          clear hDx hOx hFx hRx hBL hlx
          by_cases hn0 : 0 < n
          · have hn0' : (0 : Int) < (n : Int) := by omega
            go_wp2
            go_ret
            exact ⟨_, rfl, HFx.out, hsx, Or.inr ⟨HLX.out, ev, L, B, hev, HDx.out, HBL.out, HOx.out, HRx.out⟩⟩
          · have hnz : n = 0 := by omega
            subst hnz
            go_wp2
            go_ret
            exact ⟨_, rfl, HFx.out, hsx, Or.inr ⟨HLX.out, ev, L, B, hev, HDx.out, HBL.out, HOx.out, HRx.out⟩⟩
  · have := HDEC.out.symm.trans hd; cases this
end Go.Proofs.YbulkbmlcFmt
