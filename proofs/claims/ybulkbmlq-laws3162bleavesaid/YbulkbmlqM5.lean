/-
  LawS3162BLeave: the law's own walk.
-/
import Derived.Test.YbulkbmlqM4
import Derived.Deep.RegionHeld3
import Derived.Deep.RegionWith
import Derived.Maps.AppendAt
import Derived.Lib.SmallJoins
namespace Go.Proofs.Ybulkbmlq
open Go.RowKit Go.Maps Go.WideMaps
set_option linter.unusedVariables false
set_option linter.unusedSimpArgs false

/-- The members that came in: bytes. -/
def MS (w : World) (ad : Option Addr) (len : Nat) (M : List Tr) : Prop :=
  M.length = len ∧ (∀ j (h : j < M.length), (0 ≤ M[j].c ∧ M[j].c ≤ 255) ∧ (0 ≤ M[j].g ∧ M[j].g ≤ 255) ∧ 0 ≤ M[j].i ∧ M[j].i ≤ 255) ∧ (len = 0 ∨ ∃ b off, ad = some ⟨b, off, none⟩ ∧
    ∀ j (h : j < M.length), w.cell? ⟨b, off + j * 3, none⟩ = some (.int .u8 M[j].c) ∧ w.cell? ⟨b, off + j * 3 + 1, none⟩ = some (.int .u8 M[j].g) ∧ w.cell? ⟨b, off + j * 3 + 2, none⟩ = some (.int .u8 M[j].i))

def trOf (m : Tr) : Tr := ⟨m.c % 3, m.g % 3, m.i % 4⟩
theorem trOf_in (m : Tr) : InR (trOf m) := ⟨by simp only [trOf]; omega, by simp only [trOf]; omega, by simp only [trOf]; omega, by simp only [trOf]; omega, by simp only [trOf]; omega, by simp only [trOf]; omega⟩
def addT (L : List Tr) (t : Tr) : List Tr := if hasT L t = true then L else L ++ [t]
def setTo (M : List Tr) (k : Nat) : List Tr := (M.take k).foldl (fun L m => addT L (trOf m)) []
theorem setTo_succ (M : List Tr) (k : Nat) (h : k < M.length) : setTo M (k + 1) = addT (setTo M k) (trOf M[k]) := by
  unfold setTo
  rw [List.take_succ_eq_append_getElem h, List.foldl_append]; rfl
theorem addT_good {L : List Tr} {t : Tr} (hn : L.Nodup) (hr : ∀ x ∈ L, InR x) (ht : InR t) : (addT L t).Nodup ∧ ∀ x ∈ addT L t, InR x := by
  unfold addT
  split
  · exact ⟨hn, hr⟩
  · rename_i h
    refine ⟨?_, fun x hx => ?_⟩
    · rw [List.nodup_append]
      refine ⟨hn, by simp, fun a ha b hb e => ?_⟩
      simp at hb; subst hb; subst e
      exact h ((hasT_iff _ _).2 ha)
    · rcases List.mem_append.1 hx with hx | hx
      · exact hr x hx
      · simp at hx; subst hx; exact ht
theorem setTo_good (M : List Tr) : ∀ k, (setTo M k).Nodup ∧ (∀ x ∈ setTo M k, InR x) ∧ (setTo M k).length ≤ k
  | 0 => by simp [setTo]
  | k + 1 => by
    obtain ⟨h1, h2, h3⟩ := setTo_good M k
    by_cases h : k < M.length
    · rw [setTo_succ M k h]
      obtain ⟨a, b⟩ := addT_good h1 h2 (trOf_in M[k])
      refine ⟨a, b, ?_⟩
      unfold addT; split
      · omega
      · simp; omega
    · have : setTo M (k + 1) = setTo M k := by
        unfold setTo; rw [List.take_of_length_le (by omega), List.take_of_length_le (by omega)]
      rw [this]; exact ⟨h1, h2, by omega⟩

def rowT (L : List Tr) : List Value := L.flatMap encT
theorem rowT_snoc (L : List Tr) (t : Tr) : rowT (L ++ [t]) = rowT L ++ encT t := by simp [rowT]
theorem rowT_get : ∀ (L : List Tr) (j i : Nat) (h : j < L.length) (hi : i < 3), (rowT L)[j * 3 + i]? = (encT L[j])[i]?
  | [], j, i, h, hi => by cases h
  | x :: L, 0, i, h, hi => by
    show (encT x ++ rowT L)[0 * 3 + i]? = _
    rw [List.getElem?_append_left (by simp [encT]; omega)]; simp
  | x :: L, j + 1, i, h, hi => by
    show (encT x ++ rowT L)[(j + 1) * 3 + i]? = _
    rw [List.getElem?_append_right (by simp [encT]; omega)]
    rw [show (j + 1) * 3 + i - (encT x).length = j * 3 + i by simp [encT]; omega]
    rw [rowT_get L j i (by simpa using h) hi]; rfl
theorem TS_of_own {w : World} {base : Nat} {v : Value} {L : List Tr} (h : w.ownsRow base 27 3 v L.length (rowT L)) : TS w v L := by
  obtain ⟨hl, h⟩ := h
  rcases h with ⟨rfl, hn⟩ | ⟨g, cap, cur, rfl, _, hh, _, _, _, ht⟩
  · exact Or.inl ⟨rfl, List.length_eq_zero_iff.1 hn⟩
  · refine Or.inr ⟨g, cap, rfl, fun j hj => ?_⟩
    have get : ∀ i (hi : i < 3) (u : Value), (encT L[j])[i]? = some u → w.cell? ⟨g, j * 3 + i, none⟩ = some u := by
      intro i hi u hu
      rw [← rowT_get L j i hj hi, ← ht, List.getElem?_take_of_lt (by omega)] at hu
      have e : cur[j * 3 + i]? = some u := by simpa using hu
      simp [World.cell?, hh, e]
    exact ⟨by simpa using get 0 (by omega) _ rfl, get 1 (by omega) _ rfl, get 2 (by omega) _ rfl⟩
theorem TS.ck {w w' : World} {v : Value} {L : List Tr} (h : TS w v L) (hc : CK w w') : TS w' v L := by
  rcases h with h | ⟨g, cap, e, hh⟩
  · exact Or.inl h
  · exact Or.inr ⟨g, cap, e, fun j hj => ⟨hc _ _ (hh j hj).1, hc _ _ (hh j hj).2.1, hc _ _ (hh j hj).2.2⟩⟩
theorem grown3 {a b c d : World} {G nb : Nat} (h1 : Below a.heap.size a b) (h2 : b.grownBy c (some G)) (h3 : c.grownBy d (some nb)) (hn : a.heap.size ≤ nb) : a.grownBy d (some G) :=
  ⟨h3.os.trans (h2.os.trans h1.os), h3.tape.trans (h2.tape.trans h1.tape), h3.output.trans (h2.output.trans h1.output), Nat.le_trans h1.size (Nat.le_trans h2.size h3.size), fun k hk hne =>
    (h3.block k (Nat.lt_of_lt_of_le hk (Nat.le_trans h1.size h2.size)) (fun e => by cases e; omega)).trans ((h2.block k (Nat.lt_of_lt_of_le hk h1.size) hne).trans (h1.block k hk))⟩
theorem grown2 {a b c : World} {r : Option Nat} (h1 : Below a.heap.size a b) (h2 : b.grownBy c r) : a.grownBy c r :=
  ⟨h2.os.trans h1.os, h2.tape.trans h1.tape, h2.output.trans h1.output, Nat.le_trans h1.size h2.size, fun k hk hne => (h2.block k (Nat.lt_of_lt_of_le hk h1.size) hne).trans (h1.block k hk)⟩
theorem run_neT (a b c a' b' c' : Int) (w : World) : (binOp .neq 27 (.agg #[.int .i64 a, .int .i64 b, .int .i64 c]) (.agg #[.int .i64 a', .int .i64 b', .int .i64 c'])).run Yba.prog w = .ok (.bool (!eqT ⟨a, b, c⟩ ⟨a', b', c'⟩)) w := by
  have h := run_eqT a b c a' b' c' w
  rw [run_eql_struct] at h
  rw [run_neq_struct]
  revert h
  generalize (Op.equalIn 10000 27 (.agg #[.int .i64 a, .int .i64 b, .int .i64 c]) (.agg #[.int .i64 a', .int .i64 b', .int .i64 c'])).run Yba.prog w = r
  intro h
  cases r with
  | ok x w1 =>
    simp [Result.andThen] at h ⊢
    obtain ⟨rfl, rfl⟩ := h; exact ⟨rfl, rfl⟩
  | halt x w1 => simp [Result.andThen] at h
theorem leave_snoc_ne {τ t : Tr} {A : List Tr} (h : eqT t τ = false) : leaveL τ (A ++ [t]) = leaveL τ A ++ [t] := by simp [leaveL, h]
theorem leave_snoc_eq {τ t : Tr} {A : List Tr} (h : eqT t τ = true) : leaveL τ (A ++ [t]) = leaveL τ A := by simp [leaveL, h]
theorem Inv.look_ok {kl : Int → Int → Lit} (hkl : ∀ c g, keyOf Yba.prog 58 (keyV c g) = some (kl c g)) {w : World} {G base N : Nat} {L : List Tr} {f : Int → Int → Nat} {n : Nat} {D : DataW Nat} {m : Int → Int → Nat} {S : Int → Int → DataW Unit}
    (h : Inv kl w G base N L f n D m S) (c g : Int) (c0 : 0 ≤ c) (c1 : c < 3) (g0 : 0 ≤ g) (g1 : g < 3) :
    (Instr.lookup 30 (.map (some G)) (.agg #[.string (clS c), .string (grS g)]) true).run Yba.prog w = .ok (.tuple #[if anyG L c g = true then .map (some (f c g)) else .map none, .bool (anyG L c g)]) w := by
  obtain ⟨v, ps, hrun, hv⟩ := h.own.look_ok law58 Yba.underlying30 (zero60 w) (zd := .nil) (zp := []) rfl (hkl c g)
  rw [h.key c g c0 c1 g0 g1] at hv
  rw [h.has c g c0 c1 g0 g1] at hrun
  rw [show (.agg #[.string (clS c), .string (grS g)] : Value) = keyV c g from rfl, hrun]
  cases ha : anyG L c g
  · rw [ha] at hv
    rw [Rg_nil hv]; rfl
  · rw [ha] at hv
    rw [Rg_held hv]; rfl
theorem id_look {w : World} {b n : Nat} {S : DataW Unit} (h : w.ownsMap (H := Unit) Yba.prog 9 unitElem b n S) (i : Int) : (Instr.lookup 60 (.map (some b)) (.string (idS i)) true).run Yba.prog w = .ok (.tuple #[.agg #[], .bool (Maps.has S (ik i))]) w := by
  obtain ⟨v, ps, hrun, hv⟩ := h.look_ok law9 Yba.underlying60 (zero35 w) (zd := .agg []) (zp := []) unitElem_mk (keyOf_id i)
  obtain ⟨rfl, _⟩ := unitElem_inv hv
  exact hrun
theorem id_look_nil (w : World) (i : Int) : (Instr.lookup 60 (.map none) (.string (idS i)) true).run Yba.prog w = .ok (.tuple #[.agg #[], .bool false]) w := by
  have h := Maps.look_nil (w := w) true law9 Yba.underlying60 (zero35 w) (keyOf_id i)
  rw [h]; rfl
def rsum (L : List Tr) (c : Int) : Nat → Nat
  | 0 => 0
  | g + 1 => rsum L c g + b2n (anyG L c (g : Int))
def tsum (L : List Tr) : Nat → Nat
  | 0 => 0
  | c + 1 => tsum L c + rsum L (c : Int) 3
theorem tsum_numG (L : List Tr) : tsum L 3 = numG (anyG L) := by
  simp [tsum, rsum, numG]; omega
theorem b2n_le (b : Bool) : b2n b ≤ 1 := by cases b <;> simp [b2n]
theorem rsum_le (L : List Tr) (c : Int) : ∀ g, rsum L c g ≤ g
  | 0 => Nat.le_refl _
  | g + 1 => by have := rsum_le L c g; have := b2n_le (anyG L c (g : Int)); simp only [rsum]; omega
theorem tsum_le (L : List Tr) : ∀ c, tsum L c ≤ 3 * c
  | 0 => Nat.le_refl _
  | c + 1 => by have := tsum_le L c; have := rsum_le L (c : Int) 3; simp only [tsum]; omega
theorem cnt_none {L : List Tr} {c g : Int} (h : anyG L c g = false) : cntG L c g = 0 := by
  rcases Nat.eq_zero_or_pos (cntG L c g) with e | e
  · exact e
  · rw [(cnt_any L c g).1 e] at h; cases h
theorem has_none {L : List Tr} {c g : Int} (h : anyG L c g = false) (i : Int) : hasT L ⟨c, g, i⟩ = false := by
  cases hq : hasT L ⟨c, g, i⟩
  · rfl
  · have : anyG L c g = true := List.any_eq_true.2 ⟨_, (hasT_iff _ _).1 hq, ofG_self ⟨c, g, i⟩⟩
    rw [h] at this; cases this
theorem cnt_le (L : List Tr) (c g : Int) : cntG L c g ≤ L.length := List.countP_le_length
theorem b2n_ofG_c {c g tc tg ti : Int} (h : (tc == c) = false) : b2n (ofG c g ⟨tc, tg, ti⟩) = 0 := by unfold ofG b2n; dsimp only; rw [h]; rfl
theorem b2n_ofG_g {c g tc tg ti : Int} (h : (tg == g) = false) : b2n (ofG c g ⟨tc, tg, ti⟩) = 0 := by unfold ofG b2n; dsimp only; rw [h, Bool.and_false]; rfl
theorem b2n_ofG_1 {c g tc tg ti : Int} (h : (tc == c) = true) (h' : (tg == g) = true) : b2n (ofG c g ⟨tc, tg, ti⟩) = 1 := by unfold ofG b2n; dsimp only; rw [h, h']; rfl
theorem own_base {w : World} {base size n k : Nat} {e : TypeId} {v : Value} {xs : List Value} (h : w.ownsRow base e size v n xs) (hk : v.ownBlock = some k) : base ≤ k := by
  rcases h.2 with ⟨rfl, _⟩ | ⟨g, cap, cur, rfl, hg, _⟩
  · cases hk
  · cases hk; exact hg
theorem Yba.info27 : (Yba.prog.info? 27).map (fun i => (i.zero, i.size, i.bytes)) = some (some (.agg #[.int .i64 0, .int .i64 0, .int .i64 0]), 3, 24) := by kernel_rfl

set_option maxRecDepth 100000 in
set_option maxHeartbeats 8000000 in
theorem law_walk (kl : Int → Int → Lit) (hkl : ∀ c g, keyOf Yba.prog 58 (keyV c g) = some (kl c g)) (ad : Option Addr) (len cap : Nat) (M : List Tr) (lc lg li role : Int) (w : World) (hM : MS w ad len M) (hl : len ≤ 1024)
    (c0 : 0 ≤ lc) (c1 : lc ≤ 255) (g0 : 0 ≤ lg) (g1 : lg ≤ 255) (i0 : 0 ≤ li) (i1 : li ≤ 255) :
    Calls Yba.prog 3 #[.slice ad len cap, .int .u8 lc, .int .u8 lg, .int .u8 li, .int .i64 role] w fun e w' => e = .returned (.bool true) ∧ Below w.heap.size w w' := by
  obtain ⟨i27, hi, hz0, hz1, hz2⟩ := info_parts Yba.info27
  have HM := hide hM; clear hM
  go_enter Yba.func3, Yba.ntmps3
  go_wp2
  go_loopw [11, 41] (fun v i wr => ∃ k : Nat, k ≤ len ∧ i = .int .i64 k ∧ wr.ownsRow w.heap.size 27 3 v (setTo M k).length (rowT (setTo M k)) ∧ Below w.heap.size w wr) (fun _ i _ => len - (intOf i).toNat)
  case atStart => exact ⟨0, Nat.zero_le _, rfl, World.ownsRow_nil _ _ _ _, Below.refl _ _⟩
  case round =>
    obtain ⟨k, hk, rfl, hown, hb⟩ := hrel
    by_cases hlt : k < len
    · obtain ⟨e1, e2, e3⟩ := HM.out
      rcases e3 with e | ⟨b, off, rfl, hc⟩
      · omega
      have hkM : k < M.length := by omega
      have hcell := hc k hkM
      have hbd := e2 k hkM
      have HS : Hid (setTo M (k + 1) = addT (setTo M k) (trOf M[k])) := setTo_succ M k hkM
      have hgood := setTo_good M k
      obtain ⟨y, hy⟩ : ∃ y, y = M[k] := ⟨_, rfl⟩
      rw [← hy] at hcell hbd HS
      clear hy hc e2 e1
      obtain ⟨mc, mg, mi⟩ := y
      obtain ⟨k1, k2, k3⟩ := hcell
      dsimp only at k1 k2 k3 hbd
      have hbw : b < w.heap.size := lt_of_cell k1
      have k1' := (hb.cell (p := ⟨b, off + k * 3, none⟩) hbw).trans k1
      have k2' := (hb.cell (p := ⟨b, off + k * 3 + 1, none⟩) hbw).trans k2
      have k3' := (hb.cell (p := ⟨b, off + k * 3 + 2, none⟩) hbw).trans k3
      clear k1 k2 k3
      have HLN : Hid ((setTo M k).length ≤ k) := hgood.2.2
      clear hgood
      generalize setTo M k = L at hown HS HLN
      have HO := hide hown; have HB := hide hb
      clear hown hb
      go_wp2_with fail
      refine (contains_any _ L (trOf ⟨mc, mg, mi⟩) _ ((TS_of_own HO.out).below (((Below.refl _ _).alloc (Nat.le_refl _) _).alloc (by simp) _)) (by have := HLN.out; omega)).mono ?_
      rintro e w1 ⟨rfl, hb1⟩
      have hb2 : Below wr.heap.size wr w1 := (((Below.refl _ _).alloc (Nat.le_refl _) _).alloc (by simp) _).trans (hb1.mono (by simp; omega))
      have q1 : w1.cell? ⟨wr.heap.size + 1, 0, none⟩ = some (.int .i64 (mc % 3)) := by rw [hb1.cell (by simp)]; simp [go_sem]
      have q2 : w1.cell? ⟨wr.heap.size + 1, 1, none⟩ = some (.int .i64 (mg % 3)) := by rw [hb1.cell (by simp)]; simp [go_sem]
      have q3 : w1.cell? ⟨wr.heap.size + 1, 2, none⟩ = some (.int .i64 (mi % 4)) := by rw [hb1.cell (by simp)]; simp [go_sem]
      have HB2 := hide hb2
      have HO1 := hide (HO.out.kept (grown_of_below hb2) (by cases u11.ownBlock <;> simp))
      have HBW := hide (HB.out.trans (hb2.mono HB.out.size))
      clear hb1 hb2 k1' k2' k3'
      cases hq : hasT L (trOf ⟨mc, mg, mi⟩)
      · have HE : Hid (setTo M (k + 1) = L ++ [trOf ⟨mc, mg, mi⟩]) := by rw [HS.out, addT, hq]; rfl
        go_wp2_with (at_builtin; refine wpList_append_own _ rfl _ _ 23 rfl w.heap.size 27 i27 (.agg #[.int .i64 0, .int .i64 0, .int .i64 0]) 3 24 Yba.underlying23 hi hz0 hz1 hz2 rfl (by decide) _ _ _ rfl (HO1.out.alloc _) ⟨w1.heap.size, 0, none⟩ 1 1 (encT (trOf ⟨mc, mg, mi⟩)) rfl rfl ?c1 ?c2 ?c3 ?c4 ?c5 ?_)
        case c1 =>
          intro j u hj
          match j, hj with
          | 0, hj => simp [encT, trOf] at hj; subst hj; simp [Addr.add]
          | 1, hj => simp [encT, trOf] at hj; subst hj; simp [Addr.add]
          | 2, hj => simp [encT, trOf] at hj; subst hj; simp [Addr.add]
        case c2 => intro u hu; simp [encT] at hu; rcases hu with rfl | rfl | rfl <;> rfl
        case c3 => have := HLN.out; unfold maxLen; omega
        case c4 => have := HLN.out; omega
        case c5 => have := HB2.out.size; have := HB.out.size; simp; omega
        · intro v' w2 hown' hgrow _
          have HO' := hide hown'
          have HG := hide hgrow
          clear hown' hgrow
          go_wp2
          go_roundw
          case rel => exact ⟨k + 1, by omega, by go_num, by rw [HE.out, List.length_append, rowT_snoc]; exact HO'.out, ((HBW.out.alloc (Nat.le_trans HB.out.size HB2.out.size) _).grown HG.out (by have := HB2.out.size; have := HB.out.size; simp; omega) (fun j hj => own_base HO.out hj))⟩
          case measure => simp [intOf]; omega
      · have HE : Hid (setTo M (k + 1) = L) := by rw [HS.out, addT, hq]; rfl
        go_wp2
        go_roundw
        case rel => exact ⟨k + 1, by omega, by go_num, by rw [HE.out]; exact HO1.out, HBW.out⟩
        case measure => simp [intOf]; omega
    · have HLE : Hid (k = len) := (by omega : k = len)
      obtain ⟨n1, n2, n3⟩ := setTo_good M k
      have hln : (setTo M k).length ≤ 1024 := by omega
      clear HM HLE n3
      generalize setTo M k = L at hown n1 n2 hln
      have HT := hide (TS_of_own hown)
      have HN1 := hide n1; have HN2 := hide n2; have HB := hide hb
      clear hown n1 n2 hb
      obtain ⟨sa, sc, rfl⟩ : ∃ sa sc, u11 = .slice sa L.length sc := by
        rcases HT.out with ⟨e, rfl⟩ | ⟨g, c, e, _⟩
        · exact ⟨none, 0, e⟩
        · exact ⟨_, c, e⟩
      have hmm := @run_makeMap Yba.prog
      have HI0 := hide (Inv.start kl wr w.heap.size HB.out.size)
      obtain ⟨wA, hwA⟩ : ∃ x, x = wr := ⟨_, rfl⟩
      subst hwA
      have hN0 : w.heap.size ≤ wA.heap.size := HB.out.size
      go_wp2
      clear hmm
      go_loopw [72] (fun i wx => ∃ k : Nat, k ≤ L.length ∧ i = .int .i64 k ∧ InvE kl wx wA.heap.size w.heap.size k (L.take k) ∧ TS wx (.slice sa L.length sc) L ∧ wx.cell? ⟨wA.heap.size + 1, 13, none⟩ = some (.map (some wA.heap.size)) ∧ Below w.heap.size w wx ∧ wA.heap.size + 2 ≤ wx.heap.size) (fun i _ => L.length - (intOf i).toNat)
      case atStart =>
        refine ⟨0, Nat.zero_le _, rfl, ?_, HT.out.below (((Below.refl _ _).alloc (Nat.le_refl _) _).alloc (by simp) _), by simp [go_sem], (HB.out.alloc hN0 _).alloc (by simp; omega) _, by simp⟩
        obtain ⟨f, n, D, m, S, h⟩ := HI0.out
        exact ⟨f, n, D, m, S, h.kept (World.grownBy_alloc _ _ _)⟩
      case round =>
        obtain ⟨k', hk', rfl, hInv, hTS, kR, hb, hsz⟩ := hrel
        by_cases hlt2 : k' < L.length
        -- BEGIN2
        · have hnd := HN1.out
          have htk : Hid (L.take (k' + 1) = L.take k' ++ [L[k']]) := List.take_succ_eq_append_getElem hlt2
          have hin : InR L[k'] := HN2.out _ (List.getElem_mem hlt2)
          have hno : Hid (hasT (L.take k') L[k'] = false) := by
            cases hq : hasT (L.take k') L[k']
            · rfl
            · obtain ⟨j, hj, e⟩ := List.mem_iff_getElem.1 ((hasT_iff _ _).1 hq)
              rw [List.getElem_take] at e
              have hj' : j < k' := by simp at hj; omega
              have := (List.getElem_inj hnd).1 e
              omega
          rcases hTS with ⟨e, e'⟩ | ⟨g, c, e, hc⟩
          · rw [e'] at hlt2; cases hlt2
          obtain ⟨rfl, _, rfl⟩ := Value.slice.inj e
          have HTS : Hid (TS wr (.slice (some ⟨g, 0, none⟩) L.length sc) L) := Or.inr ⟨g, sc, rfl, hc⟩
          have hcell := hc k' hlt2
          generalize L[k'] = t at htk hin hno hcell
          obtain ⟨tc, tg, ti⟩ := t
          obtain ⟨k1, k2, k3⟩ := hcell
          dsimp only at k1 k2 k3
          have hgw : g < wr.heap.size := lt_of_cell k1
          have HIN := hide hin; have HINV := hide hInv; have KR := hide kR; have HBX := hide hb
          clear hin hInv kR hb hnd hc e
          go_upto_region 15 with fail
          go_cut [18] (fun s18 wy => ∃ gk : Nat, s18 = .pointer (some ⟨gk, 0, none⟩) ∧ wy.cell? ⟨gk, 0, none⟩ = some (.string (clS tc)) ∧ wy.cell? ⟨gk, 1, none⟩ = some (.string (grS tg)) ∧
            wy.cell? ⟨wr.heap.size, 2, none⟩ = some (.int .i64 ti) ∧ Below wr.heap.size wr wy)
          case first =>
            go_region_held3 (fun w' => w'.cell? ⟨wr.heap.size, 0, none⟩ = some (.int .i64 tc) ∧ w'.cell? ⟨wr.heap.size, 1, none⟩ = some (.int .i64 tg)) (simp [go_sem]) (first | (go_at_call 7; refine (cluster_any _ _).mono ?_; rintro e w' ⟨rfl, rfl⟩) | (go_at_call 8; refine (group_any _ _).mono ?_; rintro e w' ⟨rfl, rfl⟩))
            all_goals
              go_wp2_with fail
              go_meet
              case rel => exact ⟨_, rfl, by simp [go_sem], by simp [go_sem], by simp [go_sem], ((Below.refl _ _).alloc (Nat.le_refl _) _).drew.alloc (by simp) _⟩
          case rest =>
            obtain ⟨gk, rfl, j0, j1, j2, hbc⟩ := hcut
            obtain ⟨f, n, D, m, S, hI⟩ := HINV.out
            have HI := hide (hI.kept (grown_of_below hbc))
            have kR := CK.below hbc _ _ KR.out
            have HTC := hide (HTS.out.below hbc)
            have HBC := hide (HBX.out.trans (hbc.mono HBX.out.size))
            have hszc : wA.heap.size + 2 ≤ wc.heap.size := Nat.le_trans hsz hbc.size
            obtain ⟨r0, r1, r2, r3, r4, r5⟩ := HIN.out
            dsimp only at r0 r1 r2 r3 r4 r5
            clear hI hbc HINV KR HTS HBX hsz k1 k2 k3
            have hnil := fun w r => run_eql_map_nil (P := Yba.prog) w 60 9 35 r Yba.underlying60
            cases ha : anyG (L.take k') tc tg
            · have lk : ∀ q, (Instr.lookup 30 (.map (some wA.heap.size)) (.agg #[.string (clS tc), .string (grS tg)]) false).run Yba.prog (wc.drewN q) = .ok (.map none) (wc.drewN q) := fun q => by
                have := (HI.out.kept (grown_drewN wc q)).look hkl tc tg r0 r1 r2 r3
                rw [ha] at this; exact this
              have HA := hide ha; clear ha
              go_upto_region 16 with fail
              go_quiet (fail)
              clear lk
              have hmm := @run_makeMap Yba.prog
              go_upto_region 19 with fail
              clear hmm
              have hbw : Below wc.heap.size wc ((wc.drewN nq).alloc (.map #[] 0)) := (below_drewN' _ _ _).alloc (Nat.le_refl _) _
              have k0 := CK.below hbw _ _ j0
              have k1 := CK.below hbw _ _ j1
              have k2 := CK.below hbw _ _ j2
              have kR' := CK.below hbw _ _ kR
              have HIW := hide (HI.out.kept (grown_of_below hbw))
              have HS0 : Hid (((wc.drewN nq).alloc (.map #[] 0)).ownsMap (H := Unit) Yba.prog 9 unitElem wc.heap.size 0 (.map [])) := World.ownsMap_made _ _ _ _
              have HBW := hide hbw
              have hne : wc.heap.size ≠ wA.heap.size := by omega
              have HNE := hide hne
              clear hbw j0 j1 j2 kR hne
              generalize (wc.drewN nq).alloc (.map #[] 0) = W at k0 k1 k2 kR' HIW HS0 HBW ⊢
              obtain ⟨w5, hu, hD5, hg5⟩ := (HIW.out.own.drew).update law58 Yba.underlying30 (by have := HIW.out.le; unfold maxLen; omega) (val := .map (some wc.heap.size)) (d := .held wc.heap.size) (ps := []) (hkl tc tg) rfl
              have hu' : (Instr.mapUpdate 30 (.map (some wA.heap.size)) (.agg #[.string (clS tc), .string (grS tg)]) (.map (some wc.heap.size))).run Yba.prog W.drew = .ok () w5 := hu
              have HD5 := hide hD5; have HG5 := hide (grown_undrew hg5)
              clear hu hD5 hg5
              have KRW := hide kR'
              go_region
              clear hu' k0 k1 kR'
              have ck5 := CK.owned HIW.out.own HG5.out
              have k2' := ck5 _ _ k2
              have CK5 := hide ck5
              have HS5 := hide (HS0.out.kept HG5.out (fun e => HNE.out (Option.some.inj e)))
              clear ck5 k2
              go_wp2_with (first | (go_at_call 9; refine (id_any _ _).mono ?_; rintro e wz ⟨rfl, hw'⟩; subst hw') | (at_mapUpdate; refine wpList_mapUpdate_own (H := Unit) _ rfl _ _ _ 60 rfl 9 35 law9 Yba.underlying60 unitElem wc.heap.size 0 (.map []) rfl HS5.out (by decide) (.string (idS ti)) (.agg #[]) _ rfl rfl (keyOf_id ti) (.agg []) [] unitElem_mk ?_; intro w6 hown6 hg6))
              have HO6 := hide hown6; have HG6 := hide hg6
              clear hown6 hg6 k2'
              go_roundw
              case rel =>
                have ck6 : CK wz w6 := CK.owned HS5.out HG6.out
                have hwc : w.heap.size ≤ wc.heap.size := HBC.out.size
                refine ⟨k' + 1, by omega, by go_num, ?_, HTC.out.ck ((CK.below HBW.out).trans (CK5.out.trans ck6)), ck6 _ _ (CK5.out _ _ KRW.out), ?_, ?_⟩
                · rw [htk.out]
                  exact ⟨_, _, _, _, _, HI.out.add_new hkl ⟨tc, tg, ti⟩ HIN.out HA.out wc.heap.size (Nat.le_refl _) hwc (HD5.out.kept HG6.out (fun e => HNE.out (Option.some.inj e).symm)) HO6.out (grown3 HBW.out HG5.out HG6.out (Nat.le_refl _))⟩
                · exact ((HBC.out.trans (HBW.out.mono hwc)).grown HG5.out (Nat.le_trans hwc HBW.out.size) (fun j hj => by cases hj; exact HI.out.gb)).grown HG6.out (Nat.le_trans hwc (Nat.le_trans HBW.out.size HG5.out.size)) (fun j hj => by cases hj; exact hwc)
                · have := HBW.out.size; have := HG5.out.size; have := HG6.out.size; omega
              case measure => simp [intOf]; omega
            · have lk : ∀ q, (Instr.lookup 30 (.map (some wA.heap.size)) (.agg #[.string (clS tc), .string (grS tg)]) false).run Yba.prog (wc.drewN q) = .ok (.map (some (f tc tg))) (wc.drewN q) := fun q => by
                have := (HI.out.kept (grown_drewN wc q)).look hkl tc tg r0 r1 r2 r3
                rw [ha] at this; exact this
              have HA := hide ha; clear ha
              go_upto_region 16 with fail
              go_quiet (fail)
              clear lk
              obtain ⟨x1, x2, x3, x4, x5, x6⟩ := HI.out.ids tc tg r0 r1 r2 r3 HA.out
              have hbw : Below wc.heap.size wc (wc.drewN nq) := below_drewN' _ _ _
              have X2 := hide x2; have X3 := hide x3
              have XW := hide (x3.kept (grown_of_below hbw) (by simp))
              have hmN : m tc tg < maxLen := by unfold maxLen; omega
              have k2 := CK.below hbw _ _ j2
              have KRW := hide (CK.below hbw _ _ kR)
              have HBW := hide hbw
              clear x1 x2 x3 x4 x5 x6 hbw j0 j1 j2 kR
              generalize wc.drewN nq = W at k2 XW KRW HBW ⊢
              go_wp2_with (first | (go_at_call 9; refine (id_any _ _).mono ?_; rintro e wz ⟨rfl, hw'⟩; subst hw') | (at_mapUpdate; refine wpList_mapUpdate_own (H := Unit) _ rfl _ _ _ 60 rfl 9 35 law9 Yba.underlying60 unitElem (f tc tg) (m tc tg) (S tc tg) rfl XW.out hmN (.string (idS ti)) (.agg #[]) _ rfl rfl (keyOf_id ti) (.agg []) [] unitElem_mk ?_; intro w6 hown6 hg6))
              have HO6 := hide hown6; have HG6 := hide hg6
              clear hown6 hg6 k2
              go_roundw
              case rel =>
                have ck6 : CK wz w6 := CK.owned XW.out HG6.out
                have hwc : w.heap.size ≤ wc.heap.size := HBC.out.size
                refine ⟨k' + 1, by omega, by go_num, ?_, HTC.out.ck ((CK.below HBW.out).trans ck6), ck6 _ _ KRW.out, ?_, ?_⟩
                · rw [htk.out]
                  exact ⟨_, _, _, _, _, HI.out.add_old ⟨tc, tg, ti⟩ HIN.out hno.out HA.out HO6.out (grown2 HBW.out HG6.out)⟩
                · have hx2 := X2.out
                  exact (HBC.out.trans (HBW.out.mono hwc)).grown HG6.out (Nat.le_trans hwc HBW.out.size) (fun j hj => by cases hj; exact hx2)
                · have := HBW.out.size; have := HG6.out.size; omega
              case measure => simp [intOf]; omega
        -- END2
        · have htk : L.take k' = L := List.take_of_length_le (by omega)
          rw [htk] at hInv
          have hN' : k' ≤ 1024 := by omega
          have HLV : Hid (∀ X, Below wr.heap.size wr X → Calls Yba.prog 10 #[.pointer (some ⟨wA.heap.size + 1, 0, none⟩), .string (idS (li % 4)), .agg #[.string ⟨#[104, 58, 49]⟩, .string (clS (lc % 3)), .string (grS (lg % 3)), .int .i64 role, .map none]] X
              fun e w' => e = .returned (.tuple #[]) ∧ InvE kl w' wA.heap.size w.heap.size k' (leaveL (trOf ⟨lc, lg, li⟩) L) ∧ CK X w' ∧ Below w.heap.size X w') := by
            intro X hX
            refine leave_any kl hkl (wA.heap.size + 1) wA.heap.size w.heap.size k' L (trOf ⟨lc, lg, li⟩) ⟨#[104, 58, 49]⟩ role X ?_ (trOf_in _) HN1.out (CK.below hX _ _ kR) (Nat.le_trans hb.size hX.size) (by omega)
            obtain ⟨f, n, D, m, S, h⟩ := hInv
            exact ⟨f, n, D, m, S, h.kept (grown_of_below hX)⟩
          have HTS := hide hTS; have KR := hide kR; have HBX := hide hb
          clear hInv hTS kR hb
          go_upto_region 23 with fail
          clear hk' hlt2
          go_cut [126] (fun s126 wy => InvE kl wy wA.heap.size w.heap.size k' (leaveL (trOf ⟨lc, lg, li⟩) L) ∧ CK wr wy ∧ wy.cell? ⟨wr.heap.size, 0, none⟩ = some (.int .i64 (lc % 3)) ∧ wy.cell? ⟨wr.heap.size, 1, none⟩ = some (.int .i64 (lg % 3)) ∧ wy.cell? ⟨wr.heap.size, 2, none⟩ = some (.int .i64 (li % 4)) ∧ Below w.heap.size w wy)
          case first =>
            go_region_held3 (fun w' => w'.cell? ⟨wr.heap.size, 0, none⟩ = some (.int .i64 (lc % 3)) ∧ w'.cell? ⟨wr.heap.size, 1, none⟩ = some (.int .i64 (lg % 3)) ∧ w'.cell? ⟨wr.heap.size, 2, none⟩ = some (.int .i64 (li % 4))) (first | (simp [go_sem]; done) | (exact ⟨by assumption, by assumption, by assumption⟩)) (first | (go_at_call 7; refine (cluster_any _ _).mono ?_; rintro e w' ⟨rfl, rfl⟩) | (go_at_call 8; refine (group_any _ _).mono ?_; rintro e w' ⟨rfl, rfl⟩) | (go_at_call 9; refine (id_any _ _).mono ?_; rintro e w' ⟨rfl, rfl⟩) | (go_at_call 10; refine (HLV.out _ ?_).mono ?_; exact ((Below.refl _ _).alloc (Nat.le_refl _) _).drew; rintro e w' ⟨rfl, hy1, hy2, hy3⟩; have z0 : w'.cell? ⟨wr.heap.size, 0, none⟩ = some (.int .i64 (lc % 3)) := hy2 _ _ (by simp [go_sem]); have z1 : w'.cell? ⟨wr.heap.size, 1, none⟩ = some (.int .i64 (lg % 3)) := hy2 _ _ (by simp [go_sem]); have z2 : w'.cell? ⟨wr.heap.size, 2, none⟩ = some (.int .i64 (li % 4)) := hy2 _ _ (by simp [go_sem])))
            go_wp2_with fail
            go_meet
            case rel => exact ⟨hy1, (CK.below (((Below.refl _ _).alloc (Nat.le_refl _) _).drew)).trans hy2, z0, z1, z2, ((HBX.out.alloc HBX.out.size _).drew).trans hy3⟩
          case rest =>
            obtain ⟨hI, hCK, t0, t1, t2, hbb⟩ := hcut
            obtain ⟨wB, hwB⟩ : ∃ x, x = wr := ⟨_, rfl⟩
            subst hwB
            obtain ⟨wy, hwy⟩ : ∃ x, x = wc := ⟨_, rfl⟩
            subst hwy
            have HTY := hide (HTS.out.ck hCK)
            have KRY := hide (hCK _ _ KR.out)
            have HIY := hide hI; have HBY := hide hbb
            have BT : Hid (wB.heap.size < wy.heap.size) := lt_of_cell t0
            clear hI hCK hbb HTS KR HLV
            have hne := run_neT
            go_wp2
            go_loopw [21, 129] (fun v i wx => ∃ k2 : Nat, k2 ≤ L.length ∧ i = .int .i64 k2 ∧ wx.ownsRow wy.heap.size 27 3 v (leaveL (trOf ⟨lc, lg, li⟩) (L.take k2)).length (rowT (leaveL (trOf ⟨lc, lg, li⟩) (L.take k2))) ∧ Below wy.heap.size wy wx) (fun _ i _ => L.length - (intOf i).toNat)
            case atStart => exact ⟨0, Nat.zero_le _, rfl, World.ownsRow_nil _ _ _ _, Below.refl _ _⟩
            case round =>
              obtain ⟨k2, hk2, rfl, hown, hb⟩ := hrel
              by_cases hlt3 : k2 < L.length
              -- BEGIN3
              · have htk2 : Hid (L.take (k2 + 1) = L.take k2 ++ [L[k2]]) := List.take_succ_eq_append_getElem hlt3
                rcases HTY.out.below hb with ⟨e, e'⟩ | ⟨g, c, e, hc⟩
                · rw [e'] at hlt3; cases hlt3
                obtain ⟨rfl, _, rfl⟩ := Value.slice.inj e
                have hcell := hc k2 hlt3
                have hlen : (leaveL (trOf ⟨lc, lg, li⟩) (L.take k2)).length ≤ k2 := by
                  have h1 := List.length_filter_le (fun t => !eqT t (trOf ⟨lc, lg, li⟩)) (L.take k2)
                  have h2 := List.length_take_le k2 L
                  unfold leaveL; omega
                generalize L[k2] = t at htk2 hcell
                obtain ⟨tc, tg, ti⟩ := t
                obtain ⟨k1, k2', k3⟩ := hcell
                dsimp only at k1 k2' k3
                have u0 := CK.below hb _ _ t0
                have u1 := CK.below hb _ _ t1
                have u2 := CK.below hb _ _ t2
                have HLN := hide hlen
                have HO := hide hown; have HB3 := hide hb
                have hbt : wB.heap.size < wr.heap.size := Nat.lt_of_lt_of_le BT.out hb.size
                clear hown hb hc e hlen t0 t1 t2
                cases hq : eqT ⟨tc, tg, ti⟩ ⟨lc % 3, lg % 3, li % 4⟩
                · have HE : Hid (leaveL (trOf ⟨lc, lg, li⟩) (L.take (k2 + 1)) = leaveL (trOf ⟨lc, lg, li⟩) (L.take k2) ++ [⟨tc, tg, ti⟩]) := by
                    rw [htk2.out]; exact leave_snoc_ne (τ := trOf ⟨lc, lg, li⟩) hq
                  go_wp2_with (at_builtin; refine wpList_append_own _ rfl _ _ 23 rfl wy.heap.size 27 i27 (.agg #[.int .i64 0, .int .i64 0, .int .i64 0]) 3 24 Yba.underlying23 hi hz0 hz1 hz2 rfl (by decide) _ _ _ rfl ((HO.out.alloc _).alloc _) ⟨wr.heap.size + 1, 0, none⟩ 1 1 (encT ⟨tc, tg, ti⟩) rfl rfl ?d1 ?d2 ?d3 ?d4 ?d5 ?_)
                  case d1 =>
                    intro j u hj
                    match j, hj with
                    | 0, hj => simp [encT] at hj; subst hj; simp [Addr.add, go_sem]
                    | 1, hj => simp [encT] at hj; subst hj; simp [Addr.add, go_sem]
                    | 2, hj => simp [encT] at hj; subst hj; simp [Addr.add, go_sem]
                  case d2 => intro u hu; simp [encT] at hu; rcases hu with rfl | rfl | rfl <;> rfl
                  case d3 => have := HLN.out; unfold maxLen; omega
                  case d4 => have := HLN.out; omega
                  case d5 => have := HB3.out.size; simp; omega
                  · intro v' w2 hown' hgrow _
                    have HO' := hide hown'
                    have HG := hide hgrow
                    clear hown' hgrow
                    go_wp2
                    go_roundw
                    case rel => exact ⟨k2 + 1, by omega, by go_num, by rw [HE.out, List.length_append, rowT_snoc]; exact HO'.out, (((HB3.out.alloc HB3.out.size _).alloc (by have := HB3.out.size; simp; omega) _).grown HG.out (by have := HB3.out.size; simp; omega) (fun j hj => own_base HO.out hj))⟩
                    case measure => simp [intOf]; omega
                · have HE : Hid (leaveL (trOf ⟨lc, lg, li⟩) (L.take (k2 + 1)) = leaveL (trOf ⟨lc, lg, li⟩) (L.take k2)) := by
                    rw [htk2.out]; exact leave_snoc_eq (τ := trOf ⟨lc, lg, li⟩) hq
                  go_wp2
                  go_roundw
                  case rel => exact ⟨k2 + 1, by omega, by go_num, by rw [HE.out]; exact HO.out.alloc _, HB3.out.alloc HB3.out.size _⟩
                  case measure => simp [intOf]; omega
              -- END3
              · have htk2 : L.take k2 = L := List.take_of_length_le (by omega)
                rw [htk2] at hown
                have hLL : (leaveL (trOf ⟨lc, lg, li⟩) L).length ≤ 1024 := by
                  have h1 := List.length_filter_le (fun t => !eqT t (trOf ⟨lc, lg, li⟩)) L
                  unfold leaveL; omega
                have hIZ : InvE kl wr wA.heap.size w.heap.size k' (leaveL (trOf ⟨lc, lg, li⟩) L) := by
                  obtain ⟨f, n, D, m, S, h⟩ := HIY.out
                  exact ⟨f, n, D, m, S, h.kept (grown_of_below hb)⟩
                generalize leaveL (trOf ⟨lc, lg, li⟩) L = LL at hown hLL hIZ
                have HTZ := hide (TS_of_own hown)
                have KRZ := hide (CK.below hb _ _ KRY.out)
                have HBZ := hide (HBY.out.trans (hb.mono HBY.out.size))
                obtain ⟨f, n, D, m, S, hI⟩ := hIZ
                have HIZ := hide hI
                obtain ⟨la, lcap, rfl⟩ : ∃ la lcap, u21 = .slice la LL.length lcap := by
                  rcases HTZ.out with ⟨e, rfl⟩ | ⟨g, c, e, _⟩
                  · exact ⟨none, 0, e⟩
                  · exact ⟨_, c, e⟩
                obtain ⟨wZ, hwZ⟩ : ∃ x, x = wr := ⟨_, rfl⟩
                subst hwZ
                clear hown hb hI t0 t1 t2 hne htk HIY HBY KRY HTY
                go_wp2
                go_loopw [24, 25] (fun gl ci wx => ∃ c : Nat, c ≤ 3 ∧ ci = .int .i64 c ∧ gl = .int .i64 (tsum LL c) ∧ Below wZ.heap.size wZ wx) (fun _ ci _ => 3 - (intOf ci).toNat)
                case atStart => exact ⟨0, by omega, rfl, rfl, Below.refl _ _⟩
                case round =>
                  obtain ⟨c, hc3, rfl, rfl, hb4⟩ := hrel
                  have htl := tsum_le LL c
                  by_cases hlc : c < 3
                  · obtain ⟨w4, hw4⟩ : ∃ x, x = wr := ⟨_, rfl⟩
                    subst hw4
                    have HB4 := hide hb4; clear hb4
                    go_wp2
                    rw [show decide ((c : Int) < 3) = true from decide_eq_true (by omega)]
                    go_loopw [24, 26] (fun gl gi wx => ∃ g : Nat, g ≤ 3 ∧ gi = .int .i64 g ∧ gl = .int .i64 ((tsum LL c + rsum LL (c : Int) g : Nat) : Int) ∧ Below wZ.heap.size wZ wx) (fun _ gi _ => 3 - (intOf gi).toNat)
                    case atStart => exact ⟨0, by omega, rfl, rfl, HB4.out⟩
                    case round =>
                      obtain ⟨g, hg3, rfl, rfl, hb5⟩ := hrel
                      have hrl := rsum_le LL (c : Int) g
                      by_cases hlg : g < 3
                      -- BEGIN5
                      · obtain ⟨w5, hw5⟩ : ∃ x, x = wr := ⟨_, rfl⟩
                        subst hw5
                        have HB5 := hide hb5; clear hb5
                        go_wp2
                        rw [show decide ((g : Int) < 3) = true from decide_eq_true (by omega)]
                        go_loopw [27, 151] (fun nn j wx => ∃ q : Nat, q ≤ LL.length ∧ j = .int .i64 q ∧ nn = .int .i64 (cntG (LL.take q) (c : Int) (g : Int)) ∧ Below wZ.heap.size wZ wx) (fun _ j _ => LL.length - (intOf j).toNat)
                        case atStart => exact ⟨0, by omega, rfl, rfl, HB5.out⟩
                        case round =>
                          obtain ⟨q, hq, rfl, rfl, hb6⟩ := hrel
                          have hcl : cntG (LL.take q) (c : Int) (g : Int) ≤ 1024 := by
                            have h1 := cnt_le (LL.take q) (c : Int) (g : Int)
                            have h2 := List.length_take_le' q LL
                            omega
                          by_cases hlq : q < LL.length
                          -- BEGIN6
                          · have hct : Hid (cntG (LL.take (q + 1)) (c : Int) (g : Int) = cntG (LL.take q) (c : Int) (g : Int) + b2n (ofG (c : Int) (g : Int) LL[q])) := by
                              rw [List.take_succ_eq_append_getElem hlq]; exact cntG_snoc _ _ _ _
                            rcases HTZ.out.below hb6 with ⟨e, e'⟩ | ⟨gg, cc, e, hcc⟩
                            · rw [e'] at hlq; cases hlq
                            obtain ⟨rfl, _, rfl⟩ := Value.slice.inj e
                            have hcell := hcc q hlq
                            generalize LL[q] = t at hct hcell
                            obtain ⟨tc, tg, ti⟩ := t
                            obtain ⟨k1, k2', k3⟩ := hcell
                            dsimp only at k1 k2' k3
                            have HB6 := hide hb6
                            clear hb6 hcc e
                            generalize cntG (LL.take q) (c : Int) (g : Int) = cn at hct hcl
                            cases p1 : (tc == (c : Int))
                            · have HCT : Hid (cntG (LL.take (q + 1)) (c : Int) (g : Int) = cn) := hct.out.trans (by rw [b2n_ofG_c p1, Nat.add_zero])
                              go_wp2
                              go_roundw
                              case rel => exact ⟨q + 1, by omega, by go_num, by rw [HCT.out], HB6.out.alloc HB6.out.size _⟩
                              case measure => simp [intOf]; omega
                            · cases p2 : (tg == (g : Int))
                              · have HCT : Hid (cntG (LL.take (q + 1)) (c : Int) (g : Int) = cn) := hct.out.trans (by rw [b2n_ofG_g p2, Nat.add_zero])
                                go_wp2
                                go_roundw
                                case rel => exact ⟨q + 1, by omega, by go_num, by rw [HCT.out], HB6.out.alloc HB6.out.size _⟩
                                case measure => simp [intOf]; omega
                              · have HCT : Hid (cntG (LL.take (q + 1)) (c : Int) (g : Int) = cn + 1) := hct.out.trans (by rw [b2n_ofG_1 p1 p2])
                                go_wp2
                                go_roundw
                                case rel => exact ⟨q + 1, by omega, by go_num, by rw [HCT.out]; go_num, HB6.out.alloc HB6.out.size _⟩
                                case measure => simp [intOf]; omega
                          -- END6
                          · have htq : LL.take q = LL := List.take_of_length_le (by omega)
                            rw [htq]
                            rw [htq] at hcl
                            obtain ⟨w6, hw6⟩ : ∃ x, x = wr := ⟨_, rfl⟩
                            subst hw6
                            have HB6 := hide hb6
                            have HI6 := hide (HIZ.out.kept (grown_of_below hb6))
                            have kR := CK.below hb6 _ _ KRZ.out
                            clear hb6
                            obtain ⟨tt, htt⟩ : ∃ t : Int, t = ((tsum LL c + rsum LL (c : Int) g : Nat) : Int) := ⟨_, rfl⟩
                            rw [← htt]
                            have htt0 : 0 ≤ tt ∧ tt ≤ 100 := by omega
                            have HTT := hide htt
                            clear htt
                            cases ha : anyG LL (c : Int) (g : Int)
                            -- BEGINN
                            · have lk : ∀ q, (Instr.lookup 30 (.map (some wA.heap.size)) (.agg #[.string (clS (c : Int)), .string (grS (g : Int))]) true).run Yba.prog (w6.drewN q) = .ok (.tuple #[.map none, .bool false]) (w6.drewN q) := fun q => by
                                have := (HI6.out.kept (grown_drewN w6 q)).look_ok hkl (c : Int) (g : Int) (by omega) (by omega) (by omega) (by omega)
                                rw [ha] at this; exact this
                              have HA := hide ha
                              clear ha
                              go_upto_region 45 with fail
                              go_quiet (first | (go_at_call 7; exact Calls.quiet_of_same (cluster_any _ _)) | (go_at_call 8; exact Calls.quiet_of_same (group_any _ _)))
                              clear lk kR
                              have HB7 : Hid (Below wZ.heap.size wZ (w6.drewN nq)) := HB6.out.trans (below_drewN' _ _ _)
                              generalize w6.drewN nq = w7 at HB7 ⊢
                              have hln := fun ty => Maps.len_nil (P := Yba.prog) (w := w7) Yba.underlying60 ty
                              have hz0' : cntG LL (c : Int) (g : Int) = 0 := cnt_none HA.out
                              rw [show ((cntG LL (c : Int) (g : Int) : Nat) : Int) = 0 by rw [hz0']; rfl]
                              have HCN : Hid (rsum LL (c : Int) (g + 1) = rsum LL (c : Int) g) := by
                                show rsum LL (c : Int) g + b2n (anyG LL (c : Int) (g : Int)) = _
                                rw [HA.out]; rfl
                              have HLK : Hid (∀ W, Below wZ.heap.size wZ W → ∀ i : Nat, i < 4 → (Instr.lookup 60 (.map none) (.string (idS (i : Int))) true).run Yba.prog W = .ok (.tuple #[.agg #[], .bool (hasT LL ⟨(c : Int), (g : Int), (i : Int)⟩)]) W) := by
                                intro W hW i hi4
                                rw [has_none HA.out]; exact id_look_nil W (i : Int)
                              clear hz0' hcl
                              go_wp2
                              clear hln
                              go_loopw [32] (fun ii wx => ∃ i : Nat, i ≤ 4 ∧ ii = .int .i64 i ∧ Below wZ.heap.size wZ wx) (fun ii _ => 4 - (intOf ii).toNat)
                              case atStart => exact ⟨0, by omega, rfl, HB7.out⟩
                              case round =>
                                obtain ⟨i, hi4, rfl, hb8⟩ := hrel
                                by_cases hli : i < 4
                                · have HB8 := hide hb8; clear hb8
                                  go_wp2_with fail
                                  refine (contains_any _ LL ⟨(c : Int), (g : Int), (i : Int)⟩ _ (HTZ.out.below HB8.out) (by omega)).mono ?_
                                  rintro e w9 ⟨rfl, hb9⟩
                                  have HB9 := hide (HB8.out.trans (hb9.mono HB8.out.size))
                                  have hlk := HLK.out w9 HB9.out i hli
                                  clear hb9
                                  generalize hasT LL ⟨(c : Int), (g : Int), (i : Int)⟩ = hbb at hlk ⊢
                                  cases hbb
                                  all_goals
                                    go_wp2_with (go_at_call 9; refine (id_any _ _).mono ?_; rintro e wz ⟨rfl, hw'⟩; subst hw')
                                    go_roundw
                                    case rel => first | exact ⟨i + 1, by omega, by go_num, HB9.out.alloc HB9.out.size _⟩ | ((repeat apply Exists.intro); refine ⟨?_, rfl⟩; exact ⟨i + 1, by omega, by go_num, HB9.out.alloc HB9.out.size _⟩)
                                    case measure => simp [intOf]; omega
                                · have HB8 := hide hb8; clear hb8
                                  go_wp2
                                  go_roundw
                                  case rel => first | exact ⟨g + 1, by omega, by go_num, by rw [HCN.out, HTT.out] <;> go_num, HB8.out⟩ | ((repeat apply Exists.intro); refine ⟨?_, rfl⟩; exact ⟨g + 1, by omega, by go_num, by rw [HCN.out, HTT.out] <;> go_num, HB8.out⟩)
                                  case measure => simp [intOf]; omega
                            -- ENDN
                            · have lk : ∀ q, (Instr.lookup 30 (.map (some wA.heap.size)) (.agg #[.string (clS (c : Int)), .string (grS (g : Int))]) true).run Yba.prog (w6.drewN q) = .ok (.tuple #[.map (some (f (c : Int) (g : Int))), .bool true]) (w6.drewN q) := fun q => by
                                have := (HI6.out.kept (grown_drewN w6 q)).look_ok hkl (c : Int) (g : Int) (by omega) (by omega) (by omega) (by omega)
                                rw [ha] at this; exact this
                              obtain ⟨x1, x2, x3, x4, x5, x6⟩ := HIZ.out.ids (c : Int) (g : Int) (by omega) (by omega) (by omega) (by omega) ha
                              have X3 := hide x3; have X5 := hide x5; have X6 := hide x6
                              have hpos : 0 < cntG LL (c : Int) (g : Int) := (cnt_any _ _ _).2 ha
                              have HA := hide ha
                              clear x1 x2 x3 x4 x5 x6 ha
                              go_upto_region 45 with fail
                              go_quiet (first | (go_at_call 7; exact Calls.quiet_of_same (cluster_any _ _)) | (go_at_call 8; exact Calls.quiet_of_same (group_any _ _)))
                              clear lk kR
                              have HB7 : Hid (Below wZ.heap.size wZ (w6.drewN nq)) := HB6.out.trans (below_drewN' _ _ _)
                              generalize w6.drewN nq = w7 at HB7 ⊢
                              have hln : ∀ ty, (Builtin.len_ #[60] ty #[.map (some (f (c : Int) (g : Int)))]).run Yba.prog w7 = .ok (.int .i64 (cntG LL (c : Int) (g : Int))) w7 := fun ty => by
                                have := (X3.out.kept (grown_of_below HB7.out) (by simp)).len Yba.underlying60 ty
                                rw [X5.out] at this; exact this
                              have hposI : (0 : Int) < (cntG LL (c : Int) (g : Int) : Int) := by omega
                              have HCN : Hid (rsum LL (c : Int) (g + 1) = rsum LL (c : Int) g + 1) := by
                                show rsum LL (c : Int) g + b2n (anyG LL (c : Int) (g : Int)) = _
                                rw [HA.out]; rfl
                              have HLK : Hid (∀ W, Below wZ.heap.size wZ W → ∀ i : Nat, i < 4 → (Instr.lookup 60 (.map (some (f (c : Int) (g : Int)))) (.string (idS (i : Int))) true).run Yba.prog W = .ok (.tuple #[.agg #[], .bool (hasT LL ⟨(c : Int), (g : Int), (i : Int)⟩)]) W) := by
                                intro W hW i hi4
                                have := id_look (X3.out.kept (grown_of_below hW) (by simp)) (i : Int)
                                rw [X6.out (i : Int) (by omega) (by omega)] at this; exact this
                              go_wp2
                              clear hln
                              go_loopw [32] (fun ii wx => ∃ i : Nat, i ≤ 4 ∧ ii = .int .i64 i ∧ Below wZ.heap.size wZ wx) (fun ii _ => 4 - (intOf ii).toNat)
                              case atStart => exact ⟨0, by omega, rfl, HB7.out⟩
                              case round =>
                                obtain ⟨i, hi4, rfl, hb8⟩ := hrel
                                by_cases hli : i < 4
                                · have HB8 := hide hb8; clear hb8
                                  go_wp2_with fail
                                  refine (contains_any _ LL ⟨(c : Int), (g : Int), (i : Int)⟩ _ (HTZ.out.below HB8.out) (by omega)).mono ?_
                                  rintro e w9 ⟨rfl, hb9⟩
                                  have HB9 := hide (HB8.out.trans (hb9.mono HB8.out.size))
                                  have hlk := HLK.out w9 HB9.out i hli
                                  clear hb9
                                  generalize hasT LL ⟨(c : Int), (g : Int), (i : Int)⟩ = hbb at hlk ⊢
                                  cases hbb
                                  all_goals
                                    go_wp2_with (go_at_call 9; refine (id_any _ _).mono ?_; rintro e wz ⟨rfl, hw'⟩; subst hw')
                                    go_roundw
                                    case rel => first | exact ⟨i + 1, by omega, by go_num, HB9.out.alloc HB9.out.size _⟩ | ((repeat apply Exists.intro); refine ⟨?_, rfl⟩; exact ⟨i + 1, by omega, by go_num, HB9.out.alloc HB9.out.size _⟩)
                                    case measure => simp [intOf]; omega
                                · have HB8 := hide hb8; clear hb8
                                  go_wp2
                                  go_roundw
                                  case rel => first | exact ⟨g + 1, by omega, by go_num, by rw [HCN.out, HTT.out] <;> go_num, HB8.out⟩ | ((repeat apply Exists.intro); refine ⟨?_, rfl⟩; exact ⟨g + 1, by omega, by go_num, by rw [HCN.out, HTT.out] <;> go_num, HB8.out⟩)
                                  case measure => simp [intOf]; omega
                      -- END5
                      · have HB5 := hide hb5; clear hb5
                        have HG : Hid (g = 3) := (by omega : g = 3)
                        go_wp2
                        go_roundw
                        case rel => exact ⟨c + 1, by omega, by go_num, by rw [HG.out]; rfl, HB5.out⟩
                        case measure => simp [intOf]; omega
                  · have HC : c = 3 := by omega
                    have kR := CK.below hb4 _ _ KRZ.out
                    have hIr := HIZ.out.kept (grown_of_below hb4)
                    have hlen := fun ty => hIr.own.len Yba.underlying30 ty
                    have hszz : ((Maps.size D : Int) == (tsum LL c : Int)) = true := by
                      rw [HC, tsum_numG, HIZ.out.size]; simp
                    have HBF := hide (HBZ.out.trans (hb4.mono HBZ.out.size))
                    clear hIr hb4 HC
                    go_wp2
                    go_ret
                    exact ⟨rfl, HBF.out⟩
end Go.Proofs.Ybulkbmlq
