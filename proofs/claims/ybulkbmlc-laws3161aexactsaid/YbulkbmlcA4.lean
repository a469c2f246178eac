/-
  LawS3161AExact: the law's own walk.
-/
import Derived.Test.YbulkbmlcA3
import Derived.Deep.DeepCutAuto
import Derived.Deep.QuietTactic
import Derived.BigQuiet
import Derived.Lib.SmallJoins
namespace Go.Proofs.Ybulkbmlc
open Go.RowKit
set_option linter.unusedVariables false

theorem hmk (w : World) : (Instr.makeSlice 25 (.int .i64 0) (.int .i64 20)).run Yba.prog w = .ok (.slice (some ⟨w.heap.size, 0, none⟩) 0 20) (w.alloc (.cells #[.int .u8 0, .int .u8 0, .int .u8 0, .int .u8 0, .int .u8 0, .int .u8 0, .int .u8 0, .int .u8 0, .int .u8 0, .int .u8 0, .int .u8 0, .int .u8 0, .int .u8 0, .int .u8 0, .int .u8 0, .int .u8 0, .int .u8 0, .int .u8 0, .int .u8 0, .int .u8 0] 5)) := by kernel_rfl

/-- The text so far: block B, the call's own, holds xs. -/
def Txt (w0 : World) (B : Nat) (xs : List Int) (n : Nat) (wr : World) : Prop :=
  xs.length = n ∧ wr.ownsRow B 5 1 (.slice (some ⟨B, 0, none⟩) n 20) n (xs.map (Value.int .u8)) ∧ Below B w0 wr ∧ B < wr.heap.size ∧ B = w0.heap.size

theorem Txt.start (wc : World) (C : Array Value) (h : C.size = 20) : Txt wc wc.heap.size [] 0 (wc.alloc (.cells C 5)) :=
  ⟨rfl, ⟨rfl, Or.inr ⟨_, _, C, rfl, Nat.le_refl _, by show (wc.heap.push _)[_]? = _; simp, by omega, by decide, by omega, by simp⟩⟩, (Below.refl _ _).alloc (Nat.le_refl _) _, by simp, rfl⟩

theorem Txt.cells {w0 : World} {B : Nat} {xs : List Int} {n : Nat} {wr : World} (h : Txt w0 B xs n wr) : ∀ i u, xs[i]? = some u → wr.cell? ⟨B, i, none⟩ = some (.int .u8 u) := by
  intro i u hu
  obtain ⟨h1, ⟨_, h2⟩, _⟩ := h
  rcases h2 with ⟨h2, _⟩ | ⟨g, cap, cur, hv, _, hh, _, _, _, ht⟩
  · cases h2
  · simp at hv
    obtain ⟨rfl, rfl⟩ := hv
    have hi : i < xs.length := by
      rcases Nat.lt_or_ge i xs.length with h | h
      · exact h
      · rw [List.getElem?_eq_none h] at hu; cases hu
    have e : cur[i]? = some (.int .u8 u) := by
      have : (cur.toList.take (n * 1))[i]? = some (.int .u8 u) := by rw [ht]; simp [hu]
      rw [List.getElem?_take_of_lt (by omega)] at this
      simpa using this
    simp [World.cell?, hh, e]

theorem d2_txt {w0 : World} {B : Nat} {xs : List Int} {n : Nat} {v : Int} {w : World} (hT : Txt w0 B xs n w) (hn : n + 2 ≤ 20) (h0 : 0 ≤ v) (h1 : v ≤ 99) :
    Calls Yba.prog 5 #[.slice (some ⟨B, 0, none⟩) n 20, .int .i64 v] w fun e w' => e = .returned (.slice (some ⟨B, 0, none⟩) (n + 2) 20) ∧ Txt w0 B (xs ++ [48 + v / 10, 48 + v % 10]) (n + 2) w' := by
  obtain ⟨e1, e2, e3, e4, e5⟩ := hT
  refine (d2_any B B n _ v w e2 hn h0 h1).mono ?_
  rintro e w' ⟨rfl, a1, a2⟩
  exact ⟨rfl, by simp [e1], by simpa using a1, e3.grown a2 (by omega) (fun k hk => by cases hk; exact Nat.le_refl _), Nat.lt_of_lt_of_le e4 a2.size, e5⟩

theorem app_txt {w : World} {ops : Array Oper} {rest : List Oper} {o : Oper} {a : Act} {Q : Exit → Act → World → Prop}
    (hg : o.guard = none) (s x : Operand) (hop : o.op = Op.call { callee := Callee.builtin Builtin.append, args := #[s, x], argTypes := #[25, 25] })
    {w0 : World} {B : Nat} {xs : List Int} {n : Nat} {c : Int} (hT : Txt w0 B xs n w) (hs : a.eval s = .slice (some ⟨B, 0, none⟩) n 20) (hx : a.eval x = .slice (some ⟨w.heap.size, 0, none⟩) 1 1) (h20 : n + 1 ≤ 20)
    (hK : ∀ w', Txt w0 B (xs ++ [c]) (n + 1) w' → wpList Yba.prog ops Q rest (a.put o.dst (.slice (some ⟨B, 0, none⟩) (n + 1) 20)) w') :
    wpList Yba.prog ops Q (o :: rest) a (w.alloc (.cells #[.int .u8 c] 5)) := by
  obtain ⟨i5, hi, hz0, hz1, hz2⟩ := info_parts Yba.info5
  obtain ⟨e1, e2, e3, e4, e5⟩ := hT
  refine wpList_append_fits _ hg s x 25 hop B 5 i5 1 Yba.underlying25 hi hz1 B n 20 _ hs (e2.alloc _) ⟨w.heap.size, 0, none⟩ 1 1 [.int .u8 c] hx rfl (cell_one_new _ _ _) (ints_oneCell .u8 [c]) h20 ?_
  intro w' a1 a2
  exact hK w' ⟨by simp [e1], by simpa using a1, (e3.alloc (by omega) _).grown a2 (by simp; omega) (fun k hk => by cases hk; exact Nat.le_refl _), by have := a2.size; simp at this; omega, e5⟩

theorem addr_add0 (g j : Nat) : (⟨g, 0, none⟩ : Addr).add j = ⟨g, j, none⟩ := by
  cases j <;> simp [Addr.add]

theorem Txt.grown {w0 : World} {B : Nat} {xs : List Int} {n : Nat} {w w' : World} (h : Txt w0 B xs n w) (hg : w.grownBy w' none) : Txt w0 B xs n w' := by
  obtain ⟨e1, e2, e3, e4, e5⟩ := h
  exact ⟨e1, e2.kept hg (by simp [Value.ownBlock]), e3.grown hg (by omega) (fun k hk => by cases hk), Nat.lt_of_lt_of_le e4 hg.size, e5⟩

theorem own_cells {w : World} {base g cap n : Nat} {xs : List Int} (hl : xs.length = n) (h : w.ownsRow base 5 1 (.slice (some ⟨g, 0, none⟩) n cap) n (xs.map (Value.int .u8))) : ∀ i u, xs[i]? = some u → w.cell? ⟨g, i, none⟩ = some (.int .u8 u) := by
  intro i u hu
  obtain ⟨_, h2⟩ := h
  rcases h2 with ⟨h2, _⟩ | ⟨g', cap', cur, hv, _, hh, _, _, _, ht⟩
  · cases h2
  · simp at hv
    obtain ⟨rfl, rfl⟩ := hv
    have hi : i < xs.length := by
      rcases Nat.lt_or_ge i xs.length with h | h
      · exact h
      · rw [List.getElem?_eq_none h] at hu; cases hu
    have e : cur[i]? = some (.int .u8 u) := by
      have : (cur.toList.take (n * 1))[i]? = some (.int .u8 u) := by rw [ht]; simp [hu]
      rw [List.getElem?_take_of_lt (by omega)] at this
      simpa using this
    simp [World.cell?, hh, e]

theorem getD_of (xs : List Int) (i : Nat) (h : i < xs.length) : xs[i]? = some (xs.getD i 0) := by
  rw [List.getD_eq_getElem?_getD, List.getElem?_eq_getElem h]; rfl

theorem equal_n (xs : List Int) (n g1 c1 g2 c2 : Nat) (w : World) (hn : xs.length = n) (h1 : ∀ i u, xs[i]? = some u → w.cell? ⟨g1, i, none⟩ = some (.int .u8 u)) (h2 : ∀ i u, xs[i]? = some u → w.cell? ⟨g2, i, none⟩ = some (.int .u8 u)) :
    Calls Yba.prog 7 #[.slice (some ⟨g1, 0, none⟩) n c1, .slice (some ⟨g2, 0, none⟩) n c2] w fun e w' => e = .returned (.bool true) ∧ w' = w := by
  subst hn
  exact equal_any xs g1 c1 g2 c2 w (fun i hi => by rw [Nat.zero_add]; exact h1 i _ (getD_of xs i hi)) (fun i hi => by rw [Nat.zero_add]; exact h2 i _ (getD_of xs i hi))

theorem parse_all (y mo d h mi se : Int) (secs z : Bool) (xs : List Int) (n blk cap : Nat) (w : World) (by_ : 0 ≤ y ∧ y ≤ 9999) (bm : 0 ≤ mo ∧ mo ≤ 99) (bd : 0 ≤ d ∧ d ≤ 99) (bh : 0 ≤ h ∧ h ≤ 99) (bi : 0 ≤ mi ∧ mi ≤ 99) (bs : 0 ≤ se ∧ se ≤ 99)
    (hs : secs = false → se = 0) (hxs : xs = textF y mo d h mi secs se z) (hn : xs.length = n)
    (hc : ∀ i u, xs[i]? = some u → w.cell? ⟨blk, i, none⟩ = some (.int .u8 u)) :
    Calls Yba.prog 6 #[.slice (some ⟨blk, 0, none⟩) n cap] w fun e w' => e = .returned (.tuple #[.int .i64 (parseF y mo d h mi se), .bool (validB y mo d h mi se)]) ∧ w' = w := by
  subst hxs; subst hn
  cases secs <;> cases z
  · exact parse_nn y mo d h mi se blk cap w by_.1 by_.2 bm.1 bm.2 bd.1 bd.2 bh.1 bh.2 bi.1 bi.2 bs.1 bs.2 (hs rfl) hc
  · exact parse_nz y mo d h mi se blk cap w by_.1 by_.2 bm.1 bm.2 bd.1 bd.2 bh.1 bh.2 bi.1 bi.2 bs.1 bs.2 (hs rfl) hc
  · exact parse_sn y mo d h mi se blk cap w by_.1 by_.2 bm.1 bm.2 bd.1 bd.2 bh.1 bh.2 bi.1 bi.2 bs.1 bs.2 hc
  · exact parse_sz y mo d h mi se blk cap w by_.1 by_.2 bm.1 bm.2 bd.1 bd.2 bh.1 bh.2 bi.1 bi.2 bs.1 bs.2 hc

/-! ### The plain law -/
theorem cum_val (y : Int) : cum y 0 = 0 ∧ cum y 1 = 31 ∧ cum y 2 = 31 + dim y 2 ∧ cum y 3 = 62 + dim y 2 ∧ cum y 4 = 92 + dim y 2 ∧ cum y 5 = 123 + dim y 2 ∧ cum y 6 = 153 + dim y 2 ∧ cum y 7 = 184 + dim y 2 ∧ cum y 8 = 215 + dim y 2 ∧ cum y 9 = 245 + dim y 2 ∧ cum y 10 = 276 + dim y 2 ∧ cum y 11 = 306 + dim y 2 := by
  refine ⟨rfl, ?_, ?_, ?_, ?_, ?_, ?_, ?_, ?_, ?_, ?_, ?_⟩ <;> simp [cum, dim] <;> omega
theorem dim2 (y : Int) : dim y 2 = if (y % 4 = 0 ∧ (y % 100 ≠ 0 ∨ y % 400 = 0)) then 29 else 28 := by
  unfold dim leapB; simp
theorem days_eq (y m d : Int) (h0 : 0 ≤ y) (m0 : 1 ≤ m) (m1 : m ≤ 12) : dfe y m d = before y + (d - 1 + cum y (m.toNat - 1)) - 719528 := by
  obtain ⟨c0, c1, c2, c3, c4, c5, c6, c7, c8, c9, c10, c11⟩ := cum_val y
  have hd := dim2 y
  rcases (show m = 1 ∨ m = 2 ∨ m = 3 ∨ m = 4 ∨ m = 5 ∨ m = 6 ∨ m = 7 ∨ m = 8 ∨ m = 9 ∨ m = 10 ∨ m = 11 ∨ m = 12 by omega) with rfl | rfl | rfl | rfl | rfl | rfl | rfl | rfl | rfl | rfl | rfl | rfl
  · simp only [dfe, before]; show _ = _ + (d - 1 + cum y 0) - _; rw [c0]; split <;> simp <;> omega
  · simp only [dfe, before]; show _ = _ + (d - 1 + cum y 1) - _; rw [c1]; split <;> simp <;> omega
  · simp only [dfe, before]; show _ = _ + (d - 1 + cum y 2) - _; rw [c2, hd]; split <;> split <;> simp <;> omega
  · simp only [dfe, before]; show _ = _ + (d - 1 + cum y 3) - _; rw [c3, hd]; split <;> split <;> simp <;> omega
  · simp only [dfe, before]; show _ = _ + (d - 1 + cum y 4) - _; rw [c4, hd]; split <;> split <;> simp <;> omega
  · simp only [dfe, before]; show _ = _ + (d - 1 + cum y 5) - _; rw [c5, hd]; split <;> split <;> simp <;> omega
  · simp only [dfe, before]; show _ = _ + (d - 1 + cum y 6) - _; rw [c6, hd]; split <;> split <;> simp <;> omega
  · simp only [dfe, before]; show _ = _ + (d - 1 + cum y 7) - _; rw [c7, hd]; split <;> split <;> simp <;> omega
  · simp only [dfe, before]; show _ = _ + (d - 1 + cum y 8) - _; rw [c8, hd]; split <;> split <;> simp <;> omega
  · simp only [dfe, before]; show _ = _ + (d - 1 + cum y 9) - _; rw [c9, hd]; split <;> split <;> simp <;> omega
  · simp only [dfe, before]; show _ = _ + (d - 1 + cum y 10) - _; rw [c10, hd]; split <;> split <;> simp <;> omega
  · simp only [dfe, before]; show _ = _ + (d - 1 + cum y 11) - _; rw [c11, hd]; split <;> split <;> simp <;> omega
theorem valid_parts {y mo d h mi se : Int} (H : validB y mo d h mi se = true) : 1 ≤ mo ∧ mo ≤ 12 ∧ 1 ≤ d ∧ d ≤ 31 := by
  have := of_decide_eq_true H; have := dim_bd y mo; omega
theorem law_true {y mo d h mi se : Int} (h0 : 0 ≤ y) (H : validB y mo d h mi se = true) : (parseF y mo d h mi se == modelF y mo d h mi se) = true := by
  obtain ⟨a, b, _, _⟩ := valid_parts H
  rw [parseF, if_pos H, secsF, modelF, days_eq y mo d h0 a b]; simp
theorem law_false {y mo d h mi se : Int} (H : validB y mo d h mi se = false) : (parseF y mo d h mi se == 0) = true := by
  rw [parseF, H]; simp

set_option maxRecDepth 100000 in
set_option maxHeartbeats 4000000 in
theorem law_walk (Y M D H I S : Int) (W Sx Z : Bool) (w : World) (y0 : 0 ≤ Y) (y1 : Y ≤ 65535) (m0 : 0 ≤ M) (m1 : M ≤ 255) (d0 : 0 ≤ D) (d1 : D ≤ 255) (h0 : 0 ≤ H) (h1 : H ≤ 255) (i0 : 0 ≤ I) (i1 : I ≤ 255) (s0 : 0 ≤ S) (s1 : S ≤ 255) :
    Calls Yba.prog 3 #[.agg #[.int .u16 Y, .int .u8 M, .int .u8 D, .int .u8 H, .int .u8 I, .int .u8 S, .bool W, .bool Sx, .bool Z]] w fun e w' => e = .returned (.bool true) ∧ Below w.heap.size w w' := by
  obtain ⟨i5, hi, hz0, hz1, hz2⟩ := info_parts Yba.info5
  go_enter Yba.func3, Yba.ntmps3
  go_upto_if 18 with fail
  go_cut [3, 4, 5, 6, 7, 8] (fun s3 s4 s5 s6 s7 s8 wx => ∃ y mo d h mi se : Int, s3 = .int .i64 y ∧ (0 ≤ y ∧ y ≤ 9999) ∧ s4 = .int .i64 mo ∧ s5 = .int .i64 d ∧ s6 = .int .i64 h ∧ s7 = .int .i64 mi ∧ s8 = .int .i64 se ∧
    (0 ≤ mo ∧ mo ≤ 99) ∧ (0 ≤ d ∧ d ≤ 99) ∧ (0 ≤ h ∧ h ≤ 99) ∧ (0 ≤ mi ∧ mi ≤ 99) ∧ (0 ≤ se ∧ se ≤ 99) ∧
    wx.cell? ⟨w.heap.size, 7, none⟩ = some (.bool Sx) ∧ wx.cell? ⟨w.heap.size, 8, none⟩ = some (.bool Z) ∧ wx.heap.size = w.heap.size + 1 ∧ Below w.heap.size w wx)
  case first =>
    cases W
    all_goals
      go_wp2
      go_quiet (fail)
      go_wp2
      go_meet
      case rel => exact ⟨_, _, _, _, _, _, rfl, by omega, rfl, rfl, rfl, rfl, rfl, by omega, by omega, by omega, by omega, by omega, by simp, by simp, by simp, ((Below.refl _ _).alloc (Nat.le_refl _) _).trans (Joins.below_draws _ _ _)⟩
  case rest =>
    obtain ⟨y, mo, d, h, mi, se, rfl, by_, rfl, rfl, rfl, rfl, rfl, bmo, bd, bh, bmi, bse, cS, cZ, hsz, hbl⟩ := hcut
    obtain ⟨wa, hwa⟩ : ∃ x, x = wc := ⟨_, rfl⟩
    subst hwa
    have hm := hmk
    have HSZ := hide hsz; clear hsz
    go_wp2_with fail
    refine (d2_txt (Txt.start wa _ rfl) (by omega) (by omega) (by omega)).mono ?_
    rintro e w1 ⟨rfl, hT1⟩
    clear hm
    go_wp2_with fail
    refine (d2_txt hT1 (by omega) (by omega) (by omega)).mono ?_
    rintro e w2 ⟨rfl, hT2⟩
    clear hT1
    go_wp2_with (at_builtin; refine app_txt rfl _ _ rfl hT2 rfl rfl (by omega) ?_; clear hT2; intro w3 hT3)
    go_wp2_with fail
    refine (d2_txt hT3 (by omega) (by omega) (by omega)).mono ?_
    rintro e w4 ⟨rfl, hT4⟩
    clear hT3
    go_wp2_with (at_builtin; refine app_txt rfl _ _ rfl hT4 rfl rfl (by omega) ?_; clear hT4; intro w5 hT5)
    go_wp2_with fail
    refine (d2_txt hT5 (by omega) (by omega) (by omega)).mono ?_
    rintro e w6 ⟨rfl, hT6⟩
    clear hT5
    go_wp2_with (at_builtin; refine app_txt rfl _ _ rfl hT6 rfl rfl (by omega) ?_; clear hT6; intro w7 hT7)
    go_wp2_with fail
    refine (d2_txt hT7 (by omega) (by omega) (by omega)).mono ?_
    rintro e w8 ⟨rfl, hT8⟩
    clear hT7
    go_wp2_with (at_builtin; refine app_txt rfl _ _ rfl hT8 rfl rfl (by omega) ?_; clear hT8; intro w9 hT9)
    go_wp2_with fail
    refine (d2_txt hT9 (by omega) (by omega) (by omega)).mono ?_
    rintro e w10 ⟨rfl, hT10⟩
    clear hT9
    have cS1 : w10.cell? ⟨w.heap.size, 7, none⟩ = some (.bool Sx) := (hT10.2.2.1.cell (by show w.heap.size < wa.heap.size; rw [HSZ.out]; omega)).trans cS
    go_upto_if 95 with fail
    clear cS1
    go_cut [8, 9] (fun s8 s9 wx => ∃ (se' : Int) (n : Nat) (xs : List Int), s8 = .int .i64 se' ∧ s9 = .slice (some ⟨wa.heap.size, 0, none⟩) n 20 ∧ (0 ≤ se' ∧ se' ≤ 99) ∧ Txt wa wa.heap.size xs n wx ∧ (16 ≤ n ∧ n ≤ 19) ∧ Hid (xs = textF y mo d h mi Sx se' false ∧ (Sx = false → se' = 0)))
    case first =>
      cases Sx
      · go_wp2
        go_meet
        case rel => exact ⟨0, 16, _, rfl, rfl, by omega, hT10, by omega, hide ⟨rfl, fun _ => rfl⟩⟩
      · go_wp2_with (at_builtin; refine app_txt rfl _ _ rfl hT10 rfl rfl (by omega) ?_; clear hT10; intro w11 hT11)
        refine (d2_txt hT11 (by omega) (by omega) (by omega)).mono ?_
        rintro e w12 ⟨rfl, hT12⟩
        go_wp2_with fail
        go_meet
        case rel => exact ⟨se, 19, _, rfl, rfl, by omega, hT12, by omega, hide ⟨rfl, fun h => by cases h⟩⟩
    case rest =>
      clear hT10
      obtain ⟨se', n, xs, rfl, rfl, bse', hT, hn, HX⟩ := hcut
      have cZ1 : wc.cell? ⟨w.heap.size, 8, none⟩ = some (.bool Z) := (hT.2.2.1.cell (by show w.heap.size < wa.heap.size; rw [HSZ.out]; omega)).trans cZ
      go_upto_if 103 with fail
      clear cZ1
      go_cut [9] (fun s9 wx => ∃ (n : Nat) (xs : List Int), s9 = .slice (some ⟨wa.heap.size, 0, none⟩) n 20 ∧ Txt wa wa.heap.size xs n wx ∧ (16 ≤ n ∧ n ≤ 20) ∧ Hid (xs = textF y mo d h mi Sx se' Z))
      case first =>
        cases Z
        · go_wp2
          go_meet
          case rel => exact ⟨n, xs, rfl, hT, by omega, HX.out.1⟩
        · go_wp2_with (at_builtin; refine app_txt rfl _ _ rfl hT rfl rfl (by omega) ?_; clear hT; intro w11 hT11)
          go_meet
          case rel => exact ⟨n + 1, _, rfl, hT11, by omega, by rw [HX.out.1]; simp [Hid, textF]⟩
      case rest =>
        have HXS := hide HX.out.2
        clear HX hT hn
        obtain ⟨m, zs, rfl, hT, hm, HZ⟩ := hcut
        obtain ⟨wb, hwb⟩ : ∃ x, x = wc := ⟨_, rfl⟩
        subst hwb
        have hzl := hide hT.1
        go_wp2_with (at_builtin; refine wpList_append_own _ rfl _ _ 25 rfl wb.heap.size 5 i5 (.int .u8 0) 1 1 Yba.underlying25 hi hz0 hz1 hz2 rfl (by decide) (.slice none 0 0) 0 [] rfl (World.ownsRow_nil _ _ _ _) ⟨wa.heap.size, 0, none⟩ m 20 (zs.map (Value.int .u8)) rfl ?c1 ?c2 (ints_oneCell .u8 zs) ?c3 ?c4 (Nat.le_refl _) ?_)
        case c1 => simp [hzl.out]
        case c2 =>
          intro j u hu
          rw [List.getElem?_map] at hu
          cases hz : zs[j]? with
          | none => rw [hz] at hu; cases hu
          | some q =>
            rw [hz] at hu; cases hu
            rw [addr_add0]; exact hT.cells j q hz
        case c3 => unfold maxLen; omega
        case c4 => omega
        intro v' w1 hown' hgrow _
        obtain ⟨g2, cap2, rfl⟩ := Joins.ownsRow_form hown' (by omega)
        have hT1 := hT.grown hgrow
        have HC1 := hide hT1.cells
        have HC2 := hide (own_cells hzl.out hown')
        have HB1 := hide hT1.2.2.1
        clear hown' hgrow hT hT1
        go_wp2_with fail
        refine (parse_all y mo d h mi se' Sx Z zs m wa.heap.size 20 _ by_ bmo bd bh bmi bse' HXS.out HZ.out hzl.out HC1.out).mono ?_
        rintro e w2 ⟨rfl, rfl⟩
        go_wp2_with fail
        refine (equal_n zs m wa.heap.size 20 g2 cap2 _ hzl.out HC1.out HC2.out).mono ?_
        rintro e w3 ⟨rfl, rfl⟩
        go_wp2_with fail
        refine (valid_any y mo d h mi se' _ by_.1 by_.2).mono ?_
        rintro e w4 ⟨rfl, hb4⟩
        have HE := hide ((hbl.trans (HB1.out.mono (show w.heap.size ≤ wa.heap.size by rw [HSZ.out]; omega))).trans (hb4.mono (by have := HB1.out.size; have := HSZ.out; omega)))
        have HS4 := hide (show w.heap.size ≤ w4.heap.size by have := hb4.size; have := HB1.out.size; have := HSZ.out; omega)
        cases hv : validB y mo d h mi se'
        · have hp := law_false hv
          go_wp2
          go_ret
          exact ⟨rfl, HE.out⟩
        · have hp := law_true by_.1 hv
          have hq := valid_parts hv
          go_wp2_with fail
          refine (model_any y mo d h mi se' _ by_.1 by_.2 hq.1 hq.2.1 hq.2.2.1 hq.2.2.2 bh.1 bh.2 bmi.1 bmi.2 bse'.1 bse'.2).mono ?_
          rintro e w5 ⟨rfl, hb5⟩
          go_wp2
          go_ret
          exact ⟨rfl, HE.out.trans (hb5.mono HS4.out)⟩
end Go.Proofs.Ybulkbmlc
