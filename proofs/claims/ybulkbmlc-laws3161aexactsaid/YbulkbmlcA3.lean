/-
  LawS3161AExact: ParseTime at a well-shaped text.
-/
import Derived.Test.YbulkbmlcA2
import Derived.Deep.DeepCutAuto
namespace Go.Proofs.Ybulkbmlc
open Go.RowKit
set_option linter.unusedVariables false

theorem hide {p : Prop} (h : p) : Hid p := h

theorem dig2 (A B : Int) (a len cap blk : Nat) (p q : Int) (w : World) (hA : A = (a : Int)) (hB : B = ((a + 2 : Nat) : Int)) (hbl : a + 2 ≤ len) (hl : len ≤ 20) (hp : 0 ≤ p ∧ p ≤ 9) (hq : 0 ≤ q ∧ q ≤ 9)
    (c0 : w.cell? ⟨blk, a, none⟩ = some (.int .u8 (48 + p))) (c1 : w.cell? ⟨blk, a + 1, none⟩ = some (.int .u8 (48 + q))) :
    Calls Yba.prog 11 #[.slice (some ⟨blk, 0, none⟩) len cap, .int .i64 A, .int .i64 B] w fun e w' => e = .returned (.tuple #[.int .i64 (p * 10 + q), .bool true]) ∧ w' = w := by
  subst hA; subst hB
  have h := digits_any (fun i => if i = a then p else q) a (a + 2) len cap blk w (by omega) (by omega) hbl hl (fun i => by split <;> assumption) (fun i h1 h2 => by
    rcases (show i = a ∨ i = a + 1 by omega) with rfl | rfl
    · simpa using c0
    · simpa using c1)
  refine h.mono ?_
  rintro e w' ⟨rfl, rfl⟩
  exact ⟨ret_ib (by rw [show a + 2 - a = 2 by omega]; simp [numF]) rfl, rfl⟩

theorem dig4 (A B : Int) (a len cap blk : Nat) (p q r s : Int) (w : World) (hA : A = (a : Int)) (hB : B = ((a + 4 : Nat) : Int)) (hbl : a + 4 ≤ len) (hl : len ≤ 20) (hp : 0 ≤ p ∧ p ≤ 9) (hq : 0 ≤ q ∧ q ≤ 9) (hr : 0 ≤ r ∧ r ≤ 9) (hs : 0 ≤ s ∧ s ≤ 9)
    (c0 : w.cell? ⟨blk, a, none⟩ = some (.int .u8 (48 + p))) (c1 : w.cell? ⟨blk, a + 1, none⟩ = some (.int .u8 (48 + q))) (c2 : w.cell? ⟨blk, a + 2, none⟩ = some (.int .u8 (48 + r))) (c3 : w.cell? ⟨blk, a + 3, none⟩ = some (.int .u8 (48 + s))) :
    Calls Yba.prog 11 #[.slice (some ⟨blk, 0, none⟩) len cap, .int .i64 A, .int .i64 B] w fun e w' => e = .returned (.tuple #[.int .i64 (((p * 10 + q) * 10 + r) * 10 + s), .bool true]) ∧ w' = w := by
  subst hA; subst hB
  have h := digits_any (fun i => if i = a then p else if i = a + 1 then q else if i = a + 2 then r else s) a (a + 4) len cap blk w (by omega) (by omega) hbl hl (fun i => by split <;> (try split) <;> (try split) <;> assumption) (fun i h1 h2 => by
    rcases (show i = a ∨ i = a + 1 ∨ i = a + 2 ∨ i = a + 3 by omega) with rfl | rfl | rfl | rfl
    · simpa using c0
    · simpa using c1
    · simpa using c2
    · simpa using c3)
  refine h.mono ?_
  rintro e w' ⟨rfl, rfl⟩
  exact ⟨ret_ib (by rw [show a + 4 - a = 4 by omega]; simp [numF]) rfl, rfl⟩

def textF (y mo d h mi : Int) (secs : Bool) (se : Int) (z : Bool) : List Int :=
  [48 + y / 100 / 10, 48 + y / 100 % 10, 48 + y % 100 / 10, 48 + y % 100 % 10, 45, 48 + mo / 10, 48 + mo % 10, 45, 48 + d / 10, 48 + d % 10, 84, 48 + h / 10, 48 + h % 10, 58, 48 + mi / 10, 48 + mi % 10] ++
    (if secs = true then [58, 48 + se / 10, 48 + se % 10] else []) ++ (if z = true then [90] else [])
def secsF (y mo d h mi se : Int) : Int := dfe y mo d * 86400 + h * 3600 + mi * 60 + se
def parseF (y mo d h mi se : Int) : Int := if validB y mo d h mi se = true then secsF y mo d h mi se else 0

theorem dfe_bd (y m d : Int) (h0 : 0 ≤ y) (h1 : y ≤ 9999) (m0 : 1 ≤ m) (m1 : m ≤ 12) (d0 : 1 ≤ d) (d1 : d ≤ 31) : -800000 ≤ dfe y m d ∧ dfe y m d ≤ 4000000 := by
  unfold dfe; dsimp only; split <;> omega
theorem valid_t {y mo d h mi se : Int} (H : 1 ≤ mo ∧ mo ≤ 12 ∧ 1 ≤ d ∧ d ≤ dim y mo ∧ h ≤ 23 ∧ mi ≤ 59 ∧ se ≤ 59) : validB y mo d h mi se = true := decide_eq_true H
theorem valid_f {y mo d h mi se : Int} (H : ¬ (1 ≤ mo ∧ mo ≤ 12 ∧ 1 ≤ d ∧ d ≤ dim y mo ∧ h ≤ 23 ∧ mi ≤ 59 ∧ se ≤ 59)) : validB y mo d h mi se = false := decide_eq_false H
theorem parse_t {y mo d h mi se : Int} (H : 1 ≤ mo ∧ mo ≤ 12 ∧ 1 ≤ d ∧ d ≤ dim y mo ∧ h ≤ 23 ∧ mi ≤ 59 ∧ se ≤ 59) : dfe y mo d * 86400 + h * 3600 + mi * 60 + se = parseF y mo d h mi se := by
  rw [parseF, if_pos (valid_t H), secsF]
theorem parse_f {y mo d h mi se : Int} (H : ¬ (1 ≤ mo ∧ mo ≤ 12 ∧ 1 ≤ d ∧ d ≤ dim y mo ∧ h ≤ 23 ∧ mi ≤ 59 ∧ se ≤ 59)) : 0 = parseF y mo d h mi se := by
  rw [parseF, valid_f H]; simp

set_option maxRecDepth 100000 in
set_option maxHeartbeats 8000000 in
theorem parse_nn (y mo d h mi se : Int) (blk cap : Nat) (w : World) (y0 : 0 ≤ y) (y1 : y ≤ 9999) (m0 : 0 ≤ mo) (m1 : mo ≤ 99) (d0 : 0 ≤ d) (d1 : d ≤ 99) (h0 : 0 ≤ h) (h1 : h ≤ 99) (i0 : 0 ≤ mi) (i1 : mi ≤ 99) (s0 : 0 ≤ se) (s1 : se ≤ 99) (hs0 : Hid (se = 0))
    (hc : ∀ i u, (textF y mo d h mi false se false)[i]? = some u → w.cell? ⟨blk, i, none⟩ = some (.int .u8 u)) :
    Calls Yba.prog 6 #[.slice (some ⟨blk, 0, none⟩) 16 cap] w fun e w' => e = .returned (.tuple #[.int .i64 (parseF y mo d h mi se), .bool (validB y mo d h mi se)]) ∧ w' = w := by
  have c0 := hc 0 _ rfl; have c1 := hc 1 _ rfl; have c2 := hc 2 _ rfl; have c3 := hc 3 _ rfl; have c4 := hc 4 _ rfl; have c5 := hc 5 _ rfl; have c6 := hc 6 _ rfl; have c7 := hc 7 _ rfl; have c8 := hc 8 _ rfl; have c9 := hc 9 _ rfl
  have c10 := hc 10 _ rfl; have c11 := hc 11 _ rfl; have c12 := hc 12 _ rfl; have c13 := hc 13 _ rfl; have c14 := hc 14 _ rfl; have c15 := hc 15 _ rfl
  clear hc
  have D0 := fun cap => dig4 0 4 0 16 cap blk (y / 100 / 10) (y / 100 % 10) (y % 100 / 10) (y % 100 % 10) w rfl rfl (by omega) (by omega) (by omega) (by omega) (by omega) (by omega) c0 c1 c2 c3
  have D1 := fun cap => dig2 5 7 5 16 cap blk (mo / 10) (mo % 10) w rfl rfl (by omega) (by omega) (by omega) (by omega) c5 c6
  have D2 := fun cap => dig2 8 10 8 16 cap blk (d / 10) (d % 10) w rfl rfl (by omega) (by omega) (by omega) (by omega) c8 c9
  have D3 := fun cap => dig2 11 13 11 16 cap blk (h / 10) (h % 10) w rfl rfl (by omega) (by omega) (by omega) (by omega) c11 c12
  have D4 := fun cap => dig2 14 16 14 16 cap blk (mi / 10) (mi % 10) w rfl rfl (by omega) (by omega) (by omega) (by omega) c14 c15
  rw [show ((y / 100 / 10 * 10 + y / 100 % 10) * 10 + y % 100 / 10) * 10 + y % 100 % 10 = y by omega] at D0
  have HD0 := hide D0; clear D0
  rw [show mo / 10 * 10 + mo % 10 = mo by omega] at D1
  have HD1 := hide D1; clear D1
  rw [show d / 10 * 10 + d % 10 = d by omega] at D2
  have HD2 := hide D2; clear D2
  rw [show h / 10 * 10 + h % 10 = h by omega] at D3
  have HD3 := hide D3; clear D3
  rw [show mi / 10 * 10 + mi % 10 = mi by omega] at D4
  have HD4 := hide D4; clear D4
  have hdm := dim_bd y mo
  go_enter Yba.func6, Yba.ntmps6
  go_wp2_with fail
  refine (HD0.out _).mono ?_
  rintro e w' ⟨rfl, rfl⟩
  go_wp2_with fail
  refine (HD1.out _).mono ?_
  rintro e w' ⟨rfl, rfl⟩
  go_wp2_with fail
  refine (HD2.out _).mono ?_
  rintro e w' ⟨rfl, rfl⟩
  go_wp2_with fail
  refine (HD3.out _).mono ?_
  rintro e w' ⟨rfl, rfl⟩
  go_wp2_with fail
  refine (HD4.out _).mono ?_
  rintro e w' ⟨rfl, rfl⟩
  clear HD0 HD1 HD2 HD3 HD4 c0 c1 c2 c3 c4 c5 c6 c7 c8 c9 c10 c11 c12 c13 c14 c15
  by_cases e0 : 1 ≤ mo
  rotate_left
  · skip
    go_wp2_with (first | (go_at_call 12; refine (daysIn_any _ _ _ y0 y1 (by omega) (by omega)).mono ?_; rintro e w'' ⟨rfl, rfl⟩) | (go_at_call 13; refine (dfe_any _ _ _ _ y0 y1 (by omega) (by omega) (by omega) (by omega)).mono ?_; rintro e w'' ⟨rfl, rfl⟩))
    go_ret2
    exact ⟨ret_ib (parse_f (by omega)) (valid_f (by omega)).symm, rfl⟩
  by_cases e1 : mo ≤ 12
  rotate_left
  · skip
    go_wp2_with (first | (go_at_call 12; refine (daysIn_any _ _ _ y0 y1 (by omega) (by omega)).mono ?_; rintro e w'' ⟨rfl, rfl⟩) | (go_at_call 13; refine (dfe_any _ _ _ _ y0 y1 (by omega) (by omega) (by omega) (by omega)).mono ?_; rintro e w'' ⟨rfl, rfl⟩))
    go_ret2
    exact ⟨ret_ib (parse_f (by omega)) (valid_f (by omega)).symm, rfl⟩
  by_cases e2 : 1 ≤ d
  rotate_left
  · skip
    go_wp2_with (first | (go_at_call 12; refine (daysIn_any _ _ _ y0 y1 (by omega) (by omega)).mono ?_; rintro e w'' ⟨rfl, rfl⟩) | (go_at_call 13; refine (dfe_any _ _ _ _ y0 y1 (by omega) (by omega) (by omega) (by omega)).mono ?_; rintro e w'' ⟨rfl, rfl⟩))
    go_ret2
    exact ⟨ret_ib (parse_f (by omega)) (valid_f (by omega)).symm, rfl⟩
  by_cases e3 : d ≤ dim y mo
  rotate_left
  · skip
    go_wp2_with (first | (go_at_call 12; refine (daysIn_any _ _ _ y0 y1 (by omega) (by omega)).mono ?_; rintro e w'' ⟨rfl, rfl⟩) | (go_at_call 13; refine (dfe_any _ _ _ _ y0 y1 (by omega) (by omega) (by omega) (by omega)).mono ?_; rintro e w'' ⟨rfl, rfl⟩))
    go_ret2
    exact ⟨ret_ib (parse_f (by omega)) (valid_f (by omega)).symm, rfl⟩
  by_cases e4 : h ≤ 23
  rotate_left
  · skip
    go_wp2_with (first | (go_at_call 12; refine (daysIn_any _ _ _ y0 y1 (by omega) (by omega)).mono ?_; rintro e w'' ⟨rfl, rfl⟩) | (go_at_call 13; refine (dfe_any _ _ _ _ y0 y1 (by omega) (by omega) (by omega) (by omega)).mono ?_; rintro e w'' ⟨rfl, rfl⟩))
    go_ret2
    exact ⟨ret_ib (parse_f (by omega)) (valid_f (by omega)).symm, rfl⟩
  by_cases e5 : mi ≤ 59
  rotate_left
  · skip
    go_wp2_with (first | (go_at_call 12; refine (daysIn_any _ _ _ y0 y1 (by omega) (by omega)).mono ?_; rintro e w'' ⟨rfl, rfl⟩) | (go_at_call 13; refine (dfe_any _ _ _ _ y0 y1 (by omega) (by omega) (by omega) (by omega)).mono ?_; rintro e w'' ⟨rfl, rfl⟩))
    go_ret2
    exact ⟨ret_ib (parse_f (by omega)) (valid_f (by omega)).symm, rfl⟩
  have hdf := dfe_bd y mo d y0 y1 (by omega) (by omega) (by omega) (by omega)
  go_wp2_with (first | (go_at_call 12; refine (daysIn_any _ _ _ y0 y1 (by omega) (by omega)).mono ?_; rintro e w'' ⟨rfl, rfl⟩) | (go_at_call 13; refine (dfe_any _ _ _ _ y0 y1 (by omega) (by omega) (by omega) (by omega)).mono ?_; rintro e w'' ⟨rfl, rfl⟩))
  go_ret2
  exact ⟨ret_ib (by rw [hs0.out, ← parse_t (by omega)]; omega) (by rw [hs0.out, valid_t (by omega)]), rfl⟩

set_option maxRecDepth 100000 in
set_option maxHeartbeats 8000000 in
theorem parse_nz (y mo d h mi se : Int) (blk cap : Nat) (w : World) (y0 : 0 ≤ y) (y1 : y ≤ 9999) (m0 : 0 ≤ mo) (m1 : mo ≤ 99) (d0 : 0 ≤ d) (d1 : d ≤ 99) (h0 : 0 ≤ h) (h1 : h ≤ 99) (i0 : 0 ≤ mi) (i1 : mi ≤ 99) (s0 : 0 ≤ se) (s1 : se ≤ 99) (hs0 : Hid (se = 0))
    (hc : ∀ i u, (textF y mo d h mi false se true)[i]? = some u → w.cell? ⟨blk, i, none⟩ = some (.int .u8 u)) :
    Calls Yba.prog 6 #[.slice (some ⟨blk, 0, none⟩) 17 cap] w fun e w' => e = .returned (.tuple #[.int .i64 (parseF y mo d h mi se), .bool (validB y mo d h mi se)]) ∧ w' = w := by
  have c0 := hc 0 _ rfl; have c1 := hc 1 _ rfl; have c2 := hc 2 _ rfl; have c3 := hc 3 _ rfl; have c4 := hc 4 _ rfl; have c5 := hc 5 _ rfl; have c6 := hc 6 _ rfl; have c7 := hc 7 _ rfl; have c8 := hc 8 _ rfl; have c9 := hc 9 _ rfl
  have c10 := hc 10 _ rfl; have c11 := hc 11 _ rfl; have c12 := hc 12 _ rfl; have c13 := hc 13 _ rfl; have c14 := hc 14 _ rfl; have c15 := hc 15 _ rfl
  have cz := hc 16 _ rfl
  clear hc
  have D0 := fun cap => dig4 0 4 0 17 cap blk (y / 100 / 10) (y / 100 % 10) (y % 100 / 10) (y % 100 % 10) w rfl rfl (by omega) (by omega) (by omega) (by omega) (by omega) (by omega) c0 c1 c2 c3
  have D1 := fun cap => dig2 5 7 5 17 cap blk (mo / 10) (mo % 10) w rfl rfl (by omega) (by omega) (by omega) (by omega) c5 c6
  have D2 := fun cap => dig2 8 10 8 17 cap blk (d / 10) (d % 10) w rfl rfl (by omega) (by omega) (by omega) (by omega) c8 c9
  have D3 := fun cap => dig2 11 13 11 17 cap blk (h / 10) (h % 10) w rfl rfl (by omega) (by omega) (by omega) (by omega) c11 c12
  have D4 := fun cap => dig2 14 16 14 17 cap blk (mi / 10) (mi % 10) w rfl rfl (by omega) (by omega) (by omega) (by omega) c14 c15
  rw [show ((y / 100 / 10 * 10 + y / 100 % 10) * 10 + y % 100 / 10) * 10 + y % 100 % 10 = y by omega] at D0
  have HD0 := hide D0; clear D0
  rw [show mo / 10 * 10 + mo % 10 = mo by omega] at D1
  have HD1 := hide D1; clear D1
  rw [show d / 10 * 10 + d % 10 = d by omega] at D2
  have HD2 := hide D2; clear D2
  rw [show h / 10 * 10 + h % 10 = h by omega] at D3
  have HD3 := hide D3; clear D3
  rw [show mi / 10 * 10 + mi % 10 = mi by omega] at D4
  have HD4 := hide D4; clear D4
  have hdm := dim_bd y mo
  go_enter Yba.func6, Yba.ntmps6
  go_wp2_with fail
  refine (HD0.out _).mono ?_
  rintro e w' ⟨rfl, rfl⟩
  go_wp2_with fail
  refine (HD1.out _).mono ?_
  rintro e w' ⟨rfl, rfl⟩
  go_wp2_with fail
  refine (HD2.out _).mono ?_
  rintro e w' ⟨rfl, rfl⟩
  go_wp2_with fail
  refine (HD3.out _).mono ?_
  rintro e w' ⟨rfl, rfl⟩
  go_wp2_with fail
  refine (HD4.out _).mono ?_
  rintro e w' ⟨rfl, rfl⟩
  clear HD0 HD1 HD2 HD3 HD4 c0 c1 c2 c3 c4 c5 c6 c7 c8 c9 c10 c11 c12 c13 c14 c15 cz
  by_cases e0 : 1 ≤ mo
  rotate_left
  · skip
    go_wp2_with (first | (go_at_call 12; refine (daysIn_any _ _ _ y0 y1 (by omega) (by omega)).mono ?_; rintro e w'' ⟨rfl, rfl⟩) | (go_at_call 13; refine (dfe_any _ _ _ _ y0 y1 (by omega) (by omega) (by omega) (by omega)).mono ?_; rintro e w'' ⟨rfl, rfl⟩))
    go_ret2
    exact ⟨ret_ib (parse_f (by omega)) (valid_f (by omega)).symm, rfl⟩
  by_cases e1 : mo ≤ 12
  rotate_left
  · skip
    go_wp2_with (first | (go_at_call 12; refine (daysIn_any _ _ _ y0 y1 (by omega) (by omega)).mono ?_; rintro e w'' ⟨rfl, rfl⟩) | (go_at_call 13; refine (dfe_any _ _ _ _ y0 y1 (by omega) (by omega) (by omega) (by omega)).mono ?_; rintro e w'' ⟨rfl, rfl⟩))
    go_ret2
    exact ⟨ret_ib (parse_f (by omega)) (valid_f (by omega)).symm, rfl⟩
  by_cases e2 : 1 ≤ d
  rotate_left
  · skip
    go_wp2_with (first | (go_at_call 12; refine (daysIn_any _ _ _ y0 y1 (by omega) (by omega)).mono ?_; rintro e w'' ⟨rfl, rfl⟩) | (go_at_call 13; refine (dfe_any _ _ _ _ y0 y1 (by omega) (by omega) (by omega) (by omega)).mono ?_; rintro e w'' ⟨rfl, rfl⟩))
    go_ret2
    exact ⟨ret_ib (parse_f (by omega)) (valid_f (by omega)).symm, rfl⟩
  by_cases e3 : d ≤ dim y mo
  rotate_left
  · skip
    go_wp2_with (first | (go_at_call 12; refine (daysIn_any _ _ _ y0 y1 (by omega) (by omega)).mono ?_; rintro e w'' ⟨rfl, rfl⟩) | (go_at_call 13; refine (dfe_any _ _ _ _ y0 y1 (by omega) (by omega) (by omega) (by omega)).mono ?_; rintro e w'' ⟨rfl, rfl⟩))
    go_ret2
    exact ⟨ret_ib (parse_f (by omega)) (valid_f (by omega)).symm, rfl⟩
  by_cases e4 : h ≤ 23
  rotate_left
  · skip
    go_wp2_with (first | (go_at_call 12; refine (daysIn_any _ _ _ y0 y1 (by omega) (by omega)).mono ?_; rintro e w'' ⟨rfl, rfl⟩) | (go_at_call 13; refine (dfe_any _ _ _ _ y0 y1 (by omega) (by omega) (by omega) (by omega)).mono ?_; rintro e w'' ⟨rfl, rfl⟩))
    go_ret2
    exact ⟨ret_ib (parse_f (by omega)) (valid_f (by omega)).symm, rfl⟩
  by_cases e5 : mi ≤ 59
  rotate_left
  · skip
    go_wp2_with (first | (go_at_call 12; refine (daysIn_any _ _ _ y0 y1 (by omega) (by omega)).mono ?_; rintro e w'' ⟨rfl, rfl⟩) | (go_at_call 13; refine (dfe_any _ _ _ _ y0 y1 (by omega) (by omega) (by omega) (by omega)).mono ?_; rintro e w'' ⟨rfl, rfl⟩))
    go_ret2
    exact ⟨ret_ib (parse_f (by omega)) (valid_f (by omega)).symm, rfl⟩
  have hdf := dfe_bd y mo d y0 y1 (by omega) (by omega) (by omega) (by omega)
  go_wp2_with (first | (go_at_call 12; refine (daysIn_any _ _ _ y0 y1 (by omega) (by omega)).mono ?_; rintro e w'' ⟨rfl, rfl⟩) | (go_at_call 13; refine (dfe_any _ _ _ _ y0 y1 (by omega) (by omega) (by omega) (by omega)).mono ?_; rintro e w'' ⟨rfl, rfl⟩))
  go_ret2
  exact ⟨ret_ib (by rw [hs0.out, ← parse_t (by omega)]; omega) (by rw [hs0.out, valid_t (by omega)]), rfl⟩

set_option maxRecDepth 100000 in
set_option maxHeartbeats 8000000 in
theorem parse_sn (y mo d h mi se : Int) (blk cap : Nat) (w : World) (y0 : 0 ≤ y) (y1 : y ≤ 9999) (m0 : 0 ≤ mo) (m1 : mo ≤ 99) (d0 : 0 ≤ d) (d1 : d ≤ 99) (h0 : 0 ≤ h) (h1 : h ≤ 99) (i0 : 0 ≤ mi) (i1 : mi ≤ 99) (s0 : 0 ≤ se) (s1 : se ≤ 99)
    (hc : ∀ i u, (textF y mo d h mi true se false)[i]? = some u → w.cell? ⟨blk, i, none⟩ = some (.int .u8 u)) :
    Calls Yba.prog 6 #[.slice (some ⟨blk, 0, none⟩) 19 cap] w fun e w' => e = .returned (.tuple #[.int .i64 (parseF y mo d h mi se), .bool (validB y mo d h mi se)]) ∧ w' = w := by
  have c0 := hc 0 _ rfl; have c1 := hc 1 _ rfl; have c2 := hc 2 _ rfl; have c3 := hc 3 _ rfl; have c4 := hc 4 _ rfl; have c5 := hc 5 _ rfl; have c6 := hc 6 _ rfl; have c7 := hc 7 _ rfl; have c8 := hc 8 _ rfl; have c9 := hc 9 _ rfl
  have c10 := hc 10 _ rfl; have c11 := hc 11 _ rfl; have c12 := hc 12 _ rfl; have c13 := hc 13 _ rfl; have c14 := hc 14 _ rfl; have c15 := hc 15 _ rfl
  have c16 := hc 16 _ rfl; have c17 := hc 17 _ rfl; have c18 := hc 18 _ rfl
  clear hc
  have D0 := fun cap => dig4 0 4 0 19 cap blk (y / 100 / 10) (y / 100 % 10) (y % 100 / 10) (y % 100 % 10) w rfl rfl (by omega) (by omega) (by omega) (by omega) (by omega) (by omega) c0 c1 c2 c3
  have D1 := fun cap => dig2 5 7 5 19 cap blk (mo / 10) (mo % 10) w rfl rfl (by omega) (by omega) (by omega) (by omega) c5 c6
  have D2 := fun cap => dig2 8 10 8 19 cap blk (d / 10) (d % 10) w rfl rfl (by omega) (by omega) (by omega) (by omega) c8 c9
  have D3 := fun cap => dig2 11 13 11 19 cap blk (h / 10) (h % 10) w rfl rfl (by omega) (by omega) (by omega) (by omega) c11 c12
  have D4 := fun cap => dig2 14 16 14 19 cap blk (mi / 10) (mi % 10) w rfl rfl (by omega) (by omega) (by omega) (by omega) c14 c15
  have D5 := fun cap => dig2 17 19 17 19 cap blk (se / 10) (se % 10) w rfl rfl (by omega) (by omega) (by omega) (by omega) c17 c18
  rw [show ((y / 100 / 10 * 10 + y / 100 % 10) * 10 + y % 100 / 10) * 10 + y % 100 % 10 = y by omega] at D0
  have HD0 := hide D0; clear D0
  rw [show mo / 10 * 10 + mo % 10 = mo by omega] at D1
  have HD1 := hide D1; clear D1
  rw [show d / 10 * 10 + d % 10 = d by omega] at D2
  have HD2 := hide D2; clear D2
  rw [show h / 10 * 10 + h % 10 = h by omega] at D3
  have HD3 := hide D3; clear D3
  rw [show mi / 10 * 10 + mi % 10 = mi by omega] at D4
  have HD4 := hide D4; clear D4
  rw [show se / 10 * 10 + se % 10 = se by omega] at D5
  have HD5 := hide D5; clear D5
  have hdm := dim_bd y mo
  go_enter Yba.func6, Yba.ntmps6
  go_wp2_with fail
  refine (HD0.out _).mono ?_
  rintro e w' ⟨rfl, rfl⟩
  go_wp2_with fail
  refine (HD1.out _).mono ?_
  rintro e w' ⟨rfl, rfl⟩
  go_wp2_with fail
  refine (HD2.out _).mono ?_
  rintro e w' ⟨rfl, rfl⟩
  go_wp2_with fail
  refine (HD3.out _).mono ?_
  rintro e w' ⟨rfl, rfl⟩
  go_wp2_with fail
  refine (HD4.out _).mono ?_
  rintro e w' ⟨rfl, rfl⟩
  go_wp2_with fail
  refine (HD5.out _).mono ?_
  rintro e w' ⟨rfl, rfl⟩
  clear HD0 HD1 HD2 HD3 HD4 HD5 c0 c1 c2 c3 c4 c5 c6 c7 c8 c9 c10 c11 c12 c13 c14 c15 c16 c17 c18
  by_cases e0 : 1 ≤ mo
  rotate_left
  · skip
    go_wp2_with (first | (go_at_call 12; refine (daysIn_any _ _ _ y0 y1 (by omega) (by omega)).mono ?_; rintro e w'' ⟨rfl, rfl⟩) | (go_at_call 13; refine (dfe_any _ _ _ _ y0 y1 (by omega) (by omega) (by omega) (by omega)).mono ?_; rintro e w'' ⟨rfl, rfl⟩))
    go_ret2
    exact ⟨ret_ib (parse_f (by omega)) (valid_f (by omega)).symm, rfl⟩
  by_cases e1 : mo ≤ 12
  rotate_left
  · skip
    go_wp2_with (first | (go_at_call 12; refine (daysIn_any _ _ _ y0 y1 (by omega) (by omega)).mono ?_; rintro e w'' ⟨rfl, rfl⟩) | (go_at_call 13; refine (dfe_any _ _ _ _ y0 y1 (by omega) (by omega) (by omega) (by omega)).mono ?_; rintro e w'' ⟨rfl, rfl⟩))
    go_ret2
    exact ⟨ret_ib (parse_f (by omega)) (valid_f (by omega)).symm, rfl⟩
  by_cases e2 : 1 ≤ d
  rotate_left
  · skip
    go_wp2_with (first | (go_at_call 12; refine (daysIn_any _ _ _ y0 y1 (by omega) (by omega)).mono ?_; rintro e w'' ⟨rfl, rfl⟩) | (go_at_call 13; refine (dfe_any _ _ _ _ y0 y1 (by omega) (by omega) (by omega) (by omega)).mono ?_; rintro e w'' ⟨rfl, rfl⟩))
    go_ret2
    exact ⟨ret_ib (parse_f (by omega)) (valid_f (by omega)).symm, rfl⟩
  by_cases e3 : d ≤ dim y mo
  rotate_left
  · skip
    go_wp2_with (first | (go_at_call 12; refine (daysIn_any _ _ _ y0 y1 (by omega) (by omega)).mono ?_; rintro e w'' ⟨rfl, rfl⟩) | (go_at_call 13; refine (dfe_any _ _ _ _ y0 y1 (by omega) (by omega) (by omega) (by omega)).mono ?_; rintro e w'' ⟨rfl, rfl⟩))
    go_ret2
    exact ⟨ret_ib (parse_f (by omega)) (valid_f (by omega)).symm, rfl⟩
  by_cases e4 : h ≤ 23
  rotate_left
  · skip
    go_wp2_with (first | (go_at_call 12; refine (daysIn_any _ _ _ y0 y1 (by omega) (by omega)).mono ?_; rintro e w'' ⟨rfl, rfl⟩) | (go_at_call 13; refine (dfe_any _ _ _ _ y0 y1 (by omega) (by omega) (by omega) (by omega)).mono ?_; rintro e w'' ⟨rfl, rfl⟩))
    go_ret2
    exact ⟨ret_ib (parse_f (by omega)) (valid_f (by omega)).symm, rfl⟩
  by_cases e5 : mi ≤ 59
  rotate_left
  · skip
    go_wp2_with (first | (go_at_call 12; refine (daysIn_any _ _ _ y0 y1 (by omega) (by omega)).mono ?_; rintro e w'' ⟨rfl, rfl⟩) | (go_at_call 13; refine (dfe_any _ _ _ _ y0 y1 (by omega) (by omega) (by omega) (by omega)).mono ?_; rintro e w'' ⟨rfl, rfl⟩))
    go_ret2
    exact ⟨ret_ib (parse_f (by omega)) (valid_f (by omega)).symm, rfl⟩
  by_cases e6 : se ≤ 59
  rotate_left
  · skip
    go_wp2_with (first | (go_at_call 12; refine (daysIn_any _ _ _ y0 y1 (by omega) (by omega)).mono ?_; rintro e w'' ⟨rfl, rfl⟩) | (go_at_call 13; refine (dfe_any _ _ _ _ y0 y1 (by omega) (by omega) (by omega) (by omega)).mono ?_; rintro e w'' ⟨rfl, rfl⟩))
    go_ret2
    exact ⟨ret_ib (parse_f (by omega)) (valid_f (by omega)).symm, rfl⟩
  have hdf := dfe_bd y mo d y0 y1 (by omega) (by omega) (by omega) (by omega)
  go_wp2_with (first | (go_at_call 12; refine (daysIn_any _ _ _ y0 y1 (by omega) (by omega)).mono ?_; rintro e w'' ⟨rfl, rfl⟩) | (go_at_call 13; refine (dfe_any _ _ _ _ y0 y1 (by omega) (by omega) (by omega) (by omega)).mono ?_; rintro e w'' ⟨rfl, rfl⟩))
  go_ret2
  exact ⟨ret_ib (parse_t (by omega)) (valid_t (by omega)).symm, rfl⟩

set_option maxRecDepth 100000 in
set_option maxHeartbeats 8000000 in
theorem parse_sz (y mo d h mi se : Int) (blk cap : Nat) (w : World) (y0 : 0 ≤ y) (y1 : y ≤ 9999) (m0 : 0 ≤ mo) (m1 : mo ≤ 99) (d0 : 0 ≤ d) (d1 : d ≤ 99) (h0 : 0 ≤ h) (h1 : h ≤ 99) (i0 : 0 ≤ mi) (i1 : mi ≤ 99) (s0 : 0 ≤ se) (s1 : se ≤ 99)
    (hc : ∀ i u, (textF y mo d h mi true se true)[i]? = some u → w.cell? ⟨blk, i, none⟩ = some (.int .u8 u)) :
    Calls Yba.prog 6 #[.slice (some ⟨blk, 0, none⟩) 20 cap] w fun e w' => e = .returned (.tuple #[.int .i64 (parseF y mo d h mi se), .bool (validB y mo d h mi se)]) ∧ w' = w := by
  have c0 := hc 0 _ rfl; have c1 := hc 1 _ rfl; have c2 := hc 2 _ rfl; have c3 := hc 3 _ rfl; have c4 := hc 4 _ rfl; have c5 := hc 5 _ rfl; have c6 := hc 6 _ rfl; have c7 := hc 7 _ rfl; have c8 := hc 8 _ rfl; have c9 := hc 9 _ rfl
  have c10 := hc 10 _ rfl; have c11 := hc 11 _ rfl; have c12 := hc 12 _ rfl; have c13 := hc 13 _ rfl; have c14 := hc 14 _ rfl; have c15 := hc 15 _ rfl
  have c16 := hc 16 _ rfl; have c17 := hc 17 _ rfl; have c18 := hc 18 _ rfl
  have cz := hc 19 _ rfl
  clear hc
  have D0 := fun cap => dig4 0 4 0 20 cap blk (y / 100 / 10) (y / 100 % 10) (y % 100 / 10) (y % 100 % 10) w rfl rfl (by omega) (by omega) (by omega) (by omega) (by omega) (by omega) c0 c1 c2 c3
  have D1 := fun cap => dig2 5 7 5 20 cap blk (mo / 10) (mo % 10) w rfl rfl (by omega) (by omega) (by omega) (by omega) c5 c6
  have D2 := fun cap => dig2 8 10 8 20 cap blk (d / 10) (d % 10) w rfl rfl (by omega) (by omega) (by omega) (by omega) c8 c9
  have D3 := fun cap => dig2 11 13 11 20 cap blk (h / 10) (h % 10) w rfl rfl (by omega) (by omega) (by omega) (by omega) c11 c12
  have D4 := fun cap => dig2 14 16 14 20 cap blk (mi / 10) (mi % 10) w rfl rfl (by omega) (by omega) (by omega) (by omega) c14 c15
  have D5 := fun cap => dig2 17 19 17 20 cap blk (se / 10) (se % 10) w rfl rfl (by omega) (by omega) (by omega) (by omega) c17 c18
  rw [show ((y / 100 / 10 * 10 + y / 100 % 10) * 10 + y % 100 / 10) * 10 + y % 100 % 10 = y by omega] at D0
  have HD0 := hide D0; clear D0
  rw [show mo / 10 * 10 + mo % 10 = mo by omega] at D1
  have HD1 := hide D1; clear D1
  rw [show d / 10 * 10 + d % 10 = d by omega] at D2
  have HD2 := hide D2; clear D2
  rw [show h / 10 * 10 + h % 10 = h by omega] at D3
  have HD3 := hide D3; clear D3
  rw [show mi / 10 * 10 + mi % 10 = mi by omega] at D4
  have HD4 := hide D4; clear D4
  rw [show se / 10 * 10 + se % 10 = se by omega] at D5
  have HD5 := hide D5; clear D5
  have hdm := dim_bd y mo
  go_enter Yba.func6, Yba.ntmps6
  go_wp2_with fail
  refine (HD0.out _).mono ?_
  rintro e w' ⟨rfl, rfl⟩
  go_wp2_with fail
  refine (HD1.out _).mono ?_
  rintro e w' ⟨rfl, rfl⟩
  go_wp2_with fail
  refine (HD2.out _).mono ?_
  rintro e w' ⟨rfl, rfl⟩
  go_wp2_with fail
  refine (HD3.out _).mono ?_
  rintro e w' ⟨rfl, rfl⟩
  go_wp2_with fail
  refine (HD4.out _).mono ?_
  rintro e w' ⟨rfl, rfl⟩
  go_wp2_with fail
  refine (HD5.out _).mono ?_
  rintro e w' ⟨rfl, rfl⟩
  clear HD0 HD1 HD2 HD3 HD4 HD5 c0 c1 c2 c3 c4 c5 c6 c7 c8 c9 c10 c11 c12 c13 c14 c15 c16 c17 c18 cz
  by_cases e0 : 1 ≤ mo
  rotate_left
  · skip
    go_wp2_with (first | (go_at_call 12; refine (daysIn_any _ _ _ y0 y1 (by omega) (by omega)).mono ?_; rintro e w'' ⟨rfl, rfl⟩) | (go_at_call 13; refine (dfe_any _ _ _ _ y0 y1 (by omega) (by omega) (by omega) (by omega)).mono ?_; rintro e w'' ⟨rfl, rfl⟩))
    go_ret2
    exact ⟨ret_ib (parse_f (by omega)) (valid_f (by omega)).symm, rfl⟩
  by_cases e1 : mo ≤ 12
  rotate_left
  · skip
    go_wp2_with (first | (go_at_call 12; refine (daysIn_any _ _ _ y0 y1 (by omega) (by omega)).mono ?_; rintro e w'' ⟨rfl, rfl⟩) | (go_at_call 13; refine (dfe_any _ _ _ _ y0 y1 (by omega) (by omega) (by omega) (by omega)).mono ?_; rintro e w'' ⟨rfl, rfl⟩))
    go_ret2
    exact ⟨ret_ib (parse_f (by omega)) (valid_f (by omega)).symm, rfl⟩
  by_cases e2 : 1 ≤ d
  rotate_left
  · skip
    go_wp2_with (first | (go_at_call 12; refine (daysIn_any _ _ _ y0 y1 (by omega) (by omega)).mono ?_; rintro e w'' ⟨rfl, rfl⟩) | (go_at_call 13; refine (dfe_any _ _ _ _ y0 y1 (by omega) (by omega) (by omega) (by omega)).mono ?_; rintro e w'' ⟨rfl, rfl⟩))
    go_ret2
    exact ⟨ret_ib (parse_f (by omega)) (valid_f (by omega)).symm, rfl⟩
  by_cases e3 : d ≤ dim y mo
  rotate_left
  · skip
    go_wp2_with (first | (go_at_call 12; refine (daysIn_any _ _ _ y0 y1 (by omega) (by omega)).mono ?_; rintro e w'' ⟨rfl, rfl⟩) | (go_at_call 13; refine (dfe_any _ _ _ _ y0 y1 (by omega) (by omega) (by omega) (by omega)).mono ?_; rintro e w'' ⟨rfl, rfl⟩))
    go_ret2
    exact ⟨ret_ib (parse_f (by omega)) (valid_f (by omega)).symm, rfl⟩
  by_cases e4 : h ≤ 23
  rotate_left
  · skip
    go_wp2_with (first | (go_at_call 12; refine (daysIn_any _ _ _ y0 y1 (by omega) (by omega)).mono ?_; rintro e w'' ⟨rfl, rfl⟩) | (go_at_call 13; refine (dfe_any _ _ _ _ y0 y1 (by omega) (by omega) (by omega) (by omega)).mono ?_; rintro e w'' ⟨rfl, rfl⟩))
    go_ret2
    exact ⟨ret_ib (parse_f (by omega)) (valid_f (by omega)).symm, rfl⟩
  by_cases e5 : mi ≤ 59
  rotate_left
  · skip
    go_wp2_with (first | (go_at_call 12; refine (daysIn_any _ _ _ y0 y1 (by omega) (by omega)).mono ?_; rintro e w'' ⟨rfl, rfl⟩) | (go_at_call 13; refine (dfe_any _ _ _ _ y0 y1 (by omega) (by omega) (by omega) (by omega)).mono ?_; rintro e w'' ⟨rfl, rfl⟩))
    go_ret2
    exact ⟨ret_ib (parse_f (by omega)) (valid_f (by omega)).symm, rfl⟩
  by_cases e6 : se ≤ 59
  rotate_left
  · skip
    go_wp2_with (first | (go_at_call 12; refine (daysIn_any _ _ _ y0 y1 (by omega) (by omega)).mono ?_; rintro e w'' ⟨rfl, rfl⟩) | (go_at_call 13; refine (dfe_any _ _ _ _ y0 y1 (by omega) (by omega) (by omega) (by omega)).mono ?_; rintro e w'' ⟨rfl, rfl⟩))
    go_ret2
    exact ⟨ret_ib (parse_f (by omega)) (valid_f (by omega)).symm, rfl⟩
  have hdf := dfe_bd y mo d y0 y1 (by omega) (by omega) (by omega) (by omega)
  go_wp2_with (first | (go_at_call 12; refine (daysIn_any _ _ _ y0 y1 (by omega) (by omega)).mono ?_; rintro e w'' ⟨rfl, rfl⟩) | (go_at_call 13; refine (dfe_any _ _ _ _ y0 y1 (by omega) (by omega) (by omega) (by omega)).mono ?_; rintro e w'' ⟨rfl, rfl⟩))
  go_ret2
  exact ⟨ret_ib (parse_t (by omega)) (valid_t (by omega)).symm, rfl⟩

end Go.Proofs.Ybulkbmlc
