/-
  LawS3161AExact: the small callees (leap, month's days, valid, model, days in a month, days from the epoch).
-/
import Derived.Test.YbulkbmlcRows
import Derived.WalkKit
import Derived.WalkSpells
namespace Go.Proofs.Ybulkbmlc
open Go.RowKit

theorem ret_int {k : IntKind} {a b : Int} (h : a = b) : Ending.returned (.int k a) = .returned (.int k b) := by rw [h]
theorem ret_bool {a b : Bool} (h : a = b) : Ending.returned (.bool a) = .returned (.bool b) := by rw [h]

/-! ### Plain functions -/
def leapB (y : Int) : Bool := decide (y % 4 = 0) && (decide (y % 100 ≠ 0) || decide (y % 400 = 0))
def dim (y m : Int) : Int := if m = 2 then (if leapB y = true then 29 else 28) else if m = 4 ∨ m = 6 ∨ m = 9 ∨ m = 11 then 30 else 31
def validB (y mo d h mi se : Int) : Bool := decide (1 ≤ mo ∧ mo ≤ 12 ∧ 1 ≤ d ∧ d ≤ dim y mo ∧ h ≤ 23 ∧ mi ≤ 59 ∧ se ≤ 59)
theorem dim_bd (y m : Int) : 28 ≤ dim y m ∧ dim y m ≤ 31 := by
  unfold dim; split <;> split <;> omega

theorem leap_any (y : Int) (w : World) (h0 : 0 ≤ y) (h1 : y ≤ 9999) :
    Calls Yba.prog 16 #[.int .i64 y] w fun e w' => e = .returned (.bool (leapB y)) ∧ w' = w := by
  by_cases c1 : y % 4 = 0 <;> by_cases c2 : y % 100 = 0 <;> by_cases c3 : y % 400 = 0
  all_goals
    go_enter Yba.func16, Yba.ntmps16
    go_wp2
    go_ret
    exact ⟨ret_bool (by simp [leapB, c1, c2, c3]), rfl⟩

set_option maxHeartbeats 2000000 in
theorem mdays_any (y m : Int) (w : World) (h0 : 0 ≤ y) (h1 : y ≤ 9999) (m0 : 1 ≤ m) (m1 : m ≤ 12) :
    Calls Yba.prog 14 #[.int .i64 y, .int .i64 m] w fun e w' => e = .returned (.int .i64 (dim y m)) ∧ Below w.heap.size w w' := by
  rcases (show m = 1 ∨ m = 2 ∨ m = 3 ∨ m = 4 ∨ m = 5 ∨ m = 6 ∨ m = 7 ∨ m = 8 ∨ m = 9 ∨ m = 10 ∨ m = 11 ∨ m = 12 by omega) with e | e | e | e | e | e | e | e | e | e | e | e
  all_goals subst e
  case inr.inl =>
    cases hl : leapB y
    all_goals
      go_enter Yba.func14, Yba.ntmps14
      go_wp2_with (go_at_call 16; refine (leap_any _ _ h0 h1).mono ?_; rintro e w' ⟨rfl, rfl⟩)
      go_ret
      exact ⟨ret_int (by simp [dim, hl]), (Below.refl _ _).alloc (Nat.le_refl _) _⟩
  all_goals
    go_enter Yba.func14, Yba.ntmps14
    go_wp2
    go_ret
    exact ⟨ret_int (by simp [dim]), (Below.refl _ _).alloc (Nat.le_refl _) _⟩

set_option maxHeartbeats 2000000 in
theorem daysIn_any (y m : Int) (w : World) (h0 : 0 ≤ y) (h1 : y ≤ 9999) (m0 : 1 ≤ m) (m1 : m ≤ 12) :
    Calls Yba.prog 12 #[.int .i64 y, .int .i64 m] w fun e w' => e = .returned (.int .i64 (dim y m)) ∧ w' = w := by
  rcases (show m = 1 ∨ m = 2 ∨ m = 3 ∨ m = 4 ∨ m = 5 ∨ m = 6 ∨ m = 7 ∨ m = 8 ∨ m = 9 ∨ m = 10 ∨ m = 11 ∨ m = 12 by omega) with e | e | e | e | e | e | e | e | e | e | e | e
  all_goals subst e
  case inr.inl =>
    by_cases c1 : y % 4 = 0 <;> by_cases c2 : y % 100 = 0 <;> by_cases c3 : y % 400 = 0
    all_goals
      go_enter Yba.func12, Yba.ntmps12
      go_wp2
      go_ret
      exact ⟨ret_int (by simp [dim, leapB, c1, c2, c3]), rfl⟩
  all_goals
    go_enter Yba.func12, Yba.ntmps12
    go_wp2
    go_ret
    exact ⟨ret_int (by simp [dim]), rfl⟩

def dfe (y m d : Int) : Int :=
  let y' := if m ≤ 2 then y - 1 else y
  let era := (y' + 400) / 400 - 1
  let yoe := y' - era * 400
  era * 146097 + (yoe * 365 + yoe / 4 - yoe / 100 + ((153 * ((m + 9) % 12) + 2) / 5 + d - 1)) - 719468

set_option maxHeartbeats 1000000 in
theorem dfe_any (y m d : Int) (w : World) (h0 : 0 ≤ y) (h1 : y ≤ 9999) (m0 : 1 ≤ m) (m1 : m ≤ 12) (d0 : 1 ≤ d) (d1 : d ≤ 31) :
    Calls Yba.prog 13 #[.int .i64 y, .int .i64 m, .int .i64 d] w fun e w' => e = .returned (.int .i64 (dfe y m d)) ∧ w' = w := by
  by_cases c : m ≤ 2
  · go_enter Yba.func13, Yba.ntmps13
    go_wp2
    go_ret
    exact ⟨ret_int (by simp [dfe, c]), rfl⟩
  · go_enter Yba.func13, Yba.ntmps13
    go_wp2
    go_ret
    exact ⟨ret_int (by simp [dfe, Int.not_le.2 c]), rfl⟩

set_option maxHeartbeats 4000000 in
theorem valid_any (y mo d h mi se : Int) (w : World) (h0 : 0 ≤ y) (h1 : y ≤ 9999) :
    Calls Yba.prog 8 #[.int .i64 y, .int .i64 mo, .int .i64 d, .int .i64 h, .int .i64 mi, .int .i64 se] w fun e w' => e = .returned (.bool (validB y mo d h mi se)) ∧ Below w.heap.size w w' := by
  by_cases c1 : 1 ≤ mo
  · by_cases c2 : mo ≤ 12
    · by_cases c3 : 1 ≤ d
      · have hd := dim_bd y mo
        by_cases c4 : d ≤ dim y mo
        · by_cases c5 : h ≤ 23
          · by_cases c6 : mi ≤ 59
            · by_cases c7 : se ≤ 59
              all_goals
                go_enter Yba.func8, Yba.ntmps8
                go_wp2_with (go_at_call 14; refine (mdays_any _ _ _ h0 h1 c1 c2).mono ?_; rintro e w' ⟨rfl, hb⟩)
                go_ret
                exact ⟨ret_bool (by first | (exact decide_eq_decide.2 (by omega)) | (simp [validB]; omega)), hb⟩
            · go_enter Yba.func8, Yba.ntmps8
              go_wp2_with (go_at_call 14; refine (mdays_any _ _ _ h0 h1 c1 c2).mono ?_; rintro e w' ⟨rfl, hb⟩)
              go_ret
              exact ⟨ret_bool (by simp [validB]; omega), hb⟩
          · go_enter Yba.func8, Yba.ntmps8
            go_wp2_with (go_at_call 14; refine (mdays_any _ _ _ h0 h1 c1 c2).mono ?_; rintro e w' ⟨rfl, hb⟩)
            go_ret
            exact ⟨ret_bool (by simp [validB]; omega), hb⟩
        · go_enter Yba.func8, Yba.ntmps8
          go_wp2_with (go_at_call 14; refine (mdays_any _ _ _ h0 h1 c1 c2).mono ?_; rintro e w' ⟨rfl, hb⟩)
          go_ret
          exact ⟨ret_bool (by simp [validB]; omega), hb⟩
      · go_enter Yba.func8, Yba.ntmps8
        go_wp2
        go_ret
        exact ⟨ret_bool (by simp [validB]; omega), Below.refl _ _⟩
    · go_enter Yba.func8, Yba.ntmps8
      go_wp2
      go_ret
      exact ⟨ret_bool (by simp [validB]; omega), Below.refl _ _⟩
  · go_enter Yba.func8, Yba.ntmps8
    go_wp2
    go_ret
    exact ⟨ret_bool (by simp [validB]; omega), Below.refl _ _⟩

/-- days ahead of month m's first, from January on: m - 1 months. -/
def cum (y : Int) : Nat → Int
  | 0 => 0
  | n + 1 => cum y n + dim y (n + 1)
theorem cum_bd (y : Int) (n : Nat) (h : n ≤ 12) : 0 ≤ cum y n ∧ cum y n ≤ 31 * n := by
  induction n with
  | zero => simp [cum]
  | succ n ih => have := ih (by omega); have := dim_bd y (n + 1); simp only [cum]; omega
def before (y : Int) : Int := if 0 < y then 365 * y + (y - 1) / 4 - (y - 1) / 100 + (y - 1) / 400 + 1 else 0
def modelF (y mo d h mi se : Int) : Int := (before y + (d - 1 + cum y (mo.toNat - 1)) - 719528) * 86400 + h * 3600 + mi * 60 + se

set_option maxHeartbeats 2000000 in
theorem model_any (y mo d h mi se : Int) (w : World) (h0 : 0 ≤ y) (h1 : y ≤ 9999) (m0 : 1 ≤ mo) (m1 : mo ≤ 12) (d0 : 1 ≤ d) (d1 : d ≤ 31) (a0 : 0 ≤ h) (a1 : h ≤ 99) (b0 : 0 ≤ mi) (b1 : mi ≤ 99) (s0 : 0 ≤ se) (s1 : se ≤ 99) :
    Calls Yba.prog 9 #[.int .i64 y, .int .i64 mo, .int .i64 d, .int .i64 h, .int .i64 mi, .int .i64 se] w fun e w' => e = .returned (.int .i64 (modelF y mo d h mi se)) ∧ Below w.heap.size w w' := by
  by_cases c : 0 < y
  all_goals
    go_enter Yba.func9, Yba.ntmps9
    go_wp2
    go_loopw [14, 15] (fun t i wr => ∃ k : Nat, (k : Int) + 1 ≤ mo ∧ i = .int .i64 ((k : Int) + 1) ∧ t = .int .i64 (d - 1 + cum y k) ∧ Below w.heap.size w wr) (fun _ i _ => (mo - intOf i).toNat)
    case atStart => exact ⟨0, by omega, rfl, by simp [cum], Below.refl _ _⟩
    case round =>
      obtain ⟨k, hk, rfl, rfl, hb⟩ := hrel
      have hc := cum_bd y k (by omega)
      have hd := dim_bd y ((k : Int) + 1)
      by_cases hlt : (k : Int) + 1 < mo
      · go_wp2_with (go_at_call 14; refine (mdays_any _ _ _ h0 h1 (by omega) (by omega)).mono ?_; rintro e w' ⟨rfl, hb'⟩)
        go_roundw
        case rel => exact ⟨k + 1, by omega, by go_num, by simp only [cum]; go_num, hb.trans (hb'.mono hb.size)⟩
        case measure => simp [intOf]; omega
      · have hk' : k = mo.toNat - 1 := by omega
        have HK : Hid (k = mo.toNat - 1) := hk'
        clear hk'
        have hbf : 0 ≤ before y ∧ before y ≤ 4000000 := by unfold before; split <;> omega
        go_wp2
        go_ret
        refine ⟨ret_int ?_, hb⟩
        rw [modelF, ← HK.out, before]
        first | rw [if_pos c] | rw [if_neg (Int.not_lt.2 c)]
        try omega

end Go.Proofs.Ybulkbmlc
