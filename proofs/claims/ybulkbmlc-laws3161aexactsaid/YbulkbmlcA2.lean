/-
  LawS3161AExact: digits, the two digits' append, bytes.Equal.
-/
import Derived.Test.YbulkbmlcA1
import Derived.WalkKit
import Derived.WalkSpells
import Derived.Maps.AppendAt
namespace Go.Proofs.Ybulkbmlc
open Go.RowKit

theorem ret_ib {a b : Int} {x y : Bool} (h : a = b) (h' : x = y) : Ending.returned (.tuple #[.int .i64 a, .bool x]) = .returned (.tuple #[.int .i64 b, .bool y]) := by rw [h, h']

/-- the number that k digits from place 'from' on spell. -/
def numF (f : Nat → Int) (a : Nat) : Nat → Int
  | 0 => 0
  | k + 1 => numF f a k * 10 + f (a + k)
theorem numF_bd (f : Nat → Int) (a k : Nat) (hk : k ≤ 4) (hf : ∀ i, 0 ≤ f i ∧ f i ≤ 9) : 0 ≤ numF f a k ∧ numF f a k ≤ 9999 := by
  have := hf (a + 0); have := hf (a + 1); have := hf (a + 2); have := hf (a + 3)
  rcases (show k = 0 ∨ k = 1 ∨ k = 2 ∨ k = 3 ∨ k = 4 by omega) with rfl | rfl | rfl | rfl | rfl <;> simp only [numF] <;> omega

set_option maxHeartbeats 1000000 in
theorem digits_any (f : Nat → Int) (a b len cap blk : Nat) (w : World) (hab : a ≤ b) (hb4 : b ≤ a + 4) (hbl : b ≤ len) (hl : len ≤ 20) (hf : ∀ i, 0 ≤ f i ∧ f i ≤ 9)
    (hc : ∀ i, a ≤ i → i < b → w.cell? ⟨blk, i, none⟩ = some (.int .u8 (48 + f i))) :
    Calls Yba.prog 11 #[.slice (some ⟨blk, 0, none⟩) len cap, .int .i64 a, .int .i64 b] w fun e w' => e = .returned (.tuple #[.int .i64 (numF f a (b - a)), .bool true]) ∧ w' = w := by
  go_enter Yba.func11, Yba.ntmps11
  go_wp2
  go_loop [8, 9] (fun t i => ∃ k : Nat, a + k ≤ b ∧ i = .int .i64 ((a : Int) + k) ∧ t = .int .i64 (numF f a k)) (fun _ i => b - (intOf i).toNat)
  case atStart => exact ⟨0, by omega, by go_num, rfl⟩
  case round =>
    obtain ⟨k, hk, rfl, rfl⟩ := hrel
    have hn := numF_bd f a k (by omega) hf
    by_cases hlt : a + k < b
    · have hd := hf (a + k)
      have hcell := hc (a + k) (by omega) hlt
      clear hc hf
      go_wp2
      go_round
      case rel => exact ⟨k + 1, by omega, by go_num, by simp only [numF]; go_num⟩
      case measure => simp [intOf]; omega
    · have hk' : k = b - a := by omega
      have HK : Hid (k = b - a) := hk'
      clear hk'
      go_wp2
      go_ret2
      exact ⟨ret_ib (by rw [← HK.out]) rfl, rfl⟩

theorem Yba.info5 : (Yba.prog.info? 5).map (fun i => (i.zero, i.size, i.bytes)) = some (some (.int .u8 0), 1, 1) := by kernel_rfl

set_option maxHeartbeats 1000000 in
theorem d2_any (base g n : Nat) (xs : List Value) (v : Int) (w : World) (hown : w.ownsRow base 5 1 (.slice (some ⟨g, 0, none⟩) n 20) n xs) (hn : n + 2 ≤ 20) (h0 : 0 ≤ v) (h1 : v ≤ 99) :
    Calls Yba.prog 5 #[.slice (some ⟨g, 0, none⟩) n 20, .int .i64 v] w fun e w' => e = .returned (.slice (some ⟨g, 0, none⟩) (n + 2) 20) ∧
      w'.ownsRow base 5 1 (.slice (some ⟨g, 0, none⟩) (n + 2) 20) (n + 2) (xs ++ [.int .u8 (48 + v / 10), .int .u8 (48 + v % 10)]) ∧ w.grownBy w' (some g) := by
  obtain ⟨i0, hi, hz0, hz1, hz2⟩ := info_parts Yba.info5
  go_enter Yba.func5, Yba.ntmps5
  go_wp2_with (at_builtin; refine wpList_append_fits _ rfl _ _ 25 rfl base 5 i0 1 Yba.underlying25 hi hz1 g n 20 xs rfl (hown.alloc _) ⟨w.heap.size, 0, none⟩ 2 2 [.int .u8 (48 + v / 10), .int .u8 (48 + v % 10)] rfl rfl ?c1 ?c2 hn ?_)
  case c1 =>
    intro j u hj
    match j, hj with
    | 0, hj => simp at hj; subst hj; simp [Addr.add]
    | 1, hj => simp at hj; subst hj; simp [Addr.add]
  case c2 => intro u hu; simp at hu; rcases hu with rfl | rfl <;> rfl
  intro w1 hown1 hg1
  go_wp2
  go_ret
  exact ⟨rfl, hown1, (World.grownBy_alloc _ _ _).trans hg1⟩

theorem equal_any (xs : List Int) (g1 c1 g2 c2 : Nat) (w : World) (h1 : ∀ i, i < xs.length → w.cell? ⟨g1, 0 + i, none⟩ = some (.int .u8 (xs.getD i 0))) (h2 : ∀ i, i < xs.length → w.cell? ⟨g2, 0 + i, none⟩ = some (.int .u8 (xs.getD i 0))) :
    Calls Yba.prog 7 #[.slice (some ⟨g1, 0, none⟩) xs.length c1, .slice (some ⟨g2, 0, none⟩) xs.length c2] w fun e w' => e = .returned (.bool true) ∧ w' = w := by
  have e1 := run_convert_bytes_arg (P := Yba.prog) w 25 5 Yba.underlying25 Yba.underlying5 g1 0 xs.length c1 xs rfl h1 9 Yba.underlying9
  have e2 := run_convert_bytes_arg (P := Yba.prog) w 25 5 Yba.underlying25 Yba.underlying5 g2 0 xs.length c2 xs rfl h2 9 Yba.underlying9
  go_enter Yba.func7, Yba.ntmps7
  go_wp2
  go_ret
  exact ⟨ret_bool (by simp), rfl⟩
end Go.Proofs.Ybulkbmlc
