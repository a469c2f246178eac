/-
  LawS3162BLeave: the small callees; slices.Index and slices.Contains at a triple.
-/
import Derived.Test.YbulkbmlqRows
import Derived.WalkKit
import Derived.WalkSpells
import Derived.Laws.StructEq
import Derived.Deep.QuietTactic
import Derived.BigQuiet
namespace Go.Proofs.Ybulkbmlq
open Go.RowKit
set_option linter.unusedVariables false

theorem hide {p : Prop} (h : p) : Hid p := h
theorem ret_str {a b : ByteArray} (h : a = b) : Ending.returned (.string a) = .returned (.string b) := by rw [h]
theorem ret_bool {a b : Bool} (h : a = b) : Ending.returned (.bool a) = .returned (.bool b) := by rw [h]
theorem ret_int {k : IntKind} {a b : Int} (h : a = b) : Ending.returned (.int k a) = .returned (.int k b) := by rw [h]

def clS (k : Int) : ByteArray := if k = 0 then ⟨#[]⟩ else if k = 1 then ⟨#[101, 97, 115, 116]⟩ else ⟨#[119, 101, 115, 116]⟩
def grS (k : Int) : ByteArray := if k = 0 then ⟨#[]⟩ else if k = 1 then ⟨#[103, 49]⟩ else ⟨#[103, 50]⟩
def idS (k : Int) : ByteArray := if k = 0 then ⟨#[97]⟩ else if k = 1 then ⟨#[98]⟩ else if k = 2 then ⟨#[99]⟩ else ⟨#[100]⟩

theorem cluster_any (k : Int) (w : World) : Calls Yba.prog 7 #[.int .i64 k] w fun e w' => e = .returned (.string (clS k)) ∧ w' = w := by
  by_cases c0 : k = 0
  · subst c0
    go_enter Yba.func7, Yba.ntmps7
    go_wp2
    go_ret
    exact ⟨rfl, rfl⟩
  by_cases c1 : k = 1
  · subst c1
    go_enter Yba.func7, Yba.ntmps7
    go_wp2
    go_ret
    exact ⟨rfl, rfl⟩
  · go_enter Yba.func7, Yba.ntmps7
    go_wp2
    go_ret
    exact ⟨ret_str (by simp [clS, c0, c1]), rfl⟩
theorem group_any (k : Int) (w : World) : Calls Yba.prog 8 #[.int .i64 k] w fun e w' => e = .returned (.string (grS k)) ∧ w' = w := by
  by_cases c0 : k = 0
  · subst c0
    go_enter Yba.func8, Yba.ntmps8
    go_wp2
    go_ret
    exact ⟨rfl, rfl⟩
  by_cases c1 : k = 1
  · subst c1
    go_enter Yba.func8, Yba.ntmps8
    go_wp2
    go_ret
    exact ⟨rfl, rfl⟩
  · go_enter Yba.func8, Yba.ntmps8
    go_wp2
    go_ret
    exact ⟨ret_str (by simp [grS, c0, c1]), rfl⟩
theorem id_any (k : Int) (w : World) : Calls Yba.prog 9 #[.int .i64 k] w fun e w' => e = .returned (.string (idS k)) ∧ w' = w := by
  by_cases c0 : k = 0
  · subst c0
    go_enter Yba.func9, Yba.ntmps9
    go_wp2
    go_ret
    exact ⟨rfl, rfl⟩
  by_cases c1 : k = 1
  · subst c1
    go_enter Yba.func9, Yba.ntmps9
    go_wp2
    go_ret
    exact ⟨rfl, rfl⟩
  by_cases c2 : k = 2
  · subst c2
    go_enter Yba.func9, Yba.ntmps9
    go_wp2
    go_ret
    exact ⟨rfl, rfl⟩
  · go_enter Yba.func9, Yba.ntmps9
    go_wp2
    go_ret
    exact ⟨ret_str (by simp [idS, c0, c1, c2]), rfl⟩

/-! ### triples -/
structure Tr where
  c : Int
  g : Int
  i : Int
def encT (t : Tr) : List Value := [.int .i64 t.c, .int .i64 t.g, .int .i64 t.i]
def eqT (x y : Tr) : Bool := x.c == y.c && x.g == y.g && x.i == y.i
theorem eqT_iff (x y : Tr) : eqT x y = true ↔ x = y := by
  cases x; cases y; simp [eqT, and_assoc]
theorem run_eqT (a b c a' b' c' : Int) (w : World) : (binOp .eql 27 (.agg #[.int .i64 a, .int .i64 b, .int .i64 c]) (.agg #[.int .i64 a', .int .i64 b', .int .i64 c'])).run Yba.prog w = .ok (.bool (eqT ⟨a, b, c⟩ ⟨a', b', c'⟩)) w := by
  have u3 := Yba.underlying3
  have a3 := Yba.isAgg3
  have z3 := Yba.sizeOf3
  have hS : Yba.prog.underlying 27 = some (.struct (Yba.prog.fieldsOf 27)) := by kernel_rfl
  have hp : Yba.prog.stoodInHeld 27 = false := by kernel_rfl
  rw [run_eql_struct, show (10000 : Nat) = 9999 + 1 from rfl, run_equalIn_agg w 9999 27 _ _ hS hp]
  simp only [Program.fieldsOf, Yba.underlying27]
  go_simp
  by_cases h1 : a = a' <;> by_cases h2 : b = b' <;> by_cases h3 : c = c' <;> simp [eqT, h1, h2, h3]

theorem below_drewN' (B : Nat) (w : World) (n : Nat) : Below B w (w.drewN n) := ⟨rfl, rfl, rfl, Nat.le_refl _, fun _ _ => rfl⟩
/-- A slice of triples: nil and none; or a row. -/
def TS (w : World) (v : Value) (L : List Tr) : Prop :=
  (v = .slice none 0 0 ∧ L = []) ∨ ∃ g cap, v = .slice (some ⟨g, 0, none⟩) L.length cap ∧
    ∀ j (h : j < L.length), w.cell? ⟨g, j * 3, none⟩ = some (.int .i64 L[j].c) ∧ w.cell? ⟨g, j * 3 + 1, none⟩ = some (.int .i64 L[j].g) ∧ w.cell? ⟨g, j * 3 + 2, none⟩ = some (.int .i64 L[j].i)
theorem TS.below {w w' : World} {v : Value} {L : List Tr} (h : TS w v L) (hb : Below w.heap.size w w') : TS w' v L := by
  rcases h with h | ⟨g, cap, e, hc⟩
  · exact Or.inl h
  · refine Or.inr ⟨g, cap, e, fun j hj => ?_⟩
    have hlt : g < w.heap.size := by
      rcases Nat.lt_or_ge g w.heap.size with h | h
      · exact h
      · have := (hc j hj).1; simp [World.cell?, Array.getElem?_eq_none h] at this
    exact ⟨(hb.cell (p := ⟨g, j * 3, none⟩) hlt).trans (hc j hj).1, (hb.cell (p := ⟨g, j * 3 + 1, none⟩) hlt).trans (hc j hj).2.1, (hb.cell (p := ⟨g, j * 3 + 2, none⟩) hlt).trans (hc j hj).2.2⟩

def hasT (L : List Tr) (x : Tr) : Bool := L.any fun y => eqT x y
theorem hasT_iff (L : List Tr) (x : Tr) : hasT L x = true ↔ x ∈ L := by
  simp only [hasT, List.any_eq_true, eqT_iff]
  constructor
  · rintro ⟨y, hy, rfl⟩; exact hy
  · intro h; exact ⟨x, h, rfl⟩
theorem hasT_none {L : List Tr} {x : Tr} (h : ∀ j (hj : j < L.length), eqT x L[j] = false) : hasT L x = false := by
  simp only [hasT, List.any_eq_false]
  intro y hy
  obtain ⟨j, hj, rfl⟩ := List.mem_iff_getElem.1 hy
  simp [h j hj]
theorem hasT_some {L : List Tr} {x : Tr} {k : Nat} (hk : k < L.length) (h : eqT x L[k] = true) : hasT L x = true := by
  simp only [hasT, List.any_eq_true]
  exact ⟨_, List.getElem_mem hk, h⟩

set_option maxRecDepth 100000 in
set_option maxHeartbeats 2000000 in
theorem index_any (v : Value) (L : List Tr) (x : Tr) (w : World) (hT : TS w v L) (hl : L.length ≤ 4096) :
    Calls Yba.prog 13 #[v, .agg #[.int .i64 x.c, .int .i64 x.g, .int .i64 x.i]] w fun e w' => ∃ r : Int, e = .returned (.int .i64 r) ∧ decide (0 ≤ r) = hasT L x ∧ Below w.heap.size w w' := by
  obtain ⟨a, b, c⟩ := x
  have heq := run_eqT
  rcases hT with ⟨rfl, rfl⟩ | ⟨g, cap, rfl, hc⟩
  · go_enter Yba.func13, Yba.ntmps13
    go_wp2
    refine wp_loop_rounds 1 ?_
    rw [rounds_succ]
    go_wp2
    go_ret
    exact ⟨_, rfl, rfl, (Below.refl _ _).alloc (Nat.le_refl _) _⟩
  · have HC := hide hc
    clear hc
    go_enter Yba.func13, Yba.ntmps13
    go_wp2
    go_loopw [8] (fun i wr => ∃ k : Nat, k ≤ L.length ∧ i = .int .i64 k ∧ (∀ j (hj : j < L.length), j < k → eqT ⟨a, b, c⟩ L[j] = false) ∧ (∃ q, wr = (w.alloc (.cells #[.int .i64 a, .int .i64 b, .int .i64 c] 27)).drewN q)) (fun i _ => L.length - (intOf i).toNat)
    case atStart => exact ⟨0, Nat.zero_le _, rfl, fun j hj h => absurd h (by omega), 0, rfl⟩
    case round =>
      obtain ⟨k, hk, rfl, hno, q, rfl⟩ := hrel
      have HN := hide hno; clear hno
      by_cases hlt : k < L.length
      · have hcell := HC.out k hlt
        have hb : g < w.heap.size := by
          rcases Nat.lt_or_ge g w.heap.size with h | h
          · exact h
          · have := hcell.1; simp [World.cell?, Array.getElem?_eq_none h] at this
        obtain ⟨y, hy⟩ : ∃ y, y = L[k] := ⟨_, rfl⟩
        rw [← hy] at hcell
        have HY := hide hy; clear hy
        obtain ⟨ya, yb, yc⟩ := y
        obtain ⟨k1, k2, k3⟩ := hcell
        dsimp only at k1 k2 k3
        cases hq : eqT ⟨a, b, c⟩ ⟨ya, yb, yc⟩
        · have HQ : Hid (eqT ⟨a, b, c⟩ L[k] = false) := by rw [← HY.out]; exact hq
          go_wp2
          go_quiet (fail)
          go_wp2
          go_roundw
          case rel => exact ⟨k + 1, by omega, by go_num, fun j hj h => by
            by_cases e : j = k
            · subst e; exact HQ.out
            · exact HN.out j hj (by omega), _, rfl⟩
          case measure => simp [intOf]; omega
        · have HQ : Hid (eqT ⟨a, b, c⟩ L[k] = true) := by rw [← HY.out]; exact hq
          go_wp2
          go_quiet (fail)
          go_wp2
          go_ret
          exact ⟨_, rfl, by rw [hasT_some hlt HQ.out]; simp, ((Below.refl _ _).alloc (Nat.le_refl _) _).trans ((below_drewN' _ _ _).trans (below_drewN' _ _ _))⟩
      · go_wp2
        go_ret
        exact ⟨_, rfl, by rw [hasT_none fun j hj => HN.out j hj (by omega)]; simp, ((Below.refl _ _).alloc (Nat.le_refl _) _).trans (below_drewN' _ _ _)⟩

set_option maxHeartbeats 1000000 in
theorem contains_any (v : Value) (L : List Tr) (x : Tr) (w : World) (hT : TS w v L) (hl : L.length ≤ 4096) :
    Calls Yba.prog 6 #[v, .agg #[.int .i64 x.c, .int .i64 x.g, .int .i64 x.i]] w fun e w' => e = .returned (.bool (hasT L x)) ∧ Below w.heap.size w w' := by
  have HI : Hid (∀ o, Calls Yba.prog 13 #[v, .agg #[.int .i64 x.c, .int .i64 x.g, .int .i64 x.i]] (w.alloc o) fun e w' => ∃ r : Int, e = .returned (.int .i64 r) ∧ decide (0 ≤ r) = hasT L x ∧ Below (w.alloc o).heap.size (w.alloc o) w') :=
    fun o => index_any v L x (w.alloc o) (hT.below ((Below.refl _ _).alloc (Nat.le_refl _) _)) hl
  go_enter Yba.func6, Yba.ntmps6
  go_wp2_with fail
  refine (HI.out _).mono ?_
  rintro e w1 ⟨r, rfl, hr, hb⟩
  have HR := hide hr; have HB := hide hb
  clear hr hb
  go_wp2
  go_ret
  exact ⟨ret_bool HR.out, ((Below.refl _ _).alloc (Nat.le_refl _) _).trans (HB.out.mono (by simp))⟩
end Go.Proofs.Ybulkbmlq
