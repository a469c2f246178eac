/-
  LawS3161CHello: binary.ReadUvarint over the buffered reader, up to three bytes.
-/
import Derived.Test.YbulkbmlcFmtH9
import Derived.Lib.VarintBits
import Derived.Lib.Varint
namespace Go.Proofs.YbulkbmlcFmt
open Go.RowKit Go.Lib
set_option linter.unusedVariables false
set_option linter.unusedSimpArgs false

/-- The number that the stream begins with, from byte j on; none: it ends within the number. -/
def dec (j acc : Nat) : Bytes → Option (Nat × Bytes)
  | [] => none
  | b :: t => if b.toNat < 128 then some (acc + b.toNat * 128 ^ j, t) else dec (j + 1) (acc + b.toNat % 128 * 128 ^ j) t
/-- No number longer than three bytes. -/
def Good : Nat → Bytes → Prop
  | _, [] => True
  | j, b :: t => b.toNat < 128 ∨ (j < 2 ∧ Good (j + 1) t)
theorem eql_same' (a : Addr) (w : World) : (binOp .eql 34 (.iface 63 (.pointer (some a))) (.iface 63 (.pointer (some a)))).run Ybaf.prog w = .ok (.bool true) w := eql_same a w
theorem own_lt {p : Par} (ok : p.Ok) {k : Nat} (h : own p k) : 6 ≤ k := by
  have := ok.g1; have := ok.g2; have := ok.g3; have := ok.g4
  rcases h with h | h | h | h <;> omega

set_option maxHeartbeats 8000000 in
set_option maxRecDepth 100000 in
theorem uvarint_any {p : Par} (ok : p.Ok) {w : World} {rm : Bytes} (h : RS p w rm) (hg : Good 0 rm) (U : Addr) (hU : w.cell? ⟨4, 0, none⟩ = some (.iface 63 (.pointer (some U)))) (hE : w.cell? ⟨3, 0, none⟩ = some p.eof) :
    Calls Ybaf.prog 22 #[.iface 38 (.pointer (some ⟨p.rb, 0, none⟩))] w fun e w' => Fr (own p) w w' ∧
      ((∃ x t, dec 0 0 rm = some (x, t) ∧ e = .returned (.tuple #[.int .u64 (x : Int), .nilIface]) ∧ RS p w' t) ∨ (dec 0 0 rm = none ∧ ∃ v : Nat, ∃ ev : Addr, (ev = p.E ∨ ev = U) ∧ e = .returned (.tuple #[.int .u64 (v : Int), .iface 63 (.pointer (some ev))]) ∧ RS p w' [])) := by
  have HR := hide h; have HG := hide hg; have HU := hide hU; have HE := hide hE
  obtain ⟨R, hRR⟩ : ∃ R, R = dec 0 0 rm := ⟨_, rfl⟩
  have HRR := hide hRR
  clear h hg hU hE hRR
  have mB := mReadByte38
  go_enter Ybaf.func22, Ybaf.ntmps22
  go_wp2
  go_loopw [4, 5, 6] (fun vx vs vi wx => ∃ j acc : Nat, ∃ rj : Bytes, vi = .int .i64 (j : Int) ∧ vs = .int .u64 ((7 * j : Nat) : Int) ∧ vx = .int .u64 (acc : Int) ∧ j ≤ 2 ∧ acc < 128 ^ j ∧ RS p wx rj ∧ Good j rj ∧ dec j acc rj = R ∧ Fr (own p) w wx) (fun _ _ vi _ => 3 - (intOf vi).toNat)
  case atStart => exact ⟨0, 0, rm, rfl, rfl, rfl, by omega, by simp, HR.out, HG.out, HRR.out.symm, Fr.refl _ _⟩
  case round =>
    obtain ⟨j, acc, rj, rfl, rfl, rfl, hj, hacc, hRS, hGd, hdec, hF⟩ := hrel
    have g4 : ∀ w' : World, Fr (own p) wr w' → w'.cell? ⟨4, 0, none⟩ = some (.iface 63 (.pointer (some U))) := fun w' h => by
      have := hF.trans h
      exact cell_kept HU.out (this.block 4 (lt_of_cell HU.out) (fun h => by have := own_lt ok h; omega))
    have g3 : ∀ w' : World, Fr (own p) wr w' → w'.cell? ⟨3, 0, none⟩ = some (.iface 63 (.pointer (some p.E))) := fun w' h => by
      have := hF.trans h
      exact cell_kept HE.out (this.block 3 (lt_of_cell HE.out) (fun h => by have := own_lt ok h; omega))
    have HF := hide hF; have HRS := hide hRS; have HGD := hide hGd; have HDC := hide hdec; have G4 := hide g4; have G3 := hide g3
    clear hF hRS hGd hdec g3 g4
    have hjs : j = 0 ∨ j = 1 ∨ j = 2 := by omega
    rcases hjs with rfl | rfl | rfl
    · obtain rfl : acc = 0 := by simpa using hacc
      go_wp2_with fail
      refine (byte_any ok HRS.out).mono ?_
      rintro e w1 ⟨hF1, hcase⟩
      rcases hcase with ⟨rfl, rfl, hR1⟩ | ⟨b, t, rfl, rfl, hR1⟩
      · have HF1 := hide (HF.out.trans hF1); have HR1 := hide hR1
        have q4 := G4.out w1 hF1; have q3 := G3.out w1 hF1
        have heq := eql_same p.E w1
        have HN : Hid (R = none) := hide (by rw [← HDC.out]; rfl)
        clear hF1 hR1
        simp only [Par.eof]
        go_wp2
        go_ret2
        exact ⟨HF1.out, Or.inr ⟨HRR.out.symm.trans HN.out, 0, p.E, Or.inl rfl, rfl, HR1.out⟩⟩
      · have hb256 : b.toNat < 256 := b.toNat_lt
        have HF1 := hide (HF.out.trans hF1); have HR1 := hide hR1
        clear hF1 hR1
        by_cases hb : b.toNat < 128
        · have hor : bits .or .u64 0 (b.toNat : Int) = (b.toNat : Int) := by
            rw [u64_orv0 _ _ (by omega) (by omega) (by omega) (by omega) (by omega)]
            omega
          have HN : Hid (R = some (b.toNat, t)) := hide (by rw [← HDC.out]; simp [dec, hb])
          have hb' : (b.toNat : Int) < 128 := by omega
          go_wp2
          go_ret2
          exact ⟨HF1.out, Or.inl ⟨b.toNat, t, HRR.out.symm.trans HN.out, rfl, HR1.out⟩⟩
        · have hv : bits .or .u64 0 (IntKind.u64.wrap (IntKind.u64.wrap (bits .and .u8 (b.toNat : Int) 127))) = ((b.toNat % 128 : Nat) : Int) := by
            simp (disch := omega) only [u8_and127, u64_wrap_id, u64_orv0]
            omega
          have HN : Hid (dec 1 (b.toNat % 128) t = R) := hide (by rw [← HDC.out]; simp [dec, hb])
          have HG1 : Hid (Good 1 t) := hide (by
            have := HGD.out
            rcases this with h | ⟨_, h⟩
            · omega
            · exact h)
          have hb' : ¬ (b.toNat : Int) < 128 := by omega
          go_wp2
          go_roundw
          case rel => exact ⟨1, b.toNat % 128, t, rfl, rfl, by first | rfl | (congr 1; omega), by omega, by simp; omega, HR1.out, HG1.out, HN.out, HF1.out⟩
          case measure => simp [intOf]
    · have hacc' : acc < 128 := by simpa using hacc
      go_wp2_with fail
      refine (byte_any ok HRS.out).mono ?_
      rintro e w1 ⟨hF1, hcase⟩
      rcases hcase with ⟨rfl, rfl, hR1⟩ | ⟨b, t, rfl, rfl, hR1⟩
      · have HF1 := hide (HF.out.trans hF1); have HR1 := hide hR1
        have q4 := G4.out w1 hF1; have q3 := G3.out w1 hF1
        have heq := eql_same p.E w1
        have HN : Hid (R = none) := hide (by rw [← HDC.out]; rfl)
        clear hF1 hR1
        simp only [Par.eof]
        go_wp2
        go_ret2
        exact ⟨HF1.out, Or.inr ⟨HRR.out.symm.trans HN.out, acc, U, Or.inr rfl, rfl, HR1.out⟩⟩
      · have hb256 : b.toNat < 256 := b.toNat_lt
        have HF1 := hide (HF.out.trans hF1); have HR1 := hide hR1
        clear hF1 hR1
        by_cases hb : b.toNat < 128
        · have hor : bits .or .u64 (acc : Int) ((b.toNat : Int) * 128) = ((acc + b.toNat * 128 : Nat) : Int) := by
            rw [u64_orv7 _ _ (by omega) (by omega) (by omega) (by omega) (by omega)]
            omega
          have HN : Hid (R = some (acc + b.toNat * 128, t)) := hide (by rw [← HDC.out]; simp [dec, hb])
          have hb' : (b.toNat : Int) < 128 := by omega
          go_wp2
          go_ret2
          exact ⟨HF1.out, Or.inl ⟨acc + b.toNat * 128, t, HRR.out.symm.trans HN.out, rfl, HR1.out⟩⟩
        · have hv : bits .or .u64 (acc : Int) (IntKind.u64.wrap (IntKind.u64.wrap (bits .and .u8 (b.toNat : Int) 127) * 128)) = ((acc + b.toNat % 128 * 128 : Nat) : Int) := by
            simp (disch := omega) only [u8_and127, u64_wrap_id, u64_orv7]
            omega
          have HN : Hid (dec 2 (acc + b.toNat % 128 * 128) t = R) := hide (by rw [← HDC.out]; simp [dec, hb])
          have HG1 : Hid (Good 2 t) := hide (by
            have := HGD.out
            rcases this with h | ⟨_, h⟩
            · omega
            · exact h)
          have hb' : ¬ (b.toNat : Int) < 128 := by omega
          go_wp2
          go_roundw
          case rel => exact ⟨2, acc + b.toNat % 128 * 128, t, rfl, rfl, by first | rfl | (congr 1; omega), by omega, by simp; omega, HR1.out, HG1.out, HN.out, HF1.out⟩
          case measure => simp [intOf]
    · have hacc' : acc < 16384 := by simpa using hacc
      go_wp2_with fail
      refine (byte_any ok HRS.out).mono ?_
      rintro e w1 ⟨hF1, hcase⟩
      rcases hcase with ⟨rfl, rfl, hR1⟩ | ⟨b, t, rfl, rfl, hR1⟩
      · have HF1 := hide (HF.out.trans hF1); have HR1 := hide hR1
        have q4 := G4.out w1 hF1; have q3 := G3.out w1 hF1
        have heq := eql_same p.E w1
        have HN : Hid (R = none) := hide (by rw [← HDC.out]; rfl)
        clear hF1 hR1
        simp only [Par.eof]
        go_wp2
        go_ret2
        exact ⟨HF1.out, Or.inr ⟨HRR.out.symm.trans HN.out, acc, U, Or.inr rfl, rfl, HR1.out⟩⟩
      · have hb256 : b.toNat < 256 := b.toNat_lt
        have HF1 := hide (HF.out.trans hF1); have HR1 := hide hR1
        clear hF1 hR1
        by_cases hb : b.toNat < 128
        · have hor : bits .or .u64 (acc : Int) ((b.toNat : Int) * 16384) = ((acc + b.toNat * 16384 : Nat) : Int) := by
            rw [u64_orv14 _ _ (by omega) (by omega) (by omega) (by omega) (by omega)]
            omega
          have HN : Hid (R = some (acc + b.toNat * 16384, t)) := hide (by rw [← HDC.out]; simp [dec, hb])
          have hb' : (b.toNat : Int) < 128 := by omega
          go_wp2
          go_ret2
          exact ⟨HF1.out, Or.inl ⟨acc + b.toNat * 16384, t, HRR.out.symm.trans HN.out, rfl, HR1.out⟩⟩
        · exfalso
          have := HGD.out
          rcases this with h | ⟨h, _⟩ <;> omega
end Go.Proofs.YbulkbmlcFmt
