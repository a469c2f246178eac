/-
  LawS3162BLeave: leaveGroup.
-/
import Derived.Test.YbulkbmlqM3
import Derived.RegionTactic
import Derived.Deep.DeepCutAuto
import Derived.BigRegion
namespace Go.Proofs.Ybulkbmlq
open Go.RowKit Go.Maps Go.WideMaps
set_option linter.unusedVariables false

/-- Every cell reads on as it read. -/
def CK (w w' : World) : Prop := ∀ a v, w.cell? a = some v → w'.cell? a = some v
theorem CK.refl (w : World) : CK w w := fun _ _ h => h
theorem CK.trans {a b c : World} (h : CK a b) (h' : CK b c) : CK a c := fun x v e => h' x v (h x v e)
theorem lt_of_cell {w : World} {a : Addr} {v : Value} (h : w.cell? a = some v) : a.block < w.heap.size := by
  rcases Nat.lt_or_ge a.block w.heap.size with h' | h'
  · exact h'
  · simp [World.cell?, Array.getElem?_eq_none h'] at h
theorem CK.below {w w' : World} (h : Below w.heap.size w w') : CK w w' := fun a v e => (h.cell (lt_of_cell e)).trans e
theorem CK.map {w w' : World} {b : Nat} {es : Array MapEntry} {clock : Nat} (hb : w.heap[b]? = some (.map es clock)) (hg : w.grownBy w' (some b)) : CK w w' := fun a v e => by
  have hlt := lt_of_cell e
  have hne : some a.block ≠ some b := fun e' => by
    have e'' := Option.some.inj e'
    simp [World.cell?, e'', hb] at e
  exact (World.cell?_of_block (w := w) (hg.block a.block hlt hne)).trans e
theorem own_map {H : Type} {w : World} {P : Program} {k : TypeId} {R : Value → Option (DataW H × List MemPlace)} {b n : Nat} {D : DataW H} (h : w.ownsMap P k R b n D) : ∃ es clock, w.heap[b]? = some (.map es clock) := by
  obtain ⟨es, clock, hb, _⟩ := h; exact ⟨es, clock, hb⟩
theorem CK.owned {H : Type} {w w' : World} {P : Program} {k : TypeId} {R : Value → Option (DataW H × List MemPlace)} {b n : Nat} {D : DataW H} (h : w.ownsMap P k R b n D) (hg : w.grownBy w' (some b)) : CK w w' := by
  obtain ⟨es, clock, hb⟩ := own_map h; exact CK.map hb hg

theorem grown_of_below {w w' : World} (h : Below w.heap.size w w') : w.grownBy w' none := ⟨h.os, h.tape, h.output, h.size, fun k hk _ => h.block k hk⟩
theorem grown_drewN (w : World) (q : Nat) : w.grownBy (w.drewN q) none := ⟨rfl, rfl, rfl, Nat.le_refl _, fun _ _ _ => rfl⟩
theorem groupOf_any (a c g r md : Value) (ha : a.oneCell' = true) (cs gs : ByteArray) (hc : c = .string cs) (hg : g = .string gs) (hr : r.oneCell' = true) (hm : md.oneCell' = true) (w : World) :
    Calls Yba.prog 14 #[.agg #[a, c, g, r, md]] w fun e w' => e = .returned (.agg #[.string cs, .string gs]) ∧ ∃ o1 o2, w' = (w.alloc o1).alloc o2 := by
  subst hc; subst hg
  go_enter Yba.func14, Yba.ntmps14
  go_wp2
  simp [bodyPost, results, Yba.results14, go_sem]
  exact ⟨_, _, rfl⟩

theorem look_own {kl : Int → Int → Lit} (hkl : ∀ c g, keyOf Yba.prog 58 (keyV c g) = some (kl c g)) {w : World} {G n : Nat} {D : DataW Nat} (h : w.ownsMap Yba.prog 58 Rg G n D) (c g : Int) (b : Nat) (hat : D.atKey (kl c g) .nil = .held b) :
    (Instr.lookup 30 (.map (some G)) (.agg #[.string (clS c), .string (grS g)]) false).run Yba.prog w = .ok (.map (some b)) w := by
  obtain ⟨v, ps, hrun, hv⟩ := h.lookup law58 Yba.underlying30 (zero60 w) (zd := .nil) (zp := []) rfl (hkl c g)
  rw [hat] at hv
  rw [show (.agg #[.string (clS c), .string (grS g)] : Value) = keyV c g from rfl, hrun, Rg_held hv]
theorem grown_undrew {w w' : World} {r : Option Nat} (h : w.drew.grownBy w' r) : w.grownBy w' r := ⟨h.os, h.tape, h.output, h.size, h.block⟩
theorem Inv.look {kl : Int → Int → Lit} (hkl : ∀ c g, keyOf Yba.prog 58 (keyV c g) = some (kl c g)) {w : World} {G base N : Nat} {L : List Tr} {f : Int → Int → Nat} {n : Nat} {D : DataW Nat} {m : Int → Int → Nat} {S : Int → Int → DataW Unit}
    (h : Inv kl w G base N L f n D m S) (c g : Int) (c0 : 0 ≤ c) (c1 : c < 3) (g0 : 0 ≤ g) (g1 : g < 3) :
    (Instr.lookup 30 (.map (some G)) (.agg #[.string (clS c), .string (grS g)]) false).run Yba.prog w = .ok (if anyG L c g = true then .map (some (f c g)) else .map none) w := by
  obtain ⟨v, ps, hrun, hv⟩ := h.own.lookup law58 Yba.underlying30 (zero60 w) (zd := .nil) (zp := []) rfl (hkl c g)
  rw [h.key c g c0 c1 g0 g1] at hv
  rw [show (.agg #[.string (clS c), .string (grS g)] : Value) = keyV c g from rfl, hrun]
  cases ha : anyG L c g
  · rw [ha] at hv
    rw [Rg_nil hv]; rfl
  · rw [ha] at hv
    rw [Rg_held hv]; rfl

set_option maxRecDepth 100000 in
set_option maxHeartbeats 2000000 in
theorem leave_any (kl : Int → Int → Lit) (hkl : ∀ c g, keyOf Yba.prog 58 (keyV c g) = some (kl c g)) (R G base N : Nat) (L : List Tr) (τ : Tr) (addr : ByteArray) (role : Int) (w : World) (hI : InvE kl w G base N L) (ht : InR τ) (hnd : L.Nodup)
    (hR : w.cell? ⟨R, 13, none⟩ = some (.map (some G))) (hbs : base ≤ w.heap.size) (hN : N ≤ 100000) :
    Calls Yba.prog 10 #[.pointer (some ⟨R, 0, none⟩), .string (idS τ.i), .agg #[.string addr, .string (clS τ.c), .string (grS τ.g), .int .i64 role, .map none]] w
      fun e w' => e = .returned (.tuple #[]) ∧ InvE kl w' G base N (leaveL τ L) ∧ CK w w' ∧ Below base w w' := by
  obtain ⟨f, n, D, m, S, h⟩ := hI
  obtain ⟨r0, r1, r2, r3, r4, r5⟩ := ht
  have HG := hide (fun W => groupOf_any (.string addr) _ _ (.int .i64 role) (.map none) rfl (clS τ.c) (grS τ.g) rfl rfl rfl rfl W)
  have H := hide h; have HR := hide hR
  clear h hR
  cases ha : anyG L τ.c τ.g
  · have HA := hide ha; clear ha
    go_enter Yba.func10, Yba.ntmps10
    go_wp2_with fail
    refine (HG.out _).mono ?_
    rintro e w2 ⟨rfl, o1, o2, rfl⟩
    go_upto_region 2 with fail
    have k0 : ((((w.alloc (.cells #[.string addr, .string (clS τ.c), .string (grS τ.g), .int .i64 role, .map none] 64)).alloc o1).alloc o2).alloc (.cells #[.string (clS τ.c), .string (grS τ.g)] 58)).cell? ⟨w.heap.size + 1 + 1 + 1, 0, none⟩ = some (.string (clS τ.c)) := by simp [go_sem]
    have k1 : ((((w.alloc (.cells #[.string addr, .string (clS τ.c), .string (grS τ.g), .int .i64 role, .map none] 64)).alloc o1).alloc o2).alloc (.cells #[.string (clS τ.c), .string (grS τ.g)] 58)).cell? ⟨w.heap.size + 1 + 1 + 1, 1, none⟩ = some (.string (grS τ.g)) := by simp [go_sem]
    have bel : Below w.heap.size w ((((w.alloc (.cells #[.string addr, .string (clS τ.c), .string (grS τ.g), .int .i64 role, .map none] 64)).alloc o1).alloc o2).alloc (.cells #[.string (clS τ.c), .string (grS τ.g)] 58)) :=
      ((((Below.refl _ _).alloc (Nat.le_refl _) _).alloc (by simp) _).alloc (by simp; omega) _).alloc (by simp; omega) _
    generalize ((((w.alloc (.cells #[.string addr, .string (clS τ.c), .string (grS τ.g), .int .i64 role, .map none] 64)).alloc o1).alloc o2).alloc (.cells #[.string (clS τ.c), .string (grS τ.g)] 58)) = W at k0 k1 bel ⊢
    have kR := CK.below bel _ _ HR.out
    have HI := hide (H.out.kept (grown_of_below bel))
    have BEL := hide bel; clear bel
    have lk : ∀ q, (Instr.lookup 30 (.map (some G)) (.agg #[.string (clS τ.c), .string (grS τ.g)]) false).run Yba.prog (W.drewN q) = .ok (.map none) (W.drewN q) := fun q => by
      have := (HI.out.kept (grown_drewN W q)).look hkl τ.c τ.g r0 r1 r2 r3
      rw [HA.out] at this; exact this
    have lk1 : (Instr.lookup 30 (.map (some G)) (.agg #[.string (clS τ.c), .string (grS τ.g)]) false).run Yba.prog W.drew = .ok (.map none) W.drew := lk 1
    have dn := fun ty q => Maps.drop_nil (w := W.drewN q) law9 Yba.underlying60 (keyOf_id τ.i) ty
    have dn1 : ∀ ty, (Builtin.delete_ #[60, 9] ty #[.map none, .string (idS τ.i)]).run Yba.prog W.drew = .ok (.tuple #[]) W.drew := fun ty => dn ty 1
    go_region
    clear lk1 dn1 lk dn
    have k0' : W.drew.cell? ⟨w.heap.size + 1 + 1 + 1, 0, none⟩ = some (.string (clS τ.c)) := k0
    have k1' : W.drew.cell? ⟨w.heap.size + 1 + 1 + 1, 1, none⟩ = some (.string (grS τ.g)) := k1
    have kR' : W.drew.cell? ⟨R, 13, none⟩ = some (.map (some G)) := kR
    have HI' : Hid (Inv kl W.drew G base N L f n D m S) := HI.out.kept (grown_drewN W 1)
    have BEL' : Hid (Below w.heap.size w W.drew) := BEL.out.drew
    clear k0 k1 kR HI BEL
    generalize W.drew = W2 at k0' k1' kR' HI' BEL' ⊢
    have lk : ∀ q, (Instr.lookup 30 (.map (some G)) (.agg #[.string (clS τ.c), .string (grS τ.g)]) false).run Yba.prog (W2.drewN q) = .ok (.map none) (W2.drewN q) := fun q => by
      have := (HI'.out.kept (grown_drewN W2 q)).look hkl τ.c τ.g r0 r1 r2 r3
      rw [HA.out] at this; exact this
    have ln := fun ty q => Maps.len_nil (P := Yba.prog) (w := W2.drewN q) Yba.underlying60 ty
    go_upto_region 3 with fail
    go_quiet (fail)
    clear lk ln
    have k0 : (W2.drewN nq).cell? ⟨w.heap.size + 1 + 1 + 1, 0, none⟩ = some (.string (clS τ.c)) := k0'
    have k1 : (W2.drewN nq).cell? ⟨w.heap.size + 1 + 1 + 1, 1, none⟩ = some (.string (grS τ.g)) := k1'
    have kR : (W2.drewN nq).cell? ⟨R, 13, none⟩ = some (.map (some G)) := kR'
    have HI := hide (HI'.out.kept (grown_drewN W2 nq))
    have BEL : Hid (Below w.heap.size w (W2.drewN nq)) := BEL'.out.trans (below_drewN' _ _ _)
    clear k0' k1' kR' HI' BEL'
    generalize W2.drewN nq = W3 at k0 k1 kR HI BEL ⊢
    obtain ⟨w4, hd, hD, hturn⟩ := (HI.out.own.drew).drop law58 Yba.underlying30 (hkl τ.c τ.g) 0
    have hd' : (Builtin.delete_ #[30, 58] 0 #[.map (some G), .agg #[.string (clS τ.c), .string (grS τ.g)]]).run Yba.prog W3.drew = .ok (.tuple #[]) w4 := hd
    have HD := hide hD; have HT := hide (grown_undrew hturn.grown)
    clear hd hD hturn
    go_upto_region 4 with fail
    go_region
    go_end0
    have hbw := BEL.out
    exact ⟨rfl, ⟨f, n, D, m, S, HI.out.leave_none τ ⟨r0, r1, r2, r3, r4, r5⟩ HA.out HD.out HT.out⟩, (CK.below hbw).trans (CK.owned HI.out.own HT.out), (hbw.mono hbs).grown HT.out (Nat.le_trans hbs hbw.size) (fun k hk => by cases hk; exact HI.out.gb)⟩
  · have HA := hide ha; clear ha
    obtain ⟨x1, x2, x3, x4, x5, x6⟩ := H.out.ids τ.c τ.g r0 r1 r2 r3 HA.out
    have X1 := hide x1; have X2 := hide x2; have X3 := hide x3
    clear x1 x2 x3 x4 x5 x6
    have hat : Hid (D.atKey (kl τ.c τ.g) .nil = .held (f τ.c τ.g)) := by
      have := H.out.key τ.c τ.g r0 r1 r2 r3
      rw [HA.out] at this; exact this
    obtain ⟨b, hb⟩ : ∃ b, b = f τ.c τ.g := ⟨_, rfl⟩
    have EB := hide hb
    rw [← hb] at hat X1 X2 X3
    clear hb
    go_enter Yba.func10, Yba.ntmps10
    go_wp2_with fail
    refine (HG.out _).mono ?_
    rintro e w2 ⟨rfl, o1, o2, rfl⟩
    go_upto_region 2 with fail
    have k0 : ((((w.alloc (.cells #[.string addr, .string (clS τ.c), .string (grS τ.g), .int .i64 role, .map none] 64)).alloc o1).alloc o2).alloc (.cells #[.string (clS τ.c), .string (grS τ.g)] 58)).cell? ⟨w.heap.size + 1 + 1 + 1, 0, none⟩ = some (.string (clS τ.c)) := by simp [go_sem]
    have k1 : ((((w.alloc (.cells #[.string addr, .string (clS τ.c), .string (grS τ.g), .int .i64 role, .map none] 64)).alloc o1).alloc o2).alloc (.cells #[.string (clS τ.c), .string (grS τ.g)] 58)).cell? ⟨w.heap.size + 1 + 1 + 1, 1, none⟩ = some (.string (grS τ.g)) := by simp [go_sem]
    have bel : Below w.heap.size w ((((w.alloc (.cells #[.string addr, .string (clS τ.c), .string (grS τ.g), .int .i64 role, .map none] 64)).alloc o1).alloc o2).alloc (.cells #[.string (clS τ.c), .string (grS τ.g)] 58)) :=
      ((((Below.refl _ _).alloc (Nat.le_refl _) _).alloc (by simp) _).alloc (by simp; omega) _).alloc (by simp; omega) _
    generalize ((((w.alloc (.cells #[.string addr, .string (clS τ.c), .string (grS τ.g), .int .i64 role, .map none] 64)).alloc o1).alloc o2).alloc (.cells #[.string (clS τ.c), .string (grS τ.g)] 58)) = W at k0 k1 bel ⊢
    have kR := CK.below bel _ _ HR.out
    have HI := hide (H.out.kept (grown_of_below bel))
    have XW := hide (X3.out.kept (grown_of_below bel) (by simp))
    have BEL := hide bel; clear bel
    have lk1 : (Instr.lookup 30 (.map (some G)) (.agg #[.string (clS τ.c), .string (grS τ.g)]) false).run Yba.prog W.drew = .ok (.map (some b)) W.drew := look_own hkl HI.out.own.drew τ.c τ.g b hat.out
    obtain ⟨w4, hd, hD, hturn⟩ := (XW.out.drew).drop law9 Yba.underlying60 (keyOf_id τ.i) 0
    have HT := hide (grown_undrew hturn.grown)
    have HD := hide hD
    clear hD hturn
    go_region
    clear lk1 hd
    have ck := CK.owned XW.out HT.out
    have k0' := ck _ _ k0
    have k1' := ck _ _ k1
    have kR' := ck _ _ kR
    have HO := hide (HI.out.own.kept HT.out (fun e => X1.out (Option.some.inj e).symm))
    have CKW := hide ((CK.below BEL.out).trans ck)
    clear k0 k1 kR ck
    have lk : ∀ q, (Instr.lookup 30 (.map (some G)) (.agg #[.string (clS τ.c), .string (grS τ.g)]) false).run Yba.prog (w4.drewN q) = .ok (.map (some b)) (w4.drewN q) := fun q => look_own hkl (HO.out.kept (grown_drewN w4 q) (by simp)) τ.c τ.g b hat.out
    have ln : ∀ q ty, (Builtin.len_ #[60] ty #[.map (some b)]).run Yba.prog (w4.drewN q) = .ok (.int .i64 (Maps.size ((S τ.c τ.g).del (ik τ.i)))) (w4.drewN q) := fun q ty => (HD.out.kept (grown_drewN w4 q) (by simp)).len Yba.underlying60 ty
    generalize hsz : Maps.size ((S τ.c τ.g).del (ik τ.i)) = sz at ln
    have HSZ := hide hsz; clear hsz
    have hszl : sz ≤ 9223372036854775807 := by
      have a1 := HD.out.size_le
      have a2 := HSZ.out
      have a3 := (H.out.ids τ.c τ.g r0 r1 r2 r3 HA.out).2.2.2.1
      omega
    rcases Nat.eq_zero_or_pos sz with hz | hz
    · subst hz
      go_upto_region 3 with fail
      go_quiet (fail)
      clear lk ln
      have k0 : (w4.drewN nq).cell? ⟨w.heap.size + 1 + 1 + 1, 0, none⟩ = some (.string (clS τ.c)) := k0'
      have k1 : (w4.drewN nq).cell? ⟨w.heap.size + 1 + 1 + 1, 1, none⟩ = some (.string (grS τ.g)) := k1'
      have kR : (w4.drewN nq).cell? ⟨R, 13, none⟩ = some (.map (some G)) := kR'
      have HO' : Hid ((w4.drewN nq).ownsMap Yba.prog 58 Rg G n D) := HO.out.kept (grown_drewN w4 nq) (by simp)
      have HT' : Hid (W.grownBy (w4.drewN nq) (some b)) := ⟨HT.out.os, HT.out.tape, HT.out.output, HT.out.size, HT.out.block⟩
      have CK' : Hid (CK w (w4.drewN nq)) := CKW.out
      clear k0' k1' kR' HO CKW
      generalize w4.drewN nq = W3 at k0 k1 kR HO' HT' CK' ⊢
      obtain ⟨w5, hd, hD, hturn⟩ := (HO'.out.drew).drop law58 Yba.underlying30 (hkl τ.c τ.g) 0
      have hd' : (Builtin.delete_ #[30, 58] 0 #[.map (some G), .agg #[.string (clS τ.c), .string (grS τ.g)]]).run Yba.prog W3.drew = .ok (.tuple #[]) w5 := hd
      have HD5 := hide hD; have HT5 := hide (grown_undrew hturn.grown)
      clear hd hD hturn
      go_upto_region 4 with fail
      go_region
      go_end0
      have hbw := BEL.out
      have e1 := EB.out
      have ht1 := HT'.out
      have x2 := X2.out
      refine ⟨rfl, ⟨f, n, _, m, S, HI.out.leave_last hkl τ ⟨r0, r1, r2, r3, r4, r5⟩ hnd HA.out HSZ.out (by rw [← e1]; exact ht1) HD5.out HT5.out⟩, CK'.out.trans (CK.owned HO'.out HT5.out), ?_⟩
      exact ((hbw.mono hbs).grown ht1 (Nat.le_trans hbs hbw.size) (fun k hk => by cases hk; exact x2)).grown HT5.out (Nat.le_trans (Nat.le_trans hbs hbw.size) ht1.size) (fun k hk => by cases hk; exact HI.out.gb)
    · go_upto_region 3 with fail
      go_quiet (fail)
      go_wp2
      go_end0
      have hbw := BEL.out
      have e1 := EB.out
      have x2 := X2.out
      have HT' : W.grownBy (w4.drewN nq) (some b) := ⟨HT.out.os, HT.out.tape, HT.out.output, HT.out.size, HT.out.block⟩
      refine ⟨rfl, ⟨f, n, D, m, _, HI.out.leave_some τ ⟨r0, r1, r2, r3, r4, r5⟩ hnd HA.out (by rw [← e1]; exact HD.out.kept (grown_drewN w4 nq) (by simp)) (by rw [HSZ.out]; exact hz) (by rw [← e1]; exact HT')⟩, CKW.out, ?_⟩
      exact (hbw.mono hbs).grown HT' (Nat.le_trans hbs hbw.size) (fun k hk => by cases hk; exact x2)
end Go.Proofs.Ybulkbmlq
