import Derived.Test.Qxb6603214aTP
import Derived.Test.Qxb6603214aWKI
namespace Go.Proofs.Qxb6603214a
open Go.RowKit Go.Maps WalkP
set_option linter.unusedVariables false

set_option maxHeartbeats 40000000 in
set_option maxRecDepth 20000 in
theorem walk_any (R E C Ge np n g c0 c2 c3 c4 cg : Nat) (a0 a2 a3 a4 ag : Option Addr) (ls pr sd sq grp : List Int) (B : Int) (w : World) (hn : n ≤ 5000) (hnp : np ≤ 5000) (hgl : g ≤ 5000) (hSh : Shape np n ls pr sd) (hql : sq.length = n) (hgg : grp.length = g) (hgr : ∀ j, j < g → InR np (grp.getD j 0))
    (hB0 : -9223372036854775808 ≤ B) (hB : B ≤ 9223372036854775807) (M : Nat) (hM : M ≤ 1000000000000) (hRM : 0 < g → ∀ k, Runs (ctxOf np g grp ls pr sd sq) B k → (st (ctxOf np g grp ls pr sd sq) k).steps ≤ M)
    (hC0 : w.cell? ⟨C, 0, none⟩ = some (.pointer (some ⟨R, 0, none⟩))) (hC1 : w.cell? ⟨C, 1, none⟩ = some (.slice (some ⟨Ge, 0, none⟩) np np)) (hev : IArr w Ge (evTo ls np np))
    (hrun : RunAt w R (.slice a0 np c0) (.slice a2 ls.length c2) (.slice a3 pr.length c3) (.slice a4 sd.length c4) E sq) (h2 : Ints w a2 ls) (h3 : Ints w a3 pr) (h4 : Ints w a4 sd) (h5 : Ints w ag grp) :
    Calls Try.prog 41 #[.pointer (some ⟨C, 0, none⟩), .slice ag g cg, .int .i64 B] w (WalkSays (ctxOf np g grp ls pr sd sq) (frOf (ctxOf np g grp ls pr sd sq)) B w) := by
  have G1 : Hid (Shape np n ls pr sd) := hSh
  have G2 : Hid (sq.length = n) := hql
  have G3 : Hid (grp.length = g) := hgg
  have G4 : Hid (∀ j, j < g → InR np (grp.getD j 0)) := hgr
  have G5 : Hid (0 < g → ∀ k, Runs (ctxOf np g grp ls pr sd sq) B k → (st (ctxOf np g grp ls pr sd sq) k).steps ≤ M) := hRM
  have G6 : Hid (w.cell? ⟨C, 0, none⟩ = some (.pointer (some ⟨R, 0, none⟩))) := hC0
  have G7 : Hid (w.cell? ⟨C, 1, none⟩ = some (.slice (some ⟨Ge, 0, none⟩) np np)) := hC1
  have G8 : Hid (IArr w Ge (evTo ls np np)) := hev
  have G9 : Hid (RunAt w R (.slice a0 np c0) (.slice a2 ls.length c2) (.slice a3 pr.length c3) (.slice a4 sd.length c4) E sq) := hrun
  have GI2 : Hid (Ints w a2 ls) := h2
  have GI3 : Hid (Ints w a3 pr) := h3
  have GI4 : Hid (Ints w a4 sd) := h4
  have GI5 : Hid (Ints w ag grp) := h5
  have hmk := make_ints np (by omega)
  have HMG : Hid (∀ w, (Instr.makeSlice 23 (.int .i64 g) (.int .i64 g)).run Try.prog w = .ok (.slice (some ⟨w.heap.size, 0, none⟩) g g) (w.alloc (.cells (Array.replicate g (.int .i64 0)) 3))) := make_ints g (by omega)
  obtain ⟨b2, off2, hix2, hcell2⟩ := ints_open h2
  obtain ⟨b3, off3, hix3, hcell3⟩ := ints_open h3
  obtain ⟨b4, off4, hix4, hcell4⟩ := ints_open h4
  obtain ⟨b5, off5, hix5, hcell5⟩ := ints_open h5
  have HSh : Hid (Shape np n ls pr sd) := hSh
  have hpl := hSh.plen
  have hsl := hSh.senders.len
  have hll := hSh.lanes.len
  rw [hpl] at hix3 hcell3
  rw [hsl] at hix4 hcell4
  rw [hll] at hix2 hcell2
  rw [hgg] at hix5 hcell5
  rw [hpl, hsl, hll] at hrun
  have HC2 : Hid (∀ j, j < np + 1 → w.cell? ⟨b2, off2 + j, none⟩ = some (.int .i64 (ls.getD j 0))) := hcell2
  have HC3 : Hid (∀ j, j < n → w.cell? ⟨b3, off3 + j, none⟩ = some (.int .i64 (pr.getD j 0))) := hcell3
  have HC4 : Hid (∀ j, j < n → w.cell? ⟨b4, off4 + j, none⟩ = some (.int .i64 (sd.getD j 0))) := hcell4
  have HC5 : Hid (∀ j, j < g → w.cell? ⟨b5, off5 + j, none⟩ = some (.int .i64 (grp.getD j 0))) := hcell5
  have HX2 : Hid (∀ (k : Nat) (w' : World), k < np + 1 → (Instr.indexAt 23 (.slice a2 (np + 1) c2) (.int .i64 k)).run Try.prog w' = .ok (.pointer (some ⟨b2, off2 + k, none⟩)) w') := fun k w' h => hix2 c2 k w' h
  have HX3 : Hid (∀ (k : Nat) (w' : World), k < n → (Instr.indexAt 23 (.slice a3 n c3) (.int .i64 k)).run Try.prog w' = .ok (.pointer (some ⟨b3, off3 + k, none⟩)) w') := fun k w' h => hix3 c3 k w' h
  have HX4 : Hid (∀ (k : Nat) (w' : World), k < n → (Instr.indexAt 23 (.slice a4 n c4) (.int .i64 k)).run Try.prog w' = .ok (.pointer (some ⟨b4, off4 + k, none⟩)) w') := fun k w' h => hix4 c4 k w' h
  have HX5 : Hid (∀ (k : Nat) (w' : World), k < g → (Instr.indexAt 23 (.slice ag g cg) (.int .i64 k)).run Try.prog w' = .ok (.pointer (some ⟨b5, off5 + k, none⟩)) w') := fun k w' h => hix5 cg k w' h
  have HXL : Hid (∀ (k : Nat) (w' : World), k < np → (Instr.indexAt 23 (.slice (some ⟨w.heap.size, 0, none⟩) np np) (.int .i64 k)).run Try.prog w' = .ok (.pointer (some ⟨w.heap.size, k, none⟩)) w') :=
    fun k w' hk => by simpa using indexAt_one Try.underlying23 Try.info3 w.heap.size 0 _ np k hk w'
  have HGR : Hid (∀ j, j < g → InR np (grp.getD j 0)) := hgr
  have HRun : Hid (RunAt w R (.slice a0 np c0) (.slice a2 (np + 1) c2) (.slice a3 n c3) (.slice a4 n c4) E sq) := hrun
  have HCC : Hid (w.cell? ⟨C, 0, none⟩ = some (.pointer (some ⟨R, 0, none⟩)) ∧ w.cell? ⟨C, 1, none⟩ = some (.slice (some ⟨Ge, 0, none⟩) np np)) := ⟨hC0, hC1⟩
  have HEV : Hid (IArr w Ge (evTo ls np np)) := hev
  have HRM : Hid (0 < g → ∀ k, Runs (ctxOf np g grp ls pr sd sq) B k → (st (ctxOf np g grp ls pr sd sq) k).steps ≤ M) := hRM
  have HQ : Hid (sq.length = n) := hql
  clear hcell2 hcell3 hcell4 hcell5 hix2 hix3 hix4 hix5 h2 h3 h4 h5 hSh hpl hsl hll hgr hrun hev hRM hgg hql
  obtain ⟨c, hc⟩ : ∃ c, c = ctxOf np g grp ls pr sd sq := ⟨_, rfl⟩
  have HCX : Hid (c = ctxOf np g grp ls pr sd sq) := hc
  rw [← hc] at HRM ⊢
  clear hc
  go_enter Try.func41, Try.ntmps41
  go_wp2
  clear hC0 hC1 hmk
  go_loopw [11, 43] (fun v11 v43 wr => ∃ j : Nat, j ≤ g ∧ v43 = .int .i64 j ∧ v11 = .int .i64 (pf (frOf c) 0 j : Nat) ∧ (j = 0 ∨ (pf (frOf c) 0 j : Int) ≤ B) ∧ IArr wr w.heap.size (locN grp np j) ∧ Below w.heap.size w wr) (fun _ v43 _ => g - (intOf v43).toNat)
  case atStart => exact ⟨0, Nat.zero_le _, rfl, rfl, .inl rfl, IArr.made w np, (Below.refl _ _).alloc (Nat.le_refl _) _⟩
  case round =>
    obtain ⟨j, hj, rfl, rfl, hle, hlo, hbel⟩ := hrel
    have hpl0 : (pf (frOf c) 0 j : Int) ≤ 9223372036854775807 := by
      rcases hle with rfl | h
      · show ((1 : Nat) : Int) ≤ _; omega
      · omega
    have hpos := pf_pos (frOf c) 0 j
    by_cases hlt : j < g
    · have kR := HRun.out.below hbel
      have kc2 := kR.c2
      have hgj := HGR.out j hlt
      obtain ⟨p, hp⟩ := getD_nat' hgj.1
      have hpn : p < np := by have := hgj.2; omega
      have g5 : wr.cell? ⟨b5, off5 + j, none⟩ = some (.int .i64 (grp.getD j 0)) := cell_later hbel (HC5.out j hlt)
      rw [hp] at g5
      have hx5 := fun w' => HX5.out j w' hlt
      have hxL := fun w' => HXL.out p w' hpn
      have gL := hlo.cell p (by rw [locN_len]; exact hpn)
      have fL := hlo.frozen p
      have hset := hlo.set p j
      have elo : (locN grp np j).set p j = locN grp np (j + 1) := by show _ = (locN grp np j).set (grp.getD j 0).toNat j; rw [hp, Int.toNat_natCast]
      rw [elo] at hset
      have hbel1 : Below w.heap.size w (wr.setCell ⟨w.heap.size, p, none⟩ (.int .i64 j)) := hbel.setCell (Nat.le_refl _) _
      have HSET : Hid (IArr (wr.setCell ⟨w.heap.size, p, none⟩ (.int .i64 j)) w.heap.size (locN grp np (j + 1)) ∧ Below w.heap.size w (wr.setCell ⟨w.heap.size, p, none⟩ (.int .i64 j))) := ⟨hset, hbel1⟩
      generalize (locN grp np j).getD p 0 = old at gL
      have r1 := HSh.out.lanes.lo p (by omega)
      have r2 := HSh.out.lanes.up p hpn
      have r3 := HSh.out.lanes.hi (p + 1) (by omega)
      obtain ⟨x, hx⟩ := Int.eq_ofNat_of_zero_le r1
      obtain ⟨y, hy⟩ := Int.eq_ofNat_of_zero_le (Int.le_trans r1 r2)
      have l1 : wr.cell? ⟨b2, off2 + p, none⟩ = some (.int .i64 x) := by rw [← show ls.getD p 0 = (x : Int) from hx]; exact cell_later hbel (HC2.out p (by omega))
      have hx2 := fun w' => HX2.out p w' (by omega)
      have HY : Hid (∀ w', Below w.heap.size w w' → w'.cell? ⟨b2, off2 + (p + 1), none⟩ = some (.int .i64 y)) := fun w' hb => by rw [← show ls.getD (p + 1) 0 = (y : Int) from hy]; exact cell_later hb (HC2.out (p + 1) (by omega))
      have hx2' : ∀ w', (Instr.indexAt 23 (.slice a2 (np + 1) c2) (.int .i64 (p + 1))).run Try.prog w' = .ok (.pointer (some ⟨b2, off2 + (p + 1), none⟩)) w' := fun w' => by simpa using HX2.out (p + 1) w' (by omega)
      have efr : frOf c j = freeN (c.cross p) x (y - x) := by
        rw [HCX.out]
        show freeN ((ctxOf np g grp ls pr sd sq).cross (grp.getD j 0).toNat) (ls.getD (grp.getD j 0).toNat 0).toNat (ls.getD ((grp.getD j 0).toNat + 1) 0 - ls.getD (grp.getD j 0).toNat 0).toNat = _
        rw [hp, Int.toNat_natCast, hx, hy]
        congr 1 <;> omega
      have HFR : Hid (frOf c j = freeN (c.cross p) x (y - x)) := efr
      rw [hx] at r2
      rw [hy] at r2 r3
      have hRlt : R < w.heap.size := World.block_lt_of_cell? w _ HRun.out.c0
      have hb2lt : b2 < w.heap.size := World.block_lt_of_cell? w _ (HC2.out 0 (by omega))
      clear r1 hx hy efr kR hset hbel1 elo hgj
      as_aux_lemma =>
       go_wp2
       go_loopw [14, 15] (fun v14 v15 wq => ∃ f : Nat, f ≤ y - x ∧ v14 = .int .i64 f ∧ v15 = .int .i64 ((x + f : Nat) : Int) ∧ freeN (c.cross p) x (y - x) = f + freeN (c.cross p) (x + f) (y - x - f) ∧ IArr wq w.heap.size (locN grp np (j + 1)) ∧ Below w.heap.size w wq) (fun _ v15 _ => y - (intOf v15).toNat)
       case atStart => exact ⟨0, Nat.zero_le _, rfl, rfl, by simp, HSET.out.1, HSET.out.2⟩
       case round =>
         clear g5 gL fL hx5 hxL l1 hx2 kc2 hlo hbel HSET
         obtain ⟨f, hf, rfl, rfl, hfr, hlo2, hbel2⟩ := hrel
         have kR2 := HRun.out.below hbel2
         have kc2 := kR2.c2
         have kc3 := kR2.c3
         have kc4 := kR2.c4
         have gy := HY.out _ hbel2
         have hwp : IntKind.i64.wrap ((p : Int) + 1) = (p : Int) + 1 := by rw [IntKind.wrap_i64]; omega
         have HFr0 : Hid (freeN (c.cross p) x (y - x) = f + freeN (c.cross p) (x + f) (y - x - f)) := hfr
         have HBE : Hid (Below w.heap.size w wr) := hbel2
         have HLO : Hid (IArr wr w.heap.size (locN grp np (j + 1))) := hlo2
         clear hfr kR2 hbel2 hlo2
         by_cases hxy : x + f < y
         · have hIn : x + f < n := by omega
           have g4 : wr.cell? ⟨b4, off4 + (x + f), none⟩ = some (.int .i64 (sd.getD (x + f) 0)) := cell_later HBE.out (HC4.out _ hIn)
           have hx4 := fun w' => HX4.out (x + f) w' hIn
           by_cases hs : sd.getD (x + f) 0 < 0
           · have HCr : Hid (c.cross p (x + f) = false) := cross_neg (by rw [HCX.out]; exact hs)
             have HNx : Hid (freeN (c.cross p) x (y - x) = (f + 1) + freeN (c.cross p) (x + (f + 1)) (y - x - (f + 1))) := freeN_on _ _ _ _ (by omega) HCr.out HFr0.out
             generalize sd.getD (x + f) 0 = sv at *
             have hd : decide (sv < 0) = true := by simpa using hs
             generalize hI : x + f = I at *
             as_aux_lemma =>
               go_wp2
               go_quiet (fail)
               go_wp2
               go_roundw
               case rel => exact ⟨f + 1, by omega, by go_num, by rw [← Nat.add_assoc, hI]; go_num, HNx.out, HLO.out, below_drewN HBE.out _⟩
               case measure => simp [intOf]; omega
           · obtain ⟨S, hS⟩ := getD_nat' (l := sd) (j := x + f) (by omega)
             have hSn : S < n := by have := HSh.out.senders.lt (x + f) hIn; omega
             have g3 : wr.cell? ⟨b3, off3 + S, none⟩ = some (.int .i64 (pr.getD S 0)) := cell_later HBE.out (HC3.out _ hSn)
             have hx3 := fun w' => HX3.out S w' hSn
             have hs0 : 0 ≤ c.sd.getD (x + f) 0 := by rw [HCX.out]; show 0 ≤ sd.getD (x + f) 0; omega
             have hpS : c.pr.getD (c.sd.getD (x + f) 0).toNat 0 = pr.getD S 0 := by rw [HCX.out]; show pr.getD (sd.getD (x + f) 0).toNat 0 = _; rw [hS, Int.toNat_natCast]
             rw [hS] at g4
             by_cases hp2 : pr.getD S 0 = p
             · have HCr : Hid (c.cross p (x + f) = false) := cross_same (hpS.trans hp2)
               have HNx : Hid (freeN (c.cross p) x (y - x) = (f + 1) + freeN (c.cross p) (x + (f + 1)) (y - x - (f + 1))) := freeN_on _ _ _ _ (by omega) HCr.out HFr0.out
               rw [hp2] at g3
               clear hs hs0 hpS hp2 hS
               generalize hI : x + f = I at *
               as_aux_lemma =>
                 go_wp2
                 go_quiet (fail)
                 go_wp2
                 go_roundw
                 case rel => exact ⟨f + 1, by omega, by go_num, by rw [← Nat.add_assoc, hI]; go_num, HNx.out, HLO.out, below_drewN HBE.out _⟩
                 case measure => simp [intOf]; omega
             · have HCr : Hid (c.cross p (x + f) = true) := cross_yes hs0 (by rw [hpS]; exact hp2)
               have HFf : Hid (frOf c j = f) := HFR.out.trans (freeN_end _ _ _ _ HCr.out HFr0.out)
               clear hs hs0 hpS hS
               generalize pr.getD S 0 = v at *
               have hvb : (v == (p : Int)) = false := by simpa using hp2
               generalize hI : x + f = I at *
               as_aux_lemma =>
                 go_wp2
                 go_quiet (fail)
                 have hfj : frOf c j = f := HFf.out
                 have HPS : Hid (pf (frOf c) 0 (j + 1) = pf (frOf c) 0 j * (f + 1)) := (by unfold Hid; rw [pf_snoc, Nat.zero_add, hfj])
                 have HPM : Hid (pf (frOf c) 0 (j + 1) ≤ pf (frOf c) 0 g) := (by unfold Hid; have := pf_mono (frOf c) 0 (j + 1) (g - (j + 1)); rwa [show j + 1 + (g - (j + 1)) = g by omega] at this)
                 have hqq := quo_le B (pf (frOf c) 0 j) (f + 1) hpos (by omega)
                 have HGc : Hid (c.g = g) := (by unfold Hid; rw [HCX.out]; rfl)
                 generalize pf (frOf c) 0 j = L at *
                 by_cases hq : B.tdiv ((f + 1 : Nat) : Int) < (L : Int)
                 · have hBl := hqq.1 hq
                   have HBL : Hid (B < (L : Int) * ((f + 1 : Nat) : Int)) := hBl
                   rw [Int.natCast_add, Int.natCast_one] at hq
                   clear hqq hBl hfj
                   go_wp2
                   go_ret3
                   refine ⟨(below_drewN HBE.out _), 0, 0, false, rfl, .inr (.inl ⟨by rw [HGc.out]; omega, ?_, rfl, rfl, rfl⟩)⟩
                   rw [HGc.out]
                   have h1 := HPM.out
                   rw [HPS.out] at h1
                   have h2 := HBL.out
                   have h3 : ((L * (f + 1) : Nat) : Int) = (L : Int) * ((f + 1 : Nat) : Int) := by rw [Int.natCast_mul]
                   omega
                 · have hBl : ¬ B < (L : Int) * ((f + 1 : Nat) : Int) := fun h => hq (hqq.2 h)
                   have hPle : ((L * (f + 1) : Nat) : Int) ≤ B := by rw [Int.natCast_mul]; omega
                   have HPL : Hid (((L * (f + 1) : Nat) : Int) ≤ B) := hPle
                   rw [Int.natCast_add, Int.natCast_one] at hq
                   have hmul : IntKind.i64.wrap ((L : Int) * ((f : Int) + 1)) = (L : Int) * ((f : Int) + 1) := by
                     rw [show (L : Int) * ((f : Int) + 1) = ((L * (f + 1) : Nat) : Int) by rw [Int.natCast_mul, Int.natCast_add, Int.natCast_one], IntKind.wrap_i64]
                     omega
                   clear hqq hBl hPle hfj
                   go_wp2
                   go_roundw
                   case rel =>
                     refine ⟨j + 1, hlt, by go_num, ?_, .inr ?_, HLO.out, (below_drewN HBE.out _)⟩
                     · rw [HPS.out]; simp
                     · rw [HPS.out]; exact HPL.out
                   case measure => simp [intOf]; omega
         · have hey : f = y - x := by omega
           have HFf : Hid (frOf c j = f) := (by
             unfold Hid
             rw [HFR.out, HFr0.out, show y - x - f = 0 by omega]
             rfl)
           have hd : decide (((x + f : Nat) : Int) < (y : Int)) = false := by simp; omega
           clear hey
           generalize hI : x + f = I at *
           as_aux_lemma =>
             go_wp2
             go_quiet (fail)
             have hfj : frOf c j = f := HFf.out
             have HPS : Hid (pf (frOf c) 0 (j + 1) = pf (frOf c) 0 j * (f + 1)) := (by unfold Hid; rw [pf_snoc, Nat.zero_add, hfj])
             have HPM : Hid (pf (frOf c) 0 (j + 1) ≤ pf (frOf c) 0 g) := (by unfold Hid; have := pf_mono (frOf c) 0 (j + 1) (g - (j + 1)); rwa [show j + 1 + (g - (j + 1)) = g by omega] at this)
             have hqq := quo_le B (pf (frOf c) 0 j) (f + 1) hpos (by omega)
             have HGc : Hid (c.g = g) := (by unfold Hid; rw [HCX.out]; rfl)
             generalize pf (frOf c) 0 j = L at *
             by_cases hq : B.tdiv ((f + 1 : Nat) : Int) < (L : Int)
             · have hBl := hqq.1 hq
               have HBL : Hid (B < (L : Int) * ((f + 1 : Nat) : Int)) := hBl
               rw [Int.natCast_add, Int.natCast_one] at hq
               clear hqq hBl hfj
               go_wp2
               go_ret3
               refine ⟨(below_drewN HBE.out _), 0, 0, false, rfl, .inr (.inl ⟨by rw [HGc.out]; omega, ?_, rfl, rfl, rfl⟩)⟩
               rw [HGc.out]
               have h1 := HPM.out
               rw [HPS.out] at h1
               have h2 := HBL.out
               have h3 : ((L * (f + 1) : Nat) : Int) = (L : Int) * ((f + 1 : Nat) : Int) := by rw [Int.natCast_mul]
               omega
             · have hBl : ¬ B < (L : Int) * ((f + 1 : Nat) : Int) := fun h => hq (hqq.2 h)
               have hPle : ((L * (f + 1) : Nat) : Int) ≤ B := by rw [Int.natCast_mul]; omega
               have HPL : Hid (((L * (f + 1) : Nat) : Int) ≤ B) := hPle
               rw [Int.natCast_add, Int.natCast_one] at hq
               have hmul : IntKind.i64.wrap ((L : Int) * ((f : Int) + 1)) = (L : Int) * ((f : Int) + 1) := by
                 rw [show (L : Int) * ((f : Int) + 1) = ((L * (f + 1) : Nat) : Int) by rw [Int.natCast_mul, Int.natCast_add, Int.natCast_one], IntKind.wrap_i64]
                 omega
               clear hqq hBl hPle hfj
               go_wp2
               go_roundw
               case rel =>
                 refine ⟨j + 1, hlt, by go_num, ?_, .inr ?_, HLO.out, (below_drewN HBE.out _)⟩
                 · rw [HPS.out]; simp
                 · rw [HPS.out]; exact HPL.out
               case measure => simp [intOf]; omega
    · have ejg : g = j := by omega
      subst ejg
      have HGc : Hid (c.g = g) := (by unfold Hid; rw [HCX.out]; rfl)
      have HLE : Hid (g = 0 ∨ (pf (frOf c) 0 g : Int) ≤ B) := hle
      have hmg := HMG.out
      have hsz := hbel.size
      have hlt2 := hlo.lt
      have HLo : Hid (IArr wr w.heap.size (locN grp np g)) := hlo
      have HBe : Hid (Below w.heap.size w wr) := hbel
      clear hpl0 hpos hle hlt hbel hlo
      go_upto_region 17 with fail
      go_cut [16, 17] (fun v16 v17 wx => ∃ H Rb, v16 = .slice (some ⟨H, 0, none⟩) g g ∧ v17 = .slice (some ⟨Rb, 0, none⟩) g g ∧ IArr wx w.heap.size (locN grp np g) ∧ IArr wx H (List.replicate g 0) ∧ IArr wx Rb (List.replicate g 0) ∧ (w.heap.size ≠ H ∧ w.heap.size ≠ Rb ∧ H ≠ Rb) ∧ (w.heap.size ≤ w.heap.size ∧ w.heap.size ≤ H ∧ w.heap.size ≤ Rb) ∧ Below w.heap.size w wx)
      case first =>
        as_aux_lemma =>
          go_region
          all_goals
            go_wp2_with fail
            go_meet
            refine ⟨_, _, rfl, rfl, ?_, ?_, ?_, ?_, ?_, ?_⟩
            · exact iarr_drew2 ((HLo.out.alloc _).alloc _)
            · first
              | exact iarr_drew2 ((IArr.made wr g).alloc _)
              | exact iarr_drew2 (made_at2 (by simp))
            · first
              | exact iarr_drew2 ((IArr.made wr g).alloc _)
              | exact iarr_drew2 (made_at2 (by simp))
            · first | omega | (simp; omega)
            · first | omega | (simp; omega)
            · exact ((HBe.out.alloc hsz _).alloc (by simp; omega) _).drew
      case rest =>
        obtain ⟨H, Rb, rfl, rfl, m1, m2, m3, m4, m5, m6⟩ := hcut
        obtain rfl := HCX.out
        by_cases hj0 : g = 0
        · first
          | (go_step; exact tail_zero _ (by conv => rhs; whnf) _ _ _ _ _ _ _ _ _ _ _ _ _ _ _ _ _ _ _ _ _ _ _ _ _ _ _ _ _ _ _ _ _ _ _ _ _ _ _ _ _ _ _ _ _ _ _ _ _ _ _ _ _ _ _ _ _ _ _ _ _ _ _ _ _ _ _ _ _ _ _ _ _ _ _ _ _ _ _ _ _ _ _ _ _ _ _ _ _ _ _ _ _ _ _ _ _ _ _ _ _ _ _ _ _ _ _ _ _ _ _ _ _ _ _ _ _ _ _ _ _ _ _ _ _ _ _ _ _ _ _ _ _ _ _ _ _ _ _ _ _ _ _ _ _ _ _ _ _ _ _ _ _ _ _ _ _ _ _ _ _ _ _ _ _ _ _ _ _ _ _ _ _ _ _ _ _ _ _ _ _ _ _ _ _ _ _ _ _ _ _ _ _ _ _ _ _ _ _ _ _ _ _ _ _ _ _ _ _ _ _ _ _ _ _ _ _ _ _ _ _ _ _ _ _ _ _ _ _ _ _ _ _ _ _ _ _ _ _ _ _ _ _ _ _ _ _ _ _ _ _ _ _ _ _ _ _ _ _ _ _ _ _ _ _ _ _ _ _ _ _ _ _ _ _ _ _ _ _ _ _ _ _ _ _ _ _ _ _ _ _ _ _ _ _ _ _ _ _ _ _ _ _ _ _ _ _ _ _ _ _ _ _ _ _ _ _ _ _ _ _ _ _ _ _ _ _ _ _ _ _ _ _ _ _ _ _ _ _ _ R E C Ge np n g c0 c2 c3 c4 cg a0 a2 a3 a4 ag ls pr sd sq grp B w hn hnp hgl G1.out G2.out G3.out G4.out hB0 hB M hM G5.out G6.out G7.out G8.out G9.out GI2.out GI3.out GI4.out GI5.out H Rb wc m1 m2 m3 m4 m5 m6 hj0)
          | (iterate 2 go_step; exact tail_zero _ (by conv => rhs; whnf) _ _ _ _ _ _ _ _ _ _ _ _ _ _ _ _ _ _ _ _ _ _ _ _ _ _ _ _ _ _ _ _ _ _ _ _ _ _ _ _ _ _ _ _ _ _ _ _ _ _ _ _ _ _ _ _ _ _ _ _ _ _ _ _ _ _ _ _ _ _ _ _ _ _ _ _ _ _ _ _ _ _ _ _ _ _ _ _ _ _ _ _ _ _ _ _ _ _ _ _ _ _ _ _ _ _ _ _ _ _ _ _ _ _ _ _ _ _ _ _ _ _ _ _ _ _ _ _ _ _ _ _ _ _ _ _ _ _ _ _ _ _ _ _ _ _ _ _ _ _ _ _ _ _ _ _ _ _ _ _ _ _ _ _ _ _ _ _ _ _ _ _ _ _ _ _ _ _ _ _ _ _ _ _ _ _ _ _ _ _ _ _ _ _ _ _ _ _ _ _ _ _ _ _ _ _ _ _ _ _ _ _ _ _ _ _ _ _ _ _ _ _ _ _ _ _ _ _ _ _ _ _ _ _ _ _ _ _ _ _ _ _ _ _ _ _ _ _ _ _ _ _ _ _ _ _ _ _ _ _ _ _ _ _ _ _ _ _ _ _ _ _ _ _ _ _ _ _ _ _ _ _ _ _ _ _ _ _ _ _ _ _ _ _ _ _ _ _ _ _ _ _ _ _ _ _ _ _ _ _ _ _ _ _ _ _ _ _ _ _ _ _ _ _ _ _ _ _ _ _ _ _ _ _ _ _ _ _ _ _ R E C Ge np n g c0 c2 c3 c4 cg a0 a2 a3 a4 ag ls pr sd sq grp B w hn hnp hgl G1.out G2.out G3.out G4.out hB0 hB M hM G5.out G6.out G7.out G8.out G9.out GI2.out GI3.out GI4.out GI5.out H Rb wc m1 m2 m3 m4 m5 m6 hj0)
          | (iterate 3 go_step; exact tail_zero _ (by conv => rhs; whnf) _ _ _ _ _ _ _ _ _ _ _ _ _ _ _ _ _ _ _ _ _ _ _ _ _ _ _ _ _ _ _ _ _ _ _ _ _ _ _ _ _ _ _ _ _ _ _ _ _ _ _ _ _ _ _ _ _ _ _ _ _ _ _ _ _ _ _ _ _ _ _ _ _ _ _ _ _ _ _ _ _ _ _ _ _ _ _ _ _ _ _ _ _ _ _ _ _ _ _ _ _ _ _ _ _ _ _ _ _ _ _ _ _ _ _ _ _ _ _ _ _ _ _ _ _ _ _ _ _ _ _ _ _ _ _ _ _ _ _ _ _ _ _ _ _ _ _ _ _ _ _ _ _ _ _ _ _ _ _ _ _ _ _ _ _ _ _ _ _ _ _ _ _ _ _ _ _ _ _ _ _ _ _ _ _ _ _ _ _ _ _ _ _ _ _ _ _ _ _ _ _ _ _ _ _ _ _ _ _ _ _ _ _ _ _ _ _ _ _ _ _ _ _ _ _ _ _ _ _ _ _ _ _ _ _ _ _ _ _ _ _ _ _ _ _ _ _ _ _ _ _ _ _ _ _ _ _ _ _ _ _ _ _ _ _ _ _ _ _ _ _ _ _ _ _ _ _ _ _ _ _ _ _ _ _ _ _ _ _ _ _ _ _ _ _ _ _ _ _ _ _ _ _ _ _ _ _ _ _ _ _ _ _ _ _ _ _ _ _ _ _ _ _ _ _ _ _ _ _ _ _ _ _ _ _ _ _ _ _ _ R E C Ge np n g c0 c2 c3 c4 cg a0 a2 a3 a4 ag ls pr sd sq grp B w hn hnp hgl G1.out G2.out G3.out G4.out hB0 hB M hM G5.out G6.out G7.out G8.out G9.out GI2.out GI3.out GI4.out GI5.out H Rb wc m1 m2 m3 m4 m5 m6 hj0)
          | exact tail_zero _ (by conv => rhs; whnf) _ _ _ _ _ _ _ _ _ _ _ _ _ _ _ _ _ _ _ _ _ _ _ _ _ _ _ _ _ _ _ _ _ _ _ _ _ _ _ _ _ _ _ _ _ _ _ _ _ _ _ _ _ _ _ _ _ _ _ _ _ _ _ _ _ _ _ _ _ _ _ _ _ _ _ _ _ _ _ _ _ _ _ _ _ _ _ _ _ _ _ _ _ _ _ _ _ _ _ _ _ _ _ _ _ _ _ _ _ _ _ _ _ _ _ _ _ _ _ _ _ _ _ _ _ _ _ _ _ _ _ _ _ _ _ _ _ _ _ _ _ _ _ _ _ _ _ _ _ _ _ _ _ _ _ _ _ _ _ _ _ _ _ _ _ _ _ _ _ _ _ _ _ _ _ _ _ _ _ _ _ _ _ _ _ _ _ _ _ _ _ _ _ _ _ _ _ _ _ _ _ _ _ _ _ _ _ _ _ _ _ _ _ _ _ _ _ _ _ _ _ _ _ _ _ _ _ _ _ _ _ _ _ _ _ _ _ _ _ _ _ _ _ _ _ _ _ _ _ _ _ _ _ _ _ _ _ _ _ _ _ _ _ _ _ _ _ _ _ _ _ _ _ _ _ _ _ _ _ _ _ _ _ _ _ _ _ _ _ _ _ _ _ _ _ _ _ _ _ _ _ _ _ _ _ _ _ _ _ _ _ _ _ _ _ _ _ _ _ _ _ _ _ _ _ _ _ _ _ _ _ _ _ _ _ _ _ _ _ _ R E C Ge np n g c0 c2 c3 c4 cg a0 a2 a3 a4 ag ls pr sd sq grp B w hn hnp hgl G1.out G2.out G3.out G4.out hB0 hB M hM G5.out G6.out G7.out G8.out G9.out GI2.out GI3.out GI4.out GI5.out H Rb wc m1 m2 m3 m4 m5 m6 hj0
        · have hLE : (pf (frOf (ctxOf np g grp ls pr sd sq)) 0 g : Int) ≤ B := by
            rcases HLE.out with e | e
            · exact absurd e hj0
            · exact e
          first
          | (go_step; exact tail_pos _ (by conv => rhs; whnf) _ _ _ _ _ _ _ _ _ _ _ _ _ _ _ _ _ _ _ _ _ _ _ _ _ _ _ _ _ _ _ _ _ _ _ _ _ _ _ _ _ _ _ _ _ _ _ _ _ _ _ _ _ _ _ _ _ _ _ _ _ _ _ _ _ _ _ _ _ _ _ _ _ _ _ _ _ _ _ _ _ _ _ _ _ _ _ _ _ _ _ _ _ _ _ _ _ _ _ _ _ _ _ _ _ _ _ _ _ _ _ _ _ _ _ _ _ _ _ _ _ _ _ _ _ _ _ _ _ _ _ _ _ _ _ _ _ _ _ _ _ _ _ _ _ _ _ _ _ _ _ _ _ _ _ _ _ _ _ _ _ _ _ _ _ _ _ _ _ _ _ _ _ _ _ _ _ _ _ _ _ _ _ _ _ _ _ _ _ _ _ _ _ _ _ _ _ _ _ _ _ _ _ _ _ _ _ _ _ _ _ _ _ _ _ _ _ _ _ _ _ _ _ _ _ _ _ _ _ _ _ _ _ _ _ _ _ _ _ _ _ _ _ _ _ _ _ _ _ _ _ _ _ _ _ _ _ _ _ _ _ _ _ _ _ _ _ _ _ _ _ _ _ _ _ _ _ _ _ _ _ _ _ _ _ _ _ _ _ _ _ _ _ _ _ _ _ _ _ _ _ _ _ _ _ _ _ _ _ _ _ _ _ _ _ _ _ _ _ _ _ _ _ _ _ _ _ _ _ _ _ _ _ _ _ _ _ _ _ _ R E C Ge np n g c0 c2 c3 c4 cg a0 a2 a3 a4 ag ls pr sd sq grp B w hn hnp hgl G1.out G2.out G3.out G4.out hB0 hB M hM G5.out G6.out G7.out G8.out G9.out GI2.out GI3.out GI4.out GI5.out H Rb wc m1 m2 m3 m4 m5 m6 (by omega) hLE)
          | (iterate 2 go_step; exact tail_pos _ (by conv => rhs; whnf) _ _ _ _ _ _ _ _ _ _ _ _ _ _ _ _ _ _ _ _ _ _ _ _ _ _ _ _ _ _ _ _ _ _ _ _ _ _ _ _ _ _ _ _ _ _ _ _ _ _ _ _ _ _ _ _ _ _ _ _ _ _ _ _ _ _ _ _ _ _ _ _ _ _ _ _ _ _ _ _ _ _ _ _ _ _ _ _ _ _ _ _ _ _ _ _ _ _ _ _ _ _ _ _ _ _ _ _ _ _ _ _ _ _ _ _ _ _ _ _ _ _ _ _ _ _ _ _ _ _ _ _ _ _ _ _ _ _ _ _ _ _ _ _ _ _ _ _ _ _ _ _ _ _ _ _ _ _ _ _ _ _ _ _ _ _ _ _ _ _ _ _ _ _ _ _ _ _ _ _ _ _ _ _ _ _ _ _ _ _ _ _ _ _ _ _ _ _ _ _ _ _ _ _ _ _ _ _ _ _ _ _ _ _ _ _ _ _ _ _ _ _ _ _ _ _ _ _ _ _ _ _ _ _ _ _ _ _ _ _ _ _ _ _ _ _ _ _ _ _ _ _ _ _ _ _ _ _ _ _ _ _ _ _ _ _ _ _ _ _ _ _ _ _ _ _ _ _ _ _ _ _ _ _ _ _ _ _ _ _ _ _ _ _ _ _ _ _ _ _ _ _ _ _ _ _ _ _ _ _ _ _ _ _ _ _ _ _ _ _ _ _ _ _ _ _ _ _ _ _ _ _ _ _ _ _ _ _ _ _ R E C Ge np n g c0 c2 c3 c4 cg a0 a2 a3 a4 ag ls pr sd sq grp B w hn hnp hgl G1.out G2.out G3.out G4.out hB0 hB M hM G5.out G6.out G7.out G8.out G9.out GI2.out GI3.out GI4.out GI5.out H Rb wc m1 m2 m3 m4 m5 m6 (by omega) hLE)
          | (iterate 3 go_step; exact tail_pos _ (by conv => rhs; whnf) _ _ _ _ _ _ _ _ _ _ _ _ _ _ _ _ _ _ _ _ _ _ _ _ _ _ _ _ _ _ _ _ _ _ _ _ _ _ _ _ _ _ _ _ _ _ _ _ _ _ _ _ _ _ _ _ _ _ _ _ _ _ _ _ _ _ _ _ _ _ _ _ _ _ _ _ _ _ _ _ _ _ _ _ _ _ _ _ _ _ _ _ _ _ _ _ _ _ _ _ _ _ _ _ _ _ _ _ _ _ _ _ _ _ _ _ _ _ _ _ _ _ _ _ _ _ _ _ _ _ _ _ _ _ _ _ _ _ _ _ _ _ _ _ _ _ _ _ _ _ _ _ _ _ _ _ _ _ _ _ _ _ _ _ _ _ _ _ _ _ _ _ _ _ _ _ _ _ _ _ _ _ _ _ _ _ _ _ _ _ _ _ _ _ _ _ _ _ _ _ _ _ _ _ _ _ _ _ _ _ _ _ _ _ _ _ _ _ _ _ _ _ _ _ _ _ _ _ _ _ _ _ _ _ _ _ _ _ _ _ _ _ _ _ _ _ _ _ _ _ _ _ _ _ _ _ _ _ _ _ _ _ _ _ _ _ _ _ _ _ _ _ _ _ _ _ _ _ _ _ _ _ _ _ _ _ _ _ _ _ _ _ _ _ _ _ _ _ _ _ _ _ _ _ _ _ _ _ _ _ _ _ _ _ _ _ _ _ _ _ _ _ _ _ _ _ _ _ _ _ _ _ _ _ _ _ _ _ _ _ R E C Ge np n g c0 c2 c3 c4 cg a0 a2 a3 a4 ag ls pr sd sq grp B w hn hnp hgl G1.out G2.out G3.out G4.out hB0 hB M hM G5.out G6.out G7.out G8.out G9.out GI2.out GI3.out GI4.out GI5.out H Rb wc m1 m2 m3 m4 m5 m6 (by omega) hLE)
          | exact tail_pos _ (by conv => rhs; whnf) _ _ _ _ _ _ _ _ _ _ _ _ _ _ _ _ _ _ _ _ _ _ _ _ _ _ _ _ _ _ _ _ _ _ _ _ _ _ _ _ _ _ _ _ _ _ _ _ _ _ _ _ _ _ _ _ _ _ _ _ _ _ _ _ _ _ _ _ _ _ _ _ _ _ _ _ _ _ _ _ _ _ _ _ _ _ _ _ _ _ _ _ _ _ _ _ _ _ _ _ _ _ _ _ _ _ _ _ _ _ _ _ _ _ _ _ _ _ _ _ _ _ _ _ _ _ _ _ _ _ _ _ _ _ _ _ _ _ _ _ _ _ _ _ _ _ _ _ _ _ _ _ _ _ _ _ _ _ _ _ _ _ _ _ _ _ _ _ _ _ _ _ _ _ _ _ _ _ _ _ _ _ _ _ _ _ _ _ _ _ _ _ _ _ _ _ _ _ _ _ _ _ _ _ _ _ _ _ _ _ _ _ _ _ _ _ _ _ _ _ _ _ _ _ _ _ _ _ _ _ _ _ _ _ _ _ _ _ _ _ _ _ _ _ _ _ _ _ _ _ _ _ _ _ _ _ _ _ _ _ _ _ _ _ _ _ _ _ _ _ _ _ _ _ _ _ _ _ _ _ _ _ _ _ _ _ _ _ _ _ _ _ _ _ _ _ _ _ _ _ _ _ _ _ _ _ _ _ _ _ _ _ _ _ _ _ _ _ _ _ _ _ _ _ _ _ _ _ _ _ _ _ _ _ _ _ _ _ _ _ R E C Ge np n g c0 c2 c3 c4 cg a0 a2 a3 a4 ag ls pr sd sq grp B w hn hnp hgl G1.out G2.out G3.out G4.out hB0 hB M hM G5.out G6.out G7.out G8.out G9.out GI2.out GI3.out GI4.out GI5.out H Rb wc m1 m2 m3 m4 m5 m6 (by omega) hLE

theorem walk_spec : WalkSpec := fun R E C Ge np n g c0 c2 c3 c4 cg a0 a2 a3 a4 ag ls pr sd sq grp B w hn hnp hgl hSh hql hgg hgr hB0 hB M hM hRM hC0 hC1 hev hrun h2 h3 h4 h5 =>
  walk_any R E C Ge np n g c0 c2 c3 c4 cg a0 a2 a3 a4 ag ls pr sd sq grp B w hn hnp hgl hSh hql hgg hgr hB0 hB M hM hRM hC0 hC1 hev hrun h2 h3 h4 h5
end Go.Proofs.Qxb6603214a
