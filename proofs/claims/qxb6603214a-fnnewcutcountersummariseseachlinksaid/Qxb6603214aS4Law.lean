import Derived.Test.Qxb6603214aS4Q
import Derived.Test.Qxb6603214aNCI
import Derived.Test.Qxb6603214aArgs
namespace Go.Proofs.Qxb6603214a
open Go.RowKit Go.Maps
set_option linter.unusedVariables false

theorem getD_nat {l : List Int} {j : Nat} (h : 0 ≤ l.getD j 0) : ∃ m : Nat, l.getD j 0 = m := ⟨(l.getD j 0).toNat, by omega⟩

set_option maxHeartbeats 40000000 in
set_option maxRecDepth 20000 in
theorem law4_walk (hncc : NCCSpec) (a0 a1 a2 a3 a4 : Option Addr) (c0 c1 c2 c3 c4 : Nat) (ss : List ByteArray) (sq ls pr sd : List Int) (w : World)
    (h0 : ArgS w a0 c0 ss) (h1 : ArgI w a1 c1 sq) (h2 : ArgI w a2 c2 ls) (h3 : ArgI w a3 c3 pr) (h4 : ArgI w a4 c4 sd) :
    Calls Try.prog 4 #[.slice a0 ss.length c0, .slice a1 sq.length c1, .slice a2 ls.length c2, .slice a3 pr.length c3, .slice a4 sd.length c4] w (LawTrue w) := by
  have b0 := h0.len
  have b1 := h1.len
  have b2 := h2.len
  have b3 := h3.len
  have b4 := h4.len
  unfold maxLen at b0 b1 b2 b3 b4
  have HNCC : Hid NCCSpec := hncc
  clear hncc
  go_enter Try.func4, Try.ntmps4
  go_wp2_with fail
  refine (bytes17 a0 a1 a2 a3 a4 c0 c1 c2 c3 c4 ss sq.length ls.length pr.length sd.length w h0.len h1.len h2.len h3.len h4.len h0.each h0.strs).mono ?_
  rintro e w' ⟨⟨β, rfl⟩, rfl⟩
  cases β with
  | false =>
    go_wp2
    go_ret
    exact LawTrue.mk (Below.refl _ _)
  | true =>
    by_cases g0 : 4096 < ss.length
    · go_wp2
      go_ret
      exact LawTrue.mk (Below.refl _ _)
    by_cases g1 : 4096 < sq.length
    · go_wp2
      go_ret
      exact LawTrue.mk (Below.refl _ _)
    by_cases g2 : 4097 < ls.length
    · go_wp2
      go_ret
      exact LawTrue.mk (Below.refl _ _)
    by_cases g3 : 4096 < pr.length
    · go_wp2
      go_ret
      exact LawTrue.mk (Below.refl _ _)
    by_cases g4 : 4096 < sd.length
    · go_wp2
      go_ret
      exact LawTrue.mk (Below.refl _ _)
    go_wp2_with fail
    refine (bytesOK_any a0 a1 a2 a3 a4 none c0 c1 c2 c3 c4 0 ss sq.length ls.length pr.length sd.length 0 w' (by omega) (by omega) (by omega) (by omega) (by omega) (by omega) h0.each h0.strs).mono ?_
    rintro e w ⟨⟨β, rfl⟩, rfl⟩
    cases β with
    | false =>
      go_wp2
      go_ret
      exact LawTrue.mk (Below.refl _ _)
    | true =>
      go_wp2_with fail
      refine (shapeOK_any a2 a3 a4 c2 c3 c4 ls pr sd ss.length sq.length w (by omega) (by omega) (by omega) (by omega) (by omega) h2.ints h3.ints h4.ints).mono ?_
      rintro e w1 ⟨β, rfl, hL, hb1⟩
      cases β with
      | false =>
        clear hL
        go_wp2
        go_ret
        exact LawTrue.mk hb1
      | true =>
        have HL : Hid (Shape ss.length sq.length ls pr sd) := hL rfl
        clear hL
        go_wp2_with fail
        refine (seqsOK_any a2 a1 c2 c1 ls sq ss.length sq.length w1 (by omega) (by omega) HL.out.lanes rfl (h2.ints.below hb1 (Nat.le_refl _)) (h1.ints.below hb1 (Nat.le_refl _))).mono ?_
        rintro e w2 ⟨β, rfl, hS, hb2⟩
        have hb2' := hb1.trans (hb2.mono hb1.size)
        clear hb2
        cases β with
        | false =>
          clear hS
          go_wp2
          go_ret
          exact LawTrue.mk hb2'
        | true =>
          have HS : Hid (Seqs ss.length ls sq) := hS rfl
          clear hS
          go_wp2_with fail
          refine (cloneStrings_any a0 c0 ss w2 (by omega) (h0.strs.below hb2' (Nat.le_refl _)) h0.nil).mono ?_
          rintro e w3 ⟨q0, d0, rfl, hb3⟩
          have hb3' := hb2'.trans (hb3.mono hb2'.size)
          clear hb3
          go_wp2_with fail
          refine (cloneInts_arg a1 c1 _ sq w3 rfl (by omega) (h1.ints.below hb3' (Nat.le_refl _)) h1.nil).mono ?_
          rintro e w4 ⟨q1, d1, rfl, i1, n1, hb4⟩
          have hb4' := hb3'.trans (hb4.mono hb3'.size)
          clear hb4
          go_wp2_with fail
          refine (cloneInts_arg a2 c2 _ ls w4 rfl (by omega) (h2.ints.below hb4' (Nat.le_refl _)) h2.nil).mono ?_
          rintro e w5 ⟨q2, d2, rfl, i2, n2, hb5⟩
          have hb5' := hb4'.trans (hb5.mono hb4'.size)
          have i1' := i1.below hb5 (Nat.le_refl _)
          clear hb5 i1
          go_wp2_with fail
          refine (cloneInts_arg a3 c3 _ pr w5 rfl (by omega) (h3.ints.below hb5' (Nat.le_refl _)) h3.nil).mono ?_
          rintro e w6 ⟨q3, d3, rfl, i3, n3, hb6⟩
          have hb6' := hb5'.trans (hb6.mono hb5'.size)
          have i1'' := i1'.below hb6 (Nat.le_refl _)
          have i2' := i2.below hb6 (Nat.le_refl _)
          clear hb6 i1' i2
          go_wp2_with fail
          refine (cloneInts_arg a4 c4 _ sd w6 rfl (by omega) (h4.ints.below hb6' (Nat.le_refl _)) h4.nil).mono ?_
          rintro e w7 ⟨q4, d4, rfl, i4, n4, hb7⟩
          have hb7' := hb6'.trans (hb7.mono hb6'.size)
          have j1 := i1''.below hb7 (Nat.le_refl _)
          have j2 := i2'.below hb7 (Nat.le_refl _)
          have j3 := i3.below hb7 (Nat.le_refl _)
          clear hb7 i1'' i2' i3
          go_wp2_with fail
          refine (runOf_any q0 q1 q2 q3 q4 _ d0 d1 _ d2 _ d3 _ d4 sq w7 (by omega) j1).mono ?_
          rintro e w8 ⟨rfl, hrun, hb8⟩
          have hb8' := hb7'.trans (hb8.mono hb7'.size)
          have l1 := j1.below hb8 (Nat.le_refl _)
          have l2 := j2.below hb8 (Nat.le_refl _)
          have l3 := j3.below hb8 (Nat.le_refl _)
          have l4 := i4.below hb8 (Nat.le_refl _)
          clear hb8 j1 j2 j3 i4
          go_wp2_with fail
          refine (newCut20 _ w8 (HNCC.out _ _ ss.length sq.length d0 d2 d3 d4 q0 q2 q3 q4 ls pr sd sq w8 (by omega) (by omega) HL.out.lanes HL.out.senders HL.out.plen HL.out.inR rfl hrun l2 l3 l4)).mono ?_
          rintro e w9 ⟨C, Ge, Mb, T, rfl, f, tv, tg, hM⟩
          have hb9 := hM.below
          have hb9' := hb8'.trans (hb9.mono hb8'.size)
          have HBel : Hid (Below w.heap.size w w9) := hb9'
          have HI1 : Hid (Ints w9 q1 sq) := l1.below hb9 (Nat.le_refl _)
          have HI2 : Hid (Ints w9 q2 ls) := l2.below hb9 (Nat.le_refl _)
          have HI3 : Hid (Ints w9 q3 pr) := l3.below hb9 (Nat.le_refl _)
          have HI4 : Hid (Ints w9 q4 sd) := l4.below hb9 (Nat.le_refl _)
          clear hrun l1 l2 l3 l4 hb9 hb9' hb8' hb7' hb6' hb5' hb4' hb3' hb2' hb1 h0 h1 h2 h3 h4 n1 n2 n3 n4
          have HSum : Hid (Sums ss.length sq.length pr sd sq (lsAt pr sd sq sq.length)) := sums_of (by omega) HL.out HS.out
          have hsn : ss.length ≤ 5000 := by omega
          have hqn : sq.length ≤ 5000 := by omega
          clear g0 g1 g2 g3 g4 b0 b1 b2 b3 b4
          generalize hs : lsAt pr sd sq sq.length = s at *
          clear hs
          have HPl : Hid (pr.length = sq.length) := HL.out.plen
          have HSl : Hid (sd.length = sq.length) := HL.out.senders.len
          have HLl : Hid (ls.length = ss.length + 1) := HL.out.lanes.len
          have HM : Hid (CMem [] w8 w9 C Ge Mb T ss.length s.sz (.pointer (some ⟨w7.heap.size + 1, 0, none⟩)) (evTo ls ss.length ss.length) f tv (tkTo s.tk ss.length) s.pres s.rc s.sn tg) := hM
          clear hM
          generalize hnp : ss.length = np at *
          generalize hn : sq.length = n at *
          have HN : Hid (sq.length = n) := hn
          clear hnp hn
          have hevc := events21 HM.out
          go_wp2_with fail
          refine hevc.mono ?_
          rintro e wx ⟨rfl, rfl⟩
          clear hevc
          have hixE : ∀ (k : Nat) (w' : World), k < np → (Instr.indexAt 23 (.slice (some ⟨Ge, 0, none⟩) np np) (.int .i64 k)).run Try.prog w' = .ok (.pointer (some ⟨Ge, k, none⟩)) w' :=
            fun k w' hk => by simpa using indexAt_one Try.underlying23 Try.info3 Ge 0 _ np k hk w'
          have HXE : Hid (∀ (k : Nat) (w' : World), k < np → (Instr.indexAt 23 (.slice (some ⟨Ge, 0, none⟩) np np) (.int .i64 k)).run Try.prog w' = .ok (.pointer (some ⟨Ge, k, none⟩)) w') := hixE
          have hixT : ∀ (p : Nat) (w' : World), p < np → (Instr.indexAt 39 (.slice (some ⟨T, 0, none⟩) np np) (.int .i64 p)).run Try.prog w' = .ok (.pointer (some ⟨T, p, none⟩)) w' :=
            fun p w' hk => by simpa using indexAt_one Try.underlying39 Try.info23 T 0 _ np p hk w'
          have HXT : Hid (∀ (p : Nat) (w' : World), p < np → (Instr.indexAt 39 (.slice (some ⟨T, 0, none⟩) np np) (.int .i64 p)).run Try.prog w' = .ok (.pointer (some ⟨T, p, none⟩)) w') := hixT
          clear hixE hixT
          obtain ⟨b2, off2, hix2, hcell2⟩ := ints_open HI2.out
          obtain ⟨b3, off3, hix3, hcell3⟩ := ints_open HI3.out
          obtain ⟨b4, off4, hix4, hcell4⟩ := ints_open HI4.out
          rw [HPl.out] at hix3 hcell3
          rw [HSl.out] at hix4 hcell4
          rw [HLl.out] at hix2 hcell2
          have HC2 : Hid (∀ j, j < np + 1 → wx.cell? ⟨b2, off2 + j, none⟩ = some (.int .i64 (ls.getD j 0))) := hcell2
          have HC3 : Hid (∀ j, j < n → wx.cell? ⟨b3, off3 + j, none⟩ = some (.int .i64 (pr.getD j 0))) := hcell3
          have HC4 : Hid (∀ j, j < n → wx.cell? ⟨b4, off4 + j, none⟩ = some (.int .i64 (sd.getD j 0))) := hcell4
          have HX2 : Hid (∀ (k : Nat) (w' : World), k < np + 1 → (Instr.indexAt 23 (.slice q2 ls.length d2) (.int .i64 k)).run Try.prog w' = .ok (.pointer (some ⟨b2, off2 + k, none⟩)) w') := fun k w' h => by rw [HLl.out]; exact hix2 d2 k w' h
          have HX3 : Hid (∀ (k : Nat) (w' : World), k < n → (Instr.indexAt 23 (.slice q3 pr.length d3) (.int .i64 k)).run Try.prog w' = .ok (.pointer (some ⟨b3, off3 + k, none⟩)) w') := fun k w' h => by rw [HPl.out]; exact hix3 d3 k w' h
          have HX4 : Hid (∀ (k : Nat) (w' : World), k < n → (Instr.indexAt 23 (.slice q4 sd.length d4) (.int .i64 k)).run Try.prog w' = .ok (.pointer (some ⟨b4, off4 + k, none⟩)) w') := fun k w' h => by rw [HSl.out]; exact hix4 d4 k w' h
          clear hix2 hcell2 hix3 hcell3 hix4 hcell4
          have hnpb : ((np : Int) != (np : Int)) = false := by simp
          go_wp2
          go_loopw [15] (fun v wr => ∃ k : Nat, k ≤ np ∧ v = .int .i64 k ∧ Kept wx wr) (fun v _ => np - (intOf v).toNat)
          case atStart => exact ⟨0, Nat.zero_le _, rfl, Kept.refl wx⟩
          case round =>
            obtain ⟨k, hk, rfl, hkp⟩ := hrel
            by_cases hlt : k < np
            · as_aux_lemma =>
                have r1 := HL.out.lanes.lo k (by omega)
                have r2 := HL.out.lanes.up k hlt
                have r3 := HL.out.lanes.hi (k + 1) (by omega)
                have g1 : wr.cell? ⟨b2, off2 + k, none⟩ = some (.int .i64 (ls.getD k 0)) := cell_later hkp.2 (HC2.out k (by omega))
                have g2 : wr.cell? ⟨b2, off2 + (k + 1), none⟩ = some (.int .i64 (ls.getD (k + 1) 0)) := cell_later hkp.2 (HC2.out (k + 1) (by omega))
                have hx1 := fun w' => HX2.out k w' (by omega)
                have hx2 : ∀ w', (Instr.indexAt 23 (.slice q2 ls.length d2) (.int .i64 (k + 1))).run Try.prog w' = .ok (.pointer (some ⟨b2, off2 + (k + 1), none⟩)) w' := fun w' => by simpa using HX2.out (k + 1) w' (by omega)
                have hxE := fun w' => HXE.out k w' hlt
                have gE : wr.cell? ⟨Ge, k, none⟩ = some (.int .i64 (ls.getD (k + 1) 0 - ls.getD k 0)) := by
                  have := ((HM.out.kept hkp).evs (by simp)).cell k (by rw [evTo_len]; exact hlt)
                  rwa [evTo_at ls np k hlt] at this
                generalize ls.getD k 0 = x at *
                generalize ls.getD (k + 1) 0 = y at *
                have hwk : IntKind.i64.wrap (y - x) = y - x := by rw [IntKind.wrap_i64]; omega
                have hyy : ((y - x) != (y - x)) = false := by simp
                go_wp2
                go_quiet (fail)
                go_wp2
                go_roundw
                case rel => exact ⟨k + 1, hlt, by go_num, hkp.drewN _⟩
                case measure => simp [intOf]; omega
            · have htk := talks22 (HM.out.kept hkp)
              go_wp2_with fail
              refine htk.mono ?_
              rintro e wy ⟨rfl, rfl⟩
              clear htk
              go_wp2
              go_loopw [17] (fun v wr => ∃ p : Nat, p ≤ np ∧ v = .int .i64 p ∧ Kept wx wr) (fun v _ => np - (intOf v).toNat)
              case atStart => exact ⟨0, Nat.zero_le _, rfl, hkp⟩
              case round =>
                clear hkp hk hlt
                obtain ⟨p, hp, rfl, hkp⟩ := hrel
                by_cases hlt : p < np
                · have hct := (HM.out.kept hkp).tcell (by simp) p hlt
                  obtain ⟨at_, ct, htv, hti⟩ := ((HM.out.kept hkp).rows p (by simp)).open
                  have etk : tkTo s.tk np p = uniq (s.tk p) := by unfold tkTo; rw [if_pos ⟨by omega, by omega⟩]
                  rw [etk] at htv hti
                  rw [htv] at hct
                  have hxT := fun w' => HXT.out p w' hlt
                  have hup := HSum.out.tup p
                  have hmm := HSum.out.mem p
                  have hinr := HSum.out.inr p
                  have htl := HSum.out.tlen p
                  generalize hl : uniq (s.tk p) = l at *
                  obtain ⟨bt, offt, hixt, hcellt⟩ := ints_open hti
                  have HCT : Hid (∀ j, j < l.length → wr.cell? ⟨bt, offt + j, none⟩ = some (.int .i64 (l.getD j 0))) := hcellt
                  have HXt : Hid (∀ (k : Nat) (w' : World), k < l.length → (Instr.indexAt 23 (.slice at_ l.length ct) (.int .i64 k)).run Try.prog w' = .ok (.pointer (some ⟨bt, offt + k, none⟩)) w') := fun k w' h => hixt ct k w' h
                  have HUP : Hid (l.Pairwise (· < ·)) := hup
                  have HMM : Hid (∀ x, x ∈ l ↔ ∃ i, i < n ∧ (Pair pr sd i p x ∨ Pair pr sd i x p)) := hmm
                  have HIN : Hid (∀ x, x ∈ l → InR np x ∧ (p : Int) ≠ x) := hinr
                  clear hti hixt hcellt hup hmm hinr hl etk htv
                  have hkp0 := hkp
                  go_wp2
                  go_loopw [19] (fun v wq => ∃ k : Nat, k ≤ l.length ∧ v = .int .i64 k ∧ Kept wr wq) (fun v _ => l.length - (intOf v).toNat)
                  case atStart => exact ⟨0, Nat.zero_le _, rfl, Kept.refl wr⟩
                  case round w0 =>
                    clear hct hxT
                    obtain ⟨k, hk, rfl, hkq⟩ := hrel
                    by_cases hlk : k < l.length
                    · as_aux_lemma =>
                        have g1 := cell_later hkq.2 (HCT.out k hlk)
                        have hx1 := fun w' => HXt.out k w' hlk
                        have hmem := getD_mem l k hlk
                        obtain ⟨⟨r1, r2⟩, r3⟩ := HIN.out _ hmem
                        have hkk := hkp0.trans hkq
                        have hpair := (HMM.out _).1 hmem
                        have hcall := talk_yes q3 q4 d3 d4 pr sd n p (l.getD k 0) wr (by omega) HPl.out HL.out.senders (hkk.ints HI3.out) (hkk.ints HI4.out) r3 hpair
                        by_cases hk0 : k = 0
                        · subst hk0
                          have hx0 : ∀ w', (Instr.indexAt 23 (.slice at_ l.length ct) (.int .i64 0)).run Try.prog w' = .ok (.pointer (some ⟨bt, offt, none⟩)) w' := fun w' => by simpa using HXt.out 0 w' hlk
                          have g0 : wr.cell? ⟨bt, offt, none⟩ = some (.int .i64 (l.getD 0 0)) := by rwa [Nat.add_zero] at g1
                          clear hx1 g1
                          generalize l.getD 0 0 = x at *
                          have hxp : (x == (p : Int)) = false := by simpa using fun e => r3 e.symm
                          clear hpair hmem
                          go_wp2_with fail
                          refine hcall.mono ?_
                          rintro e wz ⟨rfl, rfl⟩
                          go_wp2
                          go_roundw
                          case rel => exact ⟨0 + 1, hlk, by go_num, hkq⟩
                          case measure => simp [intOf]; omega
                        · have hr := rise_at HUP.out k (by omega) hlk
                          have g2 := cell_later hkq.2 (HCT.out (k - 1) (by omega))
                          have hx2 : ∀ w', (Instr.indexAt 23 (.slice at_ l.length ct) (.int .i64 ((k : Int) - 1))).run Try.prog w' = .ok (.pointer (some ⟨bt, offt + (k - 1), none⟩)) w' := fun w' => by
                            have := HXt.out (k - 1) w' (by omega)
                            rwa [show ((k - 1 : Nat) : Int) = (k : Int) - 1 from by omega] at this
                          generalize l.getD k 0 = x at *
                          generalize l.getD (k - 1) 0 = x0 at *
                          generalize offt + (k - 1) = oz at *
                          have hxp : (x == (p : Int)) = false := by simpa using fun e => r3 e.symm
                          clear hpair hmem
                          go_wp2_with fail
                          refine hcall.mono ?_
                          rintro e wz ⟨rfl, rfl⟩
                          go_wp2
                          go_roundw
                          case rel => exact ⟨k + 1, hlk, by go_num, hkq⟩
                          case measure => simp [intOf]; omega
                    · go_wp2
                      go_roundw
                      case rel => exact ⟨p + 1, hlt, by go_num, hkp0.trans hkq⟩
                      case measure => simp [intOf]; omega
                · go_wp2
                  clear hp hlt
                  go_loopw [21, 22] (fun u v wr => ∃ i : Nat, i ≤ n ∧ v = .int .i64 i ∧ u = .int .i64 (firsts pr sd i : Nat) ∧ Kept wx wr) (fun _ v _ => n - (intOf v).toNat)
                  case atStart => exact ⟨0, Nat.zero_le _, rfl, rfl, hkp⟩
                  case round =>
                    clear hkp
                    obtain ⟨i, hi, rfl, rfl, hkp⟩ := hrel
                    have hfl := firsts_le pr sd i
                    have HFn : Hid (crossB pr sd i = false → firsts pr sd (i + 1) = firsts pr sd i) := firsts_no
                    have HFa : Hid (earlier pr sd i = true → firsts pr sd (i + 1) = firsts pr sd i) := firsts_again
                    have HFw : Hid (crossB pr sd i = true → earlier pr sd i = false → firsts pr sd (i + 1) = firsts pr sd i + 1) := firsts_new
                    by_cases hlt : i < n
                    · have g4 : wr.cell? ⟨b4, off4 + i, none⟩ = some (.int .i64 (sd.getD i 0)) := cell_later hkp.2 (HC4.out i hlt)
                      have hx4 := fun w' => HX4.out i w' hlt
                      have g3 : wr.cell? ⟨b3, off3 + i, none⟩ = some (.int .i64 (pr.getD i 0)) := cell_later hkp.2 (HC3.out i hlt)
                      have hx3 := fun w' => HX3.out i w' hlt
                      have hpi := HL.out.inR i hlt
                      obtain ⟨P, hP⟩ := getD_nat hpi.1
                      rw [hP] at g3 hpi
                      have hPn : P < np := by have := hpi.2; omega
                      generalize hfi : firsts pr sd i = F at *
                      by_cases hs0 : sd.getD i 0 < 0
                      · as_aux_lemma =>
                          have HV := HFn.out (crossB_neg pr sd i hs0)
                          have HVV : Hid (firsts pr sd (i + 1) = F) := HV
                          clear HV hfi hP
                          generalize sd.getD i 0 = sv at *
                          have hd : decide (sv < 0) = true := by simpa using hs0
                          go_wp2
                          go_quiet (fail)
                          go_wp2
                          go_roundw
                          case rel => exact ⟨i + 1, hlt, by go_num, by rw [HVV.out], hkp.drewN _⟩
                          case measure => simp [intOf]; omega
                      · obtain ⟨S, hSv⟩ : ∃ S : Nat, sd.getD i 0 = S := ⟨(sd.getD i 0).toNat, by omega⟩
                        have hSn : S < n := by have := HL.out.senders.lt i hlt; omega
                        have g5 : wr.cell? ⟨b3, off3 + S, none⟩ = some (.int .i64 (pr.getD S 0)) := cell_later hkp.2 (HC3.out S hSn)
                        have hx5 := fun w' => HX3.out S w' hSn
                        have hpS := HL.out.inR S hSn
                        obtain ⟨Q, hQ⟩ := getD_nat hpS.1
                        rw [hQ] at g5 hpS
                        have hQn : Q < np := by have := hpS.2; omega
                        rw [hSv] at g4
                        clear hs0
                        by_cases hPQ : Q = P
                        · as_aux_lemma =>
                            have hcr : crossB pr sd i = false := by rw [crossB_at pr sd i S hSv _ _ hP hQ, hPQ]; simp
                            have HVV : Hid (firsts pr sd (i + 1) = F) := HFn.out hcr
                            clear hcr hQ hSv hP hfi
                            subst hPQ
                            go_wp2
                            go_quiet (fail)
                            go_wp2
                            go_roundw
                            case rel => exact ⟨i + 1, hlt, by go_num, by rw [HVV.out], hkp.drewN _⟩
                            case measure => simp [intOf]; omega
                        · have hcr : crossB pr sd i = true := by rw [crossB_at pr sd i S hSv _ _ hP hQ]; simp; omega
                          have esP : sendP pr sd i = Q := by unfold sendP; rw [hSv]; simpa using hQ
                          have hPair : Pair pr sd i P Q := ⟨hcr, hP, esP⟩
                          have HCR : Hid (crossB pr sd i = true) := hcr
                          have HPair : Hid (Pair pr sd i P Q) := hPair
                          have hPQb : ((Q : Int) == (P : Int)) = false := by simp; omega
                          clear hcr esP hPair hP hQ hSv
                          have hMk := HM.out.kept hkp
                          have hctP := hMk.tcell (by simp) P hPn
                          have hctQ := hMk.tcell (by simp) Q hQn
                          obtain ⟨aP, cP, htvP, hoP⟩ := (hMk.rows P (by simp)).open
                          obtain ⟨aQ, cQ, htvQ, hoQ⟩ := (hMk.rows Q (by simp)).open
                          have etP : tkTo s.tk np P = uniq (s.tk P) := by unfold tkTo; rw [if_pos ⟨by omega, by omega⟩]
                          have etQ : tkTo s.tk np Q = uniq (s.tk Q) := by unfold tkTo; rw [if_pos ⟨by omega, by omega⟩]
                          rw [etP] at htvP hoP
                          rw [etQ] at htvQ hoQ
                          rw [htvP] at hctP
                          rw [htvQ] at hctQ
                          have hxTP := fun w' => HXT.out P w' hPn
                          have hxTQ := fun w' => HXT.out Q w' hQn
                          have HhP : Hid (∀ w', Kept wr w' → Calls Try.prog 24 #[.slice aP (uniq (s.tk P)).length cP, .int .i64 Q] w' (SaysY true w')) := fun w' hk => has_yes aP cP _ Q w' (by have := HSum.out.tlen P; omega) (hk.ints hoP) ((HSum.out.mem P Q).2 ⟨i, hlt, .inl HPair.out⟩)
                          have HhQ : Hid (∀ w', Kept wr w' → Calls Try.prog 24 #[.slice aQ (uniq (s.tk Q)).length cQ, .int .i64 P] w' (SaysY true w')) := fun w' hk => has_yes aQ cQ _ P w' (by have := HSum.out.tlen Q; omega) (hk.ints hoQ) ((HSum.out.mem Q P).2 ⟨i, hlt, .inr HPair.out⟩)
                          have HhE : Hid (∀ w', Kept wr w' → Calls Try.prog 25 #[.slice q3 pr.length d3, .slice q4 sd.length d4, .int .i64 i] w' (SaysY (earlier pr sd i) w')) := fun w' hk => earlier_any q3 q4 d3 d4 pr sd n i w' (by omega) HPl.out HL.out.senders ((hkp.trans hk).ints HI3.out) ((hkp.trans hk).ints HI4.out) hlt HCR.out
                          have HhL : Hid (∀ w', Kept wr w' → Calls Try.prog 26 #[.pointer (some ⟨C, 0, none⟩), .int .i64 P, .int .i64 Q] w' (LinkGot (s.rc P Q) (s.sn P Q) w')) := fun w' hk => link26 (HM.out.kept (hkp.trans hk)) P Q hPn hQn (by omega) (HSum.out.pres i hlt P Q HPair.out)
                          have HKp : Hid (Kept wx wr) := hkp
                          clear hMk htvP htvQ hoP hoQ etP etQ hkp
                          generalize (uniq (s.tk P)).length = LP at *
                          generalize (uniq (s.tk Q)).length = LQ at *
                          as_aux_lemma =>
                            go_wp2
                            go_quiet (fail)
                            go_wp2_with fail
                            refine (HhP.out _ ((Kept.refl wr).drewN nq)).mono ?_
                            rintro e wz ⟨rfl, rfl⟩
                            go_wp2_with fail
                            refine (HhQ.out _ ((Kept.refl wr).drewN nq)).mono ?_
                            rintro e wz ⟨rfl, rfl⟩
                            go_wp2_with fail
                            refine (HhE.out _ ((Kept.refl wr).drewN nq)).mono ?_
                            rintro e wz ⟨rfl, rfl⟩
                            cases he : earlier pr sd i with
                            | true =>
                              have HVV : Hid (firsts pr sd (i + 1) = F) := HFa.out he
                              go_wp2
                              go_roundw
                              case rel => exact ⟨i + 1, hlt, by go_num, by rw [HVV.out], HKp.out.drewN _⟩
                              case measure => simp [intOf]; omega
                            | false =>
                              have HVV : Hid (firsts pr sd (i + 1) = F + 1) := HFw.out HCR.out he
                              go_wp2_with fail
                              refine (HhL.out _ ((Kept.refl wr).drewN nq)).mono ?_
                              rintro e wz ⟨ar, cr, asn, csn, rfl, hkz, ir, isn⟩
                              have hkz' := (HKp.out.drewN nq).trans hkz
                              have hpr := HSum.out.pres i hlt P Q HPair.out
                              have hcall := linkOK_yes q3 q4 q1 ar asn d3 d4 d1 cr csn pr sd sq (s.rc P Q) (s.sn P Q) n P Q wz (by omega) HPl.out HL.out.senders HN.out (HSum.out.rlen P Q) (hkz'.ints HI3.out) (hkz'.ints HI4.out) (hkz'.ints HI1.out) (hkz.ints ir) (hkz.ints isn) (HSum.out.ne P Q hpr) (HSum.out.len P Q) (HSum.out.first P Q hpr) (HSum.out.rcs P Q) (HSum.out.sns P Q) (HSum.out.need P Q HPair.out.ne)
                              rw [HN.out] at hcall
                              clear ir isn hpr hkz
                              go_wp2_with fail
                              refine hcall.mono ?_
                              rintro e wz2 ⟨rfl, hk2⟩
                              go_wp2
                              go_roundw
                              case rel => exact ⟨i + 1, hlt, by go_num, by rw [HVV.out]; go_num, hkz'.trans hk2⟩
                              case measure => simp [intOf]; omega
                    · as_aux_lemma =>
                        have ein : i = n := by omega
                        subst ein
                        have hcc := count28 (HM.out.kept hkp)
                        rw [HSum.out.sz] at hcc
                        generalize firsts pr sd i = F at *
                        go_wp2_with fail
                        refine hcc.mono ?_
                        rintro e wz ⟨rfl, rfl⟩
                        go_wp2
                        go_ret
                        have hfin := HBel.out.trans (hkp.2.mono HBel.out.size)
                        simpa using LawTrue.mk hfin
end Go.Proofs.Qxb6603214a
