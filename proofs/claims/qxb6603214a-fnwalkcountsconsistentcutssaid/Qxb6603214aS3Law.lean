import Derived.Test.Qxb6603214aRS3
import Derived.Test.Qxb6603214aArgs
namespace Go.Proofs.Qxb6603214a
open Go.RowKit Go.Maps WalkP
set_option linter.unusedVariables false

theorem zl_lt (grp : List Int) (np j p : Nat) (hp : p < np) (h : ∀ i, i < j → InR np (grp.getD i 0)) : (zl grp np j).getD p 0 < j := by
  induction j with
  | zero =>
    unfold zl
    rw [List.getD_eq_getElem?_getD, List.getElem?_replicate, if_pos hp]
    show (-1 : Int) < 0
    omega
  | succ j ih =>
    have hj := h j (by omega)
    have := ih (fun i hi => h i (by omega))
    unfold zl
    rw [WalkP.getD_set _ _ _ _ (by rw [zl_len]; have := hj.1; have := hj.2; omega)]
    split <;> omega

set_option maxHeartbeats 40000000 in
set_option maxRecDepth 20000 in
theorem law5_walk (hncc : NCCSpec) (hwk : WalkSpec) (a0 a1 a2 a3 a4 a5 : Option Addr) (c0 c1 c2 c3 c4 c5 : Nat) (ss : List ByteArray) (sq ls pr sd grp : List Int) (B : Int) (hB0 : -9223372036854775808 ≤ B) (hB1 : B ≤ 9223372036854775807) (w : World)
    (h0 : ArgS w a0 c0 ss) (h1 : ArgI w a1 c1 sq) (h2 : ArgI w a2 c2 ls) (h3 : ArgI w a3 c3 pr) (h4 : ArgI w a4 c4 sd) (h5 : ArgI w a5 c5 grp) :
    Calls Try.prog 5 #[.slice a0 ss.length c0, .slice a1 sq.length c1, .slice a2 ls.length c2, .slice a3 pr.length c3, .slice a4 sd.length c4, .slice a5 grp.length c5, .int .i64 B] w (LawTrue w) := by
  have b0 := h0.len
  have b1 := h1.len
  have b2 := h2.len
  have b3 := h3.len
  have b4 := h4.len
  have b5 := h5.len
  unfold maxLen at b0 b1 b2 b3 b4 b5
  have HNCC : Hid NCCSpec := hncc
  have HWK : Hid WalkSpec := hwk
  clear hncc hwk
  go_enter Try.func5, Try.ntmps5
  go_wp2_with fail
  refine (bytes29 a0 a1 a2 a3 a4 a5 c0 c1 c2 c3 c4 c5 ss sq.length ls.length pr.length sd.length grp.length B w h0.len h1.len h2.len h3.len h4.len h5.len h0.each h0.strs).mono ?_
  rintro e w' ⟨⟨β, rfl⟩, rfl⟩
  cases β with
  | false =>
    go_wp2
    go_ret
    exact LawTrue.mk (Below.refl _ _)
  | true =>
    by_cases g0 : 4096 < ss.length
    · go_wp2
      go_ret
      exact LawTrue.mk (Below.refl _ _)
    by_cases g1 : 4096 < sq.length
    · go_wp2
      go_ret
      exact LawTrue.mk (Below.refl _ _)
    by_cases g2 : 4097 < ls.length
    · go_wp2
      go_ret
      exact LawTrue.mk (Below.refl _ _)
    by_cases g3 : 4096 < pr.length
    · go_wp2
      go_ret
      exact LawTrue.mk (Below.refl _ _)
    by_cases g4 : 4096 < sd.length
    · go_wp2
      go_ret
      exact LawTrue.mk (Below.refl _ _)
    by_cases g5 : 4096 < grp.length
    · go_wp2
      go_ret
      exact LawTrue.mk (Below.refl _ _)
    go_wp2_with fail
    refine (bytesOK_any a0 a1 a2 a3 a4 a5 c0 c1 c2 c3 c4 c5 ss sq.length ls.length pr.length sd.length grp.length w' (by omega) (by omega) (by omega) (by omega) (by omega) (by omega) h0.each h0.strs).mono ?_
    rintro e w ⟨⟨β, rfl⟩, rfl⟩
    cases β with
    | false =>
      go_wp2
      go_ret
      exact LawTrue.mk (Below.refl _ _)
    | true =>
      go_wp2_with fail
      refine (shapeOK_any a2 a3 a4 c2 c3 c4 ls pr sd ss.length sq.length w (by omega) (by omega) (by omega) (by omega) (by omega) h2.ints h3.ints h4.ints).mono ?_
      rintro e w1 ⟨β, rfl, hL, hb1⟩
      cases β with
      | false =>
        clear hL
        go_wp2
        go_ret
        exact LawTrue.mk hb1
      | true =>
        have HL : Hid (Shape ss.length sq.length ls pr sd) := hL rfl
        clear hL
        go_wp2_with fail
        refine (seqsOK_any a2 a1 c2 c1 ls sq ss.length sq.length w1 (by omega) (by omega) HL.out.lanes rfl (h2.ints.below hb1 (Nat.le_refl _)) (h1.ints.below hb1 (Nat.le_refl _))).mono ?_
        rintro e w2 ⟨β, rfl, hS, hb2⟩
        have hb2' := hb1.trans (hb2.mono hb1.size)
        clear hb2 hb1
        cases β with
        | false =>
          clear hS
          go_wp2
          go_ret
          exact LawTrue.mk hb2'
        | true =>
          have HS : Hid (Seqs ss.length ls sq) := hS rfl
          clear hS
          go_wp2_with fail
          refine (sound_any a2 a4 c2 c4 ls sd ss.length sq.length w2 (by omega) (by omega) HL.out.lanes HL.out.senders (h2.ints.below hb2' (Nat.le_refl _)) (h4.ints.below hb2' (Nat.le_refl _))).mono ?_
          rintro e w2b ⟨β, rfl, hT, hb2b⟩
          have hb2b' := hb2'.trans (hb2b.mono hb2'.size)
          clear hb2b hb2'
          cases β with
          | false =>
            clear hT
            go_wp2
            go_ret
            exact LawTrue.mk hb2b'
          | true =>
            have HTm : Hid (Times ss.length sq.length ls sd) := hT rfl
            clear hT
            go_wp2_with fail
            refine (local_any a5 c5 grp ss.length grp.length w2b (by omega) (by omega) rfl (h5.ints.below hb2b' (Nat.le_refl _))).mono ?_
            rintro e w2c ⟨hb2c, lv, β, rfl, hG⟩
            have hb2c' := hb2b'.trans (hb2c.mono hb2b'.size)
            clear hb2c hb2b'
            cases β with
            | false =>
              clear hG
              go_wp2
              go_ret
              exact LawTrue.mk hb2c'
            | true =>
              obtain ⟨hG1, L, rfl, hA⟩ := hG rfl
              have HG : Hid (Grp ss.length grp.length grp) := hG1
              have HA : Hid (IArr w2c L (zl grp ss.length grp.length)) := hA
              clear hG hG1 hA
              go_wp2_with fail
              refine (closed_any a5 a2 a3 a4 (some ⟨L, 0, none⟩) c5 c2 c3 c4 ss.length grp ls pr sd (zl grp ss.length grp.length) ss.length sq.length grp.length w2c (by omega) (by omega) (by omega) rfl HG.out.inr HL.out HL.out.inR (zl_len _ _ _) (h5.ints.below hb2c' (Nat.le_refl _)) (h2.ints.below hb2c' (Nat.le_refl _)) (h3.ints.below hb2c' (Nat.le_refl _)) (h4.ints.below hb2c' (Nat.le_refl _)) HA.out.ints).mono ?_
              rintro e w2d ⟨β, rfl, hC, hb2d⟩
              have hb2d' := hb2c'.trans (hb2d.mono hb2c'.size)
              cases β with
              | false =>
                clear hC
                go_wp2
                go_ret
                exact LawTrue.mk hb2d'
              | true =>
                have HCl : Hid (ClosedG grp.length grp ls pr sd (zl grp ss.length grp.length)) := hC rfl
                have HAd : Hid (Ints w2d (some ⟨L, 0, none⟩) (zl grp ss.length grp.length)) := HA.out.ints.below hb2d (Nat.le_refl _)
                clear hC hb2d HA
                go_wp2_with fail
                refine (cutSpace_any a5 a2 c5 c2 grp ls ss.length sq.length grp.length w2d (by omega) (by omega) (by omega) rfl HG.out.inr HL.out.lanes (h5.ints.below hb2d' (Nat.le_refl _)) (h2.ints.below hb2d' (Nat.le_refl _))).mono ?_
                rintro e wr ⟨hb2e, tot, rfl, htot⟩
                have hb1 := hb2d'.trans (hb2e.mono hb2d'.size)
                have HAe : Hid (Ints wr (some ⟨L, 0, none⟩) (zl grp ss.length grp.length)) := HAd.out.below hb2e (Nat.le_refl _)
                clear hb2e HAd hb2d' hb2c'
                by_cases ht0 : tot < 0
                · clear htot
                  go_wp2
                  go_ret
                  exact LawTrue.mk hb1
                · have HTot : Hid (tot = (pf (mOf grp ls) 0 grp.length : Nat) ∧ tot ≤ 4096) := htot.resolve_left ht0
                  clear htot
                  as_aux_lemma =>
                    go_wp2_with fail
                    refine (cloneStrings_any a0 c0 ss wr (by omega) (h0.strs.below hb1 (Nat.le_refl _)) h0.nil).mono ?_
                    rintro e w3 ⟨q0, d0, rfl, hb3⟩
                    have hz3 := hb3
                    have hb3' := hb1.trans (hb3.mono hb1.size)
                    clear hb3
                    go_wp2_with fail
                    refine (cloneInts_arg a1 c1 _ sq w3 rfl (by omega) (h1.ints.below hb3' (Nat.le_refl _)) h1.nil).mono ?_
                    rintro e w4 ⟨q1, d1, rfl, i1, n1, hb4⟩
                    have hz4 := hz3.trans (hb4.mono hz3.size)
                    clear hz3
                    have hb4' := hb3'.trans (hb4.mono hb3'.size)
                    clear hb4
                    go_wp2_with fail
                    refine (cloneInts_arg a2 c2 _ ls w4 rfl (by omega) (h2.ints.below hb4' (Nat.le_refl _)) h2.nil).mono ?_
                    rintro e w5 ⟨q2, d2, rfl, i2, n2, hb5⟩
                    have hz5 := hz4.trans (hb5.mono hz4.size)
                    clear hz4
                    have hb5' := hb4'.trans (hb5.mono hb4'.size)
                    have i1' := i1.below hb5 (Nat.le_refl _)
                    clear hb5 i1
                    go_wp2_with fail
                    refine (cloneInts_arg a3 c3 _ pr w5 rfl (by omega) (h3.ints.below hb5' (Nat.le_refl _)) h3.nil).mono ?_
                    rintro e w6 ⟨q3, d3, rfl, i3, n3, hb6⟩
                    have hz6 := hz5.trans (hb6.mono hz5.size)
                    clear hz5
                    have hb6' := hb5'.trans (hb6.mono hb5'.size)
                    have i1'' := i1'.below hb6 (Nat.le_refl _)
                    have i2' := i2.below hb6 (Nat.le_refl _)
                    clear hb6 i1' i2
                    go_wp2_with fail
                    refine (cloneInts_arg a4 c4 _ sd w6 rfl (by omega) (h4.ints.below hb6' (Nat.le_refl _)) h4.nil).mono ?_
                    rintro e w7 ⟨q4, d4, rfl, i4, n4, hb7⟩
                    have hz7 := hz6.trans (hb7.mono hz6.size)
                    clear hz6
                    have hb7' := hb6'.trans (hb7.mono hb6'.size)
                    have j1 := i1''.below hb7 (Nat.le_refl _)
                    have j2 := i2'.below hb7 (Nat.le_refl _)
                    have j3 := i3.below hb7 (Nat.le_refl _)
                    clear hb7 i1'' i2' i3
                    go_wp2_with fail
                    refine (cloneInts_arg a5 c5 _ grp w7 rfl (by omega) (h5.ints.below hb7' (Nat.le_refl _)) h5.nil).mono ?_
                    rintro e w7b ⟨q5, d5, rfl, i5, n5, hb7b⟩
                    have hz7b := hz7.trans (hb7b.mono hz7.size)
                    clear hz7
                    have hb7b' := hb7'.trans (hb7b.mono hb7'.size)
                    have j1b := j1.below hb7b (Nat.le_refl _)
                    have j2b := j2.below hb7b (Nat.le_refl _)
                    have j3b := j3.below hb7b (Nat.le_refl _)
                    have j4b := i4.below hb7b (Nat.le_refl _)
                    clear hb7b j1 j2 j3 i4
                    go_wp2_with fail
                    refine (runOf_any q0 q1 q2 q3 q4 _ d0 d1 _ d2 _ d3 _ d4 sq w7b (by omega) j1b).mono ?_
                    rintro e w8 ⟨rfl, hrun, hb8⟩
                    have hz8 := hz7b.trans (hb8.mono hz7b.size)
                    clear hz7b
                    have hb8' := hb7b'.trans (hb8.mono hb7b'.size)
                    have l2 := j2b.below hb8 (Nat.le_refl _)
                    have l3 := j3b.below hb8 (Nat.le_refl _)
                    have l4 := j4b.below hb8 (Nat.le_refl _)
                    have l5 := i5.below hb8 (Nat.le_refl _)
                    clear hb8 j1b j2b j3b j4b i5
                    go_wp2_with fail
                    refine (newCut20 _ w8 (HNCC.out _ _ ss.length sq.length d0 d2 d3 d4 q0 q2 q3 q4 ls pr sd sq w8 (by omega) (by omega) HL.out.lanes HL.out.senders HL.out.plen HL.out.inR rfl hrun l2 l3 l4)).mono ?_
                    rintro e w9 ⟨C, Ge, Mb, T, rfl, f, tv, tg, hM⟩
                    have hb9 := hM.below
                    have hz9 := hz8.trans (hb9.mono hz8.size)
                    have HAZ : Hid (Ints w9 (some ⟨L, 0, none⟩) (zl grp ss.length grp.length)) := HAe.out.below hz9 (Nat.le_refl _)
                    clear hz8 hz9 HAe
                    have hb9' := hb8'.trans (hb9.mono hb8'.size)
                    have HBel : Hid (Below w.heap.size w w9) := hb9'
                    have HRun : Hid (RunAt w9 (w7b.heap.size + 1) (.slice q0 ss.length d0) (.slice q2 ls.length d2) (.slice q3 pr.length d3) (.slice q4 sd.length d4) w7b.heap.size sq) := hrun.below hb9
                    have HI2 : Hid (Ints w9 q2 ls) := l2.below hb9 (Nat.le_refl _)
                    have HI3 : Hid (Ints w9 q3 pr) := l3.below hb9 (Nat.le_refl _)
                    have HI4 : Hid (Ints w9 q4 sd) := l4.below hb9 (Nat.le_refl _)
                    have HI5 : Hid (Ints w9 q5 grp) := l5.below hb9 (Nat.le_refl _)
                    have HC0 : Hid (w9.cell? ⟨C, 0, none⟩ = some (.pointer (some ⟨w7b.heap.size + 1, 0, none⟩))) := hM.c0 (by simp)
                    have HC1 : Hid (w9.cell? ⟨C, 1, none⟩ = some (.slice (some ⟨Ge, 0, none⟩) ss.length ss.length)) := hM.c1 (by simp)
                    have HEv : Hid (IArr w9 Ge (evTo ls ss.length ss.length)) := hM.evs (by simp)
                    have hgl : grp.length ≤ 5000 := by omega
                    have HCk : Hid (0 < grp.length → (ctxOf ss.length grp.length grp ls pr sd sq).Ok) := fun h => ctx_ok h
                    have HFr : Hid (Free (ctxOf ss.length grp.length grp ls pr sd sq) (frOf (ctxOf ss.length grp.length grp ls pr sd sq))) := ctx_free HL.out.lanes HG.out.inr
                    have HCg : Hid ((ctxOf ss.length grp.length grp ls pr sd sq).g = grp.length) := rfl
                    have HSo : Hid (0 < grp.length → Sound (ctxOf ss.length grp.length grp ls pr sd sq)) := fun h => sound_of ⟨HL.out, HS.out, HTm.out, HG.out, HCl.out, h⟩
                    have HPf : Hid (pf (fun j => ((ctxOf ss.length grp.length grp ls pr sd sq).evs j).toNat) 0 grp.length = pf (mOf grp ls) 0 grp.length) := pf_congr _ _ _ _ (fun i _ hi => m_at HG.out i (by omega))
                    have HFC : Hid (0 < grp.length → ∀ qs, QSpec grp ls pr sd (zl grp ss.length grp.length) qs (fun j _ => j < grp.length) → IsCnt (ctxOf ss.length grp.length grp ls pr sd sq) (fineCnt qs (mOf grp ls) grp.length)) := fun h qs hq => fine_count ⟨HL.out, HS.out, HTm.out, HG.out, HCl.out, h⟩ hq
                    have HT4 : Hid (pf (mOf grp ls) 0 grp.length ≤ 4096) := (by unfold Hid; have := HTot.out.1; have := HTot.out.2; omega)
                    have HCall : Hid (∀ (B' : Int) (w' : World), Below w9.heap.size w9 w' → -9223372036854775808 ≤ B' → B' ≤ 9223372036854775807 → Calls Try.prog 34 #[.pointer (some ⟨C, 0, none⟩), .slice q5 grp.length d5, .int .i64 B'] w' (WalkSays (ctxOf ss.length grp.length grp ls pr sd sq) (frOf (ctxOf ss.length grp.length grp ls pr sd sq)) B' w')) := fun B' w' hb hl hu =>
                      walk34 _ _ _ (HWK.out _ _ C Ge ss.length sq.length grp.length d0 d2 d3 d4 d5 q0 q2 q3 q4 q5 ls pr sd sq grp B' w' (by omega) (by omega) hgl HL.out rfl rfl HG.out.inr hl hu 50000000 (by omega) (fun hg k hk => by
                        have h1 := steps_le (HCk.out hg) k
                        have h2 := count_le (HSo.out hg) k
                        rw [HCg.out, HPf.out] at h2
                        have h4 := HT4.out
                        have h5 : 2 * (ctxOf ss.length grp.length grp ls pr sd sq).g * (st (ctxOf ss.length grp.length grp ls pr sd sq) k).count ≤ 2 * 5000 * 4096 := Nat.mul_le_mul (by rw [HCg.out]; omega) (by omega)
                        omega) (cell_later hb HC0.out) (cell_later hb HC1.out) (HEv.out.below hb HEv.out.lt) (HRun.out.below hb) (HI2.out.below hb (Nat.le_refl _)) (HI3.out.below hb (Nat.le_refl _)) (HI4.out.below hb (Nat.le_refl _)) (HI5.out.below hb (Nat.le_refl _)))
                    have HCC : Hid (∀ w', Below w9.heap.size w9 w' → Calls Try.prog 35 #[.slice q5 grp.length d5, .slice (some ⟨L, 0, none⟩) ss.length ss.length, .slice q2 ls.length d2, .slice q3 pr.length d3, .slice q4 sd.length d4, .int .i64 (pf (mOf grp ls) 0 grp.length : Nat)] w' (CountSays grp ls pr sd (zl grp ss.length grp.length) grp.length (mOf grp ls) w')) := fun w' hb =>
                      countCuts_any q5 q2 q3 q4 (some ⟨L, 0, none⟩) d5 d2 d3 d4 ss.length grp ls pr sd (zl grp ss.length grp.length) ss.length sq.length grp.length w' (by omega) (by omega) hgl rfl HG.out.inr HL.out HL.out.inR (zl_len _ _ _) (fun p hp => zl_lt _ _ _ _ hp HG.out.inr) HCl.out HT4.out (HI5.out.below hb (Nat.le_refl _)) (HI2.out.below hb (Nat.le_refl _)) (HI3.out.below hb (Nat.le_refl _)) (HI4.out.below hb (Nat.le_refl _)) (HAZ.out.below hb (Nat.le_refl _))
                    have htp : tot = (pf (mOf grp ls) 0 grp.length : Nat) := HTot.out.1
                    have hls : ls.length = ss.length + 1 := HL.out.lanes.len
                    have hprl : pr.length = sq.length := HL.out.plen
                    have hsdl : sd.length = sq.length := HL.out.senders.len
                    subst htp
                    clear hM hrun l2 l3 l4 l5 hb9 hb9' hb8' hb7b' hb7' hb6' hb5' hb4' hb3' hb1 h0 h1 h2 h3 h4 h5 n1 n2 n3 n4 n5 HWK HNCC HRun HI2 HI3 HI4 HI5 HC0 HC1 HEv HAZ HTot HL HS HTm HG HCl hls hprl hsdl
                    generalize ctxOf ss.length grp.length grp ls pr sd sq = c at *
                    generalize frOf c = fr at *
                    clear g0 g1 g2 g3 g4 g5 b0 b1 b2 b3 b4 b5 ht0
                    go_wp2_with fail
                    refine (HCall.out B w9 (Below.refl _ _) hB0 hB1).mono ?_
                    rintro e w10 ⟨hb10, x, s, ok, rfl, ho⟩
                    have HO : Hid (Outs c fr B x s ok) := ho
                    clear ho
                    by_cases hg0 : grp.length = 0
                    · have HZ : Hid (x = 1 ∧ s = 0 ∧ ok = true) := (by
                        rcases HO.out with ⟨_, r⟩ | ⟨r, _⟩ | ⟨r, _⟩
                        · exact r
                        · rw [HCg.out] at r; omega
                        · rw [HCg.out] at r; omega)
                      obtain ⟨rfl, rfl, rfl⟩ := HZ.out
                      clear HZ HO
                      have hgz : ((grp.length : Int) == 0) = true := by simp [hg0]
                      go_wp2
                      go_ret
                      exact LawTrue.mk (HBel.out.trans (hb10.mono HBel.out.size))
                    · have hgz : ((grp.length : Int) == 0) = false := by simp; exact fun e => hg0 (by simp [e])
                      have HSo2 : Hid (Sound c) := HSo.out (by omega)
                      have HFC2 : Hid (∀ qs, QSpec grp ls pr sd (zl grp ss.length grp.length) qs (fun j _ => j < grp.length) → IsCnt c (fineCnt qs (mOf grp ls) grp.length)) := HFC.out (by omega)
                      clear HSo HFC HCk
                      go_wp2_with fail
                      refine (HCC.out w10 hb10).mono ?_
                      rintro e w11 ⟨hb11, qs, hqs, rfl⟩
                      have hb11' := hb10.trans (hb11.mono hb10.size)
                      have HWant : Hid (IsCnt c (fineCnt qs (mOf grp ls) grp.length)) := HFC2.out qs hqs
                      clear hqs HFC2 HCC
                      go_wp2_with fail
                      refine (HCall.out 1073741824 w11 hb11' (by omega) (by omega)).mono ?_
                      rintro e w12 ⟨hb12, x2, s2, ok2, rfl, ho2⟩
                      have hb12' := hb11'.trans (hb12.mono hb11'.size)
                      obtain ⟨k, hD, rfl, hx2, hx3, rfl⟩ := outs_big HSo2.out HFr.out HWant.out (by rw [HCg.out, HPf.out]; exact HT4.out) (by rw [HCg.out]; exact hgl) (by omega) ho2
                      rw [HCg.out, HPf.out] at hx2
                      clear HWant
                      generalize fineCnt qs (mOf grp ls) grp.length (pf (mOf grp ls) 0 grp.length) = want at *
                      subst hx2
                      obtain ⟨r1, r2, r3, r4⟩ := outs_bounds HSo2.out.ok hD
                      rw [HCg.out] at r4
                      have hwc : want = (st c k).count := by omega
                      have HO2 : Hid (((st c k).steps : Int) ≤ B → ok = true ∧ x = (st c k).count ∧ s = (st c k).steps) := fun h => outs_ge HSo2.out.ok HFr.out hD h HO.out
                      have HO3 : Hid (B < ((st c k).steps : Int) → ok = false ∧ x = 0 ∧ (s = 0 ∨ B < s)) := fun h => outs_lt HSo2.out.ok hD h HO.out
                      rw [← hwc] at HO2 r1 r2 r4
                      have HFin : Hid (LawTrue w (.returned (.bool true)) w12) := LawTrue.mk (HBel.out.trans (hb12'.mono HBel.out.size))
                      have hcn : want ≤ 4096 := by
                        have := count_le HSo2.out k
                        rw [HCg.out, HPf.out] at this
                        have := HT4.out
                        omega
                      clear hD HO ho2 hwc hx3 hb12' hb12 hb11' hb11 hb10 HCall HSo2 HFr HPf HT4
                      generalize (st c k).steps = sp at *
                      generalize want = cn at *
                      have hm1 : (sp : Int) ≤ 2 * (cn : Int) * (grp.length : Int) := by
                        have : ((2 * grp.length * cn : Nat) : Int) = 2 * (cn : Int) * (grp.length : Int) := by
                          rw [Int.natCast_mul, Int.natCast_mul, Int.mul_assoc, Int.mul_comm (grp.length : Int) (cn : Int), ← Int.mul_assoc]; rfl
                        omega
                      have hm2 : 2 * (cn : Int) * (grp.length : Int) ≤ 1000000000 := by
                        have h1 : 2 * cn * grp.length ≤ 2 * 4096 * 5000 := Nat.mul_le_mul (by omega) hgl
                        have : ((2 * cn * grp.length : Nat) : Int) = 2 * (cn : Int) * (grp.length : Int) := by rw [Int.natCast_mul, Int.natCast_mul]; rfl
                        omega
                      have hw2 : IntKind.i64.wrap (2 * (cn : Int) * (grp.length : Int)) = 2 * (cn : Int) * (grp.length : Int) := by rw [IntKind.wrap_i64]; omega
                      generalize hmm : 2 * (cn : Int) * (grp.length : Int) = mm at *
                      clear r4
                      have hcc : ((cn : Int) != (cn : Int)) = false := by simp
                      by_cases hBs : (sp : Int) ≤ B
                      · obtain ⟨rfl, rfl, rfl⟩ := HO2.out hBs
                        clear HO2 HO3
                        have hce : ((cn : Int) == (cn : Int)) = true := by simp
                        have hse : ((sp : Int) == (sp : Int)) = true := by simp
                        go_wp2
                        go_ret
                        exact HFin.out
                      · obtain ⟨rfl, rfl, hs⟩ := HO3.out (by omega)
                        clear HO2 HO3
                        by_cases hs0 : s = 0
                        · subst hs0
                          go_wp2
                          go_ret
                          exact HFin.out
                        · have hsb : B < s := by omega
                          have hsz : (s == 0) = false := by simpa using hs0
                          clear hs
                          go_wp2
                          go_ret
                          exact HFin.out
end Go.Proofs.Qxb6603214a
